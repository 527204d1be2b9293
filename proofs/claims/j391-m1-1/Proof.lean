import JvmDerived
import JvmDerived.Pilot.@@N@@Statement
import JvmDerived.Pilot.@@N@@Code
set_option linter.unusedVariables false
set_option linter.unusedSimpArgs false
namespace Jvm.RoadKit
open Sem ClassFile Op Lib Jvm.Stand Jvm.Free Jvm.LawKit
section New
variable {p : Program} {l : Launch} {e : Env} {R : Room} {s : State} {m : MethodId} {args : Array Value} {below : List Frame} {meth : Method} {c : Code} {T : State} {locs : List Loc} {cells slots : Nat}
theorem retI (X : Stand p l e R s m args below meth c T locs cells slots) (hx : p.tables.exec = Jvm.exec) {pc : Nat} {Ls : Array Slot} {z : Int32} {rest : List Value} (hret : meth.sig.returnType = some .int) (hd : decode c.code pc = .ok (.ireturn, 1)) {fs : List Frame}
    (hl : ∀ (f : JFrame) (acts : List Action), f.method = m → f.locked = none → f.entered = [] → (doReturn e (T.setTop f) acts (some (.int z))).1 = T.setFrames fs) : Steps p.tables e below (T.setTop (mkF m pc Ls (.int z :: rest))) (T.setFrames fs) := by
  have hm' : T.vm.method? m = some meth := X.method'
  have hn : narrow .int (.int z) = .int z := rfl
  show Steps p.tables e below (T.setTop { method := m, pc := pc, locals := Ls, stack := _ :: rest, locked := none }) _
  jvm_step X.here [X.here.top, hx, hd, hm', hret, hn]
  first | (intro acts; rw [hl _ acts rfl rfl rfl]) | rw [hl _ _ rfl rfl rfl]
  exact Steps.refl _
end New
end Jvm.RoadKit
namespace Jvm.Pilot.@@N@@
open Jvm Jvm.ClassFile Sem Op Lib Jvm.Free Jvm.Stand Jvm.LawKit Jvm.RoadKit Bundle Jvm.Pilot.@@N@@.Jvm.D
abbrev OwnG (tb : Tables) (e : Env) (below : List Frame) (R : State → Outcome → Prop) (cur : State) : Prop := ∃ s₂ o, Steps tb e below cur s₂ ∧ R s₂ o
theorem own_go {tb : Tables} {e : Env} {below : List Frame} {R : State → Outcome → Prop} {cur nxt : State} (h : ∀ t, Steps tb e below nxt t → Steps tb e below cur t) (k : OwnG tb e below R nxt) : OwnG tb e below R cur := by
  obtain ⟨s₂, o, h1, h2⟩ := k
  exact ⟨s₂, o, h _ h1, h2⟩
theorem own_pick {α : Type} (c : Prop) (a b : α) : ∃ z : α, (c → z = a) ∧ (¬ c → z = b) := by
  by_cases h : c
  · exact ⟨a, fun _ => rfl, fun q => absurd h q⟩
  · exact ⟨b, fun q => absurd q h, fun _ => rfl⟩
theorem own_ne_or {a d x n : Nat} (h : x = d ∨ n ≤ x) (h1 : a ≠ d) (h2 : a < n) : a ≠ x := by
  rcases h with h | h <;> omega
theorem own_ge_or {d x n k : Nat} (h : x = d ∨ n ≤ x) (h1 : k ≤ d) (h2 : k ≤ n) : k ≤ x := by
  rcases h with h | h <;> omega
theorem own_in_or {d x n k : Nat} {ws : List Nat} (h : x = d ∨ n ≤ x) (h1 : d ∈ ws) (h2 : k ≤ n) : x ∈ ws ∨ k ≤ x := by
  rcases h with rfl | h
  · exact Or.inl h1
  · exact Or.inr (Nat.le_trans h2 h)
theorem own_iw_or {d x n k : Nat} {ws : List Nat} (h : x = d ∨ n ≤ x) (h1 : d ∈ ws ∨ k ≤ d) (h2 : k ≤ n) : x ∈ ws ∨ k ≤ x := by
  rcases h with rfl | h
  · exact h1
  · exact Or.inr (Nat.le_trans h2 h)
section OwnStat
variable {args : Array Value} {s : State} {t u w : Term} {a b : Addr} {cl : Cell} {ty : FieldType}
theorem own_eqI {v : Int32} (h : (Cond.eq t (.int v)).value args s none s [] = some true) : t.eval args s none [] s = some (.int v) := by
  cases hx : t.eval args s none [] s with
  | none => simp [Cond.value, Term.eval, hx] at h
  | some y => cases y <;> simp [Cond.value, Term.eval, hx] at h; rw [h]
theorem own_eqJ {v : Int64} (h : (Cond.eq t (.long v)).value args s none s [] = some true) : t.eval args s none [] s = some (.long v) := by
  cases hx : t.eval args s none [] s with
  | none => simp [Cond.value, Term.eval, hx] at h
  | some y => cases y <;> simp [Cond.value, Term.eval, hx] at h; rw [h]
theorem own_eqR (h : (Cond.eq t u).value args s none s [] = some true) (hu : u.eval args s none [] s = some (.ref b)) : t.eval args s none [] s = some (.ref b) := by
  cases hx : t.eval args s none [] s with
  | none => simp [Cond.value, hu, hx] at h
  | some y => cases y <;> simp [Cond.value, hu, hx] at h; rw [h]
theorem own_neI {i v : Int32} (h : (Cond.not (.eq t (.int v))).value args s none s [] = some true) (ev : t.eval args s none [] s = some (.int i)) : i ≠ v := by
  intro e
  subst e
  simp [Cond.value, ev, Term.eval] at h
theorem own_len {n : Int32} (ev : t.eval args s none [] s = some (.ref a)) (A : Arr s s.heap a cl ty) (h : (Cond.eq (.length t) (.int n)).value args s none s [] = some true) : cl.slots.size < 2 ^ 31 ∧ cl.slots.size.toInt32 = n := by
  have e := own_eqI h
  have hA : s.arrayAt? a = some cl := A.fin (Vm.Alike.refl _)
  by_cases q : cl.slots.size < 2 ^ 31
  · rw [len_f ev hA q] at e
    exact ⟨q, by cases e; rfl⟩
  · simp [Term.eval, ev, hA, q] at e
theorem own_elem {j : Int32} {v : Value} (hj : ¬ j < 0) (ev : t.eval args s none [] s = some (.ref a)) (A : Arr s s.heap a cl ty) (h : (Term.elem t (.int j)).eval args s none [] s = some v) : cl.slots[j.toNatClampNeg]? = some v := by
  rw [elem_f (a := .int j) ev rfl (A.fin (Vm.Alike.refl _)) hj] at h; exact h
theorem own_fld {C n d : String} {v : Value} (ev : t.eval args s none [] s = some (.ref a)) (h : (Term.field t C n d).eval args s none [] s = some v) : Fld s s.heap a C n d v :=
  Fld.start (by rw [← fld_at ev]; exact h)
end OwnStat

theorem own_sa (Z : State) (a0 : Array Value) (hw : ∀ d ∈ tables_1, d.before a0 Z = true) : ∀ a ∈ Bundle.stringAtoms, a.before a0 Z = true := by
  intro d hd
  simp only [Bundle.stringAtoms, List.mem_cons, List.not_mem_nil, or_false] at hd
  rcases hd with rfl | rfl | rfl | rfl | rfl | rfl | rfl
  · exact (hw _ (List.mem_of_getElem? (i := 6) rfl))
  · exact (hw _ (List.mem_of_getElem? (i := 14) rfl))
  · exact (hw _ (List.mem_of_getElem? (i := 18) rfl))
  · exact (hw _ (List.mem_of_getElem? (i := 27) rfl))
  · exact (hw _ (List.mem_of_getElem? (i := 29) rfl))
  · exact (hw _ (List.mem_of_getElem? (i := 68) rfl))
  · exact (hw _ (List.mem_of_getElem? (i := 69) rfl))
def own_to (q d : Int64) : Int32 := if q - d < 0 then 0 else 1
theorem own_c255 (x : Int32) : ¬ (255 : Int32) < ((x &&& (255 : Int32)).toUInt32.toUInt16.toUInt32.toInt32) := by
  have h := c_mask x 255 8 (by decide) rfl; have g := c_i2c (x &&& (255 : Int32))
  have : (255 : Int32).toInt = 255 := rfl
  rw [Int32.lt_iff_toInt_lt]; omega
theorem own_tn (ms : Int32) : (ms.toInt64 * (1000000 : Int64)).toInt = ms.toInt * 1000000 := by
  have h := c_lmul ms.toInt64 1000000; have r := rng32 ms; have g := rng64 (ms.toInt64 * (1000000 : Int64))
  rw [c_i2l, show (1000000 : Int64).toInt = 1000000 from rfl] at h; omega
theorem own_hi (ms : Int32) : ¬ (9223372036854 : Int64) < ms.toInt64 := by
  have r := rng32 ms; rw [Int64.lt_iff_toInt_lt, c_i2l, show (9223372036854 : Int64).toInt = 9223372036854 from rfl]; omega
theorem own_lo (ms : Int32) : ¬ ms.toInt64 < (-(9223372036854 : Int64)) := by
  have r := rng32 ms; rw [Int64.lt_iff_toInt_lt, c_i2l, show (-(9223372036854 : Int64)).toInt = -9223372036854 from rfl]; omega
theorem own_ebound {z e : Int64} {f ms : Int32} (h0 : f = 0 → z = e >>> ((1 : Int32) &&& 0x3f).toInt64) (h1 : ¬ f = 0 → z = (ms.toInt64 * (1000000 : Int64)) + (((e.toInt32) &&& (3 : Int32)) - (2 : Int32)).toInt64) : -4611686018427387904 ≤ z.toInt ∧ z.toInt < 4611686018427387904 := by
  by_cases c : f = 0
  · rw [h0 c, c_lshr e 1 1 (by decide)]; have r := rng64 e; omega
  · rw [h1 c]
    have a := own_tn ms; have r := rng32 ms
    generalize (ms.toInt64 * (1000000 : Int64)) = t at *
    have m := c_mask e.toInt32 3 2 (by decide) rfl
    generalize (e.toInt32 &&& (3 : Int32)) = u at *
    have s1 := c_isub u 2; have s2 := rng32 (u - 2)
    have e2 : (2 : Int32).toInt = 2 := rfl
    have s3 : (u - 2).toInt = u.toInt - 2 := by omega
    have k := c_ladd t (u - 2).toInt64; have k2 := rng64 (t + (u - 2).toInt64)
    rw [c_i2l] at k
    have k3 : (t + (u - 2).toInt64).toInt = t.toInt + (u - 2).toInt := by omega
    omega
theorem own_first {p z : Int64} {ms : Int32} {w : Int32} (hz : -4611686018427387904 ≤ z.toInt ∧ z.toInt < 4611686018427387904) (h1 : z < (ms.toInt64 * (1000000 : Int64)) → w = 0) (h0 : ¬ z < (ms.toInt64 * (1000000 : Int64)) → w = 1) : own_to (p + z) (p + (ms.toInt64 * (1000000 : Int64))) = w := by
  have a := own_tn ms; have r := rng32 ms
  generalize (ms.toInt64 * (1000000 : Int64)) = t at *
  have b1 := c_ladd p z; have b2 := c_ladd p t; have b3 := c_lsub (p + z) (p + t); have b4 := rng64 ((p + z) - (p + t))
  have b5 : (((p + z) - (p + t)).toInt - (z.toInt - t.toInt)) % 18446744073709551616 = 0 := by omega
  have b6 : ((p + z) - (p + t)).toInt = z.toInt - t.toInt := by omega
  have e : ((p + z) - (p + t) < 0) ↔ z < t := by
    rw [Int64.lt_iff_toInt_lt, Int64.lt_iff_toInt_lt, show (0 : Int64).toInt = 0 from rfl]; omega
  unfold own_to
  by_cases c : z < t
  · rw [if_pos (e.mpr c), h1 c]
  · rw [if_neg (fun q => c (e.mp q)), h0 c]
theorem own_fresh {p : Int64} {ms : Int32} {w : Int32} (h1 : (0 : Int32) < ms → w = 0) (h0 : ¬ (0 : Int32) < ms → w = 1) : own_to p (p + (ms.toInt64 * (1000000 : Int64))) = w := by
  have a := own_tn ms; have r := rng32 ms
  generalize (ms.toInt64 * (1000000 : Int64)) = t at *
  have b2 := c_ladd p t; have b3 := c_lsub p (p + t); have b4 := rng64 (p - (p + t))
  have b5 : ((p - (p + t)).toInt - (-t.toInt)) % 18446744073709551616 = 0 := by omega
  have b6 : (p - (p + t)).toInt = -t.toInt := by omega
  have e : (p - (p + t) < 0) ↔ (0 : Int32) < ms := by
    rw [Int64.lt_iff_toInt_lt, Int32.lt_iff_toInt_lt, show (0 : Int64).toInt = 0 from rfl, show (0 : Int32).toInt = 0 from rfl]; omega
  unfold own_to
  by_cases c : (0 : Int32) < ms
  · rw [if_pos (e.mpr c), h1 c]
  · rw [if_neg (fun q => c (e.mp q)), h0 c]
theorem own_ef0 (m : MethodId) (p1 : Int32) : entryFrame m #[(.int p1)] 1 = mkF m 0 #[.val (.int p1)] [] := by first | (simp [entryFrame, mkF, argsToLocals, Value.category]; done) | rfl
theorem own_pn1 : plainName "java/lang/StringLatin1" = true := by first | (simp [plainName, overriddenIn]; done) | decide +kernel
theorem own_d2 : decode jdk_43_method_3_code 0 = .ok (.iload_n 0, 1) := by decide +kernel
theorem own_d3 : decode jdk_43_method_3_code 1 = .ok (.sipush 255, 3) := by decide +kernel
theorem own_d4 : decode jdk_43_method_3_code 4 = .ok (.if_icmp .gt 7, 3) := by decide +kernel
theorem own_d5 : decode jdk_43_method_3_code 7 = .ok (.iconst 1, 1) := by decide +kernel
theorem own_d6 : decode jdk_43_method_3_code 8 = .ok (.goto 4, 3) := by decide +kernel
theorem own_d7 : decode jdk_43_method_3_code 12 = .ok (.ireturn, 1) := by decide +kernel
def Q_own_ce (Z : State) (p1 : Int32) (h0 : Heap) (n0 : Nat) (v : Option Value) (h : Heap) (L : List Loc) : Prop := v = some (.int (1 : Int32)) ∧ Fr n0 L ∧ h = h0
set_option maxRecDepth 65536 in
set_option maxHeartbeats 40000000 in
theorem own_ce (l : Launch) (Z : State) (a0 : Array Value) (hw : ∀ d ∈ tables_1, d.before a0 Z = true) (ws : List Jvm.Cond) (p1 : Int32) (h0 : Heap) (n0 : Nat) (Z0 : n0 ≤ h0.size) (hc : ¬ (255 : Int32) < p1) :
    MetFree l (⟨"java/lang/StringLatin1", "canEncode", "(C)Z"⟩ : MethodName) (head1 (Jvm.Cond.code (⟨"java/lang/StringLatin1", "canEncode", "(C)Z"⟩ : MethodName) jdk_43_method_3_code 1 (some .boolean) :: ws) ({ frames := 0, cells := 0, slots := 0, locals := 0 } : Room)) (fun a U => a = #[(.int p1)] ∧ Z.Warmed39 U.vm ∧ U.heap = h0) (fun _ _ _ _ _ => True) (fun _ U o U' => ∃ v L, o = .returned v ∧ Q_own_ce Z p1 h0 n0 v U'.heap L ∧ FrameEnd U o U' L ({ frames := 0, cells := 0, slots := 0, locals := 0 } : Room).cells ({ frames := 0, cells := 0, slots := 0, locals := 0 } : Room).slots) := by
  refine MetFree.of_bodySF (plainFor_of_name own_pn1) hisR ?_
  intro p e s m args below meth c s₁ Bd hml0 hP hK
  obtain ⟨rfl, hZ, hh⟩ := hP
  have hx := Bd.exec
  have hby := Bd.bytes
  have hml : c.maxLocals = 1 := hml0
  have hown : s.vm.findClass "java/lang/StringLatin1" = some m.cls := findClass_of_methodNamed Bd.named
  have hnm := (name_of_methodNamed Bd.named Bd.method).1
  have X0 : Stand p l e ({ frames := 0, cells := 0, slots := 0, locals := 0 } : Room) s m #[(.int p1)] below meth c s₁ [] 0 0 := Stand.of_body Bd
  have e0 : s₁.heap = h0 := by rw [← hh, Bd.state]; rfl
  have N0 := Fr.nil n0
  have K0 := Keep.refl h0 []
  refine own_go (fun t k => castTop (own_ef0 m p1) k) ?_
  show OwnG p.tables e below _ (s₁.setTop (mkF m 0 #[.val (.int p1)] []))
  refine own_go (fun t k => XS.iloadN X0.here hx rfl (hb hby own_d2) rfl  k) ?_
  show OwnG p.tables e below _ (s₁.setTop (mkF m 1 #[.val (.int p1)] [(.int p1)]))
  refine own_go (fun t k => XS.sipush X0.here hx rfl (hb hby own_d3) k) ?_
  show OwnG p.tables e below _ (s₁.setTop (mkF m 4 #[.val (.int p1)] [(.int (255 : Int32)), (.int p1)]))
  refine own_go (fun t k => XS.icmpNo X0.here hx rfl (hb hby own_d4) rfl (flt hc).2.2.1 k) ?_
  show OwnG p.tables e below _ (s₁.setTop (mkF m 7 #[.val (.int p1)] []))
  refine own_go (fun t k => XS.iconst X0.here hx rfl (hb hby own_d5) k) ?_
  show OwnG p.tables e below _ (s₁.setTop (mkF m 8 #[.val (.int p1)] [(.int (1 : Int32))]))
  refine own_go (fun t k => XS.goto X0.here hx rfl (pc0 := 8) (pc' := 12) rfl (hb hby own_d6) (by decide) (by decide) k) ?_
  show OwnG p.tables e below _ (s₁.setTop (mkF m 12 #[.val (.int p1)] [(.int (1 : Int32))]))
  obtain ⟨fs, hr, hrun, hended, hW, hsame⟩ := X0.leave (v := some (.int (1 : Int32))) (fun h => by rw [Bd.returns] at h; cases h)
  refine ⟨_, _, retN X0 hx (t := .boolean) Bd.returns (by simp) (hb hby own_d7) hr, hrun, hended, _, _, rfl, ?_, ⟨_, rfl⟩, hW, hsame.mono (by decide) (by decide)⟩
  show Q_own_ce Z p1 h0 n0 _ s₁.heap _
  rw [e0]
  exact ⟨rfl, N0, rfl⟩
theorem own_ef8 (m : MethodId) (p1 : Int32) : entryFrame m #[(.int p1)] 1 = mkF m 0 #[.val (.int p1)] [] := by first | (simp [entryFrame, mkF, argsToLocals, Value.category]; done) | rfl
theorem own_d9 : decode jdk_43_method_46_code 0 = .ok (.iconst 1, 1) := by decide +kernel
theorem own_d10 : decode jdk_43_method_46_code 1 = .ok (.newarray .byte, 2) := by decide +kernel
theorem own_d11 : decode jdk_43_method_46_code 3 = .ok (.dup, 1) := by decide +kernel
theorem own_d12 : decode jdk_43_method_46_code 4 = .ok (.iconst 0, 1) := by decide +kernel
theorem own_d13 : decode jdk_43_method_46_code 5 = .ok (.iload_n 0, 1) := by decide +kernel
theorem own_d14 : decode jdk_43_method_46_code 6 = .ok (.i2b, 1) := by decide +kernel
theorem own_d15 : decode jdk_43_method_46_code 7 = .ok (.bastore, 1) := by decide +kernel
theorem own_d16 : decode jdk_43_method_46_code 8 = .ok (.areturn, 1) := by decide +kernel
def Q_own_tb (Z : State) (p1 : Int32) (h0 : Heap) (n0 : Nat) (v : Option Value) (h : Heap) (L : List Loc) : Prop := ∃ xb : Addr, v = some (.ref xb) ∧ Fr n0 L ∧ Keep h0 h []
set_option maxRecDepth 65536 in
set_option maxHeartbeats 40000000 in
theorem own_tb (l : Launch) (Z : State) (a0 : Array Value) (hw : ∀ d ∈ tables_1, d.before a0 Z = true) (ws : List Jvm.Cond) (p1 : Int32) (h0 : Heap) (n0 : Nat) (Z0 : n0 ≤ h0.size) :
    MetFree l (⟨"java/lang/StringLatin1", "toBytes", "(C)[B"⟩ : MethodName) (head1 (Jvm.Cond.code (⟨"java/lang/StringLatin1", "toBytes", "(C)[B"⟩ : MethodName) jdk_43_method_46_code 1 (some (.array .byte)) :: ws) ({ frames := 0, cells := 1, slots := 1, locals := 0 } : Room)) (fun a U => a = #[(.int p1)] ∧ Z.Warmed39 U.vm ∧ U.heap = h0) (fun _ _ _ _ _ => True) (fun _ U o U' => ∃ v L, o = .returned v ∧ Q_own_tb Z p1 h0 n0 v U'.heap L ∧ FrameEnd U o U' L ({ frames := 0, cells := 1, slots := 1, locals := 0 } : Room).cells ({ frames := 0, cells := 1, slots := 1, locals := 0 } : Room).slots) := by
  refine MetFree.of_bodySF (plainFor_of_name own_pn1) hisR ?_
  intro p e s m args below meth c s₁ Bd hml0 hP hK
  obtain ⟨rfl, hZ, hh⟩ := hP
  have hx := Bd.exec
  have hby := Bd.bytes
  have hml : c.maxLocals = 1 := hml0
  have hown : s.vm.findClass "java/lang/StringLatin1" = some m.cls := findClass_of_methodNamed Bd.named
  have hnm := (name_of_methodNamed Bd.named Bd.method).1
  have X0 : Stand p l e ({ frames := 0, cells := 1, slots := 1, locals := 0 } : Room) s m #[(.int p1)] below meth c s₁ [] 0 0 := Stand.of_body Bd
  have e0 : s₁.heap = h0 := by rw [← hh, Bd.state]; rfl
  have N0 := Fr.nil n0
  have K0 := Keep.refl h0 []
  refine own_go (fun t k => castTop (own_ef8 m p1) k) ?_
  show OwnG p.tables e below _ (s₁.setTop (mkF m 0 #[.val (.int p1)] []))
  refine own_go (fun t k => XS.iconst X0.here hx rfl (hb hby own_d9) k) ?_
  show OwnG p.tables e below _ (s₁.setTop (mkF m 1 #[.val (.int p1)] [(.int (1 : Int32))]))
  obtain ⟨T1, h1, k1, X1, e1, E1, A1, st1⟩ := newP X0 hx hZ (hw _ (List.mem_of_getElem? (i := 18) rfl)) e0 (g := (mkF m 1 #[.val (.int p1)] [(.int (1 : Int32))])) rfl (hb hby own_d10) rfl (by decide) (cap := 1) (by decide) (by decide) (by decide) (by decide)
  obtain ⟨b1, g1⟩ : ∃ z, z = h0.size := ⟨_, rfl⟩
  rw [← g1] at A1 st1
  have g_b1 : n0 ≤ b1 := Nat.le_trans Z0 (Nat.le_of_eq g1.symm)
  have sz_b1 : h0.size ≤ b1 := Nat.le_trans K0.1 (Nat.le_of_eq g1.symm)
  have K2 : Keep h0 h1 [] := K0.ext E1
  have Z2 : n0 ≤ h1.size := Nat.le_trans Z0 E1.1
  have F3 : Arv Z h1 b1 k1 .byte (1 : Int32) [(.int (0 : Int32))] (.int (0 : Int32)) := (Arv.new A1 (by decide)).pad (pad_rep [] (.int (0 : Int32)) 1)
  refine own_go (fun t k => st1 t k) ?_
  show OwnG p.tables e below _ (T1.setTop (mkF m 3 #[.val (.int p1)] [(.ref b1)]))
  refine own_go (fun t k => XS.dup X1.here hx rfl (hb hby own_d11) rfl rfl k) ?_
  show OwnG p.tables e below _ (T1.setTop (mkF m 4 #[.val (.int p1)] [(.ref b1), (.ref b1)]))
  refine own_go (fun t k => XS.iconst X1.here hx rfl (hb hby own_d12) k) ?_
  show OwnG p.tables e below _ (T1.setTop (mkF m 5 #[.val (.int p1)] [(.int (0 : Int32)), (.ref b1), (.ref b1)]))
  refine own_go (fun t k => XS.iloadN X1.here hx rfl (hb hby own_d13) rfl  k) ?_
  show OwnG p.tables e below _ (T1.setTop (mkF m 6 #[.val (.int p1)] [(.int p1), (.int (0 : Int32)), (.ref b1), (.ref b1)]))
  refine own_go (fun t k => XS.i2b X1.here hx rfl (hb hby own_d14) rfl k) ?_
  show OwnG p.tables e below _ (T1.setTop (mkF m 7 #[.val (.int p1)] [(.int (p1.toInt8.toInt32)), (.int (0 : Int32)), (.ref b1), (.ref b1)]))
  have vv4 := F3
  obtain ⟨cl4, Ar4, qk4, Sz4, Nn4, Hs4, Gs4⟩ := vv4
  have hin4 : ¬ ((0 : Int32) < 0 ∨ cl4.slots.size ≤ ((0 : Int32)).toNatClampNeg) := inb_of Sz4 ⟨by decide, by decide⟩
  obtain ⟨T4, h4, X4, e4, W4, st4⟩ := stB X1 hx hZ e1 Ar4 (j := (0 : Int32)) hin4 (g := (mkF m 7 #[.val (.int p1)] [(.int (p1.toInt8.toInt32)), (.int (0 : Int32)), (.ref b1), (.ref b1)])) rfl rfl (hb hby own_d15)
  have N5 := Fr.snoc X4 N0 g_b1
  have K5 : Keep h0 h4 [] := K2.wr W4 (Or.inr sz_b1)
  have Z5 : n0 ≤ h4.size := Nat.le_trans Z2 (Keep.of_wr W4).1
  refine own_go (fun t k => st4 t k) ?_
  show OwnG p.tables e below _ (T4.setTop (mkF m 8 #[.val (.int p1)] [(.ref b1)]))
  obtain ⟨fs, hr, hrun, hended, hW, hsame⟩ := X4.leave (v := some (.ref b1)) (fun h => by rw [Bd.returns] at h; cases h)
  have hlast : Steps p.tables e below (T4.setTop (mkF m 8 #[.val (.int p1)] [(.ref b1)])) (T4.setFrames fs) := by
    exact retOut X4 hx (t := (.array .byte)) Bd.returns rfl (Or.inr (Or.inr (Or.inr (Or.inr ⟨rfl, rfl, rfl⟩)))) (hb hby own_d16) hr
  refine ⟨_, _, hlast, hrun, hended, _, _, rfl, ?_, ⟨_, rfl⟩, hW, hsame.mono (by decide) (by decide)⟩
  show Q_own_tb Z p1 h0 n0 _ T4.heap _
  rw [e4]
  exact ⟨_, rfl, N5, K5⟩
theorem own_ef17 (m : MethodId) (a1 : Addr) (a2 : Addr) : entryFrame m #[(.ref a1), (.ref a2), (.int (0 : Int32))] 3 = mkF m 0 #[.val (.ref a1), .val (.ref a2), .val (.int (0 : Int32))] [] := by first | (simp [entryFrame, mkF, argsToLocals, Value.category]; done) | rfl
theorem own_pn18 : plainName "java/lang/String" = true := by first | (simp [plainName, overriddenIn]; done) | decide +kernel
theorem own_d19 : decode jdk_42_method_151_code 0 = .ok (.aload_n 0, 1) := by decide +kernel
theorem own_d20 : decode jdk_42_method_151_code 1 = .ok (.invokespecial 1, 3) := by decide +kernel
theorem own_d21 : decode jdk_42_method_151_code 4 = .ok (.aload_n 0, 1) := by decide +kernel
theorem own_d22 : decode jdk_42_method_151_code 5 = .ok (.aload_n 1, 1) := by decide +kernel
theorem own_d23 : decode jdk_42_method_151_code 6 = .ok (.putfield 9, 3) := by decide +kernel
theorem own_d24 : decode jdk_42_method_151_code 9 = .ok (.aload_n 0, 1) := by decide +kernel
theorem own_d25 : decode jdk_42_method_151_code 10 = .ok (.iload_n 2, 1) := by decide +kernel
theorem own_d26 : decode jdk_42_method_151_code 11 = .ok (.putfield 15, 3) := by decide +kernel
theorem own_d27 : decode jdk_42_method_151_code 14 = .ok (.return_, 1) := by decide +kernel
def Q_own_si (Z : State) (a1 : Addr) (a2 : Addr) (h0 : Heap) (n0 : Nat) (v : Option Value) (h : Heap) (L : List Loc) : Prop := v = none ∧ Fr n0 L ∧ Keep h0 h [a1] ∧ Exa Z h a1 "java/lang/String"
set_option maxRecDepth 65536 in
set_option maxHeartbeats 40000000 in
theorem own_si (l : Launch) (Z : State) (a0 : Array Value) (hw : ∀ d ∈ tables_1, d.before a0 Z = true) (ws : List Jvm.Cond) (a1 : Addr) (a2 : Addr) (h0 : Heap) (n0 : Nat) (Z0 : n0 ≤ h0.size) (f0_0 : Exa Z h0 a1 "java/lang/String") (f0_1 : Fld Z h0 a1 "java/lang/String" "value" "[B" .null) (f0_2 : Fld Z h0 a1 "java/lang/String" "coder" "B" (.int (0 : Int32))) (g_a1 : n0 ≤ a1) :
    MetFree l (⟨"java/lang/String", "<init>", "([BB)V"⟩ : MethodName) (head1 (Jvm.Cond.code (⟨"java/lang/String", "<init>", "([BB)V"⟩ : MethodName) jdk_42_method_151_code 3 none :: ws) ({ frames := 1, cells := 0, slots := 0, locals := 12 } : Room)) (fun a U => a = #[(.ref a1), (.ref a2), (.int (0 : Int32))] ∧ Z.Warmed39 U.vm ∧ U.heap = h0) (fun _ _ _ _ _ => True) (fun _ U o U' => ∃ v L, o = .returned v ∧ Q_own_si Z a1 a2 h0 n0 v U'.heap L ∧ FrameEnd U o U' L ({ frames := 1, cells := 0, slots := 0, locals := 12 } : Room).cells ({ frames := 1, cells := 0, slots := 0, locals := 12 } : Room).slots) := by
  refine MetFree.of_bodySF (plainFor_of_name own_pn18) hisR ?_
  intro p e s m args below meth c s₁ Bd hml0 hP hK
  obtain ⟨rfl, hZ, hh⟩ := hP
  have hx := Bd.exec
  have hby := Bd.bytes
  have hml : c.maxLocals = 3 := hml0
  have hown : s.vm.findClass "java/lang/String" = some m.cls := findClass_of_methodNamed Bd.named
  have hnm := (name_of_methodNamed Bd.named Bd.method).1
  have X0 : Stand p l e ({ frames := 1, cells := 0, slots := 0, locals := 12 } : Room) s m #[(.ref a1), (.ref a2), (.int (0 : Int32))] below meth c s₁ [] 0 0 := Stand.of_body Bd
  have e0 : s₁.heap = h0 := by rw [← hh, Bd.state]; rfl
  have N0 := Fr.nil n0
  have K0 := Keep.refl h0 [a1]
  refine own_go (fun t k => castTop (own_ef17 m a1 a2) k) ?_
  show OwnG p.tables e below _ (s₁.setTop (mkF m 0 #[.val (.ref a1), .val (.ref a2), .val (.int (0 : Int32))] []))
  refine own_go (fun t k => XS.aloadN X0.here hx rfl (hb hby own_d19) rfl rfl k) ?_
  show OwnG p.tables e below _ (s₁.setTop (mkF m 1 #[.val (.ref a1), .val (.ref a2), .val (.int (0 : Int32))] [(.ref a1)]))
  obtain ⟨T1, X1, e1, st1⟩ := initO X0 hx hZ hown (hw _ (List.mem_of_getElem? (i := 23) rfl)) (hw _ (List.mem_of_getElem? (i := 24) rfl)) (hw _ (List.mem_of_getElem? (i := 25) rfl)) e0 (g := (mkF m 1 #[.val (.ref a1), .val (.ref a2), .val (.int (0 : Int32))] [(.ref a1)])) rfl (by rw [hml]; rfl) rfl (hb hby own_d20) (by decide) (W := 0) (by show 2 * 0 + _ ≤ _; exact Nat.le_of_eq rfl) (by decide)
  refine own_go (fun t k => st1 t k) ?_
  show OwnG p.tables e below _ (T1.setTop (mkF m 4 #[.val (.ref a1), .val (.ref a2), .val (.int (0 : Int32))] []))
  refine own_go (fun t k => XS.aloadN X1.here hx rfl (hb hby own_d21) rfl rfl k) ?_
  show OwnG p.tables e below _ (T1.setTop (mkF m 5 #[.val (.ref a1), .val (.ref a2), .val (.int (0 : Int32))] [(.ref a1)]))
  refine own_go (fun t k => XS.aloadN X1.here hx rfl (hb hby own_d22) rfl rfl k) ?_
  show OwnG p.tables e below _ (T1.setTop (mkF m 6 #[.val (.ref a1), .val (.ref a2), .val (.int (0 : Int32))] [(.ref a2), (.ref a1)]))
  obtain ⟨T2, h2, X2, e2, W2, st2⟩ := putF X1 hx hZ hown (host := "") (Or.inl (hw _ (List.mem_of_getElem? (i := 26) rfl))) Via.refl e1 f0_1 f0_0 (Or.inr ⟨(hw _ (List.mem_of_getElem? (i := 27) rfl)), rfl, hnm⟩) (hw _ (List.mem_of_getElem? (i := 14) rfl)) (ty := (.array .byte)) (by decide) rfl rfl (g := (mkF m 6 #[.val (.ref a1), .val (.ref a2), .val (.int (0 : Int32))] [(.ref a2), (.ref a1)])) rfl rfl (hb hby own_d23)
  have F3 : Exa Z h2 a1 "java/lang/String" := f0_0.wr W2
  have F4 : Fld Z h2 a1 "java/lang/String" "value" "[B" (.ref a2) := f0_1.same W2
  have F5 : Fld Z h2 a1 "java/lang/String" "coder" "B" (.int (0 : Int32)) := f0_2.other W2 (Or.inr (slot_ne (Or.inr (hw _ (List.mem_of_getElem? (i := 29) rfl))) (Or.inr (hw _ (List.mem_of_getElem? (i := 27) rfl))) (by decide) (t := .byte) (t' := (.array .byte)) (by decide) (by decide)))
  have N6 := Fr.snoc X2 N0 g_a1
  have K6 : Keep h0 h2 [a1] := K0.wr W2 (Or.inl (List.mem_of_getElem? (i := 0) rfl))
  have Z6 : n0 ≤ h2.size := Nat.le_trans Z0 (Keep.of_wr W2).1
  refine own_go (fun t k => st2 t k) ?_
  show OwnG p.tables e below _ (T2.setTop (mkF m 9 #[.val (.ref a1), .val (.ref a2), .val (.int (0 : Int32))] []))
  refine own_go (fun t k => XS.aloadN X2.here hx rfl (hb hby own_d24) rfl rfl k) ?_
  show OwnG p.tables e below _ (T2.setTop (mkF m 10 #[.val (.ref a1), .val (.ref a2), .val (.int (0 : Int32))] [(.ref a1)]))
  refine own_go (fun t k => XS.iloadN X2.here hx rfl (hb hby own_d25) rfl  k) ?_
  show OwnG p.tables e below _ (T2.setTop (mkF m 11 #[.val (.ref a1), .val (.ref a2), .val (.int (0 : Int32))] [(.int (0 : Int32)), (.ref a1)]))
  obtain ⟨T7, h7, X7, e7, W7, st7⟩ := putF X2 hx hZ hown (host := "") (Or.inl (hw _ (List.mem_of_getElem? (i := 28) rfl))) Via.refl e2 F5 F3 (Or.inr ⟨(hw _ (List.mem_of_getElem? (i := 29) rfl)), rfl, hnm⟩) (hw _ (List.mem_of_getElem? (i := 14) rfl)) (ty := .byte) (by decide) rfl rfl (g := (mkF m 11 #[.val (.ref a1), .val (.ref a2), .val (.int (0 : Int32))] [(.int (0 : Int32)), (.ref a1)])) rfl rfl (hb hby own_d26)
  have F8 : Exa Z h7 a1 "java/lang/String" := F3.wr W7
  have F9 : Fld Z h7 a1 "java/lang/String" "value" "[B" (.ref a2) := F4.other W7 (Or.inr (slot_ne (Or.inr (hw _ (List.mem_of_getElem? (i := 27) rfl))) (Or.inr (hw _ (List.mem_of_getElem? (i := 29) rfl))) (by decide) (t := (.array .byte)) (t' := .byte) (by decide) (by decide)))
  have F10 : Fld Z h7 a1 "java/lang/String" "coder" "B" (.int (0 : Int32)) := F5.same W7
  have N11 := Fr.snoc X7 N6 g_a1
  have K11 : Keep h0 h7 [a1] := K6.wr W7 (Or.inl (List.mem_of_getElem? (i := 0) rfl))
  have Z11 : n0 ≤ h7.size := Nat.le_trans Z6 (Keep.of_wr W7).1
  refine own_go (fun t k => st7 t k) ?_
  show OwnG p.tables e below _ (T7.setTop (mkF m 14 #[.val (.ref a1), .val (.ref a2), .val (.int (0 : Int32))] []))
  obtain ⟨fs, hr, hrun, hended, hW, hsame⟩ := X7.leave (v := none) (fun _ => rfl)
  refine ⟨_, _, X7.returnOut hx Bd.returns (hb hby own_d27) hr, hrun, hended, _, _, rfl, ?_, ⟨_, rfl⟩, hW, hsame.mono (by decide) (by decide)⟩
  show Q_own_si Z a1 a2 h0 n0 _ T7.heap _
  rw [e7]
  exact ⟨rfl, N11, K11, F8⟩
theorem own_ef28 (m : MethodId) (p1 : Int32) : entryFrame m #[(.int p1)] 1 = mkF m 0 #[.val (.int p1)] [] := by first | (simp [entryFrame, mkF, argsToLocals, Value.category]; done) | rfl
theorem own_d29 : decode jdk_42_method_139_code 0 = .ok (.getstatic 38, 3) := by decide +kernel
theorem own_d30 : decode jdk_42_method_139_code 3 = .ok (.ifCond .eq 23, 3) := by decide +kernel
theorem own_d31 : decode jdk_42_method_139_code 6 = .ok (.iload_n 0, 1) := by decide +kernel
theorem own_d32 : decode jdk_42_method_139_code 7 = .ok (.invokestatic 1015, 3) := by decide +kernel
theorem own_pd33 : parseMethodDescriptor "(C)Z" = some ⟨[.char], some .boolean⟩ := by decide +kernel
theorem own_d34 : decode jdk_42_method_139_code 10 = .ok (.ifCond .eq 16, 3) := by decide +kernel
theorem own_d35 : decode jdk_42_method_139_code 13 = .ok (.new 10, 3) := by decide +kernel
theorem own_d36 : decode jdk_42_method_139_code 16 = .ok (.dup, 1) := by decide +kernel
theorem own_d37 : decode jdk_42_method_139_code 17 = .ok (.iload_n 0, 1) := by decide +kernel
theorem own_d38 : decode jdk_42_method_139_code 18 = .ok (.invokestatic 1018, 3) := by decide +kernel
theorem own_pd39 : parseMethodDescriptor "(C)[B" = some ⟨[.char], some (.array .byte)⟩ := by decide +kernel
theorem own_d40 : decode jdk_42_method_139_code 21 = .ok (.iconst 0, 1) := by decide +kernel
theorem own_d41 : decode jdk_42_method_139_code 22 = .ok (.invokespecial 209, 3) := by decide +kernel
theorem own_pd42 : parseMethodDescriptor "([BB)V" = some ⟨[(.array .byte), .byte], none⟩ := by decide +kernel
theorem own_d43 : decode jdk_42_method_139_code 25 = .ok (.areturn, 1) := by decide +kernel
def Q_own_vo (Z : State) (p1 : Int32) (i_COMPACT_STRINGS : Int32) (h0 : Heap) (n0 : Nat) (v : Option Value) (h : Heap) (L : List Loc) : Prop := ∃ xs : Addr, v = some (.ref xs) ∧ Fr n0 L ∧ Keep h0 h []
set_option maxRecDepth 65536 in
set_option maxHeartbeats 40000000 in
theorem own_vo (l : Launch) (Z : State) (a0 : Array Value) (hw : ∀ d ∈ tables_1, d.before a0 Z = true) (ws : List Jvm.Cond) (p1 : Int32) (i_COMPACT_STRINGS : Int32) (h0 : Heap) (n0 : Nat) (Z0 : n0 ≤ h0.size) (O0 : Old Z n0 h0) (S_COMPACT_STRINGS : Sta Z Z.heap "java/lang/String" "COMPACT_STRINGS" "Z" (.int i_COMPACT_STRINGS)) (nz_i_COMPACT_STRINGS : i_COMPACT_STRINGS ≠ (0 : Int32)) (hc : ¬ (255 : Int32) < p1) :
    MetFree l (⟨"java/lang/String", "valueOf", "(C)Ljava/lang/String;"⟩ : MethodName) (head1 (Jvm.Cond.code (⟨"java/lang/String", "valueOf", "(C)Ljava/lang/String;"⟩ : MethodName) jdk_42_method_139_code 1 (some (.object "java/lang/String")) :: ws) ({ frames := 2, cells := 2, slots := 5, locals := 27 } : Room)) (fun a U => a = #[(.int p1)] ∧ Z.Warmed39 U.vm ∧ U.heap = h0) (fun _ _ _ _ _ => True) (fun _ U o U' => ∃ v L, o = .returned v ∧ Q_own_vo Z p1 i_COMPACT_STRINGS h0 n0 v U'.heap L ∧ FrameEnd U o U' L ({ frames := 2, cells := 2, slots := 5, locals := 27 } : Room).cells ({ frames := 2, cells := 2, slots := 5, locals := 27 } : Room).slots) := by
  refine MetFree.of_bodySF (plainFor_of_name own_pn18) hisR ?_
  intro p e s m args below meth c s₁ Bd hml0 hP hK
  obtain ⟨rfl, hZ, hh⟩ := hP
  have hx := Bd.exec
  have hby := Bd.bytes
  have hml : c.maxLocals = 1 := hml0
  have hown : s.vm.findClass "java/lang/String" = some m.cls := findClass_of_methodNamed Bd.named
  have hnm := (name_of_methodNamed Bd.named Bd.method).1
  have X0 : Stand p l e ({ frames := 2, cells := 2, slots := 5, locals := 27 } : Room) s m #[(.int p1)] below meth c s₁ [] 0 0 := Stand.of_body Bd
  have e0 : s₁.heap = h0 := by rw [← hh, Bd.state]; rfl
  have N0 := Fr.nil n0
  have K0 := Keep.refl h0 []
  refine own_go (fun t k => castTop (own_ef28 m p1) k) ?_
  show OwnG p.tables e below _ (s₁.setTop (mkF m 0 #[.val (.int p1)] []))
  obtain ⟨T1, X1, e1, st1⟩ := getS2 X0 hx hZ hown (host := "") (Or.inl (hw _ (List.mem_of_getElem? (i := 8) rfl))) Via.refl e0 (S_COMPACT_STRINGS.ext O0.2) (g := (mkF m 0 #[.val (.int p1)] [])) rfl (hb hby own_d29)
  refine own_go (fun t k => st1 t k) ?_
  show OwnG p.tables e below _ (T1.setTop (mkF m 3 #[.val (.int p1)] [(.int i_COMPACT_STRINGS)]))
  refine own_go (fun t k => XS.ifNo X1.here hx rfl (hb hby own_d30) rfl ((if0 _ _).trans (feq nz_i_COMPACT_STRINGS).1) k) ?_
  show OwnG p.tables e below _ (T1.setTop (mkF m 6 #[.val (.int p1)] []))
  refine own_go (fun t k => XS.iloadN X1.here hx rfl (hb hby own_d31) rfl  k) ?_
  show OwnG p.tables e below _ (T1.setTop (mkF m 7 #[.val (.int p1)] [(.int p1)]))
  obtain ⟨_, _, ⟨T2, L2, k2, n2⟩, -, X2, ⟨Lc2, hQ2, l2, y2, z2⟩, st2⟩ := Jvm.LawKit.callS X1 hx (y := (⟨"java/lang/StringLatin1", "canEncode", "(C)Z"⟩ : MethodName)) hown (mvT hZ (hw _ (List.mem_of_getElem? (i := 9) rfl))) (mvT hZ (hw _ (List.mem_of_getElem? (i := 10) rfl))) (mvT hZ (hw _ (List.mem_of_getElem? (i := 11) rfl))) (mvT hZ (hw _ (List.mem_of_getElem? (i := 12) rfl))) (by decide) (backOf (W := 0) (own_ce l Z a0 hw [] p1 h0 n0 Z0 hc) hZ (hw _ (List.mem_of_getElem? (i := 12) rfl)) (hw _ (List.mem_of_getElem? (i := 11) rfl)) (by decide) (by decide)) (g := (mkF m 7 #[.val (.int p1)] [(.int p1)])) rfl (by rw [hml]; rfl) (argsL := [(.int p1)]) (rest := []) (lenOf own_pd33 rfl) rfl (by show 2 * 0 + _ ≤ _; exact Nat.le_of_eq rfl) (hb hby own_d32) (fun _ _ => ⟨rfl, e1, (by decide : 0 + 0 ≤ _), (by decide : 0 + 0 ≤ _)⟩)
  dsimp only [Pt.U, Pt.locs, Pt.cells, Pt.slots] at X2 l2 y2 z2 st2 hQ2
  subst l2 y2 z2
  obtain ⟨rfl, Nq2, eq2⟩ := hQ2
  have N2 := Fr.app N0 Nq2
  have e2 : T2.heap = h0 := eq2
  refine own_go (fun t k => st2 t k) ?_
  show OwnG p.tables e below _ (T2.setTop (mkF m 10 #[.val (.int p1)] [(.int (1 : Int32))]))
  refine own_go (fun t k => XS.ifNo X2.here hx rfl (hb hby own_d34) rfl ((if0 _ _).trans (feq (by decide : ¬ ((1 : Int32) = (0 : Int32)))).1) k) ?_
  show OwnG p.tables e below _ (T2.setTop (mkF m 13 #[.val (.int p1)] []))
  obtain ⟨T3, h3, X3, e3, E3, A3, D3, -, st3⟩ := newO X2 hx hZ hown (hw _ (List.mem_of_getElem? (i := 13) rfl)) (hw _ (List.mem_of_getElem? (i := 14) rfl)) (hw _ (List.mem_of_getElem? (i := 6) rfl)) e2 (g := (mkF m 13 #[.val (.int p1)] [])) rfl (hb hby own_d35) (by decide) (by decide)
  obtain ⟨b3, g3⟩ : ∃ z, z = h0.size := ⟨_, rfl⟩
  rw [← g3] at A3 D3 st3
  have g_b3 : n0 ≤ b3 := Nat.le_trans Z0 (Nat.le_of_eq g3.symm)
  have sz_b3 : h0.size ≤ b3 := Nat.le_trans K0.1 (Nat.le_of_eq g3.symm)
  have F4 : Old Z n0 h3 := O0.ext E3
  have K5 : Keep h0 h3 [] := K0.ext E3
  have Z5 : n0 ≤ h3.size := Nat.le_trans Z0 E3.1
  have F6 : Fld Z h3 b3 "java/lang/String" "value" "[B" .null := D3 (Or.inr (hw _ (List.mem_of_getElem? (i := 27) rfl))) (ty := (.array .byte)) (by decide)
  have F7 : Fld Z h3 b3 "java/lang/String" "coder" "B" (.int (0 : Int32)) := D3 (Or.inr (hw _ (List.mem_of_getElem? (i := 29) rfl))) (ty := .byte) (by decide)
  refine own_go (fun t k => st3 t k) ?_
  show OwnG p.tables e below _ (T3.setTop (mkF m 16 #[.val (.int p1)] [(.ref b3)]))
  refine own_go (fun t k => XS.dup X3.here hx rfl (hb hby own_d36) rfl rfl k) ?_
  show OwnG p.tables e below _ (T3.setTop (mkF m 17 #[.val (.int p1)] [(.ref b3), (.ref b3)]))
  refine own_go (fun t k => XS.iloadN X3.here hx rfl (hb hby own_d37) rfl  k) ?_
  show OwnG p.tables e below _ (T3.setTop (mkF m 18 #[.val (.int p1)] [(.int p1), (.ref b3), (.ref b3)]))
  obtain ⟨_, _, ⟨T8, L8, k8, n8⟩, -, X8, ⟨Lc8, hQ8, l8, y8, z8⟩, st8⟩ := Jvm.LawKit.callS X3 hx (y := (⟨"java/lang/StringLatin1", "toBytes", "(C)[B"⟩ : MethodName)) hown (mvT hZ (hw _ (List.mem_of_getElem? (i := 15) rfl))) (mvT hZ (hw _ (List.mem_of_getElem? (i := 16) rfl))) (mvT hZ (hw _ (List.mem_of_getElem? (i := 11) rfl))) (mvT hZ (hw _ (List.mem_of_getElem? (i := 17) rfl))) (by decide) (backOf (W := 2) (own_tb l Z a0 hw [] p1 h3 n0 Z5) hZ (hw _ (List.mem_of_getElem? (i := 17) rfl)) (hw _ (List.mem_of_getElem? (i := 11) rfl)) (by decide) (by decide)) (g := (mkF m 18 #[.val (.int p1)] [(.int p1), (.ref b3), (.ref b3)])) rfl (by rw [hml]; rfl) (argsL := [(.int p1)]) (rest := [(.ref b3), (.ref b3)]) (lenOf own_pd39 rfl) rfl (by show 2 * 0 + _ ≤ _; exact Nat.le_of_eq rfl) (hb hby own_d38) (fun _ _ => ⟨rfl, e3, (by decide : 1 + 1 ≤ _), (by decide : 4 + 1 ≤ _)⟩)
  dsimp only [Pt.U, Pt.locs, Pt.cells, Pt.slots] at X8 l8 y8 z8 st8 hQ8
  subst l8 y8 z8
  obtain ⟨xb_8, rfl, Nq8, Kq8⟩ := hQ8
  have N8 := Fr.app N2 Nq8
  have F9 : Old Z n0 T8.heap := F4.keep Kq8 all0
  have F10 : Exa Z T8.heap b3 "java/lang/String" := A3.keep Kq8
  have F11 : Fld Z T8.heap b3 "java/lang/String" "value" "[B" .null := F6.keep Kq8 nin0
  have F12 : Fld Z T8.heap b3 "java/lang/String" "coder" "B" (.int (0 : Int32)) := F7.keep Kq8 nin0
  have K8 : Keep h0 T8.heap [] := K5.trans Kq8 all0
  have Z8 : n0 ≤ T8.heap.size := Nat.le_trans Z5 Kq8.1
  refine own_go (fun t k => st8 t k) ?_
  show OwnG p.tables e below _ (T8.setTop (mkF m 21 #[.val (.int p1)] [(.ref xb_8), (.ref b3), (.ref b3)]))
  refine own_go (fun t k => XS.iconst X8.here hx rfl (hb hby own_d40) k) ?_
  show OwnG p.tables e below _ (T8.setTop (mkF m 22 #[.val (.int p1)] [(.int (0 : Int32)), (.ref xb_8), (.ref b3), (.ref b3)]))
  obtain ⟨_, _, ⟨T13, L13, k13, n13⟩, -, X13, ⟨Lc13, hQ13, l13, y13, z13⟩, st13⟩ := X8.specialBack hx (y := (⟨"java/lang/String", "<init>", "([BB)V"⟩ : MethodName)) rfl hown (mvT hZ (hw _ (List.mem_of_getElem? (i := 19) rfl))) (mvT hZ (hw _ (List.mem_of_getElem? (i := 20) rfl))) (mvT hZ (hw _ (List.mem_of_getElem? (i := 22) rfl))) (by decide) (backOf (W := 1) (own_si l Z a0 hw [] b3 xb_8 T8.heap n0 Z8 F10 F11 F12 g_b3) hZ (hw _ (List.mem_of_getElem? (i := 22) rfl)) (hw _ (List.mem_of_getElem? (i := 6) rfl)) (by decide) (by decide)) (g := (mkF m 22 #[.val (.int p1)] [(.int (0 : Int32)), (.ref xb_8), (.ref b3), (.ref b3)])) rfl (by rw [hml]; rfl) (Steps.refl _) (a := b3) (argsL := [(.ref xb_8), (.int (0 : Int32))]) (rest := [(.ref b3)]) (lenOf own_pd42 rfl) rfl (by show 2 * 0 + _ ≤ _; exact Nat.le_of_eq rfl) (hb hby own_d41) (fun _ _ => ⟨rfl, rfl, (by decide : 2 + 0 ≤ _), (by decide : 5 + 0 ≤ _)⟩)
  dsimp only [Pt.U, Pt.locs, Pt.cells, Pt.slots] at X13 l13 y13 z13 st13 hQ13
  subst l13 y13 z13
  obtain ⟨rfl, Nq13, Kq13, Fq13_0⟩ := hQ13
  have N13 := Fr.app N8 Nq13
  have F14 : Old Z n0 T13.heap := F9.keep Kq13 (allS g_b3 all0)
  have F15 : Exa Z T13.heap b3 "java/lang/String" := F10.keep Kq13
  have K13 : Keep h0 T13.heap [] := K8.trans Kq13 (allS (Or.inr sz_b3) all0)
  have Z13 : n0 ≤ T13.heap.size := Nat.le_trans Z8 Kq13.1
  refine own_go (fun t k => st13.trans k) ?_
  show OwnG p.tables e below _ (T13.setTop (mkF m 25 #[.val (.int p1)] [(.ref b3)]))
  obtain ⟨fs, hr, hrun, hended, hW, hsame⟩ := X13.leave (v := some (.ref b3)) (fun h => by rw [Bd.returns] at h; cases h)
  have hlast : Steps p.tables e below (T13.setTop (mkF m 25 #[.val (.int p1)] [(.ref b3)])) (T13.setFrames fs) := by
    exact retOut X13 hx (t := (.object "java/lang/String")) Bd.returns rfl (Or.inr (Or.inr (Or.inr (Or.inr ⟨rfl, rfl, rfl⟩)))) (hb hby own_d43) hr
  refine ⟨_, _, hlast, hrun, hended, _, _, rfl, ?_, ⟨_, rfl⟩, hW, hsame.mono (by decide) (by decide)⟩
  show Q_own_vo Z p1 i_COMPACT_STRINGS h0 n0 _ T13.heap _
  exact ⟨_, rfl, N13, K13⟩
theorem own_ef44 (m : MethodId) (a1 : Addr) (a2 : Addr) : entryFrame m #[(.ref a1), (.ref a2)] 2 = mkF m 0 #[.val (.ref a1), .val (.ref a2)] [] := by first | (simp [entryFrame, mkF, argsToLocals, Value.category]; done) | rfl
theorem own_pn45 : plainName "com/example/offst/offst/group/Member" = true := by first | (simp [plainName, overriddenIn]; done) | decide +kernel
theorem own_d46 : decode prog_26_method_1_code 0 = .ok (.aload_n 0, 1) := by decide +kernel
theorem own_d47 : decode prog_26_method_1_code 1 = .ok (.invokespecial 1, 3) := by decide +kernel
theorem own_d48 : decode prog_26_method_1_code 4 = .ok (.aload_n 0, 1) := by decide +kernel
theorem own_d49 : decode prog_26_method_1_code 5 = .ok (.getstatic 7, 3) := by decide +kernel
theorem own_d50 : decode prog_26_method_1_code 8 = .ok (.putfield 13, 3) := by decide +kernel
theorem own_d51 : decode prog_26_method_1_code 11 = .ok (.aload_n 0, 1) := by decide +kernel
theorem own_d52 : decode prog_26_method_1_code 12 = .ok (.aload_n 1, 1) := by decide +kernel
theorem own_d53 : decode prog_26_method_1_code 13 = .ok (.putfield 16, 3) := by decide +kernel
theorem own_d54 : decode prog_26_method_1_code 16 = .ok (.return_, 1) := by decide +kernel
def Q_own_mi (Z : State) (a1 : Addr) (a2 : Addr) (o_NO_ASSIGNMENT : Addr) (h0 : Heap) (n0 : Nat) (v : Option Value) (h : Heap) (L : List Loc) : Prop := v = none ∧ Fr n0 L ∧ Keep h0 h [a1] ∧ Exa Z h a1 "com/example/offst/offst/group/Member" ∧ Fld Z h a1 "com/example/offst/offst/group/Member" "assignment" "[B" (.ref o_NO_ASSIGNMENT) ∧ Fld Z h a1 "com/example/offst/offst/group/Member" "heldBytes" "J" (.long (0 : Int64)) ∧ Fld Z h a1 "com/example/offst/offst/group/Member" "joinedWith" "Lcom/example/offst/offst/protocol/JoinGroupRequest;" .null ∧ Fld Z h a1 "com/example/offst/offst/group/Member" "sessionDeadline" "J" (.long (0 : Int64)) ∧ Fld Z h a1 "com/example/offst/offst/group/Member" "joining" "Ljava/util/concurrent/CompletableFuture;" .null ∧ Fld Z h a1 "com/example/offst/offst/group/Member" "syncing" "Ljava/util/concurrent/CompletableFuture;" .null
set_option maxRecDepth 65536 in
set_option maxHeartbeats 40000000 in
theorem own_mi (l : Launch) (Z : State) (a0 : Array Value) (hw : ∀ d ∈ tables_1, d.before a0 Z = true) (ws : List Jvm.Cond) (a1 : Addr) (a2 : Addr) (o_NO_ASSIGNMENT : Addr) (h0 : Heap) (n0 : Nat) (Z0 : n0 ≤ h0.size) (O0 : Old Z n0 h0) (S_NO_ASSIGNMENT : Sta Z Z.heap "com/example/offst/offst/group/Member" "NO_ASSIGNMENT" "[B" (.ref o_NO_ASSIGNMENT)) (f0_0 : Exa Z h0 a1 "com/example/offst/offst/group/Member") (f0_1 : Fld Z h0 a1 "com/example/offst/offst/group/Member" "assignment" "[B" .null) (f0_2 : Fld Z h0 a1 "com/example/offst/offst/group/Member" "heldBytes" "J" (.long (0 : Int64))) (f0_3 : Fld Z h0 a1 "com/example/offst/offst/group/Member" "joinedWith" "Lcom/example/offst/offst/protocol/JoinGroupRequest;" .null) (f0_4 : Fld Z h0 a1 "com/example/offst/offst/group/Member" "sessionDeadline" "J" (.long (0 : Int64))) (f0_5 : Fld Z h0 a1 "com/example/offst/offst/group/Member" "joining" "Ljava/util/concurrent/CompletableFuture;" .null) (f0_6 : Fld Z h0 a1 "com/example/offst/offst/group/Member" "syncing" "Ljava/util/concurrent/CompletableFuture;" .null) (f0_7 : Fld Z h0 a1 "com/example/offst/offst/group/Member" "id" "Ljava/lang/String;" .null) (g_a1 : n0 ≤ a1) :
    MetFree l (⟨"com/example/offst/offst/group/Member", "<init>", "(Ljava/lang/String;)V"⟩ : MethodName) (head1 (Jvm.Cond.code (⟨"com/example/offst/offst/group/Member", "<init>", "(Ljava/lang/String;)V"⟩ : MethodName) prog_26_method_1_code 2 none :: ws) ({ frames := 1, cells := 0, slots := 0, locals := 12 } : Room)) (fun a U => a = #[(.ref a1), (.ref a2)] ∧ Z.Warmed39 U.vm ∧ U.heap = h0) (fun _ _ _ _ _ => True) (fun _ U o U' => ∃ v L, o = .returned v ∧ Q_own_mi Z a1 a2 o_NO_ASSIGNMENT h0 n0 v U'.heap L ∧ FrameEnd U o U' L ({ frames := 1, cells := 0, slots := 0, locals := 12 } : Room).cells ({ frames := 1, cells := 0, slots := 0, locals := 12 } : Room).slots) := by
  refine MetFree.of_bodySF (plainFor_of_name own_pn45) hisR ?_
  intro p e s m args below meth c s₁ Bd hml0 hP hK
  obtain ⟨rfl, hZ, hh⟩ := hP
  have hx := Bd.exec
  have hby := Bd.bytes
  have hml : c.maxLocals = 2 := hml0
  have hown : s.vm.findClass "com/example/offst/offst/group/Member" = some m.cls := findClass_of_methodNamed Bd.named
  have hnm := (name_of_methodNamed Bd.named Bd.method).1
  have X0 : Stand p l e ({ frames := 1, cells := 0, slots := 0, locals := 12 } : Room) s m #[(.ref a1), (.ref a2)] below meth c s₁ [] 0 0 := Stand.of_body Bd
  have e0 : s₁.heap = h0 := by rw [← hh, Bd.state]; rfl
  have N0 := Fr.nil n0
  have K0 := Keep.refl h0 [a1]
  refine own_go (fun t k => castTop (own_ef44 m a1 a2) k) ?_
  show OwnG p.tables e below _ (s₁.setTop (mkF m 0 #[.val (.ref a1), .val (.ref a2)] []))
  refine own_go (fun t k => XS.aloadN X0.here hx rfl (hb hby own_d46) rfl rfl k) ?_
  show OwnG p.tables e below _ (s₁.setTop (mkF m 1 #[.val (.ref a1), .val (.ref a2)] [(.ref a1)]))
  obtain ⟨T1, X1, e1, st1⟩ := initO X0 hx hZ hown (hw _ (List.mem_of_getElem? (i := 33) rfl)) (hw _ (List.mem_of_getElem? (i := 24) rfl)) (hw _ (List.mem_of_getElem? (i := 25) rfl)) e0 (g := (mkF m 1 #[.val (.ref a1), .val (.ref a2)] [(.ref a1)])) rfl (by rw [hml]; rfl) rfl (hb hby own_d47) (by decide) (W := 0) (by show 2 * 0 + _ ≤ _; exact Nat.le_of_eq rfl) (by decide)
  refine own_go (fun t k => st1 t k) ?_
  show OwnG p.tables e below _ (T1.setTop (mkF m 4 #[.val (.ref a1), .val (.ref a2)] []))
  refine own_go (fun t k => XS.aloadN X1.here hx rfl (hb hby own_d48) rfl rfl k) ?_
  show OwnG p.tables e below _ (T1.setTop (mkF m 5 #[.val (.ref a1), .val (.ref a2)] [(.ref a1)]))
  obtain ⟨T2, X2, e2, st2⟩ := getS2 X1 hx hZ hown (host := "") (Or.inl (hw _ (List.mem_of_getElem? (i := 34) rfl))) Via.refl e1 (S_NO_ASSIGNMENT.ext O0.2) (g := (mkF m 5 #[.val (.ref a1), .val (.ref a2)] [(.ref a1)])) rfl (hb hby own_d49)
  refine own_go (fun t k => st2 t k) ?_
  show OwnG p.tables e below _ (T2.setTop (mkF m 8 #[.val (.ref a1), .val (.ref a2)] [(.ref o_NO_ASSIGNMENT), (.ref a1)]))
  obtain ⟨T3, h3, X3, e3, W3, st3⟩ := putF X2 hx hZ hown (host := "") (Or.inl (hw _ (List.mem_of_getElem? (i := 36) rfl))) Via.refl e2 f0_1 f0_0 (Or.inl (hw _ (List.mem_of_getElem? (i := 37) rfl))) (hw _ (List.mem_of_getElem? (i := 2) rfl)) (ty := (.array .byte)) (by decide) rfl rfl (g := (mkF m 8 #[.val (.ref a1), .val (.ref a2)] [(.ref o_NO_ASSIGNMENT), (.ref a1)])) rfl rfl (hb hby own_d50)
  have F4 : Exa Z h3 a1 "com/example/offst/offst/group/Member" := f0_0.wr W3
  have F5 : Fld Z h3 a1 "com/example/offst/offst/group/Member" "assignment" "[B" (.ref o_NO_ASSIGNMENT) := f0_1.same W3
  have F6 : Fld Z h3 a1 "com/example/offst/offst/group/Member" "heldBytes" "J" (.long (0 : Int64)) := f0_2.other W3 (Or.inr (slot_ne (Or.inl (hw _ (List.mem_of_getElem? (i := 103) rfl))) (Or.inl (hw _ (List.mem_of_getElem? (i := 37) rfl))) (by decide) (t := .long) (t' := (.array .byte)) (by decide) (by decide)))
  have F7 : Fld Z h3 a1 "com/example/offst/offst/group/Member" "joinedWith" "Lcom/example/offst/offst/protocol/JoinGroupRequest;" .null := f0_3.other W3 (Or.inr (slot_ne (Or.inl (hw _ (List.mem_of_getElem? (i := 101) rfl))) (Or.inl (hw _ (List.mem_of_getElem? (i := 37) rfl))) (by decide) (t := (.object "com/example/offst/offst/protocol/JoinGroupRequest")) (t' := (.array .byte)) (by decide) (by decide)))
  have F8 : Fld Z h3 a1 "com/example/offst/offst/group/Member" "sessionDeadline" "J" (.long (0 : Int64)) := f0_4.other W3 (Or.inr (slot_ne (Or.inl (hw _ (List.mem_of_getElem? (i := 126) rfl))) (Or.inl (hw _ (List.mem_of_getElem? (i := 37) rfl))) (by decide) (t := .long) (t' := (.array .byte)) (by decide) (by decide)))
  have F9 : Fld Z h3 a1 "com/example/offst/offst/group/Member" "joining" "Ljava/util/concurrent/CompletableFuture;" .null := f0_5.other W3 (Or.inr (slot_ne (Or.inl (hw _ (List.mem_of_getElem? (i := 133) rfl))) (Or.inl (hw _ (List.mem_of_getElem? (i := 37) rfl))) (by decide) (t := (.object "java/util/concurrent/CompletableFuture")) (t' := (.array .byte)) (by decide) (by decide)))
  have F10 : Fld Z h3 a1 "com/example/offst/offst/group/Member" "syncing" "Ljava/util/concurrent/CompletableFuture;" .null := f0_6.other W3 (Or.inr (slot_ne (Or.inl (hw _ (List.mem_of_getElem? (i := 135) rfl))) (Or.inl (hw _ (List.mem_of_getElem? (i := 37) rfl))) (by decide) (t := (.object "java/util/concurrent/CompletableFuture")) (t' := (.array .byte)) (by decide) (by decide)))
  have F11 : Fld Z h3 a1 "com/example/offst/offst/group/Member" "id" "Ljava/lang/String;" .null := f0_7.other W3 (Or.inr (slot_ne (Or.inr (hw _ (List.mem_of_getElem? (i := 39) rfl))) (Or.inl (hw _ (List.mem_of_getElem? (i := 37) rfl))) (by decide) (t := (.object "java/lang/String")) (t' := (.array .byte)) (by decide) (by decide)))
  have F12 : Old Z n0 h3 := O0.wr W3 g_a1
  have N13 := Fr.snoc X3 N0 g_a1
  have K13 : Keep h0 h3 [a1] := K0.wr W3 (Or.inl (List.mem_of_getElem? (i := 0) rfl))
  have Z13 : n0 ≤ h3.size := Nat.le_trans Z0 (Keep.of_wr W3).1
  refine own_go (fun t k => st3 t k) ?_
  show OwnG p.tables e below _ (T3.setTop (mkF m 11 #[.val (.ref a1), .val (.ref a2)] []))
  refine own_go (fun t k => XS.aloadN X3.here hx rfl (hb hby own_d51) rfl rfl k) ?_
  show OwnG p.tables e below _ (T3.setTop (mkF m 12 #[.val (.ref a1), .val (.ref a2)] [(.ref a1)]))
  refine own_go (fun t k => XS.aloadN X3.here hx rfl (hb hby own_d52) rfl rfl k) ?_
  show OwnG p.tables e below _ (T3.setTop (mkF m 13 #[.val (.ref a1), .val (.ref a2)] [(.ref a2), (.ref a1)]))
  obtain ⟨T14, h14, X14, e14, W14, st14⟩ := putF X3 hx hZ hown (host := "") (Or.inl (hw _ (List.mem_of_getElem? (i := 38) rfl))) Via.refl e3 F11 F4 (Or.inr ⟨(hw _ (List.mem_of_getElem? (i := 39) rfl)), rfl, hnm⟩) (hw _ (List.mem_of_getElem? (i := 2) rfl)) (ty := (.object "java/lang/String")) (by decide) rfl rfl (g := (mkF m 13 #[.val (.ref a1), .val (.ref a2)] [(.ref a2), (.ref a1)])) rfl rfl (hb hby own_d53)
  have F15 : Exa Z h14 a1 "com/example/offst/offst/group/Member" := F4.wr W14
  have F16 : Fld Z h14 a1 "com/example/offst/offst/group/Member" "assignment" "[B" (.ref o_NO_ASSIGNMENT) := F5.other W14 (Or.inr (slot_ne (Or.inl (hw _ (List.mem_of_getElem? (i := 37) rfl))) (Or.inr (hw _ (List.mem_of_getElem? (i := 39) rfl))) (by decide) (t := (.array .byte)) (t' := (.object "java/lang/String")) (by decide) (by decide)))
  have F17 : Fld Z h14 a1 "com/example/offst/offst/group/Member" "heldBytes" "J" (.long (0 : Int64)) := F6.other W14 (Or.inr (slot_ne (Or.inl (hw _ (List.mem_of_getElem? (i := 103) rfl))) (Or.inr (hw _ (List.mem_of_getElem? (i := 39) rfl))) (by decide) (t := .long) (t' := (.object "java/lang/String")) (by decide) (by decide)))
  have F18 : Fld Z h14 a1 "com/example/offst/offst/group/Member" "joinedWith" "Lcom/example/offst/offst/protocol/JoinGroupRequest;" .null := F7.other W14 (Or.inr (slot_ne (Or.inl (hw _ (List.mem_of_getElem? (i := 101) rfl))) (Or.inr (hw _ (List.mem_of_getElem? (i := 39) rfl))) (by decide) (t := (.object "com/example/offst/offst/protocol/JoinGroupRequest")) (t' := (.object "java/lang/String")) (by decide) (by decide)))
  have F19 : Fld Z h14 a1 "com/example/offst/offst/group/Member" "sessionDeadline" "J" (.long (0 : Int64)) := F8.other W14 (Or.inr (slot_ne (Or.inl (hw _ (List.mem_of_getElem? (i := 126) rfl))) (Or.inr (hw _ (List.mem_of_getElem? (i := 39) rfl))) (by decide) (t := .long) (t' := (.object "java/lang/String")) (by decide) (by decide)))
  have F20 : Fld Z h14 a1 "com/example/offst/offst/group/Member" "joining" "Ljava/util/concurrent/CompletableFuture;" .null := F9.other W14 (Or.inr (slot_ne (Or.inl (hw _ (List.mem_of_getElem? (i := 133) rfl))) (Or.inr (hw _ (List.mem_of_getElem? (i := 39) rfl))) (by decide) (t := (.object "java/util/concurrent/CompletableFuture")) (t' := (.object "java/lang/String")) (by decide) (by decide)))
  have F21 : Fld Z h14 a1 "com/example/offst/offst/group/Member" "syncing" "Ljava/util/concurrent/CompletableFuture;" .null := F10.other W14 (Or.inr (slot_ne (Or.inl (hw _ (List.mem_of_getElem? (i := 135) rfl))) (Or.inr (hw _ (List.mem_of_getElem? (i := 39) rfl))) (by decide) (t := (.object "java/util/concurrent/CompletableFuture")) (t' := (.object "java/lang/String")) (by decide) (by decide)))
  have F22 : Fld Z h14 a1 "com/example/offst/offst/group/Member" "id" "Ljava/lang/String;" (.ref a2) := F11.same W14
  have F23 : Old Z n0 h14 := F12.wr W14 g_a1
  have N24 := Fr.snoc X14 N13 g_a1
  have K24 : Keep h0 h14 [a1] := K13.wr W14 (Or.inl (List.mem_of_getElem? (i := 0) rfl))
  have Z24 : n0 ≤ h14.size := Nat.le_trans Z13 (Keep.of_wr W14).1
  refine own_go (fun t k => st14 t k) ?_
  show OwnG p.tables e below _ (T14.setTop (mkF m 16 #[.val (.ref a1), .val (.ref a2)] []))
  obtain ⟨fs, hr, hrun, hended, hW, hsame⟩ := X14.leave (v := none) (fun _ => rfl)
  refine ⟨_, _, X14.returnOut hx Bd.returns (hb hby own_d54) hr, hrun, hended, _, _, rfl, ?_, ⟨_, rfl⟩, hW, hsame.mono (by decide) (by decide)⟩
  show Q_own_mi Z a1 a2 o_NO_ASSIGNMENT h0 n0 _ T14.heap _
  rw [e14]
  exact ⟨rfl, N24, K24, F15, F16, F17, F18, F19, F20, F21⟩
theorem own_ef55 (m : MethodId) (a1 : Addr) : entryFrame m #[(.ref a1)] 1 = mkF m 0 #[.val (.ref a1)] [] := by first | (simp [entryFrame, mkF, argsToLocals, Value.category]; done) | rfl
theorem own_pn56 : plainName "java/util/AbstractCollection" = true := by first | (simp [plainName, overriddenIn]; done) | decide +kernel
theorem own_d57 : decode jdk_22_method_1_code 0 = .ok (.aload_n 0, 1) := by decide +kernel
theorem own_d58 : decode jdk_22_method_1_code 1 = .ok (.invokespecial 1, 3) := by decide +kernel
theorem own_d59 : decode jdk_22_method_1_code 4 = .ok (.return_, 1) := by decide +kernel
def Q_own_ac (Z : State) (a1 : Addr) (h0 : Heap) (n0 : Nat) (v : Option Value) (h : Heap) (L : List Loc) : Prop := v = none ∧ Fr n0 L ∧ h = h0
set_option maxRecDepth 65536 in
set_option maxHeartbeats 40000000 in
theorem own_ac (l : Launch) (Z : State) (a0 : Array Value) (hw : ∀ d ∈ tables_1, d.before a0 Z = true) (ws : List Jvm.Cond) (a1 : Addr) (h0 : Heap) (n0 : Nat) (Z0 : n0 ≤ h0.size) :
    MetFree l (⟨"java/util/AbstractCollection", "<init>", "()V"⟩ : MethodName) (head1 (Jvm.Cond.code (⟨"java/util/AbstractCollection", "<init>", "()V"⟩ : MethodName) jdk_22_method_1_code 1 none :: ws) ({ frames := 1, cells := 0, slots := 0, locals := 12 } : Room)) (fun a U => a = #[(.ref a1)] ∧ Z.Warmed39 U.vm ∧ U.heap = h0) (fun _ _ _ _ _ => True) (fun _ U o U' => ∃ v L, o = .returned v ∧ Q_own_ac Z a1 h0 n0 v U'.heap L ∧ FrameEnd U o U' L ({ frames := 1, cells := 0, slots := 0, locals := 12 } : Room).cells ({ frames := 1, cells := 0, slots := 0, locals := 12 } : Room).slots) := by
  refine MetFree.of_bodySF (plainFor_of_name own_pn56) hisR ?_
  intro p e s m args below meth c s₁ Bd hml0 hP hK
  obtain ⟨rfl, hZ, hh⟩ := hP
  have hx := Bd.exec
  have hby := Bd.bytes
  have hml : c.maxLocals = 1 := hml0
  have hown : s.vm.findClass "java/util/AbstractCollection" = some m.cls := findClass_of_methodNamed Bd.named
  have hnm := (name_of_methodNamed Bd.named Bd.method).1
  have X0 : Stand p l e ({ frames := 1, cells := 0, slots := 0, locals := 12 } : Room) s m #[(.ref a1)] below meth c s₁ [] 0 0 := Stand.of_body Bd
  have e0 : s₁.heap = h0 := by rw [← hh, Bd.state]; rfl
  have N0 := Fr.nil n0
  have K0 := Keep.refl h0 []
  refine own_go (fun t k => castTop (own_ef55 m a1) k) ?_
  show OwnG p.tables e below _ (s₁.setTop (mkF m 0 #[.val (.ref a1)] []))
  refine own_go (fun t k => XS.aloadN X0.here hx rfl (hb hby own_d57) rfl rfl k) ?_
  show OwnG p.tables e below _ (s₁.setTop (mkF m 1 #[.val (.ref a1)] [(.ref a1)]))
  obtain ⟨T1, X1, e1, st1⟩ := initO X0 hx hZ hown (hw _ (List.mem_of_getElem? (i := 58) rfl)) (hw _ (List.mem_of_getElem? (i := 24) rfl)) (hw _ (List.mem_of_getElem? (i := 25) rfl)) e0 (g := (mkF m 1 #[.val (.ref a1)] [(.ref a1)])) rfl (by rw [hml]; rfl) rfl (hb hby own_d58) (by decide) (W := 0) (by show 2 * 0 + _ ≤ _; exact Nat.le_of_eq rfl) (by decide)
  refine own_go (fun t k => st1 t k) ?_
  show OwnG p.tables e below _ (T1.setTop (mkF m 4 #[.val (.ref a1)] []))
  obtain ⟨fs, hr, hrun, hended, hW, hsame⟩ := X1.leave (v := none) (fun _ => rfl)
  refine ⟨_, _, X1.returnOut hx Bd.returns (hb hby own_d59) hr, hrun, hended, _, _, rfl, ?_, ⟨_, rfl⟩, hW, hsame.mono (by decide) (by decide)⟩
  show Q_own_ac Z a1 h0 n0 _ T1.heap _
  rw [e1]
  exact ⟨rfl, N0, rfl⟩
theorem own_ef60 (m : MethodId) (a1 : Addr) : entryFrame m #[(.ref a1)] 1 = mkF m 0 #[.val (.ref a1)] [] := by first | (simp [entryFrame, mkF, argsToLocals, Value.category]; done) | rfl
theorem own_pn61 : plainName "java/util/AbstractList" = true := by first | (simp [plainName, overriddenIn]; done) | decide +kernel
theorem own_d62 : decode jdk_39_method_1_code 0 = .ok (.aload_n 0, 1) := by decide +kernel
theorem own_d63 : decode jdk_39_method_1_code 1 = .ok (.invokespecial 1, 3) := by decide +kernel
theorem own_pd64 : parseMethodDescriptor "()V" = some ⟨[], none⟩ := by decide +kernel
theorem own_d65 : decode jdk_39_method_1_code 4 = .ok (.aload_n 0, 1) := by decide +kernel
theorem own_d66 : decode jdk_39_method_1_code 5 = .ok (.iconst 0, 1) := by decide +kernel
theorem own_d67 : decode jdk_39_method_1_code 6 = .ok (.putfield 7, 3) := by decide +kernel
theorem own_d68 : decode jdk_39_method_1_code 9 = .ok (.return_, 1) := by decide +kernel
def Q_own_ab (Z : State) (a1 : Addr) (h0 : Heap) (n0 : Nat) (v : Option Value) (h : Heap) (L : List Loc) : Prop := v = none ∧ Fr n0 L ∧ Keep h0 h [a1] ∧ Exa Z h a1 "java/util/ArrayList" ∧ Fld Z h a1 "java/util/ArrayList" "elementData" "[Ljava/lang/Object;" .null
set_option maxRecDepth 65536 in
set_option maxHeartbeats 40000000 in
theorem own_ab (l : Launch) (Z : State) (a0 : Array Value) (hw : ∀ d ∈ tables_1, d.before a0 Z = true) (ws : List Jvm.Cond) (a1 : Addr) (h0 : Heap) (n0 : Nat) (Z0 : n0 ≤ h0.size) (f0_0 : Exa Z h0 a1 "java/util/ArrayList") (f0_1 : Fld Z h0 a1 "java/util/AbstractList" "modCount" "I" (.int (0 : Int32))) (f0_2 : Fld Z h0 a1 "java/util/ArrayList" "elementData" "[Ljava/lang/Object;" .null) (g_a1 : n0 ≤ a1) :
    MetFree l (⟨"java/util/AbstractList", "<init>", "()V"⟩ : MethodName) (head1 (Jvm.Cond.code (⟨"java/util/AbstractList", "<init>", "()V"⟩ : MethodName) jdk_39_method_1_code 1 none :: ws) ({ frames := 2, cells := 0, slots := 0, locals := 24 } : Room)) (fun a U => a = #[(.ref a1)] ∧ Z.Warmed39 U.vm ∧ U.heap = h0) (fun _ _ _ _ _ => True) (fun _ U o U' => ∃ v L, o = .returned v ∧ Q_own_ab Z a1 h0 n0 v U'.heap L ∧ FrameEnd U o U' L ({ frames := 2, cells := 0, slots := 0, locals := 24 } : Room).cells ({ frames := 2, cells := 0, slots := 0, locals := 24 } : Room).slots) := by
  refine MetFree.of_bodySF (plainFor_of_name own_pn61) hisR ?_
  intro p e s m args below meth c s₁ Bd hml0 hP hK
  obtain ⟨rfl, hZ, hh⟩ := hP
  have hx := Bd.exec
  have hby := Bd.bytes
  have hml : c.maxLocals = 1 := hml0
  have hown : s.vm.findClass "java/util/AbstractList" = some m.cls := findClass_of_methodNamed Bd.named
  have hnm := (name_of_methodNamed Bd.named Bd.method).1
  have X0 : Stand p l e ({ frames := 2, cells := 0, slots := 0, locals := 24 } : Room) s m #[(.ref a1)] below meth c s₁ [] 0 0 := Stand.of_body Bd
  have e0 : s₁.heap = h0 := by rw [← hh, Bd.state]; rfl
  have N0 := Fr.nil n0
  have K0 := Keep.refl h0 [a1]
  refine own_go (fun t k => castTop (own_ef60 m a1) k) ?_
  show OwnG p.tables e below _ (s₁.setTop (mkF m 0 #[.val (.ref a1)] []))
  refine own_go (fun t k => XS.aloadN X0.here hx rfl (hb hby own_d62) rfl rfl k) ?_
  show OwnG p.tables e below _ (s₁.setTop (mkF m 1 #[.val (.ref a1)] [(.ref a1)]))
  obtain ⟨_, _, ⟨T1, L1, k1, n1⟩, -, X1, ⟨Lc1, hQ1, l1, y1, z1⟩, st1⟩ := X0.specialBack hx (y := (⟨"java/util/AbstractCollection", "<init>", "()V"⟩ : MethodName)) rfl hown (mvT hZ (hw _ (List.mem_of_getElem? (i := 52) rfl))) (mvT hZ (hw _ (List.mem_of_getElem? (i := 53) rfl))) (mvT hZ (hw _ (List.mem_of_getElem? (i := 57) rfl))) (by decide) (backOf (W := 0) (own_ac l Z a0 hw [] a1 h0 n0 Z0) hZ (hw _ (List.mem_of_getElem? (i := 57) rfl)) (hw _ (List.mem_of_getElem? (i := 56) rfl)) (by decide) (by decide)) (g := (mkF m 1 #[.val (.ref a1)] [(.ref a1)])) rfl (by rw [hml]; rfl) (Steps.refl _) (a := a1) (argsL := []) (rest := []) (lenOf own_pd64 rfl) rfl (by show 2 * 0 + _ ≤ _; exact Nat.le_of_eq rfl) (hb hby own_d63) (fun _ _ => ⟨rfl, e0, (by decide : 0 + 0 ≤ _), (by decide : 0 + 0 ≤ _)⟩)
  dsimp only [Pt.U, Pt.locs, Pt.cells, Pt.slots] at X1 l1 y1 z1 st1 hQ1
  subst l1 y1 z1
  obtain ⟨rfl, Nq1, eq1⟩ := hQ1
  have N1 := Fr.app N0 Nq1
  have e1 : T1.heap = h0 := eq1
  refine own_go (fun t k => st1.trans k) ?_
  show OwnG p.tables e below _ (T1.setTop (mkF m 4 #[.val (.ref a1)] []))
  refine own_go (fun t k => XS.aloadN X1.here hx rfl (hb hby own_d65) rfl rfl k) ?_
  show OwnG p.tables e below _ (T1.setTop (mkF m 5 #[.val (.ref a1)] [(.ref a1)]))
  refine own_go (fun t k => XS.iconst X1.here hx rfl (hb hby own_d66) k) ?_
  show OwnG p.tables e below _ (T1.setTop (mkF m 6 #[.val (.ref a1)] [(.int (0 : Int32)), (.ref a1)]))
  obtain ⟨T2, h2, X2, e2, W2, st2⟩ := putF X1 hx hZ hown (host := "") (Or.inl (hw _ (List.mem_of_getElem? (i := 59) rfl))) Via.refl e1 f0_1 f0_0 (Or.inl (hw _ (List.mem_of_getElem? (i := 60) rfl))) (hw _ (List.mem_of_getElem? (i := 41) rfl)) (ty := .int) (by decide) rfl rfl (g := (mkF m 6 #[.val (.ref a1)] [(.int (0 : Int32)), (.ref a1)])) rfl rfl (hb hby own_d67)
  have F3 : Exa Z h2 a1 "java/util/ArrayList" := f0_0.wr W2
  have F4 : Fld Z h2 a1 "java/util/AbstractList" "modCount" "I" (.int (0 : Int32)) := f0_1.same W2
  have F5 : Fld Z h2 a1 "java/util/ArrayList" "elementData" "[Ljava/lang/Object;" .null := f0_2.other W2 (Or.inr (slot_ne (Or.inl (hw _ (List.mem_of_getElem? (i := 63) rfl))) (Or.inl (hw _ (List.mem_of_getElem? (i := 60) rfl))) (by decide) (t := (.array (.object "java/lang/Object"))) (t' := .int) (by decide) (by decide)))
  have N6 := Fr.snoc X2 N1 g_a1
  have K6 : Keep h0 h2 [a1] := K0.wr W2 (Or.inl (List.mem_of_getElem? (i := 0) rfl))
  have Z6 : n0 ≤ h2.size := Nat.le_trans Z0 (Keep.of_wr W2).1
  refine own_go (fun t k => st2 t k) ?_
  show OwnG p.tables e below _ (T2.setTop (mkF m 9 #[.val (.ref a1)] []))
  obtain ⟨fs, hr, hrun, hended, hW, hsame⟩ := X2.leave (v := none) (fun _ => rfl)
  refine ⟨_, _, X2.returnOut hx Bd.returns (hb hby own_d68) hr, hrun, hended, _, _, rfl, ?_, ⟨_, rfl⟩, hW, hsame.mono (by decide) (by decide)⟩
  show Q_own_ab Z a1 h0 n0 _ T2.heap _
  rw [e2]
  exact ⟨rfl, N6, K6, F3, F5⟩
theorem own_ef69 (m : MethodId) (a1 : Addr) : entryFrame m #[(.ref a1)] 1 = mkF m 0 #[.val (.ref a1)] [] := by first | (simp [entryFrame, mkF, argsToLocals, Value.category]; done) | rfl
theorem own_pn70 : plainName "java/util/ArrayList" = true := by first | (simp [plainName, overriddenIn]; done) | decide +kernel
theorem own_d71 : decode jdk_38_method_2_code 0 = .ok (.aload_n 0, 1) := by decide +kernel
theorem own_d72 : decode jdk_38_method_2_code 1 = .ok (.invokespecial 1, 3) := by decide +kernel
theorem own_d73 : decode jdk_38_method_2_code 4 = .ok (.aload_n 0, 1) := by decide +kernel
theorem own_d74 : decode jdk_38_method_2_code 5 = .ok (.getstatic 39, 3) := by decide +kernel
theorem own_d75 : decode jdk_38_method_2_code 8 = .ok (.putfield 9, 3) := by decide +kernel
theorem own_d76 : decode jdk_38_method_2_code 11 = .ok (.return_, 1) := by decide +kernel
def Q_own_al (Z : State) (a1 : Addr) (o_DEFAULTCAPACITY_EMPTY_ELEMENTDATA : Addr) (h0 : Heap) (n0 : Nat) (v : Option Value) (h : Heap) (L : List Loc) : Prop := v = none ∧ Fr n0 L ∧ Keep h0 h [a1] ∧ Exa Z h a1 "java/util/ArrayList"
set_option maxRecDepth 65536 in
set_option maxHeartbeats 40000000 in
theorem own_al (l : Launch) (Z : State) (a0 : Array Value) (hw : ∀ d ∈ tables_1, d.before a0 Z = true) (ws : List Jvm.Cond) (a1 : Addr) (o_DEFAULTCAPACITY_EMPTY_ELEMENTDATA : Addr) (h0 : Heap) (n0 : Nat) (Z0 : n0 ≤ h0.size) (O0 : Old Z n0 h0) (S_DEFAULTCAPACITY_EMPTY_ELEMENTDATA : Sta Z Z.heap "java/util/ArrayList" "DEFAULTCAPACITY_EMPTY_ELEMENTDATA" "[Ljava/lang/Object;" (.ref o_DEFAULTCAPACITY_EMPTY_ELEMENTDATA)) (f0_0 : Exa Z h0 a1 "java/util/ArrayList") (f0_1 : Fld Z h0 a1 "java/util/AbstractList" "modCount" "I" (.int (0 : Int32))) (f0_2 : Fld Z h0 a1 "java/util/ArrayList" "elementData" "[Ljava/lang/Object;" .null) (g_a1 : n0 ≤ a1) :
    MetFree l (⟨"java/util/ArrayList", "<init>", "()V"⟩ : MethodName) (head1 (Jvm.Cond.code (⟨"java/util/ArrayList", "<init>", "()V"⟩ : MethodName) jdk_38_method_2_code 1 none :: ws) ({ frames := 3, cells := 0, slots := 0, locals := 36 } : Room)) (fun a U => a = #[(.ref a1)] ∧ Z.Warmed39 U.vm ∧ U.heap = h0) (fun _ _ _ _ _ => True) (fun _ U o U' => ∃ v L, o = .returned v ∧ Q_own_al Z a1 o_DEFAULTCAPACITY_EMPTY_ELEMENTDATA h0 n0 v U'.heap L ∧ FrameEnd U o U' L ({ frames := 3, cells := 0, slots := 0, locals := 36 } : Room).cells ({ frames := 3, cells := 0, slots := 0, locals := 36 } : Room).slots) := by
  refine MetFree.of_bodySF (plainFor_of_name own_pn70) hisR ?_
  intro p e s m args below meth c s₁ Bd hml0 hP hK
  obtain ⟨rfl, hZ, hh⟩ := hP
  have hx := Bd.exec
  have hby := Bd.bytes
  have hml : c.maxLocals = 1 := hml0
  have hown : s.vm.findClass "java/util/ArrayList" = some m.cls := findClass_of_methodNamed Bd.named
  have hnm := (name_of_methodNamed Bd.named Bd.method).1
  have X0 : Stand p l e ({ frames := 3, cells := 0, slots := 0, locals := 36 } : Room) s m #[(.ref a1)] below meth c s₁ [] 0 0 := Stand.of_body Bd
  have e0 : s₁.heap = h0 := by rw [← hh, Bd.state]; rfl
  have N0 := Fr.nil n0
  have K0 := Keep.refl h0 [a1]
  refine own_go (fun t k => castTop (own_ef69 m a1) k) ?_
  show OwnG p.tables e below _ (s₁.setTop (mkF m 0 #[.val (.ref a1)] []))
  refine own_go (fun t k => XS.aloadN X0.here hx rfl (hb hby own_d71) rfl rfl k) ?_
  show OwnG p.tables e below _ (s₁.setTop (mkF m 1 #[.val (.ref a1)] [(.ref a1)]))
  obtain ⟨_, _, ⟨T1, L1, k1, n1⟩, -, X1, ⟨Lc1, hQ1, l1, y1, z1⟩, st1⟩ := X0.specialBack hx (y := (⟨"java/util/AbstractList", "<init>", "()V"⟩ : MethodName)) rfl hown (mvT hZ (hw _ (List.mem_of_getElem? (i := 46) rfl))) (mvT hZ (hw _ (List.mem_of_getElem? (i := 47) rfl))) (mvT hZ (hw _ (List.mem_of_getElem? (i := 51) rfl))) (by decide) (backOf (W := 0) (own_ab l Z a0 hw [] a1 h0 n0 Z0 f0_0 f0_1 f0_2 g_a1) hZ (hw _ (List.mem_of_getElem? (i := 51) rfl)) (hw _ (List.mem_of_getElem? (i := 50) rfl)) (by decide) (by decide)) (g := (mkF m 1 #[.val (.ref a1)] [(.ref a1)])) rfl (by rw [hml]; rfl) (Steps.refl _) (a := a1) (argsL := []) (rest := []) (lenOf own_pd64 rfl) rfl (by show 2 * 0 + _ ≤ _; exact Nat.le_of_eq rfl) (hb hby own_d72) (fun _ _ => ⟨rfl, e0, (by decide : 0 + 0 ≤ _), (by decide : 0 + 0 ≤ _)⟩)
  dsimp only [Pt.U, Pt.locs, Pt.cells, Pt.slots] at X1 l1 y1 z1 st1 hQ1
  subst l1 y1 z1
  obtain ⟨rfl, Nq1, Kq1, Fq1_0, Fq1_1⟩ := hQ1
  have N1 := Fr.app N0 Nq1
  have F2 : Exa Z T1.heap a1 "java/util/ArrayList" := f0_0.keep Kq1
  have F3 : Old Z n0 T1.heap := O0.keep Kq1 (allS g_a1 all0)
  have K1 : Keep h0 T1.heap [a1] := K0.trans Kq1 (allS (Or.inl (List.mem_of_getElem? (i := 0) rfl)) all0)
  have Z1 : n0 ≤ T1.heap.size := Nat.le_trans Z0 Kq1.1
  refine own_go (fun t k => st1.trans k) ?_
  show OwnG p.tables e below _ (T1.setTop (mkF m 4 #[.val (.ref a1)] []))
  refine own_go (fun t k => XS.aloadN X1.here hx rfl (hb hby own_d73) rfl rfl k) ?_
  show OwnG p.tables e below _ (T1.setTop (mkF m 5 #[.val (.ref a1)] [(.ref a1)]))
  obtain ⟨T4, X4, e4, st4⟩ := getS2 X1 hx hZ hown (host := "") (Or.inl (hw _ (List.mem_of_getElem? (i := 61) rfl))) Via.refl rfl (S_DEFAULTCAPACITY_EMPTY_ELEMENTDATA.ext F3.2) (g := (mkF m 5 #[.val (.ref a1)] [(.ref a1)])) rfl (hb hby own_d74)
  refine own_go (fun t k => st4 t k) ?_
  show OwnG p.tables e below _ (T4.setTop (mkF m 8 #[.val (.ref a1)] [(.ref o_DEFAULTCAPACITY_EMPTY_ELEMENTDATA), (.ref a1)]))
  obtain ⟨T5, h5, X5, e5, W5, st5⟩ := putF X4 hx hZ hown (host := "") (Or.inl (hw _ (List.mem_of_getElem? (i := 62) rfl))) Via.refl e4 Fq1_1 Fq1_0 (Or.inl (hw _ (List.mem_of_getElem? (i := 63) rfl))) (hw _ (List.mem_of_getElem? (i := 41) rfl)) (ty := (.array (.object "java/lang/Object"))) (by decide) rfl rfl (g := (mkF m 8 #[.val (.ref a1)] [(.ref o_DEFAULTCAPACITY_EMPTY_ELEMENTDATA), (.ref a1)])) rfl rfl (hb hby own_d75)
  have F6 : Exa Z h5 a1 "java/util/ArrayList" := Fq1_0.wr W5
  have F7 : Old Z n0 h5 := F3.wr W5 g_a1
  have F8 : Fld Z h5 a1 "java/util/ArrayList" "elementData" "[Ljava/lang/Object;" (.ref o_DEFAULTCAPACITY_EMPTY_ELEMENTDATA) := Fq1_1.same W5
  have N9 := Fr.snoc X5 N1 g_a1
  have K9 : Keep h0 h5 [a1] := K1.wr W5 (Or.inl (List.mem_of_getElem? (i := 0) rfl))
  have Z9 : n0 ≤ h5.size := Nat.le_trans Z1 (Keep.of_wr W5).1
  refine own_go (fun t k => st5 t k) ?_
  show OwnG p.tables e below _ (T5.setTop (mkF m 11 #[.val (.ref a1)] []))
  obtain ⟨fs, hr, hrun, hended, hW, hsame⟩ := X5.leave (v := none) (fun _ => rfl)
  refine ⟨_, _, X5.returnOut hx Bd.returns (hb hby own_d76) hr, hrun, hended, _, _, rfl, ?_, ⟨_, rfl⟩, hW, hsame.mono (by decide) (by decide)⟩
  show Q_own_al Z a1 o_DEFAULTCAPACITY_EMPTY_ELEMENTDATA h0 n0 _ T5.heap _
  rw [e5]
  exact ⟨rfl, N9, K9, F6⟩
theorem own_ef77 (m : MethodId) (a1 : Addr) : entryFrame m #[(.ref a1)] 1 = mkF m 0 #[.val (.ref a1)] [] := by first | (simp [entryFrame, mkF, argsToLocals, Value.category]; done) | rfl
theorem own_pn78 : plainName "java/lang/Record" = true := by first | (simp [plainName, overriddenIn]; done) | decide +kernel
theorem own_d79 : decode jdk_30_method_1_code 0 = .ok (.aload_n 0, 1) := by decide +kernel
theorem own_d80 : decode jdk_30_method_1_code 1 = .ok (.invokespecial 1, 3) := by decide +kernel
theorem own_d81 : decode jdk_30_method_1_code 4 = .ok (.return_, 1) := by decide +kernel
def Q_own_rec (Z : State) (a1 : Addr) (h0 : Heap) (n0 : Nat) (v : Option Value) (h : Heap) (L : List Loc) : Prop := v = none ∧ Fr n0 L ∧ h = h0
set_option maxRecDepth 65536 in
set_option maxHeartbeats 40000000 in
theorem own_rec (l : Launch) (Z : State) (a0 : Array Value) (hw : ∀ d ∈ tables_1, d.before a0 Z = true) (ws : List Jvm.Cond) (a1 : Addr) (h0 : Heap) (n0 : Nat) (Z0 : n0 ≤ h0.size) :
    MetFree l (⟨"java/lang/Record", "<init>", "()V"⟩ : MethodName) (head1 (Jvm.Cond.code (⟨"java/lang/Record", "<init>", "()V"⟩ : MethodName) jdk_30_method_1_code 1 none :: ws) ({ frames := 1, cells := 0, slots := 0, locals := 12 } : Room)) (fun a U => a = #[(.ref a1)] ∧ Z.Warmed39 U.vm ∧ U.heap = h0) (fun _ _ _ _ _ => True) (fun _ U o U' => ∃ v L, o = .returned v ∧ Q_own_rec Z a1 h0 n0 v U'.heap L ∧ FrameEnd U o U' L ({ frames := 1, cells := 0, slots := 0, locals := 12 } : Room).cells ({ frames := 1, cells := 0, slots := 0, locals := 12 } : Room).slots) := by
  refine MetFree.of_bodySF (plainFor_of_name own_pn78) hisR ?_
  intro p e s m args below meth c s₁ Bd hml0 hP hK
  obtain ⟨rfl, hZ, hh⟩ := hP
  have hx := Bd.exec
  have hby := Bd.bytes
  have hml : c.maxLocals = 1 := hml0
  have hown : s.vm.findClass "java/lang/Record" = some m.cls := findClass_of_methodNamed Bd.named
  have hnm := (name_of_methodNamed Bd.named Bd.method).1
  have X0 : Stand p l e ({ frames := 1, cells := 0, slots := 0, locals := 12 } : Room) s m #[(.ref a1)] below meth c s₁ [] 0 0 := Stand.of_body Bd
  have e0 : s₁.heap = h0 := by rw [← hh, Bd.state]; rfl
  have N0 := Fr.nil n0
  have K0 := Keep.refl h0 []
  refine own_go (fun t k => castTop (own_ef77 m a1) k) ?_
  show OwnG p.tables e below _ (s₁.setTop (mkF m 0 #[.val (.ref a1)] []))
  refine own_go (fun t k => XS.aloadN X0.here hx rfl (hb hby own_d79) rfl rfl k) ?_
  show OwnG p.tables e below _ (s₁.setTop (mkF m 1 #[.val (.ref a1)] [(.ref a1)]))
  obtain ⟨T1, X1, e1, st1⟩ := initO X0 hx hZ hown (hw _ (List.mem_of_getElem? (i := 80) rfl)) (hw _ (List.mem_of_getElem? (i := 24) rfl)) (hw _ (List.mem_of_getElem? (i := 25) rfl)) e0 (g := (mkF m 1 #[.val (.ref a1)] [(.ref a1)])) rfl (by rw [hml]; rfl) rfl (hb hby own_d80) (by decide) (W := 0) (by show 2 * 0 + _ ≤ _; exact Nat.le_of_eq rfl) (by decide)
  refine own_go (fun t k => st1 t k) ?_
  show OwnG p.tables e below _ (T1.setTop (mkF m 4 #[.val (.ref a1)] []))
  obtain ⟨fs, hr, hrun, hended, hW, hsame⟩ := X1.leave (v := none) (fun _ => rfl)
  refine ⟨_, _, X1.returnOut hx Bd.returns (hb hby own_d81) hr, hrun, hended, _, _, rfl, ?_, ⟨_, rfl⟩, hW, hsame.mono (by decide) (by decide)⟩
  show Q_own_rec Z a1 h0 n0 _ T1.heap _
  rw [e1]
  exact ⟨rfl, N0, rfl⟩
theorem own_ef82 (m : MethodId) (a1 : Addr) (a2 : Addr) (p1 : Int32) (p2 : Int32) (a3 : Addr) (a4 : Addr) (a5 : Addr) : entryFrame m #[(.ref a1), (.ref a2), (.int p1), (.int p2), (.ref a3), (.ref a4), (.ref a5), (.int (1 : Int32))] 8 = mkF m 0 #[.val (.ref a1), .val (.ref a2), .val (.int p1), .val (.int p2), .val (.ref a3), .val (.ref a4), .val (.ref a5), .val (.int (1 : Int32))] [] := by first | (simp [entryFrame, mkF, argsToLocals, Value.category]; done) | rfl
theorem own_pn83 : plainName "com/example/offst/offst/protocol/JoinGroupRequest" = true := by first | (simp [plainName, overriddenIn]; done) | decide +kernel
theorem own_d84 : decode prog_74_method_1_code 0 = .ok (.aload_n 0, 1) := by decide +kernel
theorem own_d85 : decode prog_74_method_1_code 1 = .ok (.invokespecial 1, 3) := by decide +kernel
theorem own_d86 : decode prog_74_method_1_code 4 = .ok (.aload_n 0, 1) := by decide +kernel
theorem own_d87 : decode prog_74_method_1_code 5 = .ok (.aload_n 1, 1) := by decide +kernel
theorem own_d88 : decode prog_74_method_1_code 6 = .ok (.putfield 7, 3) := by decide +kernel
theorem own_d89 : decode prog_74_method_1_code 9 = .ok (.aload_n 0, 1) := by decide +kernel
theorem own_d90 : decode prog_74_method_1_code 10 = .ok (.iload_n 2, 1) := by decide +kernel
theorem own_d91 : decode prog_74_method_1_code 11 = .ok (.putfield 13, 3) := by decide +kernel
theorem own_d92 : decode prog_74_method_1_code 14 = .ok (.aload_n 0, 1) := by decide +kernel
theorem own_d93 : decode prog_74_method_1_code 15 = .ok (.iload_n 3, 1) := by decide +kernel
theorem own_d94 : decode prog_74_method_1_code 16 = .ok (.putfield 17, 3) := by decide +kernel
theorem own_d95 : decode prog_74_method_1_code 19 = .ok (.aload_n 0, 1) := by decide +kernel
theorem own_d96 : decode prog_74_method_1_code 20 = .ok (.aload 4, 2) := by decide +kernel
theorem own_d97 : decode prog_74_method_1_code 22 = .ok (.putfield 20, 3) := by decide +kernel
theorem own_d98 : decode prog_74_method_1_code 25 = .ok (.aload_n 0, 1) := by decide +kernel
theorem own_d99 : decode prog_74_method_1_code 26 = .ok (.aload 5, 2) := by decide +kernel
theorem own_d100 : decode prog_74_method_1_code 28 = .ok (.putfield 23, 3) := by decide +kernel
theorem own_d101 : decode prog_74_method_1_code 31 = .ok (.aload_n 0, 1) := by decide +kernel
theorem own_d102 : decode prog_74_method_1_code 32 = .ok (.aload 6, 2) := by decide +kernel
theorem own_d103 : decode prog_74_method_1_code 34 = .ok (.putfield 26, 3) := by decide +kernel
theorem own_d104 : decode prog_74_method_1_code 37 = .ok (.aload_n 0, 1) := by decide +kernel
theorem own_d105 : decode prog_74_method_1_code 38 = .ok (.iload 7, 2) := by decide +kernel
theorem own_d106 : decode prog_74_method_1_code 40 = .ok (.putfield 30, 3) := by decide +kernel
theorem own_d107 : decode prog_74_method_1_code 43 = .ok (.return_, 1) := by decide +kernel
def Q_own_ji (Z : State) (a1 : Addr) (a2 : Addr) (p1 : Int32) (p2 : Int32) (a3 : Addr) (a4 : Addr) (a5 : Addr) (h0 : Heap) (n0 : Nat) (v : Option Value) (h : Heap) (L : List Loc) : Prop := v = none ∧ Fr n0 L ∧ Keep h0 h [a1] ∧ Exa Z h a1 "com/example/offst/offst/protocol/JoinGroupRequest" ∧ Fld Z h a1 "com/example/offst/offst/protocol/JoinGroupRequest" "sessionTimeoutMs" "I" (.int p1)
set_option maxRecDepth 65536 in
set_option maxHeartbeats 40000000 in
theorem own_ji (l : Launch) (Z : State) (a0 : Array Value) (hw : ∀ d ∈ tables_1, d.before a0 Z = true) (ws : List Jvm.Cond) (a1 : Addr) (a2 : Addr) (p1 : Int32) (p2 : Int32) (a3 : Addr) (a4 : Addr) (a5 : Addr) (h0 : Heap) (n0 : Nat) (Z0 : n0 ≤ h0.size) (f0_0 : Exa Z h0 a1 "com/example/offst/offst/protocol/JoinGroupRequest") (f0_1 : Fld Z h0 a1 "com/example/offst/offst/protocol/JoinGroupRequest" "groupId" "Ljava/lang/String;" .null) (f0_2 : Fld Z h0 a1 "com/example/offst/offst/protocol/JoinGroupRequest" "sessionTimeoutMs" "I" (.int (0 : Int32))) (f0_3 : Fld Z h0 a1 "com/example/offst/offst/protocol/JoinGroupRequest" "rebalanceTimeoutMs" "I" (.int (0 : Int32))) (f0_4 : Fld Z h0 a1 "com/example/offst/offst/protocol/JoinGroupRequest" "memberId" "Ljava/lang/String;" .null) (f0_5 : Fld Z h0 a1 "com/example/offst/offst/protocol/JoinGroupRequest" "protocolType" "Ljava/lang/String;" .null) (f0_6 : Fld Z h0 a1 "com/example/offst/offst/protocol/JoinGroupRequest" "protocols" "Ljava/util/List;" .null) (f0_7 : Fld Z h0 a1 "com/example/offst/offst/protocol/JoinGroupRequest" "takesMemberId" "Z" (.int (0 : Int32))) (g_a1 : n0 ≤ a1) :
    MetFree l (⟨"com/example/offst/offst/protocol/JoinGroupRequest", "<init>", "(Ljava/lang/String;IILjava/lang/String;Ljava/lang/String;Ljava/util/List;Z)V"⟩ : MethodName) (head1 (Jvm.Cond.code (⟨"com/example/offst/offst/protocol/JoinGroupRequest", "<init>", "(Ljava/lang/String;IILjava/lang/String;Ljava/lang/String;Ljava/util/List;Z)V"⟩ : MethodName) prog_74_method_1_code 8 none :: ws) ({ frames := 2, cells := 0, slots := 0, locals := 24 } : Room)) (fun a U => a = #[(.ref a1), (.ref a2), (.int p1), (.int p2), (.ref a3), (.ref a4), (.ref a5), (.int (1 : Int32))] ∧ Z.Warmed39 U.vm ∧ U.heap = h0) (fun _ _ _ _ _ => True) (fun _ U o U' => ∃ v L, o = .returned v ∧ Q_own_ji Z a1 a2 p1 p2 a3 a4 a5 h0 n0 v U'.heap L ∧ FrameEnd U o U' L ({ frames := 2, cells := 0, slots := 0, locals := 24 } : Room).cells ({ frames := 2, cells := 0, slots := 0, locals := 24 } : Room).slots) := by
  refine MetFree.of_bodySF (plainFor_of_name own_pn83) hisR ?_
  intro p e s m args below meth c s₁ Bd hml0 hP hK
  obtain ⟨rfl, hZ, hh⟩ := hP
  have hx := Bd.exec
  have hby := Bd.bytes
  have hml : c.maxLocals = 8 := hml0
  have hown : s.vm.findClass "com/example/offst/offst/protocol/JoinGroupRequest" = some m.cls := findClass_of_methodNamed Bd.named
  have hnm := (name_of_methodNamed Bd.named Bd.method).1
  have X0 : Stand p l e ({ frames := 2, cells := 0, slots := 0, locals := 24 } : Room) s m #[(.ref a1), (.ref a2), (.int p1), (.int p2), (.ref a3), (.ref a4), (.ref a5), (.int (1 : Int32))] below meth c s₁ [] 0 0 := Stand.of_body Bd
  have e0 : s₁.heap = h0 := by rw [← hh, Bd.state]; rfl
  have N0 := Fr.nil n0
  have K0 := Keep.refl h0 [a1]
  refine own_go (fun t k => castTop (own_ef82 m a1 a2 p1 p2 a3 a4 a5) k) ?_
  show OwnG p.tables e below _ (s₁.setTop (mkF m 0 #[.val (.ref a1), .val (.ref a2), .val (.int p1), .val (.int p2), .val (.ref a3), .val (.ref a4), .val (.ref a5), .val (.int (1 : Int32))] []))
  refine own_go (fun t k => XS.aloadN X0.here hx rfl (hb hby own_d84) rfl rfl k) ?_
  show OwnG p.tables e below _ (s₁.setTop (mkF m 1 #[.val (.ref a1), .val (.ref a2), .val (.int p1), .val (.int p2), .val (.ref a3), .val (.ref a4), .val (.ref a5), .val (.int (1 : Int32))] [(.ref a1)]))
  obtain ⟨_, _, ⟨T1, L1, k1, n1⟩, -, X1, ⟨Lc1, hQ1, l1, y1, z1⟩, st1⟩ := X0.specialBack hx (y := (⟨"java/lang/Record", "<init>", "()V"⟩ : MethodName)) rfl hown (mvT hZ (hw _ (List.mem_of_getElem? (i := 75) rfl))) (mvT hZ (hw _ (List.mem_of_getElem? (i := 76) rfl))) (mvT hZ (hw _ (List.mem_of_getElem? (i := 79) rfl))) (by decide) (backOf (W := 0) (own_rec l Z a0 hw [] a1 h0 n0 Z0) hZ (hw _ (List.mem_of_getElem? (i := 79) rfl)) (hw _ (List.mem_of_getElem? (i := 78) rfl)) (by decide) (by decide)) (g := (mkF m 1 #[.val (.ref a1), .val (.ref a2), .val (.int p1), .val (.int p2), .val (.ref a3), .val (.ref a4), .val (.ref a5), .val (.int (1 : Int32))] [(.ref a1)])) rfl (by rw [hml]; rfl) (Steps.refl _) (a := a1) (argsL := []) (rest := []) (lenOf own_pd64 rfl) rfl (by show 2 * 0 + _ ≤ _; exact Nat.le_of_eq rfl) (hb hby own_d85) (fun _ _ => ⟨rfl, e0, (by decide : 0 + 0 ≤ _), (by decide : 0 + 0 ≤ _)⟩)
  dsimp only [Pt.U, Pt.locs, Pt.cells, Pt.slots] at X1 l1 y1 z1 st1 hQ1
  subst l1 y1 z1
  obtain ⟨rfl, Nq1, eq1⟩ := hQ1
  have N1 := Fr.app N0 Nq1
  have e1 : T1.heap = h0 := eq1
  refine own_go (fun t k => st1.trans k) ?_
  show OwnG p.tables e below _ (T1.setTop (mkF m 4 #[.val (.ref a1), .val (.ref a2), .val (.int p1), .val (.int p2), .val (.ref a3), .val (.ref a4), .val (.ref a5), .val (.int (1 : Int32))] []))
  refine own_go (fun t k => XS.aloadN X1.here hx rfl (hb hby own_d86) rfl rfl k) ?_
  show OwnG p.tables e below _ (T1.setTop (mkF m 5 #[.val (.ref a1), .val (.ref a2), .val (.int p1), .val (.int p2), .val (.ref a3), .val (.ref a4), .val (.ref a5), .val (.int (1 : Int32))] [(.ref a1)]))
  refine own_go (fun t k => XS.aloadN X1.here hx rfl (hb hby own_d87) rfl rfl k) ?_
  show OwnG p.tables e below _ (T1.setTop (mkF m 6 #[.val (.ref a1), .val (.ref a2), .val (.int p1), .val (.int p2), .val (.ref a3), .val (.ref a4), .val (.ref a5), .val (.int (1 : Int32))] [(.ref a2), (.ref a1)]))
  obtain ⟨T2, h2, X2, e2, W2, st2⟩ := putF X1 hx hZ hown (host := "") (Or.inl (hw _ (List.mem_of_getElem? (i := 81) rfl))) Via.refl e1 f0_1 f0_0 (Or.inr ⟨(hw _ (List.mem_of_getElem? (i := 82) rfl)), rfl, hnm⟩) (hw _ (List.mem_of_getElem? (i := 65) rfl)) (ty := (.object "java/lang/String")) (by decide) rfl rfl (g := (mkF m 6 #[.val (.ref a1), .val (.ref a2), .val (.int p1), .val (.int p2), .val (.ref a3), .val (.ref a4), .val (.ref a5), .val (.int (1 : Int32))] [(.ref a2), (.ref a1)])) rfl rfl (hb hby own_d88)
  have F3 : Exa Z h2 a1 "com/example/offst/offst/protocol/JoinGroupRequest" := f0_0.wr W2
  have F4 : Fld Z h2 a1 "com/example/offst/offst/protocol/JoinGroupRequest" "groupId" "Ljava/lang/String;" (.ref a2) := f0_1.same W2
  have F5 : Fld Z h2 a1 "com/example/offst/offst/protocol/JoinGroupRequest" "sessionTimeoutMs" "I" (.int (0 : Int32)) := f0_2.other W2 (Or.inr (slot_ne (Or.inr (hw _ (List.mem_of_getElem? (i := 84) rfl))) (Or.inr (hw _ (List.mem_of_getElem? (i := 82) rfl))) (by decide) (t := .int) (t' := (.object "java/lang/String")) (by decide) (by decide)))
  have F6 : Fld Z h2 a1 "com/example/offst/offst/protocol/JoinGroupRequest" "rebalanceTimeoutMs" "I" (.int (0 : Int32)) := f0_3.other W2 (Or.inr (slot_ne (Or.inr (hw _ (List.mem_of_getElem? (i := 86) rfl))) (Or.inr (hw _ (List.mem_of_getElem? (i := 82) rfl))) (by decide) (t := .int) (t' := (.object "java/lang/String")) (by decide) (by decide)))
  have F7 : Fld Z h2 a1 "com/example/offst/offst/protocol/JoinGroupRequest" "memberId" "Ljava/lang/String;" .null := f0_4.other W2 (Or.inr (slot_ne (Or.inr (hw _ (List.mem_of_getElem? (i := 88) rfl))) (Or.inr (hw _ (List.mem_of_getElem? (i := 82) rfl))) (by decide) (t := (.object "java/lang/String")) (t' := (.object "java/lang/String")) (by decide) (by decide)))
  have F8 : Fld Z h2 a1 "com/example/offst/offst/protocol/JoinGroupRequest" "protocolType" "Ljava/lang/String;" .null := f0_5.other W2 (Or.inr (slot_ne (Or.inr (hw _ (List.mem_of_getElem? (i := 90) rfl))) (Or.inr (hw _ (List.mem_of_getElem? (i := 82) rfl))) (by decide) (t := (.object "java/lang/String")) (t' := (.object "java/lang/String")) (by decide) (by decide)))
  have F9 : Fld Z h2 a1 "com/example/offst/offst/protocol/JoinGroupRequest" "protocols" "Ljava/util/List;" .null := f0_6.other W2 (Or.inr (slot_ne (Or.inr (hw _ (List.mem_of_getElem? (i := 92) rfl))) (Or.inr (hw _ (List.mem_of_getElem? (i := 82) rfl))) (by decide) (t := (.object "java/util/List")) (t' := (.object "java/lang/String")) (by decide) (by decide)))
  have F10 : Fld Z h2 a1 "com/example/offst/offst/protocol/JoinGroupRequest" "takesMemberId" "Z" (.int (0 : Int32)) := f0_7.other W2 (Or.inr (slot_ne (Or.inr (hw _ (List.mem_of_getElem? (i := 94) rfl))) (Or.inr (hw _ (List.mem_of_getElem? (i := 82) rfl))) (by decide) (t := .boolean) (t' := (.object "java/lang/String")) (by decide) (by decide)))
  have N11 := Fr.snoc X2 N1 g_a1
  have K11 : Keep h0 h2 [a1] := K0.wr W2 (Or.inl (List.mem_of_getElem? (i := 0) rfl))
  have Z11 : n0 ≤ h2.size := Nat.le_trans Z0 (Keep.of_wr W2).1
  refine own_go (fun t k => st2 t k) ?_
  show OwnG p.tables e below _ (T2.setTop (mkF m 9 #[.val (.ref a1), .val (.ref a2), .val (.int p1), .val (.int p2), .val (.ref a3), .val (.ref a4), .val (.ref a5), .val (.int (1 : Int32))] []))
  refine own_go (fun t k => XS.aloadN X2.here hx rfl (hb hby own_d89) rfl rfl k) ?_
  show OwnG p.tables e below _ (T2.setTop (mkF m 10 #[.val (.ref a1), .val (.ref a2), .val (.int p1), .val (.int p2), .val (.ref a3), .val (.ref a4), .val (.ref a5), .val (.int (1 : Int32))] [(.ref a1)]))
  refine own_go (fun t k => XS.iloadN X2.here hx rfl (hb hby own_d90) rfl  k) ?_
  show OwnG p.tables e below _ (T2.setTop (mkF m 11 #[.val (.ref a1), .val (.ref a2), .val (.int p1), .val (.int p2), .val (.ref a3), .val (.ref a4), .val (.ref a5), .val (.int (1 : Int32))] [(.int p1), (.ref a1)]))
  obtain ⟨T12, h12, X12, e12, W12, st12⟩ := putF X2 hx hZ hown (host := "") (Or.inl (hw _ (List.mem_of_getElem? (i := 83) rfl))) Via.refl e2 F5 F3 (Or.inr ⟨(hw _ (List.mem_of_getElem? (i := 84) rfl)), rfl, hnm⟩) (hw _ (List.mem_of_getElem? (i := 65) rfl)) (ty := .int) (by decide) rfl rfl (g := (mkF m 11 #[.val (.ref a1), .val (.ref a2), .val (.int p1), .val (.int p2), .val (.ref a3), .val (.ref a4), .val (.ref a5), .val (.int (1 : Int32))] [(.int p1), (.ref a1)])) rfl rfl (hb hby own_d91)
  have F13 : Exa Z h12 a1 "com/example/offst/offst/protocol/JoinGroupRequest" := F3.wr W12
  have F14 : Fld Z h12 a1 "com/example/offst/offst/protocol/JoinGroupRequest" "groupId" "Ljava/lang/String;" (.ref a2) := F4.other W12 (Or.inr (slot_ne (Or.inr (hw _ (List.mem_of_getElem? (i := 82) rfl))) (Or.inr (hw _ (List.mem_of_getElem? (i := 84) rfl))) (by decide) (t := (.object "java/lang/String")) (t' := .int) (by decide) (by decide)))
  have F15 : Fld Z h12 a1 "com/example/offst/offst/protocol/JoinGroupRequest" "sessionTimeoutMs" "I" (.int p1) := F5.same W12
  have F16 : Fld Z h12 a1 "com/example/offst/offst/protocol/JoinGroupRequest" "rebalanceTimeoutMs" "I" (.int (0 : Int32)) := F6.other W12 (Or.inr (slot_ne (Or.inr (hw _ (List.mem_of_getElem? (i := 86) rfl))) (Or.inr (hw _ (List.mem_of_getElem? (i := 84) rfl))) (by decide) (t := .int) (t' := .int) (by decide) (by decide)))
  have F17 : Fld Z h12 a1 "com/example/offst/offst/protocol/JoinGroupRequest" "memberId" "Ljava/lang/String;" .null := F7.other W12 (Or.inr (slot_ne (Or.inr (hw _ (List.mem_of_getElem? (i := 88) rfl))) (Or.inr (hw _ (List.mem_of_getElem? (i := 84) rfl))) (by decide) (t := (.object "java/lang/String")) (t' := .int) (by decide) (by decide)))
  have F18 : Fld Z h12 a1 "com/example/offst/offst/protocol/JoinGroupRequest" "protocolType" "Ljava/lang/String;" .null := F8.other W12 (Or.inr (slot_ne (Or.inr (hw _ (List.mem_of_getElem? (i := 90) rfl))) (Or.inr (hw _ (List.mem_of_getElem? (i := 84) rfl))) (by decide) (t := (.object "java/lang/String")) (t' := .int) (by decide) (by decide)))
  have F19 : Fld Z h12 a1 "com/example/offst/offst/protocol/JoinGroupRequest" "protocols" "Ljava/util/List;" .null := F9.other W12 (Or.inr (slot_ne (Or.inr (hw _ (List.mem_of_getElem? (i := 92) rfl))) (Or.inr (hw _ (List.mem_of_getElem? (i := 84) rfl))) (by decide) (t := (.object "java/util/List")) (t' := .int) (by decide) (by decide)))
  have F20 : Fld Z h12 a1 "com/example/offst/offst/protocol/JoinGroupRequest" "takesMemberId" "Z" (.int (0 : Int32)) := F10.other W12 (Or.inr (slot_ne (Or.inr (hw _ (List.mem_of_getElem? (i := 94) rfl))) (Or.inr (hw _ (List.mem_of_getElem? (i := 84) rfl))) (by decide) (t := .boolean) (t' := .int) (by decide) (by decide)))
  have N21 := Fr.snoc X12 N11 g_a1
  have K21 : Keep h0 h12 [a1] := K11.wr W12 (Or.inl (List.mem_of_getElem? (i := 0) rfl))
  have Z21 : n0 ≤ h12.size := Nat.le_trans Z11 (Keep.of_wr W12).1
  refine own_go (fun t k => st12 t k) ?_
  show OwnG p.tables e below _ (T12.setTop (mkF m 14 #[.val (.ref a1), .val (.ref a2), .val (.int p1), .val (.int p2), .val (.ref a3), .val (.ref a4), .val (.ref a5), .val (.int (1 : Int32))] []))
  refine own_go (fun t k => XS.aloadN X12.here hx rfl (hb hby own_d92) rfl rfl k) ?_
  show OwnG p.tables e below _ (T12.setTop (mkF m 15 #[.val (.ref a1), .val (.ref a2), .val (.int p1), .val (.int p2), .val (.ref a3), .val (.ref a4), .val (.ref a5), .val (.int (1 : Int32))] [(.ref a1)]))
  refine own_go (fun t k => XS.iloadN X12.here hx rfl (hb hby own_d93) rfl  k) ?_
  show OwnG p.tables e below _ (T12.setTop (mkF m 16 #[.val (.ref a1), .val (.ref a2), .val (.int p1), .val (.int p2), .val (.ref a3), .val (.ref a4), .val (.ref a5), .val (.int (1 : Int32))] [(.int p2), (.ref a1)]))
  obtain ⟨T22, h22, X22, e22, W22, st22⟩ := putF X12 hx hZ hown (host := "") (Or.inl (hw _ (List.mem_of_getElem? (i := 85) rfl))) Via.refl e12 F16 F13 (Or.inr ⟨(hw _ (List.mem_of_getElem? (i := 86) rfl)), rfl, hnm⟩) (hw _ (List.mem_of_getElem? (i := 65) rfl)) (ty := .int) (by decide) rfl rfl (g := (mkF m 16 #[.val (.ref a1), .val (.ref a2), .val (.int p1), .val (.int p2), .val (.ref a3), .val (.ref a4), .val (.ref a5), .val (.int (1 : Int32))] [(.int p2), (.ref a1)])) rfl rfl (hb hby own_d94)
  have F23 : Exa Z h22 a1 "com/example/offst/offst/protocol/JoinGroupRequest" := F13.wr W22
  have F24 : Fld Z h22 a1 "com/example/offst/offst/protocol/JoinGroupRequest" "groupId" "Ljava/lang/String;" (.ref a2) := F14.other W22 (Or.inr (slot_ne (Or.inr (hw _ (List.mem_of_getElem? (i := 82) rfl))) (Or.inr (hw _ (List.mem_of_getElem? (i := 86) rfl))) (by decide) (t := (.object "java/lang/String")) (t' := .int) (by decide) (by decide)))
  have F25 : Fld Z h22 a1 "com/example/offst/offst/protocol/JoinGroupRequest" "sessionTimeoutMs" "I" (.int p1) := F15.other W22 (Or.inr (slot_ne (Or.inr (hw _ (List.mem_of_getElem? (i := 84) rfl))) (Or.inr (hw _ (List.mem_of_getElem? (i := 86) rfl))) (by decide) (t := .int) (t' := .int) (by decide) (by decide)))
  have F26 : Fld Z h22 a1 "com/example/offst/offst/protocol/JoinGroupRequest" "rebalanceTimeoutMs" "I" (.int p2) := F16.same W22
  have F27 : Fld Z h22 a1 "com/example/offst/offst/protocol/JoinGroupRequest" "memberId" "Ljava/lang/String;" .null := F17.other W22 (Or.inr (slot_ne (Or.inr (hw _ (List.mem_of_getElem? (i := 88) rfl))) (Or.inr (hw _ (List.mem_of_getElem? (i := 86) rfl))) (by decide) (t := (.object "java/lang/String")) (t' := .int) (by decide) (by decide)))
  have F28 : Fld Z h22 a1 "com/example/offst/offst/protocol/JoinGroupRequest" "protocolType" "Ljava/lang/String;" .null := F18.other W22 (Or.inr (slot_ne (Or.inr (hw _ (List.mem_of_getElem? (i := 90) rfl))) (Or.inr (hw _ (List.mem_of_getElem? (i := 86) rfl))) (by decide) (t := (.object "java/lang/String")) (t' := .int) (by decide) (by decide)))
  have F29 : Fld Z h22 a1 "com/example/offst/offst/protocol/JoinGroupRequest" "protocols" "Ljava/util/List;" .null := F19.other W22 (Or.inr (slot_ne (Or.inr (hw _ (List.mem_of_getElem? (i := 92) rfl))) (Or.inr (hw _ (List.mem_of_getElem? (i := 86) rfl))) (by decide) (t := (.object "java/util/List")) (t' := .int) (by decide) (by decide)))
  have F30 : Fld Z h22 a1 "com/example/offst/offst/protocol/JoinGroupRequest" "takesMemberId" "Z" (.int (0 : Int32)) := F20.other W22 (Or.inr (slot_ne (Or.inr (hw _ (List.mem_of_getElem? (i := 94) rfl))) (Or.inr (hw _ (List.mem_of_getElem? (i := 86) rfl))) (by decide) (t := .boolean) (t' := .int) (by decide) (by decide)))
  have N31 := Fr.snoc X22 N21 g_a1
  have K31 : Keep h0 h22 [a1] := K21.wr W22 (Or.inl (List.mem_of_getElem? (i := 0) rfl))
  have Z31 : n0 ≤ h22.size := Nat.le_trans Z21 (Keep.of_wr W22).1
  refine own_go (fun t k => st22 t k) ?_
  show OwnG p.tables e below _ (T22.setTop (mkF m 19 #[.val (.ref a1), .val (.ref a2), .val (.int p1), .val (.int p2), .val (.ref a3), .val (.ref a4), .val (.ref a5), .val (.int (1 : Int32))] []))
  refine own_go (fun t k => XS.aloadN X22.here hx rfl (hb hby own_d95) rfl rfl k) ?_
  show OwnG p.tables e below _ (T22.setTop (mkF m 20 #[.val (.ref a1), .val (.ref a2), .val (.int p1), .val (.int p2), .val (.ref a3), .val (.ref a4), .val (.ref a5), .val (.int (1 : Int32))] [(.ref a1)]))
  refine own_go (fun t k => XS.aload X22.here hx rfl (hb hby own_d96) rfl rfl k) ?_
  show OwnG p.tables e below _ (T22.setTop (mkF m 22 #[.val (.ref a1), .val (.ref a2), .val (.int p1), .val (.int p2), .val (.ref a3), .val (.ref a4), .val (.ref a5), .val (.int (1 : Int32))] [(.ref a3), (.ref a1)]))
  obtain ⟨T32, h32, X32, e32, W32, st32⟩ := putF X22 hx hZ hown (host := "") (Or.inl (hw _ (List.mem_of_getElem? (i := 87) rfl))) Via.refl e22 F27 F23 (Or.inr ⟨(hw _ (List.mem_of_getElem? (i := 88) rfl)), rfl, hnm⟩) (hw _ (List.mem_of_getElem? (i := 65) rfl)) (ty := (.object "java/lang/String")) (by decide) rfl rfl (g := (mkF m 22 #[.val (.ref a1), .val (.ref a2), .val (.int p1), .val (.int p2), .val (.ref a3), .val (.ref a4), .val (.ref a5), .val (.int (1 : Int32))] [(.ref a3), (.ref a1)])) rfl rfl (hb hby own_d97)
  have F33 : Exa Z h32 a1 "com/example/offst/offst/protocol/JoinGroupRequest" := F23.wr W32
  have F34 : Fld Z h32 a1 "com/example/offst/offst/protocol/JoinGroupRequest" "groupId" "Ljava/lang/String;" (.ref a2) := F24.other W32 (Or.inr (slot_ne (Or.inr (hw _ (List.mem_of_getElem? (i := 82) rfl))) (Or.inr (hw _ (List.mem_of_getElem? (i := 88) rfl))) (by decide) (t := (.object "java/lang/String")) (t' := (.object "java/lang/String")) (by decide) (by decide)))
  have F35 : Fld Z h32 a1 "com/example/offst/offst/protocol/JoinGroupRequest" "sessionTimeoutMs" "I" (.int p1) := F25.other W32 (Or.inr (slot_ne (Or.inr (hw _ (List.mem_of_getElem? (i := 84) rfl))) (Or.inr (hw _ (List.mem_of_getElem? (i := 88) rfl))) (by decide) (t := .int) (t' := (.object "java/lang/String")) (by decide) (by decide)))
  have F36 : Fld Z h32 a1 "com/example/offst/offst/protocol/JoinGroupRequest" "rebalanceTimeoutMs" "I" (.int p2) := F26.other W32 (Or.inr (slot_ne (Or.inr (hw _ (List.mem_of_getElem? (i := 86) rfl))) (Or.inr (hw _ (List.mem_of_getElem? (i := 88) rfl))) (by decide) (t := .int) (t' := (.object "java/lang/String")) (by decide) (by decide)))
  have F37 : Fld Z h32 a1 "com/example/offst/offst/protocol/JoinGroupRequest" "memberId" "Ljava/lang/String;" (.ref a3) := F27.same W32
  have F38 : Fld Z h32 a1 "com/example/offst/offst/protocol/JoinGroupRequest" "protocolType" "Ljava/lang/String;" .null := F28.other W32 (Or.inr (slot_ne (Or.inr (hw _ (List.mem_of_getElem? (i := 90) rfl))) (Or.inr (hw _ (List.mem_of_getElem? (i := 88) rfl))) (by decide) (t := (.object "java/lang/String")) (t' := (.object "java/lang/String")) (by decide) (by decide)))
  have F39 : Fld Z h32 a1 "com/example/offst/offst/protocol/JoinGroupRequest" "protocols" "Ljava/util/List;" .null := F29.other W32 (Or.inr (slot_ne (Or.inr (hw _ (List.mem_of_getElem? (i := 92) rfl))) (Or.inr (hw _ (List.mem_of_getElem? (i := 88) rfl))) (by decide) (t := (.object "java/util/List")) (t' := (.object "java/lang/String")) (by decide) (by decide)))
  have F40 : Fld Z h32 a1 "com/example/offst/offst/protocol/JoinGroupRequest" "takesMemberId" "Z" (.int (0 : Int32)) := F30.other W32 (Or.inr (slot_ne (Or.inr (hw _ (List.mem_of_getElem? (i := 94) rfl))) (Or.inr (hw _ (List.mem_of_getElem? (i := 88) rfl))) (by decide) (t := .boolean) (t' := (.object "java/lang/String")) (by decide) (by decide)))
  have N41 := Fr.snoc X32 N31 g_a1
  have K41 : Keep h0 h32 [a1] := K31.wr W32 (Or.inl (List.mem_of_getElem? (i := 0) rfl))
  have Z41 : n0 ≤ h32.size := Nat.le_trans Z31 (Keep.of_wr W32).1
  refine own_go (fun t k => st32 t k) ?_
  show OwnG p.tables e below _ (T32.setTop (mkF m 25 #[.val (.ref a1), .val (.ref a2), .val (.int p1), .val (.int p2), .val (.ref a3), .val (.ref a4), .val (.ref a5), .val (.int (1 : Int32))] []))
  refine own_go (fun t k => XS.aloadN X32.here hx rfl (hb hby own_d98) rfl rfl k) ?_
  show OwnG p.tables e below _ (T32.setTop (mkF m 26 #[.val (.ref a1), .val (.ref a2), .val (.int p1), .val (.int p2), .val (.ref a3), .val (.ref a4), .val (.ref a5), .val (.int (1 : Int32))] [(.ref a1)]))
  refine own_go (fun t k => XS.aload X32.here hx rfl (hb hby own_d99) rfl rfl k) ?_
  show OwnG p.tables e below _ (T32.setTop (mkF m 28 #[.val (.ref a1), .val (.ref a2), .val (.int p1), .val (.int p2), .val (.ref a3), .val (.ref a4), .val (.ref a5), .val (.int (1 : Int32))] [(.ref a4), (.ref a1)]))
  obtain ⟨T42, h42, X42, e42, W42, st42⟩ := putF X32 hx hZ hown (host := "") (Or.inl (hw _ (List.mem_of_getElem? (i := 89) rfl))) Via.refl e32 F38 F33 (Or.inr ⟨(hw _ (List.mem_of_getElem? (i := 90) rfl)), rfl, hnm⟩) (hw _ (List.mem_of_getElem? (i := 65) rfl)) (ty := (.object "java/lang/String")) (by decide) rfl rfl (g := (mkF m 28 #[.val (.ref a1), .val (.ref a2), .val (.int p1), .val (.int p2), .val (.ref a3), .val (.ref a4), .val (.ref a5), .val (.int (1 : Int32))] [(.ref a4), (.ref a1)])) rfl rfl (hb hby own_d100)
  have F43 : Exa Z h42 a1 "com/example/offst/offst/protocol/JoinGroupRequest" := F33.wr W42
  have F44 : Fld Z h42 a1 "com/example/offst/offst/protocol/JoinGroupRequest" "groupId" "Ljava/lang/String;" (.ref a2) := F34.other W42 (Or.inr (slot_ne (Or.inr (hw _ (List.mem_of_getElem? (i := 82) rfl))) (Or.inr (hw _ (List.mem_of_getElem? (i := 90) rfl))) (by decide) (t := (.object "java/lang/String")) (t' := (.object "java/lang/String")) (by decide) (by decide)))
  have F45 : Fld Z h42 a1 "com/example/offst/offst/protocol/JoinGroupRequest" "sessionTimeoutMs" "I" (.int p1) := F35.other W42 (Or.inr (slot_ne (Or.inr (hw _ (List.mem_of_getElem? (i := 84) rfl))) (Or.inr (hw _ (List.mem_of_getElem? (i := 90) rfl))) (by decide) (t := .int) (t' := (.object "java/lang/String")) (by decide) (by decide)))
  have F46 : Fld Z h42 a1 "com/example/offst/offst/protocol/JoinGroupRequest" "rebalanceTimeoutMs" "I" (.int p2) := F36.other W42 (Or.inr (slot_ne (Or.inr (hw _ (List.mem_of_getElem? (i := 86) rfl))) (Or.inr (hw _ (List.mem_of_getElem? (i := 90) rfl))) (by decide) (t := .int) (t' := (.object "java/lang/String")) (by decide) (by decide)))
  have F47 : Fld Z h42 a1 "com/example/offst/offst/protocol/JoinGroupRequest" "memberId" "Ljava/lang/String;" (.ref a3) := F37.other W42 (Or.inr (slot_ne (Or.inr (hw _ (List.mem_of_getElem? (i := 88) rfl))) (Or.inr (hw _ (List.mem_of_getElem? (i := 90) rfl))) (by decide) (t := (.object "java/lang/String")) (t' := (.object "java/lang/String")) (by decide) (by decide)))
  have F48 : Fld Z h42 a1 "com/example/offst/offst/protocol/JoinGroupRequest" "protocolType" "Ljava/lang/String;" (.ref a4) := F38.same W42
  have F49 : Fld Z h42 a1 "com/example/offst/offst/protocol/JoinGroupRequest" "protocols" "Ljava/util/List;" .null := F39.other W42 (Or.inr (slot_ne (Or.inr (hw _ (List.mem_of_getElem? (i := 92) rfl))) (Or.inr (hw _ (List.mem_of_getElem? (i := 90) rfl))) (by decide) (t := (.object "java/util/List")) (t' := (.object "java/lang/String")) (by decide) (by decide)))
  have F50 : Fld Z h42 a1 "com/example/offst/offst/protocol/JoinGroupRequest" "takesMemberId" "Z" (.int (0 : Int32)) := F40.other W42 (Or.inr (slot_ne (Or.inr (hw _ (List.mem_of_getElem? (i := 94) rfl))) (Or.inr (hw _ (List.mem_of_getElem? (i := 90) rfl))) (by decide) (t := .boolean) (t' := (.object "java/lang/String")) (by decide) (by decide)))
  have N51 := Fr.snoc X42 N41 g_a1
  have K51 : Keep h0 h42 [a1] := K41.wr W42 (Or.inl (List.mem_of_getElem? (i := 0) rfl))
  have Z51 : n0 ≤ h42.size := Nat.le_trans Z41 (Keep.of_wr W42).1
  refine own_go (fun t k => st42 t k) ?_
  show OwnG p.tables e below _ (T42.setTop (mkF m 31 #[.val (.ref a1), .val (.ref a2), .val (.int p1), .val (.int p2), .val (.ref a3), .val (.ref a4), .val (.ref a5), .val (.int (1 : Int32))] []))
  refine own_go (fun t k => XS.aloadN X42.here hx rfl (hb hby own_d101) rfl rfl k) ?_
  show OwnG p.tables e below _ (T42.setTop (mkF m 32 #[.val (.ref a1), .val (.ref a2), .val (.int p1), .val (.int p2), .val (.ref a3), .val (.ref a4), .val (.ref a5), .val (.int (1 : Int32))] [(.ref a1)]))
  refine own_go (fun t k => XS.aload X42.here hx rfl (hb hby own_d102) rfl rfl k) ?_
  show OwnG p.tables e below _ (T42.setTop (mkF m 34 #[.val (.ref a1), .val (.ref a2), .val (.int p1), .val (.int p2), .val (.ref a3), .val (.ref a4), .val (.ref a5), .val (.int (1 : Int32))] [(.ref a5), (.ref a1)]))
  obtain ⟨T52, h52, X52, e52, W52, st52⟩ := putF X42 hx hZ hown (host := "") (Or.inl (hw _ (List.mem_of_getElem? (i := 91) rfl))) Via.refl e42 F49 F43 (Or.inr ⟨(hw _ (List.mem_of_getElem? (i := 92) rfl)), rfl, hnm⟩) (hw _ (List.mem_of_getElem? (i := 65) rfl)) (ty := (.object "java/util/List")) (by decide) rfl rfl (g := (mkF m 34 #[.val (.ref a1), .val (.ref a2), .val (.int p1), .val (.int p2), .val (.ref a3), .val (.ref a4), .val (.ref a5), .val (.int (1 : Int32))] [(.ref a5), (.ref a1)])) rfl rfl (hb hby own_d103)
  have F53 : Exa Z h52 a1 "com/example/offst/offst/protocol/JoinGroupRequest" := F43.wr W52
  have F54 : Fld Z h52 a1 "com/example/offst/offst/protocol/JoinGroupRequest" "groupId" "Ljava/lang/String;" (.ref a2) := F44.other W52 (Or.inr (slot_ne (Or.inr (hw _ (List.mem_of_getElem? (i := 82) rfl))) (Or.inr (hw _ (List.mem_of_getElem? (i := 92) rfl))) (by decide) (t := (.object "java/lang/String")) (t' := (.object "java/util/List")) (by decide) (by decide)))
  have F55 : Fld Z h52 a1 "com/example/offst/offst/protocol/JoinGroupRequest" "sessionTimeoutMs" "I" (.int p1) := F45.other W52 (Or.inr (slot_ne (Or.inr (hw _ (List.mem_of_getElem? (i := 84) rfl))) (Or.inr (hw _ (List.mem_of_getElem? (i := 92) rfl))) (by decide) (t := .int) (t' := (.object "java/util/List")) (by decide) (by decide)))
  have F56 : Fld Z h52 a1 "com/example/offst/offst/protocol/JoinGroupRequest" "rebalanceTimeoutMs" "I" (.int p2) := F46.other W52 (Or.inr (slot_ne (Or.inr (hw _ (List.mem_of_getElem? (i := 86) rfl))) (Or.inr (hw _ (List.mem_of_getElem? (i := 92) rfl))) (by decide) (t := .int) (t' := (.object "java/util/List")) (by decide) (by decide)))
  have F57 : Fld Z h52 a1 "com/example/offst/offst/protocol/JoinGroupRequest" "memberId" "Ljava/lang/String;" (.ref a3) := F47.other W52 (Or.inr (slot_ne (Or.inr (hw _ (List.mem_of_getElem? (i := 88) rfl))) (Or.inr (hw _ (List.mem_of_getElem? (i := 92) rfl))) (by decide) (t := (.object "java/lang/String")) (t' := (.object "java/util/List")) (by decide) (by decide)))
  have F58 : Fld Z h52 a1 "com/example/offst/offst/protocol/JoinGroupRequest" "protocolType" "Ljava/lang/String;" (.ref a4) := F48.other W52 (Or.inr (slot_ne (Or.inr (hw _ (List.mem_of_getElem? (i := 90) rfl))) (Or.inr (hw _ (List.mem_of_getElem? (i := 92) rfl))) (by decide) (t := (.object "java/lang/String")) (t' := (.object "java/util/List")) (by decide) (by decide)))
  have F59 : Fld Z h52 a1 "com/example/offst/offst/protocol/JoinGroupRequest" "protocols" "Ljava/util/List;" (.ref a5) := F49.same W52
  have F60 : Fld Z h52 a1 "com/example/offst/offst/protocol/JoinGroupRequest" "takesMemberId" "Z" (.int (0 : Int32)) := F50.other W52 (Or.inr (slot_ne (Or.inr (hw _ (List.mem_of_getElem? (i := 94) rfl))) (Or.inr (hw _ (List.mem_of_getElem? (i := 92) rfl))) (by decide) (t := .boolean) (t' := (.object "java/util/List")) (by decide) (by decide)))
  have N61 := Fr.snoc X52 N51 g_a1
  have K61 : Keep h0 h52 [a1] := K51.wr W52 (Or.inl (List.mem_of_getElem? (i := 0) rfl))
  have Z61 : n0 ≤ h52.size := Nat.le_trans Z51 (Keep.of_wr W52).1
  refine own_go (fun t k => st52 t k) ?_
  show OwnG p.tables e below _ (T52.setTop (mkF m 37 #[.val (.ref a1), .val (.ref a2), .val (.int p1), .val (.int p2), .val (.ref a3), .val (.ref a4), .val (.ref a5), .val (.int (1 : Int32))] []))
  refine own_go (fun t k => XS.aloadN X52.here hx rfl (hb hby own_d104) rfl rfl k) ?_
  show OwnG p.tables e below _ (T52.setTop (mkF m 38 #[.val (.ref a1), .val (.ref a2), .val (.int p1), .val (.int p2), .val (.ref a3), .val (.ref a4), .val (.ref a5), .val (.int (1 : Int32))] [(.ref a1)]))
  refine own_go (fun t k => XS.iload X52.here hx rfl (hb hby own_d105) rfl  k) ?_
  show OwnG p.tables e below _ (T52.setTop (mkF m 40 #[.val (.ref a1), .val (.ref a2), .val (.int p1), .val (.int p2), .val (.ref a3), .val (.ref a4), .val (.ref a5), .val (.int (1 : Int32))] [(.int (1 : Int32)), (.ref a1)]))
  obtain ⟨T62, h62, X62, e62, W62, st62⟩ := putF X52 hx hZ hown (host := "") (Or.inl (hw _ (List.mem_of_getElem? (i := 93) rfl))) Via.refl e52 F60 F53 (Or.inr ⟨(hw _ (List.mem_of_getElem? (i := 94) rfl)), rfl, hnm⟩) (hw _ (List.mem_of_getElem? (i := 65) rfl)) (ty := .boolean) (by decide) rfl rfl (g := (mkF m 40 #[.val (.ref a1), .val (.ref a2), .val (.int p1), .val (.int p2), .val (.ref a3), .val (.ref a4), .val (.ref a5), .val (.int (1 : Int32))] [(.int (1 : Int32)), (.ref a1)])) rfl rfl (hb hby own_d106)
  have F63 : Exa Z h62 a1 "com/example/offst/offst/protocol/JoinGroupRequest" := F53.wr W62
  have F64 : Fld Z h62 a1 "com/example/offst/offst/protocol/JoinGroupRequest" "groupId" "Ljava/lang/String;" (.ref a2) := F54.other W62 (Or.inr (slot_ne (Or.inr (hw _ (List.mem_of_getElem? (i := 82) rfl))) (Or.inr (hw _ (List.mem_of_getElem? (i := 94) rfl))) (by decide) (t := (.object "java/lang/String")) (t' := .boolean) (by decide) (by decide)))
  have F65 : Fld Z h62 a1 "com/example/offst/offst/protocol/JoinGroupRequest" "sessionTimeoutMs" "I" (.int p1) := F55.other W62 (Or.inr (slot_ne (Or.inr (hw _ (List.mem_of_getElem? (i := 84) rfl))) (Or.inr (hw _ (List.mem_of_getElem? (i := 94) rfl))) (by decide) (t := .int) (t' := .boolean) (by decide) (by decide)))
  have F66 : Fld Z h62 a1 "com/example/offst/offst/protocol/JoinGroupRequest" "rebalanceTimeoutMs" "I" (.int p2) := F56.other W62 (Or.inr (slot_ne (Or.inr (hw _ (List.mem_of_getElem? (i := 86) rfl))) (Or.inr (hw _ (List.mem_of_getElem? (i := 94) rfl))) (by decide) (t := .int) (t' := .boolean) (by decide) (by decide)))
  have F67 : Fld Z h62 a1 "com/example/offst/offst/protocol/JoinGroupRequest" "memberId" "Ljava/lang/String;" (.ref a3) := F57.other W62 (Or.inr (slot_ne (Or.inr (hw _ (List.mem_of_getElem? (i := 88) rfl))) (Or.inr (hw _ (List.mem_of_getElem? (i := 94) rfl))) (by decide) (t := (.object "java/lang/String")) (t' := .boolean) (by decide) (by decide)))
  have F68 : Fld Z h62 a1 "com/example/offst/offst/protocol/JoinGroupRequest" "protocolType" "Ljava/lang/String;" (.ref a4) := F58.other W62 (Or.inr (slot_ne (Or.inr (hw _ (List.mem_of_getElem? (i := 90) rfl))) (Or.inr (hw _ (List.mem_of_getElem? (i := 94) rfl))) (by decide) (t := (.object "java/lang/String")) (t' := .boolean) (by decide) (by decide)))
  have F69 : Fld Z h62 a1 "com/example/offst/offst/protocol/JoinGroupRequest" "protocols" "Ljava/util/List;" (.ref a5) := F59.other W62 (Or.inr (slot_ne (Or.inr (hw _ (List.mem_of_getElem? (i := 92) rfl))) (Or.inr (hw _ (List.mem_of_getElem? (i := 94) rfl))) (by decide) (t := (.object "java/util/List")) (t' := .boolean) (by decide) (by decide)))
  have F70 : Fld Z h62 a1 "com/example/offst/offst/protocol/JoinGroupRequest" "takesMemberId" "Z" (.int (1 : Int32)) := F60.same W62
  have N71 := Fr.snoc X62 N61 g_a1
  have K71 : Keep h0 h62 [a1] := K61.wr W62 (Or.inl (List.mem_of_getElem? (i := 0) rfl))
  have Z71 : n0 ≤ h62.size := Nat.le_trans Z61 (Keep.of_wr W62).1
  refine own_go (fun t k => st62 t k) ?_
  show OwnG p.tables e below _ (T62.setTop (mkF m 43 #[.val (.ref a1), .val (.ref a2), .val (.int p1), .val (.int p2), .val (.ref a3), .val (.ref a4), .val (.ref a5), .val (.int (1 : Int32))] []))
  obtain ⟨fs, hr, hrun, hended, hW, hsame⟩ := X62.leave (v := none) (fun _ => rfl)
  refine ⟨_, _, X62.returnOut hx Bd.returns (hb hby own_d107) hr, hrun, hended, _, _, rfl, ?_, ⟨_, rfl⟩, hW, hsame.mono (by decide) (by decide)⟩
  show Q_own_ji Z a1 a2 p1 p2 a3 a4 a5 h0 n0 _ T62.heap _
  rw [e62]
  exact ⟨rfl, N71, K71, F63, F65⟩
theorem own_ef108 (m : MethodId) (a1 : Addr) (a2 : Addr) (q1 : Int64) : entryFrame m #[(.ref a1), (.ref a2), (.long q1)] 4 = mkF m 0 #[.val (.ref a1), .val (.ref a2), .val (.long q1), .second] [] := by first | (simp [entryFrame, mkF, argsToLocals, Value.category]; done) | rfl
theorem own_d109 : decode prog_26_method_6_code 0 = .ok (.aload_n 0, 1) := by decide +kernel
theorem own_d110 : decode prog_26_method_6_code 1 = .ok (.aload_n 1, 1) := by decide +kernel
theorem own_d111 : decode prog_26_method_6_code 2 = .ok (.putfield 69, 3) := by decide +kernel
theorem own_d112 : decode prog_26_method_6_code 5 = .ok (.aload_n 0, 1) := by decide +kernel
theorem own_d113 : decode prog_26_method_6_code 6 = .ok (.lload_n 2, 1) := by decide +kernel
theorem own_d114 : decode prog_26_method_6_code 7 = .ok (.putfield 73, 3) := by decide +kernel
theorem own_d115 : decode prog_26_method_6_code 10 = .ok (.aload_n 0, 1) := by decide +kernel
theorem own_d116 : decode prog_26_method_6_code 11 = .ok (.getstatic 7, 3) := by decide +kernel
theorem own_d117 : decode prog_26_method_6_code 14 = .ok (.putfield 13, 3) := by decide +kernel
theorem own_d118 : decode prog_26_method_6_code 17 = .ok (.return_, 1) := by decide +kernel
def Q_own_jw (Z : State) (a1 : Addr) (a2 : Addr) (q1 : Int64) (o_NO_ASSIGNMENT : Addr) (h0 : Heap) (n0 : Nat) (v : Option Value) (h : Heap) (L : List Loc) : Prop := v = none ∧ Fr n0 L ∧ Keep h0 h [a1] ∧ Exa Z h a1 "com/example/offst/offst/group/Member" ∧ Fld Z h a1 "com/example/offst/offst/group/Member" "assignment" "[B" (.ref o_NO_ASSIGNMENT) ∧ Fld Z h a1 "com/example/offst/offst/group/Member" "heldBytes" "J" (.long q1) ∧ Fld Z h a1 "com/example/offst/offst/group/Member" "joinedWith" "Lcom/example/offst/offst/protocol/JoinGroupRequest;" (.ref a2) ∧ Fld Z h a1 "com/example/offst/offst/group/Member" "sessionDeadline" "J" (.long (0 : Int64)) ∧ Fld Z h a1 "com/example/offst/offst/group/Member" "joining" "Ljava/util/concurrent/CompletableFuture;" .null ∧ Fld Z h a1 "com/example/offst/offst/group/Member" "syncing" "Ljava/util/concurrent/CompletableFuture;" .null
set_option maxRecDepth 65536 in
set_option maxHeartbeats 40000000 in
theorem own_jw (l : Launch) (Z : State) (a0 : Array Value) (hw : ∀ d ∈ tables_1, d.before a0 Z = true) (ws : List Jvm.Cond) (a1 : Addr) (a2 : Addr) (q1 : Int64) (o_NO_ASSIGNMENT : Addr) (h0 : Heap) (n0 : Nat) (Z0 : n0 ≤ h0.size) (O0 : Old Z n0 h0) (S_NO_ASSIGNMENT : Sta Z Z.heap "com/example/offst/offst/group/Member" "NO_ASSIGNMENT" "[B" (.ref o_NO_ASSIGNMENT)) (f0_0 : Exa Z h0 a1 "com/example/offst/offst/group/Member") (f0_1 : Fld Z h0 a1 "com/example/offst/offst/group/Member" "assignment" "[B" (.ref o_NO_ASSIGNMENT)) (f0_2 : Fld Z h0 a1 "com/example/offst/offst/group/Member" "heldBytes" "J" (.long (0 : Int64))) (f0_3 : Fld Z h0 a1 "com/example/offst/offst/group/Member" "joinedWith" "Lcom/example/offst/offst/protocol/JoinGroupRequest;" .null) (f0_4 : Fld Z h0 a1 "com/example/offst/offst/group/Member" "sessionDeadline" "J" (.long (0 : Int64))) (f0_5 : Fld Z h0 a1 "com/example/offst/offst/group/Member" "joining" "Ljava/util/concurrent/CompletableFuture;" .null) (f0_6 : Fld Z h0 a1 "com/example/offst/offst/group/Member" "syncing" "Ljava/util/concurrent/CompletableFuture;" .null) (g_a1 : n0 ≤ a1) :
    MetFree l (⟨"com/example/offst/offst/group/Member", "joinWith", "(Lcom/example/offst/offst/protocol/JoinGroupRequest;J)V"⟩ : MethodName) (head1 (Jvm.Cond.code (⟨"com/example/offst/offst/group/Member", "joinWith", "(Lcom/example/offst/offst/protocol/JoinGroupRequest;J)V"⟩ : MethodName) prog_26_method_6_code 4 none :: ws) ({ frames := 0, cells := 0, slots := 0, locals := 0 } : Room)) (fun a U => a = #[(.ref a1), (.ref a2), (.long q1)] ∧ Z.Warmed39 U.vm ∧ U.heap = h0) (fun _ _ _ _ _ => True) (fun _ U o U' => ∃ v L, o = .returned v ∧ Q_own_jw Z a1 a2 q1 o_NO_ASSIGNMENT h0 n0 v U'.heap L ∧ FrameEnd U o U' L ({ frames := 0, cells := 0, slots := 0, locals := 0 } : Room).cells ({ frames := 0, cells := 0, slots := 0, locals := 0 } : Room).slots) := by
  refine MetFree.of_bodySF (plainFor_of_name own_pn45) hisR ?_
  intro p e s m args below meth c s₁ Bd hml0 hP hK
  obtain ⟨rfl, hZ, hh⟩ := hP
  have hx := Bd.exec
  have hby := Bd.bytes
  have hml : c.maxLocals = 4 := hml0
  have hown : s.vm.findClass "com/example/offst/offst/group/Member" = some m.cls := findClass_of_methodNamed Bd.named
  have hnm := (name_of_methodNamed Bd.named Bd.method).1
  have X0 : Stand p l e ({ frames := 0, cells := 0, slots := 0, locals := 0 } : Room) s m #[(.ref a1), (.ref a2), (.long q1)] below meth c s₁ [] 0 0 := Stand.of_body Bd
  have e0 : s₁.heap = h0 := by rw [← hh, Bd.state]; rfl
  have N0 := Fr.nil n0
  have K0 := Keep.refl h0 [a1]
  refine own_go (fun t k => castTop (own_ef108 m a1 a2 q1) k) ?_
  show OwnG p.tables e below _ (s₁.setTop (mkF m 0 #[.val (.ref a1), .val (.ref a2), .val (.long q1), .second] []))
  refine own_go (fun t k => XS.aloadN X0.here hx rfl (hb hby own_d109) rfl rfl k) ?_
  show OwnG p.tables e below _ (s₁.setTop (mkF m 1 #[.val (.ref a1), .val (.ref a2), .val (.long q1), .second] [(.ref a1)]))
  refine own_go (fun t k => XS.aloadN X0.here hx rfl (hb hby own_d110) rfl rfl k) ?_
  show OwnG p.tables e below _ (s₁.setTop (mkF m 2 #[.val (.ref a1), .val (.ref a2), .val (.long q1), .second] [(.ref a2), (.ref a1)]))
  obtain ⟨T1, h1, X1, e1, W1, st1⟩ := putF X0 hx hZ hown (host := "") (Or.inl (hw _ (List.mem_of_getElem? (i := 100) rfl))) Via.refl e0 f0_3 f0_0 (Or.inl (hw _ (List.mem_of_getElem? (i := 101) rfl))) (hw _ (List.mem_of_getElem? (i := 2) rfl)) (ty := (.object "com/example/offst/offst/protocol/JoinGroupRequest")) (by decide) rfl rfl (g := (mkF m 2 #[.val (.ref a1), .val (.ref a2), .val (.long q1), .second] [(.ref a2), (.ref a1)])) rfl rfl (hb hby own_d111)
  have F2 : Exa Z h1 a1 "com/example/offst/offst/group/Member" := f0_0.wr W1
  have F3 : Fld Z h1 a1 "com/example/offst/offst/group/Member" "assignment" "[B" (.ref o_NO_ASSIGNMENT) := f0_1.other W1 (Or.inr (slot_ne (Or.inl (hw _ (List.mem_of_getElem? (i := 37) rfl))) (Or.inl (hw _ (List.mem_of_getElem? (i := 101) rfl))) (by decide) (t := (.array .byte)) (t' := (.object "com/example/offst/offst/protocol/JoinGroupRequest")) (by decide) (by decide)))
  have F4 : Fld Z h1 a1 "com/example/offst/offst/group/Member" "heldBytes" "J" (.long (0 : Int64)) := f0_2.other W1 (Or.inr (slot_ne (Or.inl (hw _ (List.mem_of_getElem? (i := 103) rfl))) (Or.inl (hw _ (List.mem_of_getElem? (i := 101) rfl))) (by decide) (t := .long) (t' := (.object "com/example/offst/offst/protocol/JoinGroupRequest")) (by decide) (by decide)))
  have F5 : Fld Z h1 a1 "com/example/offst/offst/group/Member" "joinedWith" "Lcom/example/offst/offst/protocol/JoinGroupRequest;" (.ref a2) := f0_3.same W1
  have F6 : Fld Z h1 a1 "com/example/offst/offst/group/Member" "sessionDeadline" "J" (.long (0 : Int64)) := f0_4.other W1 (Or.inr (slot_ne (Or.inl (hw _ (List.mem_of_getElem? (i := 126) rfl))) (Or.inl (hw _ (List.mem_of_getElem? (i := 101) rfl))) (by decide) (t := .long) (t' := (.object "com/example/offst/offst/protocol/JoinGroupRequest")) (by decide) (by decide)))
  have F7 : Fld Z h1 a1 "com/example/offst/offst/group/Member" "joining" "Ljava/util/concurrent/CompletableFuture;" .null := f0_5.other W1 (Or.inr (slot_ne (Or.inl (hw _ (List.mem_of_getElem? (i := 133) rfl))) (Or.inl (hw _ (List.mem_of_getElem? (i := 101) rfl))) (by decide) (t := (.object "java/util/concurrent/CompletableFuture")) (t' := (.object "com/example/offst/offst/protocol/JoinGroupRequest")) (by decide) (by decide)))
  have F8 : Fld Z h1 a1 "com/example/offst/offst/group/Member" "syncing" "Ljava/util/concurrent/CompletableFuture;" .null := f0_6.other W1 (Or.inr (slot_ne (Or.inl (hw _ (List.mem_of_getElem? (i := 135) rfl))) (Or.inl (hw _ (List.mem_of_getElem? (i := 101) rfl))) (by decide) (t := (.object "java/util/concurrent/CompletableFuture")) (t' := (.object "com/example/offst/offst/protocol/JoinGroupRequest")) (by decide) (by decide)))
  have F9 : Old Z n0 h1 := O0.wr W1 g_a1
  have N10 := Fr.snoc X1 N0 g_a1
  have K10 : Keep h0 h1 [a1] := K0.wr W1 (Or.inl (List.mem_of_getElem? (i := 0) rfl))
  have Z10 : n0 ≤ h1.size := Nat.le_trans Z0 (Keep.of_wr W1).1
  refine own_go (fun t k => st1 t k) ?_
  show OwnG p.tables e below _ (T1.setTop (mkF m 5 #[.val (.ref a1), .val (.ref a2), .val (.long q1), .second] []))
  refine own_go (fun t k => XS.aloadN X1.here hx rfl (hb hby own_d112) rfl rfl k) ?_
  show OwnG p.tables e below _ (T1.setTop (mkF m 6 #[.val (.ref a1), .val (.ref a2), .val (.long q1), .second] [(.ref a1)]))
  refine own_go (fun t k => XS.lloadN X1.here hx rfl (hb hby own_d113) rfl  k) ?_
  show OwnG p.tables e below _ (T1.setTop (mkF m 7 #[.val (.ref a1), .val (.ref a2), .val (.long q1), .second] [(.long q1), (.ref a1)]))
  obtain ⟨T11, h11, X11, e11, W11, st11⟩ := putF X1 hx hZ hown (host := "") (Or.inl (hw _ (List.mem_of_getElem? (i := 102) rfl))) Via.refl e1 F4 F2 (Or.inl (hw _ (List.mem_of_getElem? (i := 103) rfl))) (hw _ (List.mem_of_getElem? (i := 2) rfl)) (ty := .long) (by decide) rfl rfl (g := (mkF m 7 #[.val (.ref a1), .val (.ref a2), .val (.long q1), .second] [(.long q1), (.ref a1)])) rfl rfl (hb hby own_d114)
  have F12 : Exa Z h11 a1 "com/example/offst/offst/group/Member" := F2.wr W11
  have F13 : Fld Z h11 a1 "com/example/offst/offst/group/Member" "assignment" "[B" (.ref o_NO_ASSIGNMENT) := F3.other W11 (Or.inr (slot_ne (Or.inl (hw _ (List.mem_of_getElem? (i := 37) rfl))) (Or.inl (hw _ (List.mem_of_getElem? (i := 103) rfl))) (by decide) (t := (.array .byte)) (t' := .long) (by decide) (by decide)))
  have F14 : Fld Z h11 a1 "com/example/offst/offst/group/Member" "heldBytes" "J" (.long q1) := F4.same W11
  have F15 : Fld Z h11 a1 "com/example/offst/offst/group/Member" "joinedWith" "Lcom/example/offst/offst/protocol/JoinGroupRequest;" (.ref a2) := F5.other W11 (Or.inr (slot_ne (Or.inl (hw _ (List.mem_of_getElem? (i := 101) rfl))) (Or.inl (hw _ (List.mem_of_getElem? (i := 103) rfl))) (by decide) (t := (.object "com/example/offst/offst/protocol/JoinGroupRequest")) (t' := .long) (by decide) (by decide)))
  have F16 : Fld Z h11 a1 "com/example/offst/offst/group/Member" "sessionDeadline" "J" (.long (0 : Int64)) := F6.other W11 (Or.inr (slot_ne (Or.inl (hw _ (List.mem_of_getElem? (i := 126) rfl))) (Or.inl (hw _ (List.mem_of_getElem? (i := 103) rfl))) (by decide) (t := .long) (t' := .long) (by decide) (by decide)))
  have F17 : Fld Z h11 a1 "com/example/offst/offst/group/Member" "joining" "Ljava/util/concurrent/CompletableFuture;" .null := F7.other W11 (Or.inr (slot_ne (Or.inl (hw _ (List.mem_of_getElem? (i := 133) rfl))) (Or.inl (hw _ (List.mem_of_getElem? (i := 103) rfl))) (by decide) (t := (.object "java/util/concurrent/CompletableFuture")) (t' := .long) (by decide) (by decide)))
  have F18 : Fld Z h11 a1 "com/example/offst/offst/group/Member" "syncing" "Ljava/util/concurrent/CompletableFuture;" .null := F8.other W11 (Or.inr (slot_ne (Or.inl (hw _ (List.mem_of_getElem? (i := 135) rfl))) (Or.inl (hw _ (List.mem_of_getElem? (i := 103) rfl))) (by decide) (t := (.object "java/util/concurrent/CompletableFuture")) (t' := .long) (by decide) (by decide)))
  have F19 : Old Z n0 h11 := F9.wr W11 g_a1
  have N20 := Fr.snoc X11 N10 g_a1
  have K20 : Keep h0 h11 [a1] := K10.wr W11 (Or.inl (List.mem_of_getElem? (i := 0) rfl))
  have Z20 : n0 ≤ h11.size := Nat.le_trans Z10 (Keep.of_wr W11).1
  refine own_go (fun t k => st11 t k) ?_
  show OwnG p.tables e below _ (T11.setTop (mkF m 10 #[.val (.ref a1), .val (.ref a2), .val (.long q1), .second] []))
  refine own_go (fun t k => XS.aloadN X11.here hx rfl (hb hby own_d115) rfl rfl k) ?_
  show OwnG p.tables e below _ (T11.setTop (mkF m 11 #[.val (.ref a1), .val (.ref a2), .val (.long q1), .second] [(.ref a1)]))
  obtain ⟨T21, X21, e21, st21⟩ := getS2 X11 hx hZ hown (host := "") (Or.inl (hw _ (List.mem_of_getElem? (i := 34) rfl))) Via.refl e11 (S_NO_ASSIGNMENT.ext F19.2) (g := (mkF m 11 #[.val (.ref a1), .val (.ref a2), .val (.long q1), .second] [(.ref a1)])) rfl (hb hby own_d116)
  refine own_go (fun t k => st21 t k) ?_
  show OwnG p.tables e below _ (T21.setTop (mkF m 14 #[.val (.ref a1), .val (.ref a2), .val (.long q1), .second] [(.ref o_NO_ASSIGNMENT), (.ref a1)]))
  obtain ⟨T22, h22, X22, e22, W22, st22⟩ := putF X21 hx hZ hown (host := "") (Or.inl (hw _ (List.mem_of_getElem? (i := 36) rfl))) Via.refl e21 F13 F12 (Or.inl (hw _ (List.mem_of_getElem? (i := 37) rfl))) (hw _ (List.mem_of_getElem? (i := 2) rfl)) (ty := (.array .byte)) (by decide) rfl rfl (g := (mkF m 14 #[.val (.ref a1), .val (.ref a2), .val (.long q1), .second] [(.ref o_NO_ASSIGNMENT), (.ref a1)])) rfl rfl (hb hby own_d117)
  have F23 : Exa Z h22 a1 "com/example/offst/offst/group/Member" := F12.wr W22
  have F24 : Fld Z h22 a1 "com/example/offst/offst/group/Member" "assignment" "[B" (.ref o_NO_ASSIGNMENT) := F13.same W22
  have F25 : Fld Z h22 a1 "com/example/offst/offst/group/Member" "heldBytes" "J" (.long q1) := F14.other W22 (Or.inr (slot_ne (Or.inl (hw _ (List.mem_of_getElem? (i := 103) rfl))) (Or.inl (hw _ (List.mem_of_getElem? (i := 37) rfl))) (by decide) (t := .long) (t' := (.array .byte)) (by decide) (by decide)))
  have F26 : Fld Z h22 a1 "com/example/offst/offst/group/Member" "joinedWith" "Lcom/example/offst/offst/protocol/JoinGroupRequest;" (.ref a2) := F15.other W22 (Or.inr (slot_ne (Or.inl (hw _ (List.mem_of_getElem? (i := 101) rfl))) (Or.inl (hw _ (List.mem_of_getElem? (i := 37) rfl))) (by decide) (t := (.object "com/example/offst/offst/protocol/JoinGroupRequest")) (t' := (.array .byte)) (by decide) (by decide)))
  have F27 : Fld Z h22 a1 "com/example/offst/offst/group/Member" "sessionDeadline" "J" (.long (0 : Int64)) := F16.other W22 (Or.inr (slot_ne (Or.inl (hw _ (List.mem_of_getElem? (i := 126) rfl))) (Or.inl (hw _ (List.mem_of_getElem? (i := 37) rfl))) (by decide) (t := .long) (t' := (.array .byte)) (by decide) (by decide)))
  have F28 : Fld Z h22 a1 "com/example/offst/offst/group/Member" "joining" "Ljava/util/concurrent/CompletableFuture;" .null := F17.other W22 (Or.inr (slot_ne (Or.inl (hw _ (List.mem_of_getElem? (i := 133) rfl))) (Or.inl (hw _ (List.mem_of_getElem? (i := 37) rfl))) (by decide) (t := (.object "java/util/concurrent/CompletableFuture")) (t' := (.array .byte)) (by decide) (by decide)))
  have F29 : Fld Z h22 a1 "com/example/offst/offst/group/Member" "syncing" "Ljava/util/concurrent/CompletableFuture;" .null := F18.other W22 (Or.inr (slot_ne (Or.inl (hw _ (List.mem_of_getElem? (i := 135) rfl))) (Or.inl (hw _ (List.mem_of_getElem? (i := 37) rfl))) (by decide) (t := (.object "java/util/concurrent/CompletableFuture")) (t' := (.array .byte)) (by decide) (by decide)))
  have F30 : Old Z n0 h22 := F19.wr W22 g_a1
  have N31 := Fr.snoc X22 N20 g_a1
  have K31 : Keep h0 h22 [a1] := K20.wr W22 (Or.inl (List.mem_of_getElem? (i := 0) rfl))
  have Z31 : n0 ≤ h22.size := Nat.le_trans Z20 (Keep.of_wr W22).1
  refine own_go (fun t k => st22 t k) ?_
  show OwnG p.tables e below _ (T22.setTop (mkF m 17 #[.val (.ref a1), .val (.ref a2), .val (.long q1), .second] []))
  obtain ⟨fs, hr, hrun, hended, hW, hsame⟩ := X22.leave (v := none) (fun _ => rfl)
  refine ⟨_, _, X22.returnOut hx Bd.returns (hb hby own_d118) hr, hrun, hended, _, _, rfl, ?_, ⟨_, rfl⟩, hW, hsame.mono (by decide) (by decide)⟩
  show Q_own_jw Z a1 a2 q1 o_NO_ASSIGNMENT h0 n0 _ T22.heap _
  rw [e22]
  exact ⟨rfl, N31, K31, F23, F24, F25, F26, F27, F28, F29⟩
theorem own_ef119 (m : MethodId) (a1 : Addr) : entryFrame m #[(.ref a1)] 1 = mkF m 0 #[.val (.ref a1)] [] := by first | (simp [entryFrame, mkF, argsToLocals, Value.category]; done) | rfl
theorem own_d120 : decode prog_74_method_7_code 0 = .ok (.aload_n 0, 1) := by decide +kernel
theorem own_d121 : decode prog_74_method_7_code 1 = .ok (.getfield 13, 3) := by decide +kernel
theorem own_d122 : decode prog_74_method_7_code 4 = .ok (.ireturn, 1) := by decide +kernel
def Q_own_sm (Z : State) (a1 : Addr) (v1 : Int32) (h0 : Heap) (n0 : Nat) (v : Option Value) (h : Heap) (L : List Loc) : Prop := v = some (.int v1) ∧ Fr n0 L ∧ h = h0
set_option maxRecDepth 65536 in
set_option maxHeartbeats 40000000 in
theorem own_sm (l : Launch) (Z : State) (a0 : Array Value) (hw : ∀ d ∈ tables_1, d.before a0 Z = true) (ws : List Jvm.Cond) (a1 : Addr) (v1 : Int32) (h0 : Heap) (n0 : Nat) (Z0 : n0 ≤ h0.size) (f0_0 : Fld Z h0 a1 "com/example/offst/offst/protocol/JoinGroupRequest" "sessionTimeoutMs" "I" (.int v1)) :
    MetFree l (⟨"com/example/offst/offst/protocol/JoinGroupRequest", "sessionTimeoutMs", "()I"⟩ : MethodName) (head1 (Jvm.Cond.code (⟨"com/example/offst/offst/protocol/JoinGroupRequest", "sessionTimeoutMs", "()I"⟩ : MethodName) prog_74_method_7_code 1 (some .int) :: ws) ({ frames := 0, cells := 0, slots := 0, locals := 0 } : Room)) (fun a U => a = #[(.ref a1)] ∧ Z.Warmed39 U.vm ∧ U.heap = h0) (fun _ _ _ _ _ => True) (fun _ U o U' => ∃ v L, o = .returned v ∧ Q_own_sm Z a1 v1 h0 n0 v U'.heap L ∧ FrameEnd U o U' L ({ frames := 0, cells := 0, slots := 0, locals := 0 } : Room).cells ({ frames := 0, cells := 0, slots := 0, locals := 0 } : Room).slots) := by
  refine MetFree.of_bodySF (plainFor_of_name own_pn83) hisR ?_
  intro p e s m args below meth c s₁ Bd hml0 hP hK
  obtain ⟨rfl, hZ, hh⟩ := hP
  have hx := Bd.exec
  have hby := Bd.bytes
  have hml : c.maxLocals = 1 := hml0
  have hown : s.vm.findClass "com/example/offst/offst/protocol/JoinGroupRequest" = some m.cls := findClass_of_methodNamed Bd.named
  have hnm := (name_of_methodNamed Bd.named Bd.method).1
  have X0 : Stand p l e ({ frames := 0, cells := 0, slots := 0, locals := 0 } : Room) s m #[(.ref a1)] below meth c s₁ [] 0 0 := Stand.of_body Bd
  have e0 : s₁.heap = h0 := by rw [← hh, Bd.state]; rfl
  have N0 := Fr.nil n0
  have K0 := Keep.refl h0 []
  refine own_go (fun t k => castTop (own_ef119 m a1) k) ?_
  show OwnG p.tables e below _ (s₁.setTop (mkF m 0 #[.val (.ref a1)] []))
  refine own_go (fun t k => XS.aloadN X0.here hx rfl (hb hby own_d120) rfl rfl k) ?_
  show OwnG p.tables e below _ (s₁.setTop (mkF m 1 #[.val (.ref a1)] [(.ref a1)]))
  obtain ⟨T1, X1, e1, st1⟩ := getF X0 hx hZ hown (host := "") (Or.inl (hw _ (List.mem_of_getElem? (i := 83) rfl))) Via.refl e0 f0_0 (g := (mkF m 1 #[.val (.ref a1)] [(.ref a1)])) rfl rfl (hb hby own_d121)
  refine own_go (fun t k => st1 t k) ?_
  show OwnG p.tables e below _ (T1.setTop (mkF m 4 #[.val (.ref a1)] [(.int v1)]))
  obtain ⟨fs, hr, hrun, hended, hW, hsame⟩ := X1.leave (v := some (.int v1)) (fun h => by rw [Bd.returns] at h; cases h)
  refine ⟨_, _, retI X1 hx Bd.returns (hb hby own_d122) hr, hrun, hended, _, _, rfl, ?_, ⟨_, rfl⟩, hW, hsame.mono (by decide) (by decide)⟩
  show Q_own_sm Z a1 v1 h0 n0 _ T1.heap _
  rw [e1]
  exact ⟨rfl, N0, rfl⟩
theorem own_ef123 (m : MethodId) (a1 : Addr) (q1 : Int64) : entryFrame m #[(.ref a1), (.long q1)] 7 = mkF m 0 #[.val (.ref a1), .val (.long q1), .second, .unset, .unset, .unset, .unset] [] := by first | (simp [entryFrame, mkF, argsToLocals, Value.category]; done) | rfl
theorem own_pn124 : plainName "java/util/concurrent/TimeUnit" = true := by first | (simp [plainName, overriddenIn]; done) | decide +kernel
theorem own_d125 : decode jdk_2799_method_7_code 0 = .ok (.aload_n 0, 1) := by decide +kernel
theorem own_d126 : decode jdk_2799_method_7_code 1 = .ok (.getfield 44, 3) := by decide +kernel
theorem own_d127 : decode jdk_2799_method_7_code 4 = .ok (.dup2, 1) := by decide +kernel
theorem own_d128 : decode jdk_2799_method_7_code 5 = .ok (.lstore_n 3, 1) := by decide +kernel
theorem own_d129 : decode jdk_2799_method_7_code 6 = .ok (.lconst 1, 1) := by decide +kernel
theorem own_d130 : decode jdk_2799_method_7_code 7 = .ok (.lcmp, 1) := by decide +kernel
theorem own_d131 : decode jdk_2799_method_7_code 8 = .ok (.ifCond .ne 5, 3) := by decide +kernel
theorem own_d132 : decode jdk_2799_method_7_code 13 = .ok (.lload_n 1, 1) := by decide +kernel
theorem own_d133 : decode jdk_2799_method_7_code 14 = .ok (.aload_n 0, 1) := by decide +kernel
theorem own_d134 : decode jdk_2799_method_7_code 15 = .ok (.getfield 52, 3) := by decide +kernel
theorem own_d135 : decode jdk_2799_method_7_code 18 = .ok (.dup2, 1) := by decide +kernel
theorem own_d136 : decode jdk_2799_method_7_code 19 = .ok (.lstore 5, 2) := by decide +kernel
theorem own_d137 : decode jdk_2799_method_7_code 21 = .ok (.lcmp, 1) := by decide +kernel
theorem own_d138 : decode jdk_2799_method_7_code 22 = .ok (.ifCond .le 7, 3) := by decide +kernel
theorem own_d139 : decode jdk_2799_method_7_code 29 = .ok (.lload_n 1, 1) := by decide +kernel
theorem own_d140 : decode jdk_2799_method_7_code 30 = .ok (.lload 5, 2) := by decide +kernel
theorem own_d141 : decode jdk_2799_method_7_code 32 = .ok (.lneg, 1) := by decide +kernel
theorem own_d142 : decode jdk_2799_method_7_code 33 = .ok (.lcmp, 1) := by decide +kernel
theorem own_d143 : decode jdk_2799_method_7_code 34 = .ok (.ifCond .ge 7, 3) := by decide +kernel
theorem own_d144 : decode jdk_2799_method_7_code 41 = .ok (.lload_n 1, 1) := by decide +kernel
theorem own_d145 : decode jdk_2799_method_7_code 42 = .ok (.lload_n 3, 1) := by decide +kernel
theorem own_d146 : decode jdk_2799_method_7_code 43 = .ok (.lmul, 1) := by decide +kernel
theorem own_d147 : decode jdk_2799_method_7_code 44 = .ok (.lreturn, 1) := by decide +kernel
def Q_own_nanos (Z : State) (a1 : Addr) (q1 : Int64) (h0 : Heap) (n0 : Nat) (v : Option Value) (h : Heap) (L : List Loc) : Prop := v = some (.long (q1 * (1000000 : Int64))) ∧ Fr n0 L ∧ h = h0
set_option maxRecDepth 65536 in
set_option maxHeartbeats 40000000 in
theorem own_nanos (l : Launch) (Z : State) (a0 : Array Value) (hw : ∀ d ∈ tables_1, d.before a0 Z = true) (ws : List Jvm.Cond) (a1 : Addr) (q1 : Int64) (h0 : Heap) (n0 : Nat) (Z0 : n0 ≤ h0.size) (f0_0 : Fld Z h0 a1 "java/util/concurrent/TimeUnit" "scale" "J" (.long (1000000 : Int64))) (f0_1 : Fld Z h0 a1 "java/util/concurrent/TimeUnit" "maxNanos" "J" (.long (9223372036854 : Int64))) (hhi : ¬ (9223372036854 : Int64) < q1) (hlo : ¬ q1 < (-(9223372036854 : Int64))) :
    MetFree l (⟨"java/util/concurrent/TimeUnit", "toNanos", "(J)J"⟩ : MethodName) (head1 (Jvm.Cond.code (⟨"java/util/concurrent/TimeUnit", "toNanos", "(J)J"⟩ : MethodName) jdk_2799_method_7_code 7 (some .long) :: ws) ({ frames := 0, cells := 0, slots := 0, locals := 0 } : Room)) (fun a U => a = #[(.ref a1), (.long q1)] ∧ Z.Warmed39 U.vm ∧ U.heap = h0) (fun _ _ _ _ _ => True) (fun _ U o U' => ∃ v L, o = .returned v ∧ Q_own_nanos Z a1 q1 h0 n0 v U'.heap L ∧ FrameEnd U o U' L ({ frames := 0, cells := 0, slots := 0, locals := 0 } : Room).cells ({ frames := 0, cells := 0, slots := 0, locals := 0 } : Room).slots) := by
  refine MetFree.of_bodySF (plainFor_of_name own_pn124) hisR ?_
  intro p e s m args below meth c s₁ Bd hml0 hP hK
  obtain ⟨rfl, hZ, hh⟩ := hP
  have hx := Bd.exec
  have hby := Bd.bytes
  have hml : c.maxLocals = 7 := hml0
  have hown : s.vm.findClass "java/util/concurrent/TimeUnit" = some m.cls := findClass_of_methodNamed Bd.named
  have hnm := (name_of_methodNamed Bd.named Bd.method).1
  have X0 : Stand p l e ({ frames := 0, cells := 0, slots := 0, locals := 0 } : Room) s m #[(.ref a1), (.long q1)] below meth c s₁ [] 0 0 := Stand.of_body Bd
  have e0 : s₁.heap = h0 := by rw [← hh, Bd.state]; rfl
  have N0 := Fr.nil n0
  have K0 := Keep.refl h0 []
  refine own_go (fun t k => castTop (own_ef123 m a1 q1) k) ?_
  show OwnG p.tables e below _ (s₁.setTop (mkF m 0 #[.val (.ref a1), .val (.long q1), .second, .unset, .unset, .unset, .unset] []))
  refine own_go (fun t k => XS.aloadN X0.here hx rfl (hb hby own_d125) rfl rfl k) ?_
  show OwnG p.tables e below _ (s₁.setTop (mkF m 1 #[.val (.ref a1), .val (.long q1), .second, .unset, .unset, .unset, .unset] [(.ref a1)]))
  obtain ⟨T1, X1, e1, st1⟩ := getF X0 hx hZ hown (host := "") (Or.inl (hw _ (List.mem_of_getElem? (i := 121) rfl))) Via.refl e0 f0_0 (g := (mkF m 1 #[.val (.ref a1), .val (.long q1), .second, .unset, .unset, .unset, .unset] [(.ref a1)])) rfl rfl (hb hby own_d126)
  refine own_go (fun t k => st1 t k) ?_
  show OwnG p.tables e below _ (T1.setTop (mkF m 4 #[.val (.ref a1), .val (.long q1), .second, .unset, .unset, .unset, .unset] [(.long (1000000 : Int64))]))
  refine own_go (fun t k => Jvm.Free.XT.dup2L X1.here hx rfl (hb hby own_d127) rfl k) ?_
  show OwnG p.tables e below _ (T1.setTop (mkF m 5 #[.val (.ref a1), .val (.long q1), .second, .unset, .unset, .unset, .unset] [(.long (1000000 : Int64)), (.long (1000000 : Int64))]))
  refine own_go (fun t k => XS.lstoreN X1.here hx rfl (hb hby own_d128) rfl (l' := #[.val (.ref a1), .val (.long q1), .second, .val (.long (1000000 : Int64)), .second, .unset, .unset]) rfl k) ?_
  show OwnG p.tables e below _ (T1.setTop (mkF m 6 #[.val (.ref a1), .val (.long q1), .second, .val (.long (1000000 : Int64)), .second, .unset, .unset] [(.long (1000000 : Int64))]))
  refine own_go (fun t k => XS.lconst X1.here hx rfl (hb hby own_d129) k) ?_
  show OwnG p.tables e below _ (T1.setTop (mkF m 7 #[.val (.ref a1), .val (.long q1), .second, .val (.long (1000000 : Int64)), .second, .unset, .unset] [(.long (1 : Int64)), (.long (1000000 : Int64))]))
  refine own_go (fun t k => XS.lcmp X1.here hx rfl (hb hby own_d130) rfl k) ?_
  show OwnG p.tables e below _ (T1.setTop (mkF m 8 #[.val (.ref a1), .val (.long q1), .second, .val (.long (1000000 : Int64)), .second, .unset, .unset] [(.int (lcmpW (1000000 : Int64) (1 : Int64)))]))
  refine own_go (fun t k => XS.ifYes X1.here hx rfl (pc0 := 8) (pc' := 13) rfl (hb hby own_d131) rfl ((if0 _ _).trans (feq (mt (lw_eq _ _).mp (by decide : ¬ ((1000000 : Int64) = (1 : Int64))))).2) (by decide) (by decide) k) ?_
  show OwnG p.tables e below _ (T1.setTop (mkF m 13 #[.val (.ref a1), .val (.long q1), .second, .val (.long (1000000 : Int64)), .second, .unset, .unset] []))
  refine own_go (fun t k => XS.lloadN X1.here hx rfl (hb hby own_d132) rfl  k) ?_
  show OwnG p.tables e below _ (T1.setTop (mkF m 14 #[.val (.ref a1), .val (.long q1), .second, .val (.long (1000000 : Int64)), .second, .unset, .unset] [(.long q1)]))
  refine own_go (fun t k => XS.aloadN X1.here hx rfl (hb hby own_d133) rfl rfl k) ?_
  show OwnG p.tables e below _ (T1.setTop (mkF m 15 #[.val (.ref a1), .val (.long q1), .second, .val (.long (1000000 : Int64)), .second, .unset, .unset] [(.ref a1), (.long q1)]))
  obtain ⟨T2, X2, e2, st2⟩ := getF X1 hx hZ hown (host := "") (Or.inl (hw _ (List.mem_of_getElem? (i := 123) rfl))) Via.refl e1 f0_1 (g := (mkF m 15 #[.val (.ref a1), .val (.long q1), .second, .val (.long (1000000 : Int64)), .second, .unset, .unset] [(.ref a1), (.long q1)])) rfl rfl (hb hby own_d134)
  refine own_go (fun t k => st2 t k) ?_
  show OwnG p.tables e below _ (T2.setTop (mkF m 18 #[.val (.ref a1), .val (.long q1), .second, .val (.long (1000000 : Int64)), .second, .unset, .unset] [(.long (9223372036854 : Int64)), (.long q1)]))
  refine own_go (fun t k => Jvm.Free.XT.dup2L X2.here hx rfl (hb hby own_d135) rfl k) ?_
  show OwnG p.tables e below _ (T2.setTop (mkF m 19 #[.val (.ref a1), .val (.long q1), .second, .val (.long (1000000 : Int64)), .second, .unset, .unset] [(.long (9223372036854 : Int64)), (.long (9223372036854 : Int64)), (.long q1)]))
  refine own_go (fun t k => XS.lstore X2.here hx rfl (hb hby own_d136) rfl (l' := #[.val (.ref a1), .val (.long q1), .second, .val (.long (1000000 : Int64)), .second, .val (.long (9223372036854 : Int64)), .second]) rfl k) ?_
  show OwnG p.tables e below _ (T2.setTop (mkF m 21 #[.val (.ref a1), .val (.long q1), .second, .val (.long (1000000 : Int64)), .second, .val (.long (9223372036854 : Int64)), .second] [(.long (9223372036854 : Int64)), (.long q1)]))
  refine own_go (fun t k => XS.lcmp X2.here hx rfl (hb hby own_d137) rfl k) ?_
  show OwnG p.tables e below _ (T2.setTop (mkF m 22 #[.val (.ref a1), .val (.long q1), .second, .val (.long (1000000 : Int64)), .second, .val (.long (9223372036854 : Int64)), .second] [(.int (lcmpW q1 (9223372036854 : Int64)))]))
  refine own_go (fun t k => XS.ifYes X2.here hx rfl (pc0 := 22) (pc' := 29) rfl (hb hby own_d138) rfl ((if0 _ _).trans (flt (mt (lw_gt _ _).mp hhi)).2.2.2) (by decide) (by decide) k) ?_
  show OwnG p.tables e below _ (T2.setTop (mkF m 29 #[.val (.ref a1), .val (.long q1), .second, .val (.long (1000000 : Int64)), .second, .val (.long (9223372036854 : Int64)), .second] []))
  refine own_go (fun t k => XS.lloadN X2.here hx rfl (hb hby own_d139) rfl  k) ?_
  show OwnG p.tables e below _ (T2.setTop (mkF m 30 #[.val (.ref a1), .val (.long q1), .second, .val (.long (1000000 : Int64)), .second, .val (.long (9223372036854 : Int64)), .second] [(.long q1)]))
  refine own_go (fun t k => XS.lload X2.here hx rfl (hb hby own_d140) rfl  k) ?_
  show OwnG p.tables e below _ (T2.setTop (mkF m 32 #[.val (.ref a1), .val (.long q1), .second, .val (.long (1000000 : Int64)), .second, .val (.long (9223372036854 : Int64)), .second] [(.long (9223372036854 : Int64)), (.long q1)]))
  refine own_go (fun t k => XS.lneg X2.here hx rfl (hb hby own_d141) rfl k) ?_
  show OwnG p.tables e below _ (T2.setTop (mkF m 33 #[.val (.ref a1), .val (.long q1), .second, .val (.long (1000000 : Int64)), .second, .val (.long (9223372036854 : Int64)), .second] [(.long (-(9223372036854 : Int64))), (.long q1)]))
  refine own_go (fun t k => XS.lcmp X2.here hx rfl (hb hby own_d142) rfl k) ?_
  show OwnG p.tables e below _ (T2.setTop (mkF m 34 #[.val (.ref a1), .val (.long q1), .second, .val (.long (1000000 : Int64)), .second, .val (.long (9223372036854 : Int64)), .second] [(.int (lcmpW q1 (-(9223372036854 : Int64))))]))
  refine own_go (fun t k => XS.ifYes X2.here hx rfl (pc0 := 34) (pc' := 41) rfl (hb hby own_d143) rfl ((if0 _ _).trans (flt (mt (lw_lt _ _).mp hlo)).2.1) (by decide) (by decide) k) ?_
  show OwnG p.tables e below _ (T2.setTop (mkF m 41 #[.val (.ref a1), .val (.long q1), .second, .val (.long (1000000 : Int64)), .second, .val (.long (9223372036854 : Int64)), .second] []))
  refine own_go (fun t k => XS.lloadN X2.here hx rfl (hb hby own_d144) rfl  k) ?_
  show OwnG p.tables e below _ (T2.setTop (mkF m 42 #[.val (.ref a1), .val (.long q1), .second, .val (.long (1000000 : Int64)), .second, .val (.long (9223372036854 : Int64)), .second] [(.long q1)]))
  refine own_go (fun t k => XS.lloadN X2.here hx rfl (hb hby own_d145) rfl  k) ?_
  show OwnG p.tables e below _ (T2.setTop (mkF m 43 #[.val (.ref a1), .val (.long q1), .second, .val (.long (1000000 : Int64)), .second, .val (.long (9223372036854 : Int64)), .second] [(.long (1000000 : Int64)), (.long q1)]))
  refine own_go (fun t k => XS.lmul X2.here hx rfl (hb hby own_d146) rfl k) ?_
  show OwnG p.tables e below _ (T2.setTop (mkF m 44 #[.val (.ref a1), .val (.long q1), .second, .val (.long (1000000 : Int64)), .second, .val (.long (9223372036854 : Int64)), .second] [(.long (q1 * (1000000 : Int64)))]))
  obtain ⟨fs, hr, hrun, hended, hW, hsame⟩ := X2.leave (v := some (.long (q1 * (1000000 : Int64)))) (fun h => by rw [Bd.returns] at h; cases h)
  have hlast : Steps p.tables e below (T2.setTop (mkF m 44 #[.val (.ref a1), .val (.long q1), .second, .val (.long (1000000 : Int64)), .second, .val (.long (9223372036854 : Int64)), .second] [(.long (q1 * (1000000 : Int64)))])) (T2.setFrames fs) := by
    exact retOut X2 hx (t := .long) Bd.returns rfl (Or.inr (Or.inl ⟨rfl, rfl, _, rfl⟩)) (hb hby own_d147) hr
  refine ⟨_, _, hlast, hrun, hended, _, _, rfl, ?_, ⟨_, rfl⟩, hW, hsame.mono (by decide) (by decide)⟩
  show Q_own_nanos Z a1 q1 h0 n0 _ T2.heap _
  rw [e2]
  exact ⟨rfl, N0, rfl⟩
theorem own_ef148 (m : MethodId) (a1 : Addr) (q1 : Int64) : entryFrame m #[(.ref a1), (.long q1)] 3 = mkF m 0 #[.val (.ref a1), .val (.long q1), .second] [] := by first | (simp [entryFrame, mkF, argsToLocals, Value.category]; done) | rfl
theorem own_d149 : decode prog_26_method_9_code 0 = .ok (.aload_n 0, 1) := by decide +kernel
theorem own_d150 : decode prog_26_method_9_code 1 = .ok (.lload_n 1, 1) := by decide +kernel
theorem own_d151 : decode prog_26_method_9_code 2 = .ok (.getstatic 107, 3) := by decide +kernel
theorem own_d152 : decode prog_26_method_9_code 5 = .ok (.aload_n 0, 1) := by decide +kernel
theorem own_d153 : decode prog_26_method_9_code 6 = .ok (.getfield 69, 3) := by decide +kernel
theorem own_d154 : decode prog_26_method_9_code 9 = .ok (.invokevirtual 113, 3) := by decide +kernel
theorem own_pd155 : parseMethodDescriptor "()I" = some ⟨[], some .int⟩ := by decide +kernel
theorem own_d156 : decode prog_26_method_9_code 12 = .ok (.i2l, 1) := by decide +kernel
theorem own_d157 : decode prog_26_method_9_code 13 = .ok (.invokevirtual 116, 3) := by decide +kernel
theorem own_pd158 : parseMethodDescriptor "(J)J" = some ⟨[.long], some .long⟩ := by decide +kernel
theorem own_d159 : decode prog_26_method_9_code 16 = .ok (.ladd, 1) := by decide +kernel
theorem own_d160 : decode prog_26_method_9_code 17 = .ok (.putfield 120, 3) := by decide +kernel
theorem own_d161 : decode prog_26_method_9_code 20 = .ok (.return_, 1) := by decide +kernel
def Q_own_rs (Z : State) (a1 : Addr) (q1 : Int64) (a2 : Addr) (ms : Int32) (sd : Int64) (o_MILLISECONDS : Addr) (o_NO_ASSIGNMENT : Addr) (h0 : Heap) (n0 : Nat) (v : Option Value) (h : Heap) (L : List Loc) : Prop := v = none ∧ Fr n0 L ∧ Keep h0 h [a1] ∧ Exa Z h a1 "com/example/offst/offst/group/Member" ∧ Fld Z h a1 "com/example/offst/offst/group/Member" "assignment" "[B" (.ref o_NO_ASSIGNMENT) ∧ Fld Z h a1 "com/example/offst/offst/group/Member" "heldBytes" "J" (.long (0 : Int64)) ∧ Fld Z h a1 "com/example/offst/offst/group/Member" "joinedWith" "Lcom/example/offst/offst/protocol/JoinGroupRequest;" (.ref a2) ∧ Fld Z h a1 "com/example/offst/offst/group/Member" "sessionDeadline" "J" (.long (q1 + (ms.toInt64 * (1000000 : Int64)))) ∧ Fld Z h a1 "com/example/offst/offst/group/Member" "joining" "Ljava/util/concurrent/CompletableFuture;" .null ∧ Fld Z h a1 "com/example/offst/offst/group/Member" "syncing" "Ljava/util/concurrent/CompletableFuture;" .null
set_option maxRecDepth 65536 in
set_option maxHeartbeats 40000000 in
theorem own_rs (l : Launch) (Z : State) (a0 : Array Value) (hw : ∀ d ∈ tables_1, d.before a0 Z = true) (ws : List Jvm.Cond) (a1 : Addr) (q1 : Int64) (a2 : Addr) (ms : Int32) (sd : Int64) (o_MILLISECONDS : Addr) (o_NO_ASSIGNMENT : Addr) (h0 : Heap) (n0 : Nat) (Z0 : n0 ≤ h0.size) (O0 : Old Z n0 h0) (S_MILLISECONDS : Sta Z Z.heap "java/util/concurrent/TimeUnit" "MILLISECONDS" "Ljava/util/concurrent/TimeUnit;" (.ref o_MILLISECONDS)) (E_o_MILLISECONDS : Exa Z Z.heap o_MILLISECONDS "java/util/concurrent/TimeUnit") (F_o_MILLISECONDS_scale : Fld Z Z.heap o_MILLISECONDS "java/util/concurrent/TimeUnit" "scale" "J" (.long (1000000 : Int64))) (F_o_MILLISECONDS_maxNanos : Fld Z Z.heap o_MILLISECONDS "java/util/concurrent/TimeUnit" "maxNanos" "J" (.long (9223372036854 : Int64))) (f0_0 : Exa Z h0 a1 "com/example/offst/offst/group/Member") (f0_1 : Fld Z h0 a1 "com/example/offst/offst/group/Member" "assignment" "[B" (.ref o_NO_ASSIGNMENT)) (f0_2 : Fld Z h0 a1 "com/example/offst/offst/group/Member" "heldBytes" "J" (.long (0 : Int64))) (f0_3 : Fld Z h0 a1 "com/example/offst/offst/group/Member" "joinedWith" "Lcom/example/offst/offst/protocol/JoinGroupRequest;" (.ref a2)) (f0_4 : Fld Z h0 a1 "com/example/offst/offst/group/Member" "sessionDeadline" "J" (.long sd)) (f0_5 : Fld Z h0 a1 "com/example/offst/offst/group/Member" "joining" "Ljava/util/concurrent/CompletableFuture;" .null) (f0_6 : Fld Z h0 a1 "com/example/offst/offst/group/Member" "syncing" "Ljava/util/concurrent/CompletableFuture;" .null) (f0_7 : Exa Z h0 a2 "com/example/offst/offst/protocol/JoinGroupRequest") (f0_8 : Fld Z h0 a2 "com/example/offst/offst/protocol/JoinGroupRequest" "sessionTimeoutMs" "I" (.int ms)) (g_a1 : n0 ≤ a1) :
    MetFree l (⟨"com/example/offst/offst/group/Member", "renewSession", "(J)V"⟩ : MethodName) (head1 (Jvm.Cond.code (⟨"com/example/offst/offst/group/Member", "renewSession", "(J)V"⟩ : MethodName) prog_26_method_9_code 3 none :: ws) ({ frames := 1, cells := 0, slots := 0, locals := 21 } : Room)) (fun a U => a = #[(.ref a1), (.long q1)] ∧ Z.Warmed39 U.vm ∧ U.heap = h0) (fun _ _ _ _ _ => True) (fun _ U o U' => ∃ v L, o = .returned v ∧ Q_own_rs Z a1 q1 a2 ms sd o_MILLISECONDS o_NO_ASSIGNMENT h0 n0 v U'.heap L ∧ FrameEnd U o U' L ({ frames := 1, cells := 0, slots := 0, locals := 21 } : Room).cells ({ frames := 1, cells := 0, slots := 0, locals := 21 } : Room).slots) := by
  refine MetFree.of_bodySF (plainFor_of_name own_pn45) hisR ?_
  intro p e s m args below meth c s₁ Bd hml0 hP hK
  obtain ⟨rfl, hZ, hh⟩ := hP
  have hx := Bd.exec
  have hby := Bd.bytes
  have hml : c.maxLocals = 3 := hml0
  have hown : s.vm.findClass "com/example/offst/offst/group/Member" = some m.cls := findClass_of_methodNamed Bd.named
  have hnm := (name_of_methodNamed Bd.named Bd.method).1
  have X0 : Stand p l e ({ frames := 1, cells := 0, slots := 0, locals := 21 } : Room) s m #[(.ref a1), (.long q1)] below meth c s₁ [] 0 0 := Stand.of_body Bd
  have e0 : s₁.heap = h0 := by rw [← hh, Bd.state]; rfl
  have N0 := Fr.nil n0
  have K0 := Keep.refl h0 [a1]
  refine own_go (fun t k => castTop (own_ef148 m a1 q1) k) ?_
  show OwnG p.tables e below _ (s₁.setTop (mkF m 0 #[.val (.ref a1), .val (.long q1), .second] []))
  refine own_go (fun t k => XS.aloadN X0.here hx rfl (hb hby own_d149) rfl rfl k) ?_
  show OwnG p.tables e below _ (s₁.setTop (mkF m 1 #[.val (.ref a1), .val (.long q1), .second] [(.ref a1)]))
  refine own_go (fun t k => XS.lloadN X0.here hx rfl (hb hby own_d150) rfl  k) ?_
  show OwnG p.tables e below _ (s₁.setTop (mkF m 2 #[.val (.ref a1), .val (.long q1), .second] [(.long q1), (.ref a1)]))
  obtain ⟨T1, X1, e1, st1⟩ := getS2 X0 hx hZ hown (host := "") (Or.inl (hw _ (List.mem_of_getElem? (i := 109) rfl))) Via.refl e0 (S_MILLISECONDS.ext O0.2) (g := (mkF m 2 #[.val (.ref a1), .val (.long q1), .second] [(.long q1), (.ref a1)])) rfl (hb hby own_d151)
  refine own_go (fun t k => st1 t k) ?_
  show OwnG p.tables e below _ (T1.setTop (mkF m 5 #[.val (.ref a1), .val (.long q1), .second] [(.ref o_MILLISECONDS), (.long q1), (.ref a1)]))
  refine own_go (fun t k => XS.aloadN X1.here hx rfl (hb hby own_d152) rfl rfl k) ?_
  show OwnG p.tables e below _ (T1.setTop (mkF m 6 #[.val (.ref a1), .val (.long q1), .second] [(.ref a1), (.ref o_MILLISECONDS), (.long q1), (.ref a1)]))
  obtain ⟨T2, X2, e2, st2⟩ := getF X1 hx hZ hown (host := "") (Or.inl (hw _ (List.mem_of_getElem? (i := 100) rfl))) Via.refl e1 f0_3 (g := (mkF m 6 #[.val (.ref a1), .val (.long q1), .second] [(.ref a1), (.ref o_MILLISECONDS), (.long q1), (.ref a1)])) rfl rfl (hb hby own_d153)
  refine own_go (fun t k => st2 t k) ?_
  show OwnG p.tables e below _ (T2.setTop (mkF m 9 #[.val (.ref a1), .val (.long q1), .second] [(.ref a2), (.ref o_MILLISECONDS), (.long q1), (.ref a1)]))
  obtain ⟨cq3, kq3, q3a, q3b, q3c⟩ := isOf hZ e2 f0_7
  obtain ⟨_, _, ⟨T3, L3, k3, n3⟩, -, X3, ⟨Lc3, hQ3, l3, y3, z3⟩, st3⟩ := X2.virtualBack hx (y := (⟨"com/example/offst/offst/protocol/JoinGroupRequest", "sessionTimeoutMs", "()I"⟩ : MethodName)) (z := (⟨"com/example/offst/offst/protocol/JoinGroupRequest", "sessionTimeoutMs", "()I"⟩ : MethodName)) hown (mvT hZ (hw _ (List.mem_of_getElem? (i := 111) rfl))) (mvT hZ (hw _ (List.mem_of_getElem? (i := 112) rfl))) (notFace_of_selects (args := #[]) (mvT hZ (hw _ (List.mem_of_getElem? (i := 114) rfl)))) (mvT hZ (hw _ (List.mem_of_getElem? (i := 114) rfl))) (mvT hZ (hw _ (List.mem_of_getElem? (i := 113) rfl))) (by decide) (backOf (W := 4) (own_sm l Z a0 hw [] a2 ms h0 n0 Z0 f0_8) hZ (hw _ (List.mem_of_getElem? (i := 115) rfl)) (hw _ (List.mem_of_getElem? (i := 66) rfl)) (by decide) (by decide)) q3a q3c (g := (mkF m 9 #[.val (.ref a1), .val (.long q1), .second] [(.ref a2), (.ref o_MILLISECONDS), (.long q1), (.ref a1)])) rfl (by rw [hml]; rfl) (Steps.refl _) (argsL := []) (rest := [(.ref o_MILLISECONDS), (.long q1), (.ref a1)]) (lenOf own_pd155 rfl) rfl (by show 2 * 0 + _ ≤ _; exact Nat.le_of_eq rfl) (hb hby own_d154) (fun _ _ => ⟨rfl, e2, (by decide : 0 + 0 ≤ _), (by decide : 0 + 0 ≤ _)⟩)
  dsimp only [Pt.U, Pt.locs, Pt.cells, Pt.slots] at X3 l3 y3 z3 st3 hQ3
  subst l3 y3 z3
  obtain ⟨rfl, Nq3, eq3⟩ := hQ3
  have N3 := Fr.app N0 Nq3
  have e3 : T3.heap = h0 := eq3
  refine own_go (fun t k => st3.trans k) ?_
  show OwnG p.tables e below _ (T3.setTop (mkF m 12 #[.val (.ref a1), .val (.long q1), .second] [(.int ms), (.ref o_MILLISECONDS), (.long q1), (.ref a1)]))
  refine own_go (fun t k => XS.i2l X3.here hx rfl (hb hby own_d156) rfl k) ?_
  show OwnG p.tables e below _ (T3.setTop (mkF m 13 #[.val (.ref a1), .val (.long q1), .second] [(.long (ms.toInt64)), (.ref o_MILLISECONDS), (.long q1), (.ref a1)]))
  obtain ⟨cq4, kq4, q4a, q4b, q4c⟩ := isOf hZ e3 (E_o_MILLISECONDS.ext O0.2)
  obtain ⟨_, _, ⟨T4, L4, k4, n4⟩, -, X4, ⟨Lc4, hQ4, l4, y4, z4⟩, st4⟩ := X3.virtualBack hx (y := (⟨"java/util/concurrent/TimeUnit", "toNanos", "(J)J"⟩ : MethodName)) (z := (⟨"java/util/concurrent/TimeUnit", "toNanos", "(J)J"⟩ : MethodName)) hown (mvT hZ (hw _ (List.mem_of_getElem? (i := 116) rfl))) (mvT hZ (hw _ (List.mem_of_getElem? (i := 117) rfl))) (notFace_of_selects (args := #[]) (mvT hZ (hw _ (List.mem_of_getElem? (i := 119) rfl)))) (mvT hZ (hw _ (List.mem_of_getElem? (i := 119) rfl))) (mvT hZ (hw _ (List.mem_of_getElem? (i := 118) rfl))) (by decide) (backOf (W := 3) (own_nanos l Z a0 hw [] o_MILLISECONDS (ms.toInt64) h0 n0 Z0 (F_o_MILLISECONDS_scale.ext O0.2) (F_o_MILLISECONDS_maxNanos.ext O0.2) (own_hi ms) (own_lo ms)) hZ (hw _ (List.mem_of_getElem? (i := 120) rfl)) (hw _ (List.mem_of_getElem? (i := 110) rfl)) (by decide) (by decide)) q4a q4c (g := (mkF m 13 #[.val (.ref a1), .val (.long q1), .second] [(.long (ms.toInt64)), (.ref o_MILLISECONDS), (.long q1), (.ref a1)])) rfl (by rw [hml]; rfl) (Steps.refl _) (argsL := [(.long (ms.toInt64))]) (rest := [(.long q1), (.ref a1)]) (lenOf own_pd158 rfl) rfl (by show 2 * 0 + _ ≤ _; exact Nat.le_of_eq rfl) (hb hby own_d157) (fun _ _ => ⟨rfl, e3, (by decide : 0 + 0 ≤ _), (by decide : 0 + 0 ≤ _)⟩)
  dsimp only [Pt.U, Pt.locs, Pt.cells, Pt.slots] at X4 l4 y4 z4 st4 hQ4
  subst l4 y4 z4
  obtain ⟨rfl, Nq4, eq4⟩ := hQ4
  have N4 := Fr.app N3 Nq4
  have e4 : T4.heap = h0 := eq4
  refine own_go (fun t k => st4.trans k) ?_
  show OwnG p.tables e below _ (T4.setTop (mkF m 16 #[.val (.ref a1), .val (.long q1), .second] [(.long ((ms.toInt64) * (1000000 : Int64))), (.long q1), (.ref a1)]))
  refine own_go (fun t k => XS.ladd X4.here hx rfl (hb hby own_d159) rfl k) ?_
  show OwnG p.tables e below _ (T4.setTop (mkF m 17 #[.val (.ref a1), .val (.long q1), .second] [(.long (q1 + ((ms.toInt64) * (1000000 : Int64)))), (.ref a1)]))
  show OwnG p.tables e below _ (T4.setTop (mkF m 17 #[.val (.ref a1), .val (.long q1), .second] [(.long (q1 + (ms.toInt64 * (1000000 : Int64)))), (.ref a1)]))
  obtain ⟨T5, h5, X5, e5, W5, st5⟩ := putF X4 hx hZ hown (host := "") (Or.inl (hw _ (List.mem_of_getElem? (i := 125) rfl))) Via.refl e4 f0_4 f0_0 (Or.inl (hw _ (List.mem_of_getElem? (i := 126) rfl))) (hw _ (List.mem_of_getElem? (i := 2) rfl)) (ty := .long) (by decide) rfl rfl (g := (mkF m 17 #[.val (.ref a1), .val (.long q1), .second] [(.long (q1 + (ms.toInt64 * (1000000 : Int64)))), (.ref a1)])) rfl rfl (hb hby own_d160)
  have F6 : Exa Z h5 a1 "com/example/offst/offst/group/Member" := f0_0.wr W5
  have F7 : Fld Z h5 a1 "com/example/offst/offst/group/Member" "assignment" "[B" (.ref o_NO_ASSIGNMENT) := f0_1.other W5 (Or.inr (slot_ne (Or.inl (hw _ (List.mem_of_getElem? (i := 37) rfl))) (Or.inl (hw _ (List.mem_of_getElem? (i := 126) rfl))) (by decide) (t := (.array .byte)) (t' := .long) (by decide) (by decide)))
  have F8 : Fld Z h5 a1 "com/example/offst/offst/group/Member" "heldBytes" "J" (.long (0 : Int64)) := f0_2.other W5 (Or.inr (slot_ne (Or.inl (hw _ (List.mem_of_getElem? (i := 103) rfl))) (Or.inl (hw _ (List.mem_of_getElem? (i := 126) rfl))) (by decide) (t := .long) (t' := .long) (by decide) (by decide)))
  have F9 : Fld Z h5 a1 "com/example/offst/offst/group/Member" "joinedWith" "Lcom/example/offst/offst/protocol/JoinGroupRequest;" (.ref a2) := f0_3.other W5 (Or.inr (slot_ne (Or.inl (hw _ (List.mem_of_getElem? (i := 101) rfl))) (Or.inl (hw _ (List.mem_of_getElem? (i := 126) rfl))) (by decide) (t := (.object "com/example/offst/offst/protocol/JoinGroupRequest")) (t' := .long) (by decide) (by decide)))
  have F10 : Fld Z h5 a1 "com/example/offst/offst/group/Member" "sessionDeadline" "J" (.long (q1 + (ms.toInt64 * (1000000 : Int64)))) := f0_4.same W5
  have F11 : Fld Z h5 a1 "com/example/offst/offst/group/Member" "joining" "Ljava/util/concurrent/CompletableFuture;" .null := f0_5.other W5 (Or.inr (slot_ne (Or.inl (hw _ (List.mem_of_getElem? (i := 133) rfl))) (Or.inl (hw _ (List.mem_of_getElem? (i := 126) rfl))) (by decide) (t := (.object "java/util/concurrent/CompletableFuture")) (t' := .long) (by decide) (by decide)))
  have F12 : Fld Z h5 a1 "com/example/offst/offst/group/Member" "syncing" "Ljava/util/concurrent/CompletableFuture;" .null := f0_6.other W5 (Or.inr (slot_ne (Or.inl (hw _ (List.mem_of_getElem? (i := 135) rfl))) (Or.inl (hw _ (List.mem_of_getElem? (i := 126) rfl))) (by decide) (t := (.object "java/util/concurrent/CompletableFuture")) (t' := .long) (by decide) (by decide)))
  have F13 : Old Z n0 h5 := O0.wr W5 g_a1
  have N14 := Fr.snoc X5 N4 g_a1
  have K14 : Keep h0 h5 [a1] := K0.wr W5 (Or.inl (List.mem_of_getElem? (i := 0) rfl))
  have Z14 : n0 ≤ h5.size := Nat.le_trans Z0 (Keep.of_wr W5).1
  refine own_go (fun t k => st5 t k) ?_
  show OwnG p.tables e below _ (T5.setTop (mkF m 20 #[.val (.ref a1), .val (.long q1), .second] []))
  obtain ⟨fs, hr, hrun, hended, hW, hsame⟩ := X5.leave (v := none) (fun _ => rfl)
  refine ⟨_, _, X5.returnOut hx Bd.returns (hb hby own_d161) hr, hrun, hended, _, _, rfl, ?_, ⟨_, rfl⟩, hW, hsame.mono (by decide) (by decide)⟩
  show Q_own_rs Z a1 q1 a2 ms sd o_MILLISECONDS o_NO_ASSIGNMENT h0 n0 _ T5.heap _
  rw [e5]
  exact ⟨rfl, N14, K14, F6, F7, F8, F9, F10, F11, F12⟩
theorem own_ef162 (m : MethodId) (a1 : Addr) (q1 : Int64) : entryFrame m #[(.ref a1), (.long q1)] 3 = mkF m 0 #[.val (.ref a1), .val (.long q1), .second] [] := by first | (simp [entryFrame, mkF, argsToLocals, Value.category]; done) | rfl
theorem own_d163 : decode prog_26_method_10_code 0 = .ok (.aload_n 0, 1) := by decide +kernel
theorem own_d164 : decode prog_26_method_10_code 1 = .ok (.getfield 123, 3) := by decide +kernel
theorem own_d165 : decode prog_26_method_10_code 4 = .ok (.ifnonnull 25, 3) := by decide +kernel
theorem own_d166 : decode prog_26_method_10_code 7 = .ok (.aload_n 0, 1) := by decide +kernel
theorem own_d167 : decode prog_26_method_10_code 8 = .ok (.getfield 127, 3) := by decide +kernel
theorem own_d168 : decode prog_26_method_10_code 11 = .ok (.ifnonnull 18, 3) := by decide +kernel
theorem own_d169 : decode prog_26_method_10_code 14 = .ok (.lload_n 1, 1) := by decide +kernel
theorem own_d170 : decode prog_26_method_10_code 15 = .ok (.aload_n 0, 1) := by decide +kernel
theorem own_d171 : decode prog_26_method_10_code 16 = .ok (.getfield 120, 3) := by decide +kernel
theorem own_d172 : decode prog_26_method_10_code 19 = .ok (.lsub, 1) := by decide +kernel
theorem own_d173 : decode prog_26_method_10_code 20 = .ok (.lconst 0, 1) := by decide +kernel
theorem own_d174 : decode prog_26_method_10_code 21 = .ok (.lcmp, 1) := by decide +kernel
theorem own_d175 : decode prog_26_method_10_code 22 = .ok (.ifCond .lt 7, 3) := by decide +kernel
theorem own_d176 : decode prog_26_method_10_code 29 = .ok (.iconst 0, 1) := by decide +kernel
theorem own_d177 : decode prog_26_method_10_code 30 = .ok (.ireturn, 1) := by decide +kernel
theorem own_d178 : decode prog_26_method_10_code 25 = .ok (.iconst 1, 1) := by decide +kernel
theorem own_d179 : decode prog_26_method_10_code 26 = .ok (.goto 4, 3) := by decide +kernel
def Q_own_ht (Z : State) (a1 : Addr) (q1 : Int64) (sd : Int64) (h0 : Heap) (n0 : Nat) (v : Option Value) (h : Heap) (L : List Loc) : Prop := v = some (.int (own_to q1 sd)) ∧ Fr n0 L ∧ h = h0
set_option maxRecDepth 65536 in
set_option maxHeartbeats 40000000 in
theorem own_ht (l : Launch) (Z : State) (a0 : Array Value) (hw : ∀ d ∈ tables_1, d.before a0 Z = true) (ws : List Jvm.Cond) (a1 : Addr) (q1 : Int64) (sd : Int64) (h0 : Heap) (n0 : Nat) (Z0 : n0 ≤ h0.size) (f0_0 : Fld Z h0 a1 "com/example/offst/offst/group/Member" "sessionDeadline" "J" (.long sd)) (f0_1 : Fld Z h0 a1 "com/example/offst/offst/group/Member" "joining" "Ljava/util/concurrent/CompletableFuture;" .null) (f0_2 : Fld Z h0 a1 "com/example/offst/offst/group/Member" "syncing" "Ljava/util/concurrent/CompletableFuture;" .null) :
    MetFree l (⟨"com/example/offst/offst/group/Member", "hasTimedOut", "(J)Z"⟩ : MethodName) (head1 (Jvm.Cond.code (⟨"com/example/offst/offst/group/Member", "hasTimedOut", "(J)Z"⟩ : MethodName) prog_26_method_10_code 3 (some .boolean) :: ws) ({ frames := 0, cells := 0, slots := 0, locals := 0 } : Room)) (fun a U => a = #[(.ref a1), (.long q1)] ∧ Z.Warmed39 U.vm ∧ U.heap = h0) (fun _ _ _ _ _ => True) (fun _ U o U' => ∃ v L, o = .returned v ∧ Q_own_ht Z a1 q1 sd h0 n0 v U'.heap L ∧ FrameEnd U o U' L ({ frames := 0, cells := 0, slots := 0, locals := 0 } : Room).cells ({ frames := 0, cells := 0, slots := 0, locals := 0 } : Room).slots) := by
  refine MetFree.of_bodySF (plainFor_of_name own_pn45) hisR ?_
  intro p e s m args below meth c s₁ Bd hml0 hP hK
  obtain ⟨rfl, hZ, hh⟩ := hP
  have hx := Bd.exec
  have hby := Bd.bytes
  have hml : c.maxLocals = 3 := hml0
  have hown : s.vm.findClass "com/example/offst/offst/group/Member" = some m.cls := findClass_of_methodNamed Bd.named
  have hnm := (name_of_methodNamed Bd.named Bd.method).1
  have X0 : Stand p l e ({ frames := 0, cells := 0, slots := 0, locals := 0 } : Room) s m #[(.ref a1), (.long q1)] below meth c s₁ [] 0 0 := Stand.of_body Bd
  have e0 : s₁.heap = h0 := by rw [← hh, Bd.state]; rfl
  have N0 := Fr.nil n0
  have K0 := Keep.refl h0 []
  refine own_go (fun t k => castTop (own_ef162 m a1 q1) k) ?_
  show OwnG p.tables e below _ (s₁.setTop (mkF m 0 #[.val (.ref a1), .val (.long q1), .second] []))
  refine own_go (fun t k => XS.aloadN X0.here hx rfl (hb hby own_d163) rfl rfl k) ?_
  show OwnG p.tables e below _ (s₁.setTop (mkF m 1 #[.val (.ref a1), .val (.long q1), .second] [(.ref a1)]))
  obtain ⟨T1, X1, e1, st1⟩ := getF X0 hx hZ hown (host := "") (Or.inl (hw _ (List.mem_of_getElem? (i := 132) rfl))) Via.refl e0 f0_1 (g := (mkF m 1 #[.val (.ref a1), .val (.long q1), .second] [(.ref a1)])) rfl rfl (hb hby own_d164)
  refine own_go (fun t k => st1 t k) ?_
  show OwnG p.tables e below _ (T1.setTop (mkF m 4 #[.val (.ref a1), .val (.long q1), .second] [.null]))
  refine own_go (fun t k => XS.ifnonnullNo X1.here hx rfl (hb hby own_d165) rfl k) ?_
  show OwnG p.tables e below _ (T1.setTop (mkF m 7 #[.val (.ref a1), .val (.long q1), .second] []))
  refine own_go (fun t k => XS.aloadN X1.here hx rfl (hb hby own_d166) rfl rfl k) ?_
  show OwnG p.tables e below _ (T1.setTop (mkF m 8 #[.val (.ref a1), .val (.long q1), .second] [(.ref a1)]))
  obtain ⟨T2, X2, e2, st2⟩ := getF X1 hx hZ hown (host := "") (Or.inl (hw _ (List.mem_of_getElem? (i := 134) rfl))) Via.refl e1 f0_2 (g := (mkF m 8 #[.val (.ref a1), .val (.long q1), .second] [(.ref a1)])) rfl rfl (hb hby own_d167)
  refine own_go (fun t k => st2 t k) ?_
  show OwnG p.tables e below _ (T2.setTop (mkF m 11 #[.val (.ref a1), .val (.long q1), .second] [.null]))
  refine own_go (fun t k => XS.ifnonnullNo X2.here hx rfl (hb hby own_d168) rfl k) ?_
  show OwnG p.tables e below _ (T2.setTop (mkF m 14 #[.val (.ref a1), .val (.long q1), .second] []))
  refine own_go (fun t k => XS.lloadN X2.here hx rfl (hb hby own_d169) rfl  k) ?_
  show OwnG p.tables e below _ (T2.setTop (mkF m 15 #[.val (.ref a1), .val (.long q1), .second] [(.long q1)]))
  refine own_go (fun t k => XS.aloadN X2.here hx rfl (hb hby own_d170) rfl rfl k) ?_
  show OwnG p.tables e below _ (T2.setTop (mkF m 16 #[.val (.ref a1), .val (.long q1), .second] [(.ref a1), (.long q1)]))
  obtain ⟨T3, X3, e3, st3⟩ := getF X2 hx hZ hown (host := "") (Or.inl (hw _ (List.mem_of_getElem? (i := 125) rfl))) Via.refl e2 f0_0 (g := (mkF m 16 #[.val (.ref a1), .val (.long q1), .second] [(.ref a1), (.long q1)])) rfl rfl (hb hby own_d171)
  refine own_go (fun t k => st3 t k) ?_
  show OwnG p.tables e below _ (T3.setTop (mkF m 19 #[.val (.ref a1), .val (.long q1), .second] [(.long sd), (.long q1)]))
  refine own_go (fun t k => XS.lsub X3.here hx rfl (hb hby own_d172) rfl k) ?_
  show OwnG p.tables e below _ (T3.setTop (mkF m 20 #[.val (.ref a1), .val (.long q1), .second] [(.long (q1 - sd))]))
  refine own_go (fun t k => XS.lconst X3.here hx rfl (hb hby own_d173) k) ?_
  show OwnG p.tables e below _ (T3.setTop (mkF m 21 #[.val (.ref a1), .val (.long q1), .second] [(.long (0 : Int64)), (.long (q1 - sd))]))
  refine own_go (fun t k => XS.lcmp X3.here hx rfl (hb hby own_d174) rfl k) ?_
  show OwnG p.tables e below _ (T3.setTop (mkF m 22 #[.val (.ref a1), .val (.long q1), .second] [(.int (lcmpW (q1 - sd) (0 : Int64)))]))
  by_cases hc4 : (q1 - sd) < (0 : Int64)
  · refine own_go (fun t k => XS.ifYes X3.here hx rfl (pc0 := 22) (pc' := 29) rfl (hb hby own_d175) rfl ((if0 _ _).trans (tlt ((lw_lt _ _).mpr hc4)).1) (by decide) (by decide) k) ?_
    show OwnG p.tables e below _ (T3.setTop (mkF m 29 #[.val (.ref a1), .val (.long q1), .second] []))
    refine own_go (fun t k => XS.iconst X3.here hx rfl (hb hby own_d176) k) ?_
    show OwnG p.tables e below _ (T3.setTop (mkF m 30 #[.val (.ref a1), .val (.long q1), .second] [(.int (0 : Int32))]))
    obtain ⟨fs, hr, hrun, hended, hW, hsame⟩ := X3.leave (v := some (.int (0 : Int32))) (fun h => by rw [Bd.returns] at h; cases h)
    refine ⟨_, _, retN X3 hx (t := .boolean) Bd.returns (by simp) (hb hby own_d177) hr, hrun, hended, _, _, rfl, ?_, ⟨_, rfl⟩, hW, hsame.mono (by decide) (by decide)⟩
    show Q_own_ht Z a1 q1 sd h0 n0 _ T3.heap _
    rw [e3]
    exact ⟨by rw [own_to, if_pos hc4], N0, rfl⟩
  · refine own_go (fun t k => XS.ifNo X3.here hx rfl (hb hby own_d175) rfl ((if0 _ _).trans (flt (mt (lw_lt _ _).mp hc4)).1) k) ?_
    show OwnG p.tables e below _ (T3.setTop (mkF m 25 #[.val (.ref a1), .val (.long q1), .second] []))
    refine own_go (fun t k => XS.iconst X3.here hx rfl (hb hby own_d178) k) ?_
    show OwnG p.tables e below _ (T3.setTop (mkF m 26 #[.val (.ref a1), .val (.long q1), .second] [(.int (1 : Int32))]))
    refine own_go (fun t k => XS.goto X3.here hx rfl (pc0 := 26) (pc' := 30) rfl (hb hby own_d179) (by decide) (by decide) k) ?_
    show OwnG p.tables e below _ (T3.setTop (mkF m 30 #[.val (.ref a1), .val (.long q1), .second] [(.int (1 : Int32))]))
    obtain ⟨fs, hr, hrun, hended, hW, hsame⟩ := X3.leave (v := some (.int (1 : Int32))) (fun h => by rw [Bd.returns] at h; cases h)
    refine ⟨_, _, retN X3 hx (t := .boolean) Bd.returns (by simp) (hb hby own_d177) hr, hrun, hended, _, _, rfl, ?_, ⟨_, rfl⟩, hW, hsame.mono (by decide) (by decide)⟩
    show Q_own_ht Z a1 q1 sd h0 n0 _ T3.heap _
    rw [e3]
    exact ⟨by rw [own_to, if_neg hc4], N0, rfl⟩
theorem own_ef180 (m : MethodId) (p0 : Int64) (p1 : Int32) (p2 : Int64) (p3 : Int32) (p4 : Int32) : entryFrame m #[(.long p0), (.int p1), (.long p2), (.int p3), (.int p4)] maxLocals = mkF m 0 #[.val (.long p0), .second, .val (.int p1), .val (.long p2), .second, .val (.int p3), .val (.int p4), .unset, .unset, .unset, .unset, .unset, .unset, .unset, .unset, .unset, .unset, .unset, .unset] [] := by first | (simp [entryFrame, mkF, argsToLocals, Value.category, maxLocals]; done) | rfl
theorem own_pn181 : plainName "com/example/offst/offst/group/MemberHasTimedOutPinLaw" = true := by first | (simp [plainName, overriddenIn]; done) | decide +kernel
theorem own_pd182 : parseMethodDescriptor "(C)Ljava/lang/String;" = some ⟨[.char], some (.object "java/lang/String")⟩ := by decide +kernel
theorem own_pd183 : parseMethodDescriptor "(Ljava/lang/String;)V" = some ⟨[(.object "java/lang/String")], none⟩ := by decide +kernel
theorem own_pd184 : parseMethodDescriptor "(Ljava/lang/String;IILjava/lang/String;Ljava/lang/String;Ljava/util/List;Z)V" = some ⟨[(.object "java/lang/String"), .int, .int, (.object "java/lang/String"), (.object "java/lang/String"), (.object "java/util/List"), .boolean], none⟩ := by decide +kernel
theorem own_pd185 : parseMethodDescriptor "(Lcom/example/offst/offst/protocol/JoinGroupRequest;J)V" = some ⟨[(.object "com/example/offst/offst/protocol/JoinGroupRequest"), .long], none⟩ := by decide +kernel
theorem own_pd186 : parseMethodDescriptor "(J)V" = some ⟨[.long], none⟩ := by decide +kernel
theorem own_pd187 : parseMethodDescriptor "(J)Z" = some ⟨[.long], some .boolean⟩ := by decide +kernel
def Q_own_law (Z : State) (p0 : Int64) (p1 : Int32) (p2 : Int64) (p3 : Int32) (p4 : Int32) (o_NO_ASSIGNMENT : Addr) (i_COMPACT_STRINGS : Int32) (o_DEFAULTCAPACITY_EMPTY_ELEMENTDATA : Addr) (o_MILLISECONDS : Addr) (h0 : Heap) (n0 : Nat) (v : Option Value) (h : Heap) (L : List Loc) : Prop := v = some (.int (1 : Int32)) ∧ Fr n0 L
set_option maxRecDepth 65536 in
set_option maxHeartbeats 40000000 in
theorem own_law (l : Launch) (Z : State) (a0 : Array Value) (hw : ∀ d ∈ tables_1, d.before a0 Z = true) (ws : List Jvm.Cond) (p0 : Int64) (p1 : Int32) (p2 : Int64) (p3 : Int32) (p4 : Int32) (o_NO_ASSIGNMENT : Addr) (i_COMPACT_STRINGS : Int32) (o_DEFAULTCAPACITY_EMPTY_ELEMENTDATA : Addr) (o_MILLISECONDS : Addr) (h0 : Heap) (n0 : Nat) (Z0 : n0 ≤ h0.size) (O0 : Old Z n0 h0) (S_NO_ASSIGNMENT : Sta Z Z.heap "com/example/offst/offst/group/Member" "NO_ASSIGNMENT" "[B" (.ref o_NO_ASSIGNMENT)) (S_COMPACT_STRINGS : Sta Z Z.heap "java/lang/String" "COMPACT_STRINGS" "Z" (.int i_COMPACT_STRINGS)) (nz_i_COMPACT_STRINGS : i_COMPACT_STRINGS ≠ (0 : Int32)) (S_MILLISECONDS : Sta Z Z.heap "java/util/concurrent/TimeUnit" "MILLISECONDS" "Ljava/util/concurrent/TimeUnit;" (.ref o_MILLISECONDS)) (E_o_MILLISECONDS : Exa Z Z.heap o_MILLISECONDS "java/util/concurrent/TimeUnit") (F_o_MILLISECONDS_scale : Fld Z Z.heap o_MILLISECONDS "java/util/concurrent/TimeUnit" "scale" "J" (.long (1000000 : Int64))) (F_o_MILLISECONDS_maxNanos : Fld Z Z.heap o_MILLISECONDS "java/util/concurrent/TimeUnit" "maxNanos" "J" (.long (9223372036854 : Int64))) (S_DEFAULTCAPACITY_EMPTY_ELEMENTDATA : Sta Z Z.heap "java/util/ArrayList" "DEFAULTCAPACITY_EMPTY_ELEMENTDATA" "[Ljava/lang/Object;" (.ref o_DEFAULTCAPACITY_EMPTY_ELEMENTDATA)) :
    MetFree l x (head1 (Jvm.Cond.code x code maxLocals ret :: ws) room_1) (fun a U => a = #[(.long p0), (.int p1), (.long p2), (.int p3), (.int p4)] ∧ Z.Warmed39 U.vm ∧ U.heap = h0) (fun _ _ _ _ _ => True) (fun _ U o U' => ∃ v L, o = .returned v ∧ Q_own_law Z p0 p1 p2 p3 p4 o_NO_ASSIGNMENT i_COMPACT_STRINGS o_DEFAULTCAPACITY_EMPTY_ELEMENTDATA o_MILLISECONDS h0 n0 v U'.heap L ∧ ReturnedEndW U o U' L room_1.cells room_1.slots) := by
  refine MetFree.of_bodySF (plainFor_of_name own_pn181) hisR ?_
  intro p e s m args below meth c s₁ Bd hml0 hP hK
  obtain ⟨rfl, hZ, hh⟩ := hP
  have hx := Bd.exec
  have hby := Bd.bytes
  have hml : c.maxLocals = 19 := hml0
  have hown : s.vm.findClass "com/example/offst/offst/group/MemberHasTimedOutPinLaw" = some m.cls := findClass_of_methodNamed Bd.named
  have hnm := (name_of_methodNamed Bd.named Bd.method).1
  have X0 : Stand p l e room_1 s m #[(.long p0), (.int p1), (.long p2), (.int p3), (.int p4)] below meth c s₁ [] 0 0 := Stand.of_body Bd
  have e0 : s₁.heap = h0 := by rw [← hh, Bd.state]; rfl
  have N0 := Fr.nil n0
  have K0 := Keep.refl h0 []
  refine own_go (fun t k => castTop (own_ef180 m p0 p1 p2 p3 p4) k) ?_
  show OwnG p.tables e below _ (s₁.setTop (mkF m 0 #[.val (.long p0), .second, .val (.int p1), .val (.long p2), .second, .val (.int p3), .val (.int p4), .unset, .unset, .unset, .unset, .unset, .unset, .unset, .unset, .unset, .unset, .unset, .unset] []))
  have hS0 : s.Since s.vm 0 := (State.WarmedH.refl s).since 0
  refine own_go (fun t k => XS.iloadN X0.here hx rfl (hb hby at_0) rfl  k) ?_
  show OwnG p.tables e below _ (s₁.setTop (mkF m 1 #[.val (.long p0), .second, .val (.int p1), .val (.long p2), .second, .val (.int p3), .val (.int p4), .unset, .unset, .unset, .unset, .unset, .unset, .unset, .unset, .unset, .unset, .unset, .unset] [(.int p1)]))
  refine own_go (fun t k => XS.i2l X0.here hx rfl (hb hby at_1) rfl k) ?_
  show OwnG p.tables e below _ (s₁.setTop (mkF m 2 #[.val (.long p0), .second, .val (.int p1), .val (.long p2), .second, .val (.int p3), .val (.int p4), .unset, .unset, .unset, .unset, .unset, .unset, .unset, .unset, .unset, .unset, .unset, .unset] [(.long (p1.toInt64))]))
  refine own_go (fun t k => (X0.ldc2Long hx hown (mvT hZ (hw _ (List.mem_of_getElem? (i := 0) rfl))) (g := (mkF m 2 #[.val (.long p0), .second, .val (.int p1), .val (.long p2), .second, .val (.int p3), .val (.int p4), .unset, .unset, .unset, .unset, .unset, .unset, .unset, .unset, .unset, .unset, .unset, .unset] [(.long (p1.toInt64))])) rfl (hb hby at_2)) t k) ?_
  show OwnG p.tables e below _ (s₁.setTop (mkF m 5 #[.val (.long p0), .second, .val (.int p1), .val (.long p2), .second, .val (.int p3), .val (.int p4), .unset, .unset, .unset, .unset, .unset, .unset, .unset, .unset, .unset, .unset, .unset, .unset] [(.long (1000000 : Int64)), (.long (p1.toInt64))]))
  refine own_go (fun t k => XS.lmul X0.here hx rfl (hb hby at_5) rfl k) ?_
  show OwnG p.tables e below _ (s₁.setTop (mkF m 6 #[.val (.long p0), .second, .val (.int p1), .val (.long p2), .second, .val (.int p3), .val (.int p4), .unset, .unset, .unset, .unset, .unset, .unset, .unset, .unset, .unset, .unset, .unset, .unset] [(.long ((p1.toInt64) * (1000000 : Int64)))]))
  refine own_go (fun t k => XS.lstore X0.here hx rfl (hb hby at_6) rfl (l' := #[.val (.long p0), .second, .val (.int p1), .val (.long p2), .second, .val (.int p3), .val (.int p4), .val (.long ((p1.toInt64) * (1000000 : Int64))), .second, .unset, .unset, .unset, .unset, .unset, .unset, .unset, .unset, .unset, .unset]) rfl k) ?_
  show OwnG p.tables e below _ (s₁.setTop (mkF m 8 #[.val (.long p0), .second, .val (.int p1), .val (.long p2), .second, .val (.int p3), .val (.int p4), .val (.long ((p1.toInt64) * (1000000 : Int64))), .second, .unset, .unset, .unset, .unset, .unset, .unset, .unset, .unset, .unset, .unset] []))
  refine own_go (fun t k => XS.iload X0.here hx rfl (hb hby at_8) rfl  k) ?_
  show OwnG p.tables e below _ (s₁.setTop (mkF m 10 #[.val (.long p0), .second, .val (.int p1), .val (.long p2), .second, .val (.int p3), .val (.int p4), .val (.long ((p1.toInt64) * (1000000 : Int64))), .second, .unset, .unset, .unset, .unset, .unset, .unset, .unset, .unset, .unset, .unset] [(.int p3)]))
  refine own_go (fun t k => XS.iconst X0.here hx rfl (hb hby at_10) k) ?_
  show OwnG p.tables e below _ (s₁.setTop (mkF m 11 #[.val (.long p0), .second, .val (.int p1), .val (.long p2), .second, .val (.int p3), .val (.int p4), .val (.long ((p1.toInt64) * (1000000 : Int64))), .second, .unset, .unset, .unset, .unset, .unset, .unset, .unset, .unset, .unset, .unset] [(.int (1 : Int32)), (.int p3)]))
  refine own_go (fun t k => XS.iand X0.here hx rfl (hb hby at_11) rfl k) ?_
  show OwnG p.tables e below _ (s₁.setTop (mkF m 12 #[.val (.long p0), .second, .val (.int p1), .val (.long p2), .second, .val (.int p3), .val (.int p4), .val (.long ((p1.toInt64) * (1000000 : Int64))), .second, .unset, .unset, .unset, .unset, .unset, .unset, .unset, .unset, .unset, .unset] [(.int (p3 &&& (1 : Int32)))]))
  show OwnG p.tables e below _ (s₁.setTop (mkF m 12 #[.val (.long p0), .second, .val (.int p1), .val (.long p2), .second, .val (.int p3), .val (.int p4), .val (.long (p1.toInt64 * (1000000 : Int64))), .second, .unset, .unset, .unset, .unset, .unset, .unset, .unset, .unset, .unset, .unset] [(.int (p3 &&& (1 : Int32)))]))
  obtain ⟨z1, hp1, hn1⟩ := own_pick ((p3 &&& (1 : Int32)) = (0 : Int32)) ((p2 >>> ((1 : Int32) &&& 0x3f).toInt64)) (((p1.toInt64 * (1000000 : Int64)) + ((((p2.toInt32) &&& (3 : Int32)) - (2 : Int32)).toInt64)))
  refine own_go (nxt := s₁.setTop (mkF m 31 #[.val (.long p0), .second, .val (.int p1), .val (.long p2), .second, .val (.int p3), .val (.int p4), .val (.long (p1.toInt64 * (1000000 : Int64))), .second, .unset, .unset, .unset, .unset, .unset, .unset, .unset, .unset, .unset, .unset] [(.long z1)])) (fun t k => ?_) ?_
  · by_cases hq : (p3 &&& (1 : Int32)) = (0 : Int32)
    · rw [hp1 hq] at k
      refine XS.ifYes X0.here hx rfl (pc0 := 12) (pc' := 28) rfl (hb hby at_12) rfl ((if0 _ _).trans (teq hq).1) (by decide) (by decide) ?_
      show Steps p.tables e below (s₁.setTop (mkF m 28 #[.val (.long p0), .second, .val (.int p1), .val (.long p2), .second, .val (.int p3), .val (.int p4), .val (.long (p1.toInt64 * (1000000 : Int64))), .second, .unset, .unset, .unset, .unset, .unset, .unset, .unset, .unset, .unset, .unset] [])) _
      refine XS.lloadN X0.here hx rfl (hb hby at_28) rfl  ?_
      show Steps p.tables e below (s₁.setTop (mkF m 29 #[.val (.long p0), .second, .val (.int p1), .val (.long p2), .second, .val (.int p3), .val (.int p4), .val (.long (p1.toInt64 * (1000000 : Int64))), .second, .unset, .unset, .unset, .unset, .unset, .unset, .unset, .unset, .unset, .unset] [(.long p2)])) _
      refine XS.iconst X0.here hx rfl (hb hby at_29) ?_
      show Steps p.tables e below (s₁.setTop (mkF m 30 #[.val (.long p0), .second, .val (.int p1), .val (.long p2), .second, .val (.int p3), .val (.int p4), .val (.long (p1.toInt64 * (1000000 : Int64))), .second, .unset, .unset, .unset, .unset, .unset, .unset, .unset, .unset, .unset, .unset] [(.int (1 : Int32)), (.long p2)])) _
      refine XS.lshr X0.here hx rfl (hb hby at_30) rfl ?_
      show Steps p.tables e below (s₁.setTop (mkF m 31 #[.val (.long p0), .second, .val (.int p1), .val (.long p2), .second, .val (.int p3), .val (.int p4), .val (.long (p1.toInt64 * (1000000 : Int64))), .second, .unset, .unset, .unset, .unset, .unset, .unset, .unset, .unset, .unset, .unset] [(.long (p2 >>> ((1 : Int32) &&& 0x3f).toInt64))])) _
      exact k
    · rw [hn1 hq] at k
      refine XS.ifNo X0.here hx rfl (hb hby at_12) rfl ((if0 _ _).trans (feq hq).1) ?_
      show Steps p.tables e below (s₁.setTop (mkF m 15 #[.val (.long p0), .second, .val (.int p1), .val (.long p2), .second, .val (.int p3), .val (.int p4), .val (.long (p1.toInt64 * (1000000 : Int64))), .second, .unset, .unset, .unset, .unset, .unset, .unset, .unset, .unset, .unset, .unset] [])) _
      refine XS.lload X0.here hx rfl (hb hby at_15) rfl  ?_
      show Steps p.tables e below (s₁.setTop (mkF m 17 #[.val (.long p0), .second, .val (.int p1), .val (.long p2), .second, .val (.int p3), .val (.int p4), .val (.long (p1.toInt64 * (1000000 : Int64))), .second, .unset, .unset, .unset, .unset, .unset, .unset, .unset, .unset, .unset, .unset] [(.long (p1.toInt64 * (1000000 : Int64)))])) _
      refine XS.lloadN X0.here hx rfl (hb hby at_17) rfl  ?_
      show Steps p.tables e below (s₁.setTop (mkF m 18 #[.val (.long p0), .second, .val (.int p1), .val (.long p2), .second, .val (.int p3), .val (.int p4), .val (.long (p1.toInt64 * (1000000 : Int64))), .second, .unset, .unset, .unset, .unset, .unset, .unset, .unset, .unset, .unset, .unset] [(.long p2), (.long (p1.toInt64 * (1000000 : Int64)))])) _
      refine XS.l2i X0.here hx rfl (hb hby at_18) rfl ?_
      show Steps p.tables e below (s₁.setTop (mkF m 19 #[.val (.long p0), .second, .val (.int p1), .val (.long p2), .second, .val (.int p3), .val (.int p4), .val (.long (p1.toInt64 * (1000000 : Int64))), .second, .unset, .unset, .unset, .unset, .unset, .unset, .unset, .unset, .unset, .unset] [(.int (p2.toInt32)), (.long (p1.toInt64 * (1000000 : Int64)))])) _
      refine XS.iconst X0.here hx rfl (hb hby at_19) ?_
      show Steps p.tables e below (s₁.setTop (mkF m 20 #[.val (.long p0), .second, .val (.int p1), .val (.long p2), .second, .val (.int p3), .val (.int p4), .val (.long (p1.toInt64 * (1000000 : Int64))), .second, .unset, .unset, .unset, .unset, .unset, .unset, .unset, .unset, .unset, .unset] [(.int (3 : Int32)), (.int (p2.toInt32)), (.long (p1.toInt64 * (1000000 : Int64)))])) _
      refine XS.iand X0.here hx rfl (hb hby at_20) rfl ?_
      show Steps p.tables e below (s₁.setTop (mkF m 21 #[.val (.long p0), .second, .val (.int p1), .val (.long p2), .second, .val (.int p3), .val (.int p4), .val (.long (p1.toInt64 * (1000000 : Int64))), .second, .unset, .unset, .unset, .unset, .unset, .unset, .unset, .unset, .unset, .unset] [(.int ((p2.toInt32) &&& (3 : Int32))), (.long (p1.toInt64 * (1000000 : Int64)))])) _
      refine XS.iconst X0.here hx rfl (hb hby at_21) ?_
      show Steps p.tables e below (s₁.setTop (mkF m 22 #[.val (.long p0), .second, .val (.int p1), .val (.long p2), .second, .val (.int p3), .val (.int p4), .val (.long (p1.toInt64 * (1000000 : Int64))), .second, .unset, .unset, .unset, .unset, .unset, .unset, .unset, .unset, .unset, .unset] [(.int (2 : Int32)), (.int ((p2.toInt32) &&& (3 : Int32))), (.long (p1.toInt64 * (1000000 : Int64)))])) _
      refine XS.isub X0.here hx rfl (hb hby at_22) rfl ?_
      show Steps p.tables e below (s₁.setTop (mkF m 23 #[.val (.long p0), .second, .val (.int p1), .val (.long p2), .second, .val (.int p3), .val (.int p4), .val (.long (p1.toInt64 * (1000000 : Int64))), .second, .unset, .unset, .unset, .unset, .unset, .unset, .unset, .unset, .unset, .unset] [(.int (((p2.toInt32) &&& (3 : Int32)) - (2 : Int32))), (.long (p1.toInt64 * (1000000 : Int64)))])) _
      refine XS.i2l X0.here hx rfl (hb hby at_23) rfl ?_
      show Steps p.tables e below (s₁.setTop (mkF m 24 #[.val (.long p0), .second, .val (.int p1), .val (.long p2), .second, .val (.int p3), .val (.int p4), .val (.long (p1.toInt64 * (1000000 : Int64))), .second, .unset, .unset, .unset, .unset, .unset, .unset, .unset, .unset, .unset, .unset] [(.long ((((p2.toInt32) &&& (3 : Int32)) - (2 : Int32)).toInt64)), (.long (p1.toInt64 * (1000000 : Int64)))])) _
      refine XS.ladd X0.here hx rfl (hb hby at_24) rfl ?_
      show Steps p.tables e below (s₁.setTop (mkF m 25 #[.val (.long p0), .second, .val (.int p1), .val (.long p2), .second, .val (.int p3), .val (.int p4), .val (.long (p1.toInt64 * (1000000 : Int64))), .second, .unset, .unset, .unset, .unset, .unset, .unset, .unset, .unset, .unset, .unset] [(.long ((p1.toInt64 * (1000000 : Int64)) + ((((p2.toInt32) &&& (3 : Int32)) - (2 : Int32)).toInt64)))])) _
      refine XS.goto X0.here hx rfl (pc0 := 25) (pc' := 31) rfl (hb hby at_25) (by decide) (by decide) ?_
      show Steps p.tables e below (s₁.setTop (mkF m 31 #[.val (.long p0), .second, .val (.int p1), .val (.long p2), .second, .val (.int p3), .val (.int p4), .val (.long (p1.toInt64 * (1000000 : Int64))), .second, .unset, .unset, .unset, .unset, .unset, .unset, .unset, .unset, .unset, .unset] [(.long ((p1.toInt64 * (1000000 : Int64)) + ((((p2.toInt32) &&& (3 : Int32)) - (2 : Int32)).toInt64)))])) _
      exact k
  show OwnG p.tables e below _ (s₁.setTop (mkF m 31 #[.val (.long p0), .second, .val (.int p1), .val (.long p2), .second, .val (.int p3), .val (.int p4), .val (.long (p1.toInt64 * (1000000 : Int64))), .second, .unset, .unset, .unset, .unset, .unset, .unset, .unset, .unset, .unset, .unset] [(.long z1)]))
  show OwnG p.tables e below _ (s₁.setTop (mkF m 31 #[.val (.long p0), .second, .val (.int p1), .val (.long p2), .second, .val (.int p3), .val (.int p4), .val (.long (p1.toInt64 * (1000000 : Int64))), .second, .unset, .unset, .unset, .unset, .unset, .unset, .unset, .unset, .unset, .unset] [(.long z1)]))
  have hzb : -4611686018427387904 ≤ z1.toInt ∧ z1.toInt < 4611686018427387904 := own_ebound (f := p3 &&& (1 : Int32)) (ms := p1) (e := p2) hp1 hn1
  refine own_go (fun t k => XS.lstore X0.here hx rfl (hb hby at_31) rfl (l' := #[.val (.long p0), .second, .val (.int p1), .val (.long p2), .second, .val (.int p3), .val (.int p4), .val (.long (p1.toInt64 * (1000000 : Int64))), .second, .val (.long z1), .second, .unset, .unset, .unset, .unset, .unset, .unset, .unset, .unset]) rfl k) ?_
  show OwnG p.tables e below _ (s₁.setTop (mkF m 33 #[.val (.long p0), .second, .val (.int p1), .val (.long p2), .second, .val (.int p3), .val (.int p4), .val (.long (p1.toInt64 * (1000000 : Int64))), .second, .val (.long z1), .second, .unset, .unset, .unset, .unset, .unset, .unset, .unset, .unset] []))
  refine own_go (fun t k => XS.lloadN X0.here hx rfl (hb hby at_33) rfl  k) ?_
  show OwnG p.tables e below _ (s₁.setTop (mkF m 34 #[.val (.long p0), .second, .val (.int p1), .val (.long p2), .second, .val (.int p3), .val (.int p4), .val (.long (p1.toInt64 * (1000000 : Int64))), .second, .val (.long z1), .second, .unset, .unset, .unset, .unset, .unset, .unset, .unset, .unset] [(.long p0)]))
  refine own_go (fun t k => XS.lload X0.here hx rfl (hb hby at_34) rfl  k) ?_
  show OwnG p.tables e below _ (s₁.setTop (mkF m 36 #[.val (.long p0), .second, .val (.int p1), .val (.long p2), .second, .val (.int p3), .val (.int p4), .val (.long (p1.toInt64 * (1000000 : Int64))), .second, .val (.long z1), .second, .unset, .unset, .unset, .unset, .unset, .unset, .unset, .unset] [(.long z1), (.long p0)]))
  refine own_go (fun t k => XS.ladd X0.here hx rfl (hb hby at_36) rfl k) ?_
  show OwnG p.tables e below _ (s₁.setTop (mkF m 37 #[.val (.long p0), .second, .val (.int p1), .val (.long p2), .second, .val (.int p3), .val (.int p4), .val (.long (p1.toInt64 * (1000000 : Int64))), .second, .val (.long z1), .second, .unset, .unset, .unset, .unset, .unset, .unset, .unset, .unset] [(.long (p0 + z1))]))
  refine own_go (fun t k => XS.lstore X0.here hx rfl (hb hby at_37) rfl (l' := #[.val (.long p0), .second, .val (.int p1), .val (.long p2), .second, .val (.int p3), .val (.int p4), .val (.long (p1.toInt64 * (1000000 : Int64))), .second, .val (.long z1), .second, .val (.long (p0 + z1)), .second, .unset, .unset, .unset, .unset, .unset, .unset]) rfl k) ?_
  show OwnG p.tables e below _ (s₁.setTop (mkF m 39 #[.val (.long p0), .second, .val (.int p1), .val (.long p2), .second, .val (.int p3), .val (.int p4), .val (.long (p1.toInt64 * (1000000 : Int64))), .second, .val (.long z1), .second, .val (.long (p0 + z1)), .second, .unset, .unset, .unset, .unset, .unset, .unset] []))
  obtain ⟨T2, h2, X2, e2, E2, A2, D2, -, st2⟩ := newO X0 hx hZ hown (hw _ (List.mem_of_getElem? (i := 1) rfl)) (hw _ (List.mem_of_getElem? (i := 2) rfl)) (hw _ (List.mem_of_getElem? (i := 3) rfl)) e0 (g := (mkF m 39 #[.val (.long p0), .second, .val (.int p1), .val (.long p2), .second, .val (.int p3), .val (.int p4), .val (.long (p1.toInt64 * (1000000 : Int64))), .second, .val (.long z1), .second, .val (.long (p0 + z1)), .second, .unset, .unset, .unset, .unset, .unset, .unset] [])) rfl (hb hby at_39) (by decide) (by decide)
  obtain ⟨b2, g2⟩ : ∃ z, z = h0.size := ⟨_, rfl⟩
  rw [← g2] at A2 D2 st2
  have g_b2 : n0 ≤ b2 := Nat.le_trans Z0 (Nat.le_of_eq g2.symm)
  have sz_b2 : h0.size ≤ b2 := Nat.le_trans K0.1 (Nat.le_of_eq g2.symm)
  have F3 : Old Z n0 h2 := O0.ext E2
  have K4 : Keep h0 h2 [] := K0.ext E2
  have Z4 : n0 ≤ h2.size := Nat.le_trans Z0 E2.1
  have F5 : Fld Z h2 b2 "com/example/offst/offst/group/Member" "assignment" "[B" .null := D2 (Or.inl (hw _ (List.mem_of_getElem? (i := 37) rfl))) (ty := (.array .byte)) (by decide)
  have F6 : Fld Z h2 b2 "com/example/offst/offst/group/Member" "id" "Ljava/lang/String;" .null := D2 (Or.inr (hw _ (List.mem_of_getElem? (i := 39) rfl))) (ty := (.object "java/lang/String")) (by decide)
  have F7 : Fld Z h2 b2 "com/example/offst/offst/group/Member" "joinedWith" "Lcom/example/offst/offst/protocol/JoinGroupRequest;" .null := D2 (Or.inl (hw _ (List.mem_of_getElem? (i := 101) rfl))) (ty := (.object "com/example/offst/offst/protocol/JoinGroupRequest")) (by decide)
  have F8 : Fld Z h2 b2 "com/example/offst/offst/group/Member" "heldBytes" "J" (.long (0 : Int64)) := D2 (Or.inl (hw _ (List.mem_of_getElem? (i := 103) rfl))) (ty := .long) (by decide)
  have F9 : Fld Z h2 b2 "com/example/offst/offst/group/Member" "sessionDeadline" "J" (.long (0 : Int64)) := D2 (Or.inl (hw _ (List.mem_of_getElem? (i := 126) rfl))) (ty := .long) (by decide)
  have F10 : Fld Z h2 b2 "com/example/offst/offst/group/Member" "joining" "Ljava/util/concurrent/CompletableFuture;" .null := D2 (Or.inl (hw _ (List.mem_of_getElem? (i := 133) rfl))) (ty := (.object "java/util/concurrent/CompletableFuture")) (by decide)
  have F11 : Fld Z h2 b2 "com/example/offst/offst/group/Member" "syncing" "Ljava/util/concurrent/CompletableFuture;" .null := D2 (Or.inl (hw _ (List.mem_of_getElem? (i := 135) rfl))) (ty := (.object "java/util/concurrent/CompletableFuture")) (by decide)
  refine own_go (fun t k => st2 t k) ?_
  show OwnG p.tables e below _ (T2.setTop (mkF m 42 #[.val (.long p0), .second, .val (.int p1), .val (.long p2), .second, .val (.int p3), .val (.int p4), .val (.long (p1.toInt64 * (1000000 : Int64))), .second, .val (.long z1), .second, .val (.long (p0 + z1)), .second, .unset, .unset, .unset, .unset, .unset, .unset] [(.ref b2)]))
  refine own_go (fun t k => XS.dup X2.here hx rfl (hb hby at_42) rfl rfl k) ?_
  show OwnG p.tables e below _ (T2.setTop (mkF m 43 #[.val (.long p0), .second, .val (.int p1), .val (.long p2), .second, .val (.int p3), .val (.int p4), .val (.long (p1.toInt64 * (1000000 : Int64))), .second, .val (.long z1), .second, .val (.long (p0 + z1)), .second, .unset, .unset, .unset, .unset, .unset, .unset] [(.ref b2), (.ref b2)]))
  refine own_go (fun t k => XS.iload X2.here hx rfl (hb hby at_43) rfl  k) ?_
  show OwnG p.tables e below _ (T2.setTop (mkF m 45 #[.val (.long p0), .second, .val (.int p1), .val (.long p2), .second, .val (.int p3), .val (.int p4), .val (.long (p1.toInt64 * (1000000 : Int64))), .second, .val (.long z1), .second, .val (.long (p0 + z1)), .second, .unset, .unset, .unset, .unset, .unset, .unset] [(.int p4), (.ref b2), (.ref b2)]))
  refine own_go (fun t k => XS.sipush X2.here hx rfl (hb hby at_45) k) ?_
  show OwnG p.tables e below _ (T2.setTop (mkF m 48 #[.val (.long p0), .second, .val (.int p1), .val (.long p2), .second, .val (.int p3), .val (.int p4), .val (.long (p1.toInt64 * (1000000 : Int64))), .second, .val (.long z1), .second, .val (.long (p0 + z1)), .second, .unset, .unset, .unset, .unset, .unset, .unset] [(.int (255 : Int32)), (.int p4), (.ref b2), (.ref b2)]))
  refine own_go (fun t k => XS.iand X2.here hx rfl (hb hby at_48) rfl k) ?_
  show OwnG p.tables e below _ (T2.setTop (mkF m 49 #[.val (.long p0), .second, .val (.int p1), .val (.long p2), .second, .val (.int p3), .val (.int p4), .val (.long (p1.toInt64 * (1000000 : Int64))), .second, .val (.long z1), .second, .val (.long (p0 + z1)), .second, .unset, .unset, .unset, .unset, .unset, .unset] [(.int (p4 &&& (255 : Int32))), (.ref b2), (.ref b2)]))
  refine own_go (fun t k => XS.i2c X2.here hx rfl (hb hby at_49) rfl k) ?_
  show OwnG p.tables e below _ (T2.setTop (mkF m 50 #[.val (.long p0), .second, .val (.int p1), .val (.long p2), .second, .val (.int p3), .val (.int p4), .val (.long (p1.toInt64 * (1000000 : Int64))), .second, .val (.long z1), .second, .val (.long (p0 + z1)), .second, .unset, .unset, .unset, .unset, .unset, .unset] [(.int ((p4 &&& (255 : Int32)).toUInt32.toUInt16.toUInt32.toInt32)), (.ref b2), (.ref b2)]))
  obtain ⟨_, _, ⟨T12, L12, k12, n12⟩, -, X12, ⟨Lc12, hQ12, l12, y12, z12⟩, st12⟩ := Jvm.LawKit.callS X2 hx (y := (⟨"java/lang/String", "valueOf", "(C)Ljava/lang/String;"⟩ : MethodName)) hown (mvT hZ (hw _ (List.mem_of_getElem? (i := 4) rfl))) (mvT hZ (hw _ (List.mem_of_getElem? (i := 5) rfl))) (mvT hZ (hw _ (List.mem_of_getElem? (i := 6) rfl))) (mvT hZ (hw _ (List.mem_of_getElem? (i := 7) rfl))) (by decide) (backOf (W := 2) (own_vo l Z a0 hw [] ((p4 &&& (255 : Int32)).toUInt32.toUInt16.toUInt32.toInt32) i_COMPACT_STRINGS h2 n0 Z4 F3 S_COMPACT_STRINGS nz_i_COMPACT_STRINGS (own_c255 p4)) hZ (hw _ (List.mem_of_getElem? (i := 7) rfl)) (hw _ (List.mem_of_getElem? (i := 6) rfl)) (by decide) (by decide)) (g := (mkF m 50 #[.val (.long p0), .second, .val (.int p1), .val (.long p2), .second, .val (.int p3), .val (.int p4), .val (.long (p1.toInt64 * (1000000 : Int64))), .second, .val (.long z1), .second, .val (.long (p0 + z1)), .second, .unset, .unset, .unset, .unset, .unset, .unset] [(.int ((p4 &&& (255 : Int32)).toUInt32.toUInt16.toUInt32.toInt32)), (.ref b2), (.ref b2)])) rfl (by rw [hml]; rfl) (argsL := [(.int ((p4 &&& (255 : Int32)).toUInt32.toUInt16.toUInt32.toInt32))]) (rest := [(.ref b2), (.ref b2)]) (lenOf own_pd182 rfl) rfl (by show 2 * 0 + _ ≤ _; exact Nat.le_of_eq rfl) (hb hby at_50) (fun _ _ => ⟨rfl, e2, (by decide : 1 + 2 ≤ _), (by decide : 7 + 5 ≤ _)⟩)
  dsimp only [Pt.U, Pt.locs, Pt.cells, Pt.slots] at X12 l12 y12 z12 st12 hQ12
  subst l12 y12 z12
  obtain ⟨xs_12, rfl, Nq12, Kq12⟩ := hQ12
  have N12 := Fr.app N0 Nq12
  have F13 : Old Z n0 T12.heap := F3.keep Kq12 all0
  have F14 : Exa Z T12.heap b2 "com/example/offst/offst/group/Member" := A2.keep Kq12
  have F15 : Fld Z T12.heap b2 "com/example/offst/offst/group/Member" "assignment" "[B" .null := F5.keep Kq12 nin0
  have F16 : Fld Z T12.heap b2 "com/example/offst/offst/group/Member" "id" "Ljava/lang/String;" .null := F6.keep Kq12 nin0
  have F17 : Fld Z T12.heap b2 "com/example/offst/offst/group/Member" "joinedWith" "Lcom/example/offst/offst/protocol/JoinGroupRequest;" .null := F7.keep Kq12 nin0
  have F18 : Fld Z T12.heap b2 "com/example/offst/offst/group/Member" "heldBytes" "J" (.long (0 : Int64)) := F8.keep Kq12 nin0
  have F19 : Fld Z T12.heap b2 "com/example/offst/offst/group/Member" "sessionDeadline" "J" (.long (0 : Int64)) := F9.keep Kq12 nin0
  have F20 : Fld Z T12.heap b2 "com/example/offst/offst/group/Member" "joining" "Ljava/util/concurrent/CompletableFuture;" .null := F10.keep Kq12 nin0
  have F21 : Fld Z T12.heap b2 "com/example/offst/offst/group/Member" "syncing" "Ljava/util/concurrent/CompletableFuture;" .null := F11.keep Kq12 nin0
  have K12 : Keep h0 T12.heap [] := K4.trans Kq12 all0
  have Z12 : n0 ≤ T12.heap.size := Nat.le_trans Z4 Kq12.1
  refine own_go (fun t k => st12 t k) ?_
  show OwnG p.tables e below _ (T12.setTop (mkF m 53 #[.val (.long p0), .second, .val (.int p1), .val (.long p2), .second, .val (.int p3), .val (.int p4), .val (.long (p1.toInt64 * (1000000 : Int64))), .second, .val (.long z1), .second, .val (.long (p0 + z1)), .second, .unset, .unset, .unset, .unset, .unset, .unset] [(.ref xs_12), (.ref b2), (.ref b2)]))
  obtain ⟨_, _, ⟨T22, L22, k22, n22⟩, -, X22, ⟨Lc22, hQ22, l22, y22, z22⟩, st22⟩ := X12.specialBack hx (y := (⟨"com/example/offst/offst/group/Member", "<init>", "(Ljava/lang/String;)V"⟩ : MethodName)) rfl hown (mvT hZ (hw _ (List.mem_of_getElem? (i := 30) rfl))) (mvT hZ (hw _ (List.mem_of_getElem? (i := 31) rfl))) (mvT hZ (hw _ (List.mem_of_getElem? (i := 32) rfl))) (by decide) (backOf (W := 1) (own_mi l Z a0 hw [] b2 xs_12 o_NO_ASSIGNMENT T12.heap n0 Z12 F13 S_NO_ASSIGNMENT F14 F15 F18 F17 F19 F20 F21 F16 g_b2) hZ (hw _ (List.mem_of_getElem? (i := 32) rfl)) (hw _ (List.mem_of_getElem? (i := 3) rfl)) (by decide) (by decide)) (g := (mkF m 53 #[.val (.long p0), .second, .val (.int p1), .val (.long p2), .second, .val (.int p3), .val (.int p4), .val (.long (p1.toInt64 * (1000000 : Int64))), .second, .val (.long z1), .second, .val (.long (p0 + z1)), .second, .unset, .unset, .unset, .unset, .unset, .unset] [(.ref xs_12), (.ref b2), (.ref b2)])) rfl (by rw [hml]; rfl) (Steps.refl _) (a := b2) (argsL := [(.ref xs_12)]) (rest := [(.ref b2)]) (lenOf own_pd183 rfl) rfl (by show 2 * 0 + _ ≤ _; exact Nat.le_of_eq rfl) (hb hby at_53) (fun _ _ => ⟨rfl, rfl, (by decide : 3 + 0 ≤ _), (by decide : 12 + 0 ≤ _)⟩)
  dsimp only [Pt.U, Pt.locs, Pt.cells, Pt.slots] at X22 l22 y22 z22 st22 hQ22
  subst l22 y22 z22
  obtain ⟨rfl, Nq22, Kq22, Fq22_0, Fq22_1, Fq22_2, Fq22_3, Fq22_4, Fq22_5, Fq22_6⟩ := hQ22
  have N22 := Fr.app N12 Nq22
  have F23 : Old Z n0 T22.heap := F13.keep Kq22 (allS g_b2 all0)
  have F24 : Exa Z T22.heap b2 "com/example/offst/offst/group/Member" := F14.keep Kq22
  have K22 : Keep h0 T22.heap [] := K12.trans Kq22 (allS (Or.inr sz_b2) all0)
  have Z22 : n0 ≤ T22.heap.size := Nat.le_trans Z12 Kq22.1
  refine own_go (fun t k => st22.trans k) ?_
  show OwnG p.tables e below _ (T22.setTop (mkF m 56 #[.val (.long p0), .second, .val (.int p1), .val (.long p2), .second, .val (.int p3), .val (.int p4), .val (.long (p1.toInt64 * (1000000 : Int64))), .second, .val (.long z1), .second, .val (.long (p0 + z1)), .second, .unset, .unset, .unset, .unset, .unset, .unset] [(.ref b2)]))
  refine own_go (fun t k => XS.astore X22.here hx rfl (hb hby at_56) rfl rfl (l' := #[.val (.long p0), .second, .val (.int p1), .val (.long p2), .second, .val (.int p3), .val (.int p4), .val (.long (p1.toInt64 * (1000000 : Int64))), .second, .val (.long z1), .second, .val (.long (p0 + z1)), .second, .val (.ref b2), .unset, .unset, .unset, .unset, .unset]) rfl k) ?_
  show OwnG p.tables e below _ (T22.setTop (mkF m 58 #[.val (.long p0), .second, .val (.int p1), .val (.long p2), .second, .val (.int p3), .val (.int p4), .val (.long (p1.toInt64 * (1000000 : Int64))), .second, .val (.long z1), .second, .val (.long (p0 + z1)), .second, .val (.ref b2), .unset, .unset, .unset, .unset, .unset] []))
  obtain ⟨T25, h25, X25, e25, E25, A25, D25, -, st25⟩ := newO X22 hx hZ hown (hw _ (List.mem_of_getElem? (i := 40) rfl)) (hw _ (List.mem_of_getElem? (i := 41) rfl)) (hw _ (List.mem_of_getElem? (i := 42) rfl)) rfl (g := (mkF m 58 #[.val (.long p0), .second, .val (.int p1), .val (.long p2), .second, .val (.int p3), .val (.int p4), .val (.long (p1.toInt64 * (1000000 : Int64))), .second, .val (.long z1), .second, .val (.long (p0 + z1)), .second, .val (.ref b2), .unset, .unset, .unset, .unset, .unset] [])) rfl (hb hby at_58) (by decide) (by decide)
  obtain ⟨b25, g25⟩ : ∃ z, z = T22.heap.size := ⟨_, rfl⟩
  rw [← g25] at A25 D25 st25
  have ne26 : b2 ≠ b25 := Nat.ne_of_lt (Nat.lt_of_lt_of_le Fq22_0.lt (Nat.le_of_eq g25.symm))
  have g_b25 : n0 ≤ b25 := Nat.le_trans Z22 (Nat.le_of_eq g25.symm)
  have sz_b25 : h0.size ≤ b25 := Nat.le_trans K22.1 (Nat.le_of_eq g25.symm)
  have F27 : Old Z n0 h25 := F23.ext E25
  have F28 : Exa Z h25 b2 "com/example/offst/offst/group/Member" := Fq22_0.ext E25
  have F29 : Fld Z h25 b2 "com/example/offst/offst/group/Member" "assignment" "[B" (.ref o_NO_ASSIGNMENT) := Fq22_1.ext E25
  have F30 : Fld Z h25 b2 "com/example/offst/offst/group/Member" "heldBytes" "J" (.long (0 : Int64)) := Fq22_2.ext E25
  have F31 : Fld Z h25 b2 "com/example/offst/offst/group/Member" "joinedWith" "Lcom/example/offst/offst/protocol/JoinGroupRequest;" .null := Fq22_3.ext E25
  have F32 : Fld Z h25 b2 "com/example/offst/offst/group/Member" "sessionDeadline" "J" (.long (0 : Int64)) := Fq22_4.ext E25
  have F33 : Fld Z h25 b2 "com/example/offst/offst/group/Member" "joining" "Ljava/util/concurrent/CompletableFuture;" .null := Fq22_5.ext E25
  have F34 : Fld Z h25 b2 "com/example/offst/offst/group/Member" "syncing" "Ljava/util/concurrent/CompletableFuture;" .null := Fq22_6.ext E25
  have K35 : Keep h0 h25 [] := K22.ext E25
  have Z35 : n0 ≤ h25.size := Nat.le_trans Z22 E25.1
  have F36 : Fld Z h25 b25 "java/util/AbstractList" "modCount" "I" (.int (0 : Int32)) := D25 (Or.inl (hw _ (List.mem_of_getElem? (i := 60) rfl))) (ty := .int) (by decide)
  have F37 : Fld Z h25 b25 "java/util/ArrayList" "elementData" "[Ljava/lang/Object;" .null := D25 (Or.inl (hw _ (List.mem_of_getElem? (i := 63) rfl))) (ty := (.array (.object "java/lang/Object"))) (by decide)
  refine own_go (fun t k => st25 t k) ?_
  show OwnG p.tables e below _ (T25.setTop (mkF m 61 #[.val (.long p0), .second, .val (.int p1), .val (.long p2), .second, .val (.int p3), .val (.int p4), .val (.long (p1.toInt64 * (1000000 : Int64))), .second, .val (.long z1), .second, .val (.long (p0 + z1)), .second, .val (.ref b2), .unset, .unset, .unset, .unset, .unset] [(.ref b25)]))
  refine own_go (fun t k => XS.dup X25.here hx rfl (hb hby at_61) rfl rfl k) ?_
  show OwnG p.tables e below _ (T25.setTop (mkF m 62 #[.val (.long p0), .second, .val (.int p1), .val (.long p2), .second, .val (.int p3), .val (.int p4), .val (.long (p1.toInt64 * (1000000 : Int64))), .second, .val (.long z1), .second, .val (.long (p0 + z1)), .second, .val (.ref b2), .unset, .unset, .unset, .unset, .unset] [(.ref b25), (.ref b25)]))
  obtain ⟨_, _, ⟨T38, L38, k38, n38⟩, -, X38, ⟨Lc38, hQ38, l38, y38, z38⟩, st38⟩ := X25.specialBack hx (y := (⟨"java/util/ArrayList", "<init>", "()V"⟩ : MethodName)) rfl hown (mvT hZ (hw _ (List.mem_of_getElem? (i := 43) rfl))) (mvT hZ (hw _ (List.mem_of_getElem? (i := 44) rfl))) (mvT hZ (hw _ (List.mem_of_getElem? (i := 45) rfl))) (by decide) (backOf (W := 1) (own_al l Z a0 hw [] b25 o_DEFAULTCAPACITY_EMPTY_ELEMENTDATA h25 n0 Z35 F27 S_DEFAULTCAPACITY_EMPTY_ELEMENTDATA A25 F36 F37 g_b25) hZ (hw _ (List.mem_of_getElem? (i := 45) rfl)) (hw _ (List.mem_of_getElem? (i := 42) rfl)) (by decide) (by decide)) (g := (mkF m 62 #[.val (.long p0), .second, .val (.int p1), .val (.long p2), .second, .val (.int p3), .val (.int p4), .val (.long (p1.toInt64 * (1000000 : Int64))), .second, .val (.long z1), .second, .val (.long (p0 + z1)), .second, .val (.ref b2), .unset, .unset, .unset, .unset, .unset] [(.ref b25), (.ref b25)])) rfl (by rw [hml]; rfl) (Steps.refl _) (a := b25) (argsL := []) (rest := [(.ref b25)]) (lenOf own_pd64 rfl) rfl (by show 2 * 0 + _ ≤ _; exact Nat.le_of_eq rfl) (hb hby at_62) (fun _ _ => ⟨rfl, e25, (by decide : 4 + 0 ≤ _), (by decide : 15 + 0 ≤ _)⟩)
  dsimp only [Pt.U, Pt.locs, Pt.cells, Pt.slots] at X38 l38 y38 z38 st38 hQ38
  subst l38 y38 z38
  obtain ⟨rfl, Nq38, Kq38, Fq38_0⟩ := hQ38
  have N38 := Fr.app N22 Nq38
  have F39 : Old Z n0 T38.heap := F27.keep Kq38 (allS g_b25 all0)
  have F40 : Exa Z T38.heap b2 "com/example/offst/offst/group/Member" := F28.keep Kq38
  have F41 : Fld Z T38.heap b2 "com/example/offst/offst/group/Member" "assignment" "[B" (.ref o_NO_ASSIGNMENT) := F29.keep Kq38 (ninS ne26 nin0)
  have F42 : Fld Z T38.heap b2 "com/example/offst/offst/group/Member" "heldBytes" "J" (.long (0 : Int64)) := F30.keep Kq38 (ninS ne26 nin0)
  have F43 : Fld Z T38.heap b2 "com/example/offst/offst/group/Member" "joinedWith" "Lcom/example/offst/offst/protocol/JoinGroupRequest;" .null := F31.keep Kq38 (ninS ne26 nin0)
  have F44 : Fld Z T38.heap b2 "com/example/offst/offst/group/Member" "sessionDeadline" "J" (.long (0 : Int64)) := F32.keep Kq38 (ninS ne26 nin0)
  have F45 : Fld Z T38.heap b2 "com/example/offst/offst/group/Member" "joining" "Ljava/util/concurrent/CompletableFuture;" .null := F33.keep Kq38 (ninS ne26 nin0)
  have F46 : Fld Z T38.heap b2 "com/example/offst/offst/group/Member" "syncing" "Ljava/util/concurrent/CompletableFuture;" .null := F34.keep Kq38 (ninS ne26 nin0)
  have F47 : Exa Z T38.heap b25 "java/util/ArrayList" := A25.keep Kq38
  have K38 : Keep h0 T38.heap [] := K35.trans Kq38 (allS (Or.inr sz_b25) all0)
  have Z38 : n0 ≤ T38.heap.size := Nat.le_trans Z35 Kq38.1
  refine own_go (fun t k => st38.trans k) ?_
  show OwnG p.tables e below _ (T38.setTop (mkF m 65 #[.val (.long p0), .second, .val (.int p1), .val (.long p2), .second, .val (.int p3), .val (.int p4), .val (.long (p1.toInt64 * (1000000 : Int64))), .second, .val (.long z1), .second, .val (.long (p0 + z1)), .second, .val (.ref b2), .unset, .unset, .unset, .unset, .unset] [(.ref b25)]))
  refine own_go (fun t k => XS.astore X38.here hx rfl (hb hby at_65) rfl rfl (l' := #[.val (.long p0), .second, .val (.int p1), .val (.long p2), .second, .val (.int p3), .val (.int p4), .val (.long (p1.toInt64 * (1000000 : Int64))), .second, .val (.long z1), .second, .val (.long (p0 + z1)), .second, .val (.ref b2), .val (.ref b25), .unset, .unset, .unset, .unset]) rfl k) ?_
  show OwnG p.tables e below _ (T38.setTop (mkF m 67 #[.val (.long p0), .second, .val (.int p1), .val (.long p2), .second, .val (.int p3), .val (.int p4), .val (.long (p1.toInt64 * (1000000 : Int64))), .second, .val (.long z1), .second, .val (.long (p0 + z1)), .second, .val (.ref b2), .val (.ref b25), .unset, .unset, .unset, .unset] []))
  obtain ⟨T48, h48, X48, e48, E48, A48, D48, -, st48⟩ := newO X38 hx hZ hown (hw _ (List.mem_of_getElem? (i := 64) rfl)) (hw _ (List.mem_of_getElem? (i := 65) rfl)) (hw _ (List.mem_of_getElem? (i := 66) rfl)) rfl (g := (mkF m 67 #[.val (.long p0), .second, .val (.int p1), .val (.long p2), .second, .val (.int p3), .val (.int p4), .val (.long (p1.toInt64 * (1000000 : Int64))), .second, .val (.long z1), .second, .val (.long (p0 + z1)), .second, .val (.ref b2), .val (.ref b25), .unset, .unset, .unset, .unset] [])) rfl (hb hby at_67) (by decide) (by decide)
  obtain ⟨b48, g48⟩ : ∃ z, z = T38.heap.size := ⟨_, rfl⟩
  rw [← g48] at A48 D48 st48
  have ne49 : b2 ≠ b48 := Nat.ne_of_lt (Nat.lt_of_lt_of_le F40.lt (Nat.le_of_eq g48.symm))
  have ne50 : b25 ≠ b48 := Nat.ne_of_lt (Nat.lt_of_lt_of_le Fq38_0.lt (Nat.le_of_eq g48.symm))
  have g_b48 : n0 ≤ b48 := Nat.le_trans Z38 (Nat.le_of_eq g48.symm)
  have sz_b48 : h0.size ≤ b48 := Nat.le_trans K38.1 (Nat.le_of_eq g48.symm)
  have F51 : Old Z n0 h48 := F39.ext E48
  have F52 : Exa Z h48 b2 "com/example/offst/offst/group/Member" := F40.ext E48
  have F53 : Fld Z h48 b2 "com/example/offst/offst/group/Member" "assignment" "[B" (.ref o_NO_ASSIGNMENT) := F41.ext E48
  have F54 : Fld Z h48 b2 "com/example/offst/offst/group/Member" "heldBytes" "J" (.long (0 : Int64)) := F42.ext E48
  have F55 : Fld Z h48 b2 "com/example/offst/offst/group/Member" "joinedWith" "Lcom/example/offst/offst/protocol/JoinGroupRequest;" .null := F43.ext E48
  have F56 : Fld Z h48 b2 "com/example/offst/offst/group/Member" "sessionDeadline" "J" (.long (0 : Int64)) := F44.ext E48
  have F57 : Fld Z h48 b2 "com/example/offst/offst/group/Member" "joining" "Ljava/util/concurrent/CompletableFuture;" .null := F45.ext E48
  have F58 : Fld Z h48 b2 "com/example/offst/offst/group/Member" "syncing" "Ljava/util/concurrent/CompletableFuture;" .null := F46.ext E48
  have F59 : Exa Z h48 b25 "java/util/ArrayList" := Fq38_0.ext E48
  have K60 : Keep h0 h48 [] := K38.ext E48
  have Z60 : n0 ≤ h48.size := Nat.le_trans Z38 E48.1
  have F61 : Fld Z h48 b48 "com/example/offst/offst/protocol/JoinGroupRequest" "groupId" "Ljava/lang/String;" .null := D48 (Or.inr (hw _ (List.mem_of_getElem? (i := 82) rfl))) (ty := (.object "java/lang/String")) (by decide)
  have F62 : Fld Z h48 b48 "com/example/offst/offst/protocol/JoinGroupRequest" "sessionTimeoutMs" "I" (.int (0 : Int32)) := D48 (Or.inr (hw _ (List.mem_of_getElem? (i := 84) rfl))) (ty := .int) (by decide)
  have F63 : Fld Z h48 b48 "com/example/offst/offst/protocol/JoinGroupRequest" "rebalanceTimeoutMs" "I" (.int (0 : Int32)) := D48 (Or.inr (hw _ (List.mem_of_getElem? (i := 86) rfl))) (ty := .int) (by decide)
  have F64 : Fld Z h48 b48 "com/example/offst/offst/protocol/JoinGroupRequest" "memberId" "Ljava/lang/String;" .null := D48 (Or.inr (hw _ (List.mem_of_getElem? (i := 88) rfl))) (ty := (.object "java/lang/String")) (by decide)
  have F65 : Fld Z h48 b48 "com/example/offst/offst/protocol/JoinGroupRequest" "protocolType" "Ljava/lang/String;" .null := D48 (Or.inr (hw _ (List.mem_of_getElem? (i := 90) rfl))) (ty := (.object "java/lang/String")) (by decide)
  have F66 : Fld Z h48 b48 "com/example/offst/offst/protocol/JoinGroupRequest" "protocols" "Ljava/util/List;" .null := D48 (Or.inr (hw _ (List.mem_of_getElem? (i := 92) rfl))) (ty := (.object "java/util/List")) (by decide)
  have F67 : Fld Z h48 b48 "com/example/offst/offst/protocol/JoinGroupRequest" "takesMemberId" "Z" (.int (0 : Int32)) := D48 (Or.inr (hw _ (List.mem_of_getElem? (i := 94) rfl))) (ty := .boolean) (by decide)
  refine own_go (fun t k => st48 t k) ?_
  show OwnG p.tables e below _ (T48.setTop (mkF m 70 #[.val (.long p0), .second, .val (.int p1), .val (.long p2), .second, .val (.int p3), .val (.int p4), .val (.long (p1.toInt64 * (1000000 : Int64))), .second, .val (.long z1), .second, .val (.long (p0 + z1)), .second, .val (.ref b2), .val (.ref b25), .unset, .unset, .unset, .unset] [(.ref b48)]))
  refine own_go (fun t k => XS.dup X48.here hx rfl (hb hby at_70) rfl rfl k) ?_
  show OwnG p.tables e below _ (T48.setTop (mkF m 71 #[.val (.long p0), .second, .val (.int p1), .val (.long p2), .second, .val (.int p3), .val (.int p4), .val (.long (p1.toInt64 * (1000000 : Int64))), .second, .val (.long z1), .second, .val (.long (p0 + z1)), .second, .val (.ref b2), .val (.ref b25), .unset, .unset, .unset, .unset] [(.ref b48), (.ref b48)]))
  obtain ⟨a68, T68, h68, kk68, X68, e68, E68, S68, hk68, hZ68, hO68, st68⟩ := ldcS (s := s) (vm0 := s.vm) X48 hx hZ hown (hw _ (List.mem_of_getElem? (i := 67) rfl)) (own_sa Z a0 hw) e48 hS0 (Nat.zero_le _) (g := (mkF m 71 #[.val (.long p0), .second, .val (.int p1), .val (.long p2), .second, .val (.int p3), .val (.int p4), .val (.long (p1.toInt64 * (1000000 : Int64))), .second, .val (.long z1), .second, .val (.long (p0 + z1)), .second, .val (.ref b2), .val (.ref b25), .unset, .unset, .unset, .unset] [(.ref b48), (.ref b48)])) rfl (hb hby at_71) (n := 4) (by decide) (by decide) (by decide) (by decide)
  have F69 : Old Z n0 h68 := F51.ext E68
  have F70 : Exa Z h68 b2 "com/example/offst/offst/group/Member" := F52.ext E68
  have F71 : Fld Z h68 b2 "com/example/offst/offst/group/Member" "assignment" "[B" (.ref o_NO_ASSIGNMENT) := F53.ext E68
  have F72 : Fld Z h68 b2 "com/example/offst/offst/group/Member" "heldBytes" "J" (.long (0 : Int64)) := F54.ext E68
  have F73 : Fld Z h68 b2 "com/example/offst/offst/group/Member" "joinedWith" "Lcom/example/offst/offst/protocol/JoinGroupRequest;" .null := F55.ext E68
  have F74 : Fld Z h68 b2 "com/example/offst/offst/group/Member" "sessionDeadline" "J" (.long (0 : Int64)) := F56.ext E68
  have F75 : Fld Z h68 b2 "com/example/offst/offst/group/Member" "joining" "Ljava/util/concurrent/CompletableFuture;" .null := F57.ext E68
  have F76 : Fld Z h68 b2 "com/example/offst/offst/group/Member" "syncing" "Ljava/util/concurrent/CompletableFuture;" .null := F58.ext E68
  have F77 : Exa Z h68 b25 "java/util/ArrayList" := F59.ext E68
  have F78 : Exa Z h68 b48 "com/example/offst/offst/protocol/JoinGroupRequest" := A48.ext E68
  have F79 : Fld Z h68 b48 "com/example/offst/offst/protocol/JoinGroupRequest" "groupId" "Ljava/lang/String;" .null := F61.ext E68
  have F80 : Fld Z h68 b48 "com/example/offst/offst/protocol/JoinGroupRequest" "sessionTimeoutMs" "I" (.int (0 : Int32)) := F62.ext E68
  have F81 : Fld Z h68 b48 "com/example/offst/offst/protocol/JoinGroupRequest" "rebalanceTimeoutMs" "I" (.int (0 : Int32)) := F63.ext E68
  have F82 : Fld Z h68 b48 "com/example/offst/offst/protocol/JoinGroupRequest" "memberId" "Ljava/lang/String;" .null := F64.ext E68
  have F83 : Fld Z h68 b48 "com/example/offst/offst/protocol/JoinGroupRequest" "protocolType" "Ljava/lang/String;" .null := F65.ext E68
  have F84 : Fld Z h68 b48 "com/example/offst/offst/protocol/JoinGroupRequest" "protocols" "Ljava/util/List;" .null := F66.ext E68
  have F85 : Fld Z h68 b48 "com/example/offst/offst/protocol/JoinGroupRequest" "takesMemberId" "Z" (.int (0 : Int32)) := F67.ext E68
  have K86 : Keep h0 h68 [] := K60.ext E68
  have Z86 : n0 ≤ h68.size := Nat.le_trans Z60 E68.1
  refine own_go (fun t k => st68 t k) ?_
  show OwnG p.tables e below _ (T68.setTop (mkF m 73 #[.val (.long p0), .second, .val (.int p1), .val (.long p2), .second, .val (.int p3), .val (.int p4), .val (.long (p1.toInt64 * (1000000 : Int64))), .second, .val (.long z1), .second, .val (.long (p0 + z1)), .second, .val (.ref b2), .val (.ref b25), .unset, .unset, .unset, .unset] [(.ref a68), (.ref b48), (.ref b48)]))
  refine own_go (fun t k => XS.iloadN X68.here hx rfl (hb hby at_73) rfl  k) ?_
  show OwnG p.tables e below _ (T68.setTop (mkF m 74 #[.val (.long p0), .second, .val (.int p1), .val (.long p2), .second, .val (.int p3), .val (.int p4), .val (.long (p1.toInt64 * (1000000 : Int64))), .second, .val (.long z1), .second, .val (.long (p0 + z1)), .second, .val (.ref b2), .val (.ref b25), .unset, .unset, .unset, .unset] [(.int p1), (.ref a68), (.ref b48), (.ref b48)]))
  refine own_go (fun t k => XS.iloadN X68.here hx rfl (hb hby at_74) rfl  k) ?_
  show OwnG p.tables e below _ (T68.setTop (mkF m 75 #[.val (.long p0), .second, .val (.int p1), .val (.long p2), .second, .val (.int p3), .val (.int p4), .val (.long (p1.toInt64 * (1000000 : Int64))), .second, .val (.long z1), .second, .val (.long (p0 + z1)), .second, .val (.ref b2), .val (.ref b25), .unset, .unset, .unset, .unset] [(.int p1), (.int p1), (.ref a68), (.ref b48), (.ref b48)]))
  obtain ⟨a87, T87, h87, kk87, X87, e87, E87, S87, hk87, hZ87, hO87, st87⟩ := ldcS (s := s) (vm0 := T68.vm) X68 hx hZ68 hO68 (hw _ (List.mem_of_getElem? (i := 70) rfl)) (own_sa Z a0 hw) e68 S68 hk68 (g := (mkF m 75 #[.val (.long p0), .second, .val (.int p1), .val (.long p2), .second, .val (.int p3), .val (.int p4), .val (.long (p1.toInt64 * (1000000 : Int64))), .second, .val (.long z1), .second, .val (.long (p0 + z1)), .second, .val (.ref b2), .val (.ref b25), .unset, .unset, .unset, .unset] [(.int p1), (.int p1), (.ref a68), (.ref b48), (.ref b48)])) rfl (hb hby at_75) (n := 0) (by decide) (by decide) (by decide) (by decide)
  have F88 : Old Z n0 h87 := F69.ext E87
  have F89 : Exa Z h87 b2 "com/example/offst/offst/group/Member" := F70.ext E87
  have F90 : Fld Z h87 b2 "com/example/offst/offst/group/Member" "assignment" "[B" (.ref o_NO_ASSIGNMENT) := F71.ext E87
  have F91 : Fld Z h87 b2 "com/example/offst/offst/group/Member" "heldBytes" "J" (.long (0 : Int64)) := F72.ext E87
  have F92 : Fld Z h87 b2 "com/example/offst/offst/group/Member" "joinedWith" "Lcom/example/offst/offst/protocol/JoinGroupRequest;" .null := F73.ext E87
  have F93 : Fld Z h87 b2 "com/example/offst/offst/group/Member" "sessionDeadline" "J" (.long (0 : Int64)) := F74.ext E87
  have F94 : Fld Z h87 b2 "com/example/offst/offst/group/Member" "joining" "Ljava/util/concurrent/CompletableFuture;" .null := F75.ext E87
  have F95 : Fld Z h87 b2 "com/example/offst/offst/group/Member" "syncing" "Ljava/util/concurrent/CompletableFuture;" .null := F76.ext E87
  have F96 : Exa Z h87 b25 "java/util/ArrayList" := F77.ext E87
  have F97 : Exa Z h87 b48 "com/example/offst/offst/protocol/JoinGroupRequest" := F78.ext E87
  have F98 : Fld Z h87 b48 "com/example/offst/offst/protocol/JoinGroupRequest" "groupId" "Ljava/lang/String;" .null := F79.ext E87
  have F99 : Fld Z h87 b48 "com/example/offst/offst/protocol/JoinGroupRequest" "sessionTimeoutMs" "I" (.int (0 : Int32)) := F80.ext E87
  have F100 : Fld Z h87 b48 "com/example/offst/offst/protocol/JoinGroupRequest" "rebalanceTimeoutMs" "I" (.int (0 : Int32)) := F81.ext E87
  have F101 : Fld Z h87 b48 "com/example/offst/offst/protocol/JoinGroupRequest" "memberId" "Ljava/lang/String;" .null := F82.ext E87
  have F102 : Fld Z h87 b48 "com/example/offst/offst/protocol/JoinGroupRequest" "protocolType" "Ljava/lang/String;" .null := F83.ext E87
  have F103 : Fld Z h87 b48 "com/example/offst/offst/protocol/JoinGroupRequest" "protocols" "Ljava/util/List;" .null := F84.ext E87
  have F104 : Fld Z h87 b48 "com/example/offst/offst/protocol/JoinGroupRequest" "takesMemberId" "Z" (.int (0 : Int32)) := F85.ext E87
  have K105 : Keep h0 h87 [] := K86.ext E87
  have Z105 : n0 ≤ h87.size := Nat.le_trans Z86 E87.1
  refine own_go (fun t k => st87 t k) ?_
  show OwnG p.tables e below _ (T87.setTop (mkF m 77 #[.val (.long p0), .second, .val (.int p1), .val (.long p2), .second, .val (.int p3), .val (.int p4), .val (.long (p1.toInt64 * (1000000 : Int64))), .second, .val (.long z1), .second, .val (.long (p0 + z1)), .second, .val (.ref b2), .val (.ref b25), .unset, .unset, .unset, .unset] [(.ref a87), (.int p1), (.int p1), (.ref a68), (.ref b48), (.ref b48)]))
  obtain ⟨a106, T106, h106, kk106, X106, e106, E106, S106, hk106, hZ106, hO106, st106⟩ := ldcS (s := s) (vm0 := T87.vm) X87 hx hZ87 hO87 (hw _ (List.mem_of_getElem? (i := 71) rfl)) (own_sa Z a0 hw) e87 S87 hk87 (g := (mkF m 77 #[.val (.long p0), .second, .val (.int p1), .val (.long p2), .second, .val (.int p3), .val (.int p4), .val (.long (p1.toInt64 * (1000000 : Int64))), .second, .val (.long z1), .second, .val (.long (p0 + z1)), .second, .val (.ref b2), .val (.ref b25), .unset, .unset, .unset, .unset] [(.ref a87), (.int p1), (.int p1), (.ref a68), (.ref b48), (.ref b48)])) rfl (hb hby at_77) (n := 32) (by decide) (by decide) (by decide) (by decide)
  have F107 : Old Z n0 h106 := F88.ext E106
  have F108 : Exa Z h106 b2 "com/example/offst/offst/group/Member" := F89.ext E106
  have F109 : Fld Z h106 b2 "com/example/offst/offst/group/Member" "assignment" "[B" (.ref o_NO_ASSIGNMENT) := F90.ext E106
  have F110 : Fld Z h106 b2 "com/example/offst/offst/group/Member" "heldBytes" "J" (.long (0 : Int64)) := F91.ext E106
  have F111 : Fld Z h106 b2 "com/example/offst/offst/group/Member" "joinedWith" "Lcom/example/offst/offst/protocol/JoinGroupRequest;" .null := F92.ext E106
  have F112 : Fld Z h106 b2 "com/example/offst/offst/group/Member" "sessionDeadline" "J" (.long (0 : Int64)) := F93.ext E106
  have F113 : Fld Z h106 b2 "com/example/offst/offst/group/Member" "joining" "Ljava/util/concurrent/CompletableFuture;" .null := F94.ext E106
  have F114 : Fld Z h106 b2 "com/example/offst/offst/group/Member" "syncing" "Ljava/util/concurrent/CompletableFuture;" .null := F95.ext E106
  have F115 : Exa Z h106 b25 "java/util/ArrayList" := F96.ext E106
  have F116 : Exa Z h106 b48 "com/example/offst/offst/protocol/JoinGroupRequest" := F97.ext E106
  have F117 : Fld Z h106 b48 "com/example/offst/offst/protocol/JoinGroupRequest" "groupId" "Ljava/lang/String;" .null := F98.ext E106
  have F118 : Fld Z h106 b48 "com/example/offst/offst/protocol/JoinGroupRequest" "sessionTimeoutMs" "I" (.int (0 : Int32)) := F99.ext E106
  have F119 : Fld Z h106 b48 "com/example/offst/offst/protocol/JoinGroupRequest" "rebalanceTimeoutMs" "I" (.int (0 : Int32)) := F100.ext E106
  have F120 : Fld Z h106 b48 "com/example/offst/offst/protocol/JoinGroupRequest" "memberId" "Ljava/lang/String;" .null := F101.ext E106
  have F121 : Fld Z h106 b48 "com/example/offst/offst/protocol/JoinGroupRequest" "protocolType" "Ljava/lang/String;" .null := F102.ext E106
  have F122 : Fld Z h106 b48 "com/example/offst/offst/protocol/JoinGroupRequest" "protocols" "Ljava/util/List;" .null := F103.ext E106
  have F123 : Fld Z h106 b48 "com/example/offst/offst/protocol/JoinGroupRequest" "takesMemberId" "Z" (.int (0 : Int32)) := F104.ext E106
  have K124 : Keep h0 h106 [] := K105.ext E106
  have Z124 : n0 ≤ h106.size := Nat.le_trans Z105 E106.1
  refine own_go (fun t k => st106 t k) ?_
  show OwnG p.tables e below _ (T106.setTop (mkF m 79 #[.val (.long p0), .second, .val (.int p1), .val (.long p2), .second, .val (.int p3), .val (.int p4), .val (.long (p1.toInt64 * (1000000 : Int64))), .second, .val (.long z1), .second, .val (.long (p0 + z1)), .second, .val (.ref b2), .val (.ref b25), .unset, .unset, .unset, .unset] [(.ref a106), (.ref a87), (.int p1), (.int p1), (.ref a68), (.ref b48), (.ref b48)]))
  refine own_go (fun t k => XS.aload X106.here hx rfl (hb hby at_79) rfl rfl k) ?_
  show OwnG p.tables e below _ (T106.setTop (mkF m 81 #[.val (.long p0), .second, .val (.int p1), .val (.long p2), .second, .val (.int p3), .val (.int p4), .val (.long (p1.toInt64 * (1000000 : Int64))), .second, .val (.long z1), .second, .val (.long (p0 + z1)), .second, .val (.ref b2), .val (.ref b25), .unset, .unset, .unset, .unset] [(.ref b25), (.ref a106), (.ref a87), (.int p1), (.int p1), (.ref a68), (.ref b48), (.ref b48)]))
  refine own_go (fun t k => XS.iconst X106.here hx rfl (hb hby at_81) k) ?_
  show OwnG p.tables e below _ (T106.setTop (mkF m 82 #[.val (.long p0), .second, .val (.int p1), .val (.long p2), .second, .val (.int p3), .val (.int p4), .val (.long (p1.toInt64 * (1000000 : Int64))), .second, .val (.long z1), .second, .val (.long (p0 + z1)), .second, .val (.ref b2), .val (.ref b25), .unset, .unset, .unset, .unset] [(.int (1 : Int32)), (.ref b25), (.ref a106), (.ref a87), (.int p1), (.int p1), (.ref a68), (.ref b48), (.ref b48)]))
  obtain ⟨_, _, ⟨T125, L125, k125, n125⟩, -, X125, ⟨Lc125, hQ125, l125, y125, z125⟩, st125⟩ := X106.specialBack hx (y := (⟨"com/example/offst/offst/protocol/JoinGroupRequest", "<init>", "(Ljava/lang/String;IILjava/lang/String;Ljava/lang/String;Ljava/util/List;Z)V"⟩ : MethodName)) rfl hO106 (mvT hZ106 (hw _ (List.mem_of_getElem? (i := 72) rfl))) (mvT hZ106 (hw _ (List.mem_of_getElem? (i := 73) rfl))) (mvT hZ106 (hw _ (List.mem_of_getElem? (i := 74) rfl))) (by decide) (backOf (W := 1) (own_ji l Z a0 hw [] b48 a68 p1 p1 a87 a106 b25 h106 n0 Z124 F116 F117 F118 F119 F120 F121 F122 F123 g_b48) hZ106 (hw _ (List.mem_of_getElem? (i := 74) rfl)) (hw _ (List.mem_of_getElem? (i := 66) rfl)) (by decide) (by decide)) (g := (mkF m 82 #[.val (.long p0), .second, .val (.int p1), .val (.long p2), .second, .val (.int p3), .val (.int p4), .val (.long (p1.toInt64 * (1000000 : Int64))), .second, .val (.long z1), .second, .val (.long (p0 + z1)), .second, .val (.ref b2), .val (.ref b25), .unset, .unset, .unset, .unset] [(.int (1 : Int32)), (.ref b25), (.ref a106), (.ref a87), (.int p1), (.int p1), (.ref a68), (.ref b48), (.ref b48)])) rfl (by rw [hml]; rfl) (Steps.refl _) (a := b48) (argsL := [(.ref a68), (.int p1), (.int p1), (.ref a87), (.ref a106), (.ref b25), (.int (1 : Int32))]) (rest := [(.ref b48)]) (lenOf own_pd184 rfl) rfl (by show 2 * 0 + _ ≤ _; exact Nat.le_of_eq rfl) (hb hby at_82) (fun _ _ => ⟨rfl, e106, (by decide : 11 + 0 ≤ _), (by decide : 70 + 0 ≤ _)⟩)
  dsimp only [Pt.U, Pt.locs, Pt.cells, Pt.slots] at X125 l125 y125 z125 st125 hQ125
  subst l125 y125 z125
  obtain ⟨rfl, Nq125, Kq125, Fq125_0, Fq125_1⟩ := hQ125
  have N125 := Fr.app N38 Nq125
  have F126 : Old Z n0 T125.heap := F107.keep Kq125 (allS g_b48 all0)
  have F127 : Exa Z T125.heap b2 "com/example/offst/offst/group/Member" := F108.keep Kq125
  have F128 : Fld Z T125.heap b2 "com/example/offst/offst/group/Member" "assignment" "[B" (.ref o_NO_ASSIGNMENT) := F109.keep Kq125 (ninS ne49 nin0)
  have F129 : Fld Z T125.heap b2 "com/example/offst/offst/group/Member" "heldBytes" "J" (.long (0 : Int64)) := F110.keep Kq125 (ninS ne49 nin0)
  have F130 : Fld Z T125.heap b2 "com/example/offst/offst/group/Member" "joinedWith" "Lcom/example/offst/offst/protocol/JoinGroupRequest;" .null := F111.keep Kq125 (ninS ne49 nin0)
  have F131 : Fld Z T125.heap b2 "com/example/offst/offst/group/Member" "sessionDeadline" "J" (.long (0 : Int64)) := F112.keep Kq125 (ninS ne49 nin0)
  have F132 : Fld Z T125.heap b2 "com/example/offst/offst/group/Member" "joining" "Ljava/util/concurrent/CompletableFuture;" .null := F113.keep Kq125 (ninS ne49 nin0)
  have F133 : Fld Z T125.heap b2 "com/example/offst/offst/group/Member" "syncing" "Ljava/util/concurrent/CompletableFuture;" .null := F114.keep Kq125 (ninS ne49 nin0)
  have F134 : Exa Z T125.heap b25 "java/util/ArrayList" := F115.keep Kq125
  have F135 : Exa Z T125.heap b48 "com/example/offst/offst/protocol/JoinGroupRequest" := F116.keep Kq125
  have K125 : Keep h0 T125.heap [] := K124.trans Kq125 (allS (Or.inr sz_b48) all0)
  have Z125 : n0 ≤ T125.heap.size := Nat.le_trans Z124 Kq125.1
  have hk125 : _ ≤ T125.heap.size := Nat.le_trans hk106 Kq125.1
  refine own_go (fun t k => st125.trans k) ?_
  show OwnG p.tables e below _ (T125.setTop (mkF m 85 #[.val (.long p0), .second, .val (.int p1), .val (.long p2), .second, .val (.int p3), .val (.int p4), .val (.long (p1.toInt64 * (1000000 : Int64))), .second, .val (.long z1), .second, .val (.long (p0 + z1)), .second, .val (.ref b2), .val (.ref b25), .unset, .unset, .unset, .unset] [(.ref b48)]))
  refine own_go (fun t k => XS.astore X125.here hx rfl (hb hby at_85) rfl rfl (l' := #[.val (.long p0), .second, .val (.int p1), .val (.long p2), .second, .val (.int p3), .val (.int p4), .val (.long (p1.toInt64 * (1000000 : Int64))), .second, .val (.long z1), .second, .val (.long (p0 + z1)), .second, .val (.ref b2), .val (.ref b25), .val (.ref b48), .unset, .unset, .unset]) rfl k) ?_
  show OwnG p.tables e below _ (T125.setTop (mkF m 87 #[.val (.long p0), .second, .val (.int p1), .val (.long p2), .second, .val (.int p3), .val (.int p4), .val (.long (p1.toInt64 * (1000000 : Int64))), .second, .val (.long z1), .second, .val (.long (p0 + z1)), .second, .val (.ref b2), .val (.ref b25), .val (.ref b48), .unset, .unset, .unset] []))
  refine own_go (fun t k => XS.aload X125.here hx rfl (hb hby at_87) rfl rfl k) ?_
  show OwnG p.tables e below _ (T125.setTop (mkF m 89 #[.val (.long p0), .second, .val (.int p1), .val (.long p2), .second, .val (.int p3), .val (.int p4), .val (.long (p1.toInt64 * (1000000 : Int64))), .second, .val (.long z1), .second, .val (.long (p0 + z1)), .second, .val (.ref b2), .val (.ref b25), .val (.ref b48), .unset, .unset, .unset] [(.ref b2)]))
  refine own_go (fun t k => XS.aload X125.here hx rfl (hb hby at_89) rfl rfl k) ?_
  show OwnG p.tables e below _ (T125.setTop (mkF m 91 #[.val (.long p0), .second, .val (.int p1), .val (.long p2), .second, .val (.int p3), .val (.int p4), .val (.long (p1.toInt64 * (1000000 : Int64))), .second, .val (.long z1), .second, .val (.long (p0 + z1)), .second, .val (.ref b2), .val (.ref b25), .val (.ref b48), .unset, .unset, .unset] [(.ref b48), (.ref b2)]))
  refine own_go (fun t k => XS.lconst X125.here hx rfl (hb hby at_91) k) ?_
  show OwnG p.tables e below _ (T125.setTop (mkF m 92 #[.val (.long p0), .second, .val (.int p1), .val (.long p2), .second, .val (.int p3), .val (.int p4), .val (.long (p1.toInt64 * (1000000 : Int64))), .second, .val (.long z1), .second, .val (.long (p0 + z1)), .second, .val (.ref b2), .val (.ref b25), .val (.ref b48), .unset, .unset, .unset] [(.long (0 : Int64)), (.ref b48), (.ref b2)]))
  obtain ⟨cq136, kq136, q136a, q136b, q136c⟩ := isOf hZ106 rfl F127
  obtain ⟨_, _, ⟨T136, L136, k136, n136⟩, -, X136, ⟨Lc136, hQ136, l136, y136, z136⟩, st136⟩ := X125.virtualBack hx (y := (⟨"com/example/offst/offst/group/Member", "joinWith", "(Lcom/example/offst/offst/protocol/JoinGroupRequest;J)V"⟩ : MethodName)) (z := (⟨"com/example/offst/offst/group/Member", "joinWith", "(Lcom/example/offst/offst/protocol/JoinGroupRequest;J)V"⟩ : MethodName)) hO106 (mvT hZ106 (hw _ (List.mem_of_getElem? (i := 95) rfl))) (mvT hZ106 (hw _ (List.mem_of_getElem? (i := 96) rfl))) (notFace_of_selects (args := #[]) (mvT hZ106 (hw _ (List.mem_of_getElem? (i := 98) rfl)))) (mvT hZ106 (hw _ (List.mem_of_getElem? (i := 98) rfl))) (mvT hZ106 (hw _ (List.mem_of_getElem? (i := 97) rfl))) (by decide) (backOf (W := 0) (own_jw l Z a0 hw [] b2 b48 (0 : Int64) o_NO_ASSIGNMENT T125.heap n0 Z125 F126 S_NO_ASSIGNMENT F127 F128 F129 F130 F131 F132 F133 g_b2) hZ106 (hw _ (List.mem_of_getElem? (i := 99) rfl)) (hw _ (List.mem_of_getElem? (i := 3) rfl)) (by decide) (by decide)) q136a q136c (g := (mkF m 92 #[.val (.long p0), .second, .val (.int p1), .val (.long p2), .second, .val (.int p3), .val (.int p4), .val (.long (p1.toInt64 * (1000000 : Int64))), .second, .val (.long z1), .second, .val (.long (p0 + z1)), .second, .val (.ref b2), .val (.ref b25), .val (.ref b48), .unset, .unset, .unset] [(.long (0 : Int64)), (.ref b48), (.ref b2)])) rfl (by rw [hml]; rfl) (Steps.refl _) (argsL := [(.ref b48), (.long (0 : Int64))]) (rest := []) (lenOf own_pd185 rfl) rfl (by show 2 * 0 + _ ≤ _; exact Nat.le_of_eq rfl) (hb hby at_92) (fun _ _ => ⟨rfl, rfl, (by decide : 11 + 0 ≤ _), (by decide : 70 + 0 ≤ _)⟩)
  dsimp only [Pt.U, Pt.locs, Pt.cells, Pt.slots] at X136 l136 y136 z136 st136 hQ136
  subst l136 y136 z136
  obtain ⟨rfl, Nq136, Kq136, Fq136_0, Fq136_1, Fq136_2, Fq136_3, Fq136_4, Fq136_5, Fq136_6⟩ := hQ136
  have N136 := Fr.app N125 Nq136
  have F137 : Old Z n0 T136.heap := F126.keep Kq136 (allS g_b2 all0)
  have F138 : Exa Z T136.heap b2 "com/example/offst/offst/group/Member" := F127.keep Kq136
  have F139 : Exa Z T136.heap b25 "java/util/ArrayList" := F134.keep Kq136
  have F140 : Exa Z T136.heap b48 "com/example/offst/offst/protocol/JoinGroupRequest" := Fq125_0.keep Kq136
  have F141 : Fld Z T136.heap b48 "com/example/offst/offst/protocol/JoinGroupRequest" "sessionTimeoutMs" "I" (.int p1) := Fq125_1.keep Kq136 (ninS (Ne.symm ne49) nin0)
  have K136 : Keep h0 T136.heap [] := K125.trans Kq136 (allS (Or.inr sz_b2) all0)
  have Z136 : n0 ≤ T136.heap.size := Nat.le_trans Z125 Kq136.1
  have hk136 : _ ≤ T136.heap.size := Nat.le_trans hk125 Kq136.1
  refine own_go (fun t k => st136.trans k) ?_
  show OwnG p.tables e below _ (T136.setTop (mkF m 95 #[.val (.long p0), .second, .val (.int p1), .val (.long p2), .second, .val (.int p3), .val (.int p4), .val (.long (p1.toInt64 * (1000000 : Int64))), .second, .val (.long z1), .second, .val (.long (p0 + z1)), .second, .val (.ref b2), .val (.ref b25), .val (.ref b48), .unset, .unset, .unset] []))
  refine own_go (fun t k => XS.aload X136.here hx rfl (hb hby at_95) rfl rfl k) ?_
  show OwnG p.tables e below _ (T136.setTop (mkF m 97 #[.val (.long p0), .second, .val (.int p1), .val (.long p2), .second, .val (.int p3), .val (.int p4), .val (.long (p1.toInt64 * (1000000 : Int64))), .second, .val (.long z1), .second, .val (.long (p0 + z1)), .second, .val (.ref b2), .val (.ref b25), .val (.ref b48), .unset, .unset, .unset] [(.ref b2)]))
  refine own_go (fun t k => XS.lloadN X136.here hx rfl (hb hby at_97) rfl  k) ?_
  show OwnG p.tables e below _ (T136.setTop (mkF m 98 #[.val (.long p0), .second, .val (.int p1), .val (.long p2), .second, .val (.int p3), .val (.int p4), .val (.long (p1.toInt64 * (1000000 : Int64))), .second, .val (.long z1), .second, .val (.long (p0 + z1)), .second, .val (.ref b2), .val (.ref b25), .val (.ref b48), .unset, .unset, .unset] [(.long p0), (.ref b2)]))
  obtain ⟨cq142, kq142, q142a, q142b, q142c⟩ := isOf hZ106 rfl Fq136_0
  obtain ⟨_, _, ⟨T142, L142, k142, n142⟩, -, X142, ⟨Lc142, hQ142, l142, y142, z142⟩, st142⟩ := X136.virtualBack hx (y := (⟨"com/example/offst/offst/group/Member", "renewSession", "(J)V"⟩ : MethodName)) (z := (⟨"com/example/offst/offst/group/Member", "renewSession", "(J)V"⟩ : MethodName)) hO106 (mvT hZ106 (hw _ (List.mem_of_getElem? (i := 104) rfl))) (mvT hZ106 (hw _ (List.mem_of_getElem? (i := 105) rfl))) (notFace_of_selects (args := #[]) (mvT hZ106 (hw _ (List.mem_of_getElem? (i := 107) rfl)))) (mvT hZ106 (hw _ (List.mem_of_getElem? (i := 107) rfl))) (mvT hZ106 (hw _ (List.mem_of_getElem? (i := 106) rfl))) (by decide) (backOf (W := 0) (own_rs l Z a0 hw [] b2 p0 b48 p1 (0 : Int64) o_MILLISECONDS o_NO_ASSIGNMENT T136.heap n0 Z136 F137 S_MILLISECONDS E_o_MILLISECONDS F_o_MILLISECONDS_scale F_o_MILLISECONDS_maxNanos Fq136_0 Fq136_1 Fq136_2 Fq136_3 Fq136_4 Fq136_5 Fq136_6 F140 F141 g_b2) hZ106 (hw _ (List.mem_of_getElem? (i := 108) rfl)) (hw _ (List.mem_of_getElem? (i := 3) rfl)) (by decide) (by decide)) q142a q142c (g := (mkF m 98 #[.val (.long p0), .second, .val (.int p1), .val (.long p2), .second, .val (.int p3), .val (.int p4), .val (.long (p1.toInt64 * (1000000 : Int64))), .second, .val (.long z1), .second, .val (.long (p0 + z1)), .second, .val (.ref b2), .val (.ref b25), .val (.ref b48), .unset, .unset, .unset] [(.long p0), (.ref b2)])) rfl (by rw [hml]; rfl) (Steps.refl _) (argsL := [(.long p0)]) (rest := []) (lenOf own_pd186 rfl) rfl (by show 2 * 0 + _ ≤ _; exact Nat.le_of_eq rfl) (hb hby at_98) (fun _ _ => ⟨rfl, rfl, (by decide : 11 + 0 ≤ _), (by decide : 70 + 0 ≤ _)⟩)
  dsimp only [Pt.U, Pt.locs, Pt.cells, Pt.slots] at X142 l142 y142 z142 st142 hQ142
  subst l142 y142 z142
  obtain ⟨rfl, Nq142, Kq142, Fq142_0, Fq142_1, Fq142_2, Fq142_3, Fq142_4, Fq142_5, Fq142_6⟩ := hQ142
  have N142 := Fr.app N136 Nq142
  have F143 : Old Z n0 T142.heap := F137.keep Kq142 (allS g_b2 all0)
  have F144 : Exa Z T142.heap b2 "com/example/offst/offst/group/Member" := Fq136_0.keep Kq142
  have F145 : Exa Z T142.heap b25 "java/util/ArrayList" := F139.keep Kq142
  have F146 : Exa Z T142.heap b48 "com/example/offst/offst/protocol/JoinGroupRequest" := F140.keep Kq142
  have F147 : Fld Z T142.heap b48 "com/example/offst/offst/protocol/JoinGroupRequest" "sessionTimeoutMs" "I" (.int p1) := F141.keep Kq142 (ninS (Ne.symm ne49) nin0)
  have K142 : Keep h0 T142.heap [] := K136.trans Kq142 (allS (Or.inr sz_b2) all0)
  have Z142 : n0 ≤ T142.heap.size := Nat.le_trans Z136 Kq142.1
  have hk142 : _ ≤ T142.heap.size := Nat.le_trans hk136 Kq142.1
  refine own_go (fun t k => st142.trans k) ?_
  show OwnG p.tables e below _ (T142.setTop (mkF m 101 #[.val (.long p0), .second, .val (.int p1), .val (.long p2), .second, .val (.int p3), .val (.int p4), .val (.long (p1.toInt64 * (1000000 : Int64))), .second, .val (.long z1), .second, .val (.long (p0 + z1)), .second, .val (.ref b2), .val (.ref b25), .val (.ref b48), .unset, .unset, .unset] []))
  refine own_go (fun t k => XS.aload X142.here hx rfl (hb hby at_101) rfl rfl k) ?_
  show OwnG p.tables e below _ (T142.setTop (mkF m 103 #[.val (.long p0), .second, .val (.int p1), .val (.long p2), .second, .val (.int p3), .val (.int p4), .val (.long (p1.toInt64 * (1000000 : Int64))), .second, .val (.long z1), .second, .val (.long (p0 + z1)), .second, .val (.ref b2), .val (.ref b25), .val (.ref b48), .unset, .unset, .unset] [(.ref b2)]))
  refine own_go (fun t k => XS.lload X142.here hx rfl (hb hby at_103) rfl  k) ?_
  show OwnG p.tables e below _ (T142.setTop (mkF m 105 #[.val (.long p0), .second, .val (.int p1), .val (.long p2), .second, .val (.int p3), .val (.int p4), .val (.long (p1.toInt64 * (1000000 : Int64))), .second, .val (.long z1), .second, .val (.long (p0 + z1)), .second, .val (.ref b2), .val (.ref b25), .val (.ref b48), .unset, .unset, .unset] [(.long (p0 + z1)), (.ref b2)]))
  obtain ⟨cq148, kq148, q148a, q148b, q148c⟩ := isOf hZ106 rfl Fq142_0
  obtain ⟨_, _, ⟨T148, L148, k148, n148⟩, -, X148, ⟨Lc148, hQ148, l148, y148, z148⟩, st148⟩ := X142.virtualBack hx (y := (⟨"com/example/offst/offst/group/Member", "hasTimedOut", "(J)Z"⟩ : MethodName)) (z := (⟨"com/example/offst/offst/group/Member", "hasTimedOut", "(J)Z"⟩ : MethodName)) hO106 (mvT hZ106 (hw _ (List.mem_of_getElem? (i := 127) rfl))) (mvT hZ106 (hw _ (List.mem_of_getElem? (i := 128) rfl))) (notFace_of_selects (args := #[]) (mvT hZ106 (hw _ (List.mem_of_getElem? (i := 130) rfl)))) (mvT hZ106 (hw _ (List.mem_of_getElem? (i := 130) rfl))) (mvT hZ106 (hw _ (List.mem_of_getElem? (i := 129) rfl))) (by decide) (backOf (W := 0) (own_ht l Z a0 hw [] b2 (p0 + z1) (p0 + (p1.toInt64 * (1000000 : Int64))) T142.heap n0 Z142 Fq142_4 Fq142_5 Fq142_6) hZ106 (hw _ (List.mem_of_getElem? (i := 131) rfl)) (hw _ (List.mem_of_getElem? (i := 3) rfl)) (by decide) (by decide)) q148a q148c (g := (mkF m 105 #[.val (.long p0), .second, .val (.int p1), .val (.long p2), .second, .val (.int p3), .val (.int p4), .val (.long (p1.toInt64 * (1000000 : Int64))), .second, .val (.long z1), .second, .val (.long (p0 + z1)), .second, .val (.ref b2), .val (.ref b25), .val (.ref b48), .unset, .unset, .unset] [(.long (p0 + z1)), (.ref b2)])) rfl (by rw [hml]; rfl) (Steps.refl _) (argsL := [(.long (p0 + z1))]) (rest := []) (lenOf own_pd187 rfl) rfl (by show 2 * 0 + _ ≤ _; exact Nat.le_of_eq rfl) (hb hby at_105) (fun _ _ => ⟨rfl, rfl, (by decide : 11 + 0 ≤ _), (by decide : 70 + 0 ≤ _)⟩)
  dsimp only [Pt.U, Pt.locs, Pt.cells, Pt.slots] at X148 l148 y148 z148 st148 hQ148
  subst l148 y148 z148
  obtain ⟨rfl, Nq148, eq148⟩ := hQ148
  have N148 := Fr.app N142 Nq148
  have e148 : T148.heap = T142.heap := eq148
  refine own_go (fun t k => st148.trans k) ?_
  show OwnG p.tables e below _ (T148.setTop (mkF m 108 #[.val (.long p0), .second, .val (.int p1), .val (.long p2), .second, .val (.int p3), .val (.int p4), .val (.long (p1.toInt64 * (1000000 : Int64))), .second, .val (.long z1), .second, .val (.long (p0 + z1)), .second, .val (.ref b2), .val (.ref b25), .val (.ref b48), .unset, .unset, .unset] [(.int (own_to (p0 + z1) (p0 + (p1.toInt64 * (1000000 : Int64)))))]))
  refine own_go (fun t k => XS.istore X148.here hx rfl (hb hby at_108) rfl (l' := #[.val (.long p0), .second, .val (.int p1), .val (.long p2), .second, .val (.int p3), .val (.int p4), .val (.long (p1.toInt64 * (1000000 : Int64))), .second, .val (.long z1), .second, .val (.long (p0 + z1)), .second, .val (.ref b2), .val (.ref b25), .val (.ref b48), .val (.int (own_to (p0 + z1) (p0 + (p1.toInt64 * (1000000 : Int64))))), .unset, .unset]) rfl k) ?_
  show OwnG p.tables e below _ (T148.setTop (mkF m 110 #[.val (.long p0), .second, .val (.int p1), .val (.long p2), .second, .val (.int p3), .val (.int p4), .val (.long (p1.toInt64 * (1000000 : Int64))), .second, .val (.long z1), .second, .val (.long (p0 + z1)), .second, .val (.ref b2), .val (.ref b25), .val (.ref b48), .val (.int (own_to (p0 + z1) (p0 + (p1.toInt64 * (1000000 : Int64))))), .unset, .unset] []))
  refine own_go (fun t k => XS.aload X148.here hx rfl (hb hby at_110) rfl rfl k) ?_
  show OwnG p.tables e below _ (T148.setTop (mkF m 112 #[.val (.long p0), .second, .val (.int p1), .val (.long p2), .second, .val (.int p3), .val (.int p4), .val (.long (p1.toInt64 * (1000000 : Int64))), .second, .val (.long z1), .second, .val (.long (p0 + z1)), .second, .val (.ref b2), .val (.ref b25), .val (.ref b48), .val (.int (own_to (p0 + z1) (p0 + (p1.toInt64 * (1000000 : Int64))))), .unset, .unset] [(.ref b2)]))
  refine own_go (fun t k => XS.lload X148.here hx rfl (hb hby at_112) rfl  k) ?_
  show OwnG p.tables e below _ (T148.setTop (mkF m 114 #[.val (.long p0), .second, .val (.int p1), .val (.long p2), .second, .val (.int p3), .val (.int p4), .val (.long (p1.toInt64 * (1000000 : Int64))), .second, .val (.long z1), .second, .val (.long (p0 + z1)), .second, .val (.ref b2), .val (.ref b25), .val (.ref b48), .val (.int (own_to (p0 + z1) (p0 + (p1.toInt64 * (1000000 : Int64))))), .unset, .unset] [(.long (p0 + z1)), (.ref b2)]))
  obtain ⟨cq149, kq149, q149a, q149b, q149c⟩ := isOf hZ106 e148 Fq142_0
  obtain ⟨_, _, ⟨T149, L149, k149, n149⟩, -, X149, ⟨Lc149, hQ149, l149, y149, z149⟩, st149⟩ := X148.virtualBack hx (y := (⟨"com/example/offst/offst/group/Member", "hasTimedOut", "(J)Z"⟩ : MethodName)) (z := (⟨"com/example/offst/offst/group/Member", "hasTimedOut", "(J)Z"⟩ : MethodName)) hO106 (mvT hZ106 (hw _ (List.mem_of_getElem? (i := 127) rfl))) (mvT hZ106 (hw _ (List.mem_of_getElem? (i := 128) rfl))) (notFace_of_selects (args := #[]) (mvT hZ106 (hw _ (List.mem_of_getElem? (i := 130) rfl)))) (mvT hZ106 (hw _ (List.mem_of_getElem? (i := 130) rfl))) (mvT hZ106 (hw _ (List.mem_of_getElem? (i := 129) rfl))) (by decide) (backOf (W := 0) (own_ht l Z a0 hw [] b2 (p0 + z1) (p0 + (p1.toInt64 * (1000000 : Int64))) T142.heap n0 Z142 Fq142_4 Fq142_5 Fq142_6) hZ106 (hw _ (List.mem_of_getElem? (i := 131) rfl)) (hw _ (List.mem_of_getElem? (i := 3) rfl)) (by decide) (by decide)) q149a q149c (g := (mkF m 114 #[.val (.long p0), .second, .val (.int p1), .val (.long p2), .second, .val (.int p3), .val (.int p4), .val (.long (p1.toInt64 * (1000000 : Int64))), .second, .val (.long z1), .second, .val (.long (p0 + z1)), .second, .val (.ref b2), .val (.ref b25), .val (.ref b48), .val (.int (own_to (p0 + z1) (p0 + (p1.toInt64 * (1000000 : Int64))))), .unset, .unset] [(.long (p0 + z1)), (.ref b2)])) rfl (by rw [hml]; rfl) (Steps.refl _) (argsL := [(.long (p0 + z1))]) (rest := []) (lenOf own_pd187 rfl) rfl (by show 2 * 0 + _ ≤ _; exact Nat.le_of_eq rfl) (hb hby at_114) (fun _ _ => ⟨rfl, e148, (by decide : 11 + 0 ≤ _), (by decide : 70 + 0 ≤ _)⟩)
  dsimp only [Pt.U, Pt.locs, Pt.cells, Pt.slots] at X149 l149 y149 z149 st149 hQ149
  subst l149 y149 z149
  obtain ⟨rfl, Nq149, eq149⟩ := hQ149
  have N149 := Fr.app N148 Nq149
  have e149 : T149.heap = T142.heap := eq149
  refine own_go (fun t k => st149.trans k) ?_
  show OwnG p.tables e below _ (T149.setTop (mkF m 117 #[.val (.long p0), .second, .val (.int p1), .val (.long p2), .second, .val (.int p3), .val (.int p4), .val (.long (p1.toInt64 * (1000000 : Int64))), .second, .val (.long z1), .second, .val (.long (p0 + z1)), .second, .val (.ref b2), .val (.ref b25), .val (.ref b48), .val (.int (own_to (p0 + z1) (p0 + (p1.toInt64 * (1000000 : Int64))))), .unset, .unset] [(.int (own_to (p0 + z1) (p0 + (p1.toInt64 * (1000000 : Int64)))))]))
  refine own_go (fun t k => XS.istore X149.here hx rfl (hb hby at_117) rfl (l' := #[.val (.long p0), .second, .val (.int p1), .val (.long p2), .second, .val (.int p3), .val (.int p4), .val (.long (p1.toInt64 * (1000000 : Int64))), .second, .val (.long z1), .second, .val (.long (p0 + z1)), .second, .val (.ref b2), .val (.ref b25), .val (.ref b48), .val (.int (own_to (p0 + z1) (p0 + (p1.toInt64 * (1000000 : Int64))))), .val (.int (own_to (p0 + z1) (p0 + (p1.toInt64 * (1000000 : Int64))))), .unset]) rfl k) ?_
  show OwnG p.tables e below _ (T149.setTop (mkF m 119 #[.val (.long p0), .second, .val (.int p1), .val (.long p2), .second, .val (.int p3), .val (.int p4), .val (.long (p1.toInt64 * (1000000 : Int64))), .second, .val (.long z1), .second, .val (.long (p0 + z1)), .second, .val (.ref b2), .val (.ref b25), .val (.ref b48), .val (.int (own_to (p0 + z1) (p0 + (p1.toInt64 * (1000000 : Int64))))), .val (.int (own_to (p0 + z1) (p0 + (p1.toInt64 * (1000000 : Int64))))), .unset] []))
  refine own_go (fun t k => XS.aload X149.here hx rfl (hb hby at_119) rfl rfl k) ?_
  show OwnG p.tables e below _ (T149.setTop (mkF m 121 #[.val (.long p0), .second, .val (.int p1), .val (.long p2), .second, .val (.int p3), .val (.int p4), .val (.long (p1.toInt64 * (1000000 : Int64))), .second, .val (.long z1), .second, .val (.long (p0 + z1)), .second, .val (.ref b2), .val (.ref b25), .val (.ref b48), .val (.int (own_to (p0 + z1) (p0 + (p1.toInt64 * (1000000 : Int64))))), .val (.int (own_to (p0 + z1) (p0 + (p1.toInt64 * (1000000 : Int64))))), .unset] [(.ref b2)]))
  refine own_go (fun t k => XS.lload X149.here hx rfl (hb hby at_121) rfl  k) ?_
  show OwnG p.tables e below _ (T149.setTop (mkF m 123 #[.val (.long p0), .second, .val (.int p1), .val (.long p2), .second, .val (.int p3), .val (.int p4), .val (.long (p1.toInt64 * (1000000 : Int64))), .second, .val (.long z1), .second, .val (.long (p0 + z1)), .second, .val (.ref b2), .val (.ref b25), .val (.ref b48), .val (.int (own_to (p0 + z1) (p0 + (p1.toInt64 * (1000000 : Int64))))), .val (.int (own_to (p0 + z1) (p0 + (p1.toInt64 * (1000000 : Int64))))), .unset] [(.long (p0 + z1)), (.ref b2)]))
  obtain ⟨cq150, kq150, q150a, q150b, q150c⟩ := isOf hZ106 e149 Fq142_0
  obtain ⟨_, _, ⟨T150, L150, k150, n150⟩, -, X150, ⟨Lc150, hQ150, l150, y150, z150⟩, st150⟩ := X149.virtualBack hx (y := (⟨"com/example/offst/offst/group/Member", "renewSession", "(J)V"⟩ : MethodName)) (z := (⟨"com/example/offst/offst/group/Member", "renewSession", "(J)V"⟩ : MethodName)) hO106 (mvT hZ106 (hw _ (List.mem_of_getElem? (i := 104) rfl))) (mvT hZ106 (hw _ (List.mem_of_getElem? (i := 105) rfl))) (notFace_of_selects (args := #[]) (mvT hZ106 (hw _ (List.mem_of_getElem? (i := 107) rfl)))) (mvT hZ106 (hw _ (List.mem_of_getElem? (i := 107) rfl))) (mvT hZ106 (hw _ (List.mem_of_getElem? (i := 106) rfl))) (by decide) (backOf (W := 0) (own_rs l Z a0 hw [] b2 (p0 + z1) b48 p1 (p0 + (p1.toInt64 * (1000000 : Int64))) o_MILLISECONDS o_NO_ASSIGNMENT T142.heap n0 Z142 F143 S_MILLISECONDS E_o_MILLISECONDS F_o_MILLISECONDS_scale F_o_MILLISECONDS_maxNanos Fq142_0 Fq142_1 Fq142_2 Fq142_3 Fq142_4 Fq142_5 Fq142_6 F146 F147 g_b2) hZ106 (hw _ (List.mem_of_getElem? (i := 108) rfl)) (hw _ (List.mem_of_getElem? (i := 3) rfl)) (by decide) (by decide)) q150a q150c (g := (mkF m 123 #[.val (.long p0), .second, .val (.int p1), .val (.long p2), .second, .val (.int p3), .val (.int p4), .val (.long (p1.toInt64 * (1000000 : Int64))), .second, .val (.long z1), .second, .val (.long (p0 + z1)), .second, .val (.ref b2), .val (.ref b25), .val (.ref b48), .val (.int (own_to (p0 + z1) (p0 + (p1.toInt64 * (1000000 : Int64))))), .val (.int (own_to (p0 + z1) (p0 + (p1.toInt64 * (1000000 : Int64))))), .unset] [(.long (p0 + z1)), (.ref b2)])) rfl (by rw [hml]; rfl) (Steps.refl _) (argsL := [(.long (p0 + z1))]) (rest := []) (lenOf own_pd186 rfl) rfl (by show 2 * 0 + _ ≤ _; exact Nat.le_of_eq rfl) (hb hby at_123) (fun _ _ => ⟨rfl, e149, (by decide : 11 + 0 ≤ _), (by decide : 70 + 0 ≤ _)⟩)
  dsimp only [Pt.U, Pt.locs, Pt.cells, Pt.slots] at X150 l150 y150 z150 st150 hQ150
  subst l150 y150 z150
  obtain ⟨rfl, Nq150, Kq150, Fq150_0, Fq150_1, Fq150_2, Fq150_3, Fq150_4, Fq150_5, Fq150_6⟩ := hQ150
  have N150 := Fr.app N149 Nq150
  have F151 : Old Z n0 T150.heap := F143.keep Kq150 (allS g_b2 all0)
  have F152 : Exa Z T150.heap b2 "com/example/offst/offst/group/Member" := Fq142_0.keep Kq150
  have F153 : Exa Z T150.heap b25 "java/util/ArrayList" := F145.keep Kq150
  have F154 : Exa Z T150.heap b48 "com/example/offst/offst/protocol/JoinGroupRequest" := F146.keep Kq150
  have F155 : Fld Z T150.heap b48 "com/example/offst/offst/protocol/JoinGroupRequest" "sessionTimeoutMs" "I" (.int p1) := F147.keep Kq150 (ninS (Ne.symm ne49) nin0)
  have K150 : Keep h0 T150.heap [] := K142.trans Kq150 (allS (Or.inr sz_b2) all0)
  have Z150 : n0 ≤ T150.heap.size := Nat.le_trans Z142 Kq150.1
  have hk150 : _ ≤ T150.heap.size := Nat.le_trans hk142 Kq150.1
  refine own_go (fun t k => st150.trans k) ?_
  show OwnG p.tables e below _ (T150.setTop (mkF m 126 #[.val (.long p0), .second, .val (.int p1), .val (.long p2), .second, .val (.int p3), .val (.int p4), .val (.long (p1.toInt64 * (1000000 : Int64))), .second, .val (.long z1), .second, .val (.long (p0 + z1)), .second, .val (.ref b2), .val (.ref b25), .val (.ref b48), .val (.int (own_to (p0 + z1) (p0 + (p1.toInt64 * (1000000 : Int64))))), .val (.int (own_to (p0 + z1) (p0 + (p1.toInt64 * (1000000 : Int64))))), .unset] []))
  refine own_go (fun t k => XS.aload X150.here hx rfl (hb hby at_126) rfl rfl k) ?_
  show OwnG p.tables e below _ (T150.setTop (mkF m 128 #[.val (.long p0), .second, .val (.int p1), .val (.long p2), .second, .val (.int p3), .val (.int p4), .val (.long (p1.toInt64 * (1000000 : Int64))), .second, .val (.long z1), .second, .val (.long (p0 + z1)), .second, .val (.ref b2), .val (.ref b25), .val (.ref b48), .val (.int (own_to (p0 + z1) (p0 + (p1.toInt64 * (1000000 : Int64))))), .val (.int (own_to (p0 + z1) (p0 + (p1.toInt64 * (1000000 : Int64))))), .unset] [(.ref b2)]))
  refine own_go (fun t k => XS.lload X150.here hx rfl (hb hby at_128) rfl  k) ?_
  show OwnG p.tables e below _ (T150.setTop (mkF m 130 #[.val (.long p0), .second, .val (.int p1), .val (.long p2), .second, .val (.int p3), .val (.int p4), .val (.long (p1.toInt64 * (1000000 : Int64))), .second, .val (.long z1), .second, .val (.long (p0 + z1)), .second, .val (.ref b2), .val (.ref b25), .val (.ref b48), .val (.int (own_to (p0 + z1) (p0 + (p1.toInt64 * (1000000 : Int64))))), .val (.int (own_to (p0 + z1) (p0 + (p1.toInt64 * (1000000 : Int64))))), .unset] [(.long (p0 + z1)), (.ref b2)]))
  obtain ⟨cq156, kq156, q156a, q156b, q156c⟩ := isOf hZ106 rfl Fq150_0
  obtain ⟨_, _, ⟨T156, L156, k156, n156⟩, -, X156, ⟨Lc156, hQ156, l156, y156, z156⟩, st156⟩ := X150.virtualBack hx (y := (⟨"com/example/offst/offst/group/Member", "hasTimedOut", "(J)Z"⟩ : MethodName)) (z := (⟨"com/example/offst/offst/group/Member", "hasTimedOut", "(J)Z"⟩ : MethodName)) hO106 (mvT hZ106 (hw _ (List.mem_of_getElem? (i := 127) rfl))) (mvT hZ106 (hw _ (List.mem_of_getElem? (i := 128) rfl))) (notFace_of_selects (args := #[]) (mvT hZ106 (hw _ (List.mem_of_getElem? (i := 130) rfl)))) (mvT hZ106 (hw _ (List.mem_of_getElem? (i := 130) rfl))) (mvT hZ106 (hw _ (List.mem_of_getElem? (i := 129) rfl))) (by decide) (backOf (W := 0) (own_ht l Z a0 hw [] b2 (p0 + z1) ((p0 + z1) + (p1.toInt64 * (1000000 : Int64))) T150.heap n0 Z150 Fq150_4 Fq150_5 Fq150_6) hZ106 (hw _ (List.mem_of_getElem? (i := 131) rfl)) (hw _ (List.mem_of_getElem? (i := 3) rfl)) (by decide) (by decide)) q156a q156c (g := (mkF m 130 #[.val (.long p0), .second, .val (.int p1), .val (.long p2), .second, .val (.int p3), .val (.int p4), .val (.long (p1.toInt64 * (1000000 : Int64))), .second, .val (.long z1), .second, .val (.long (p0 + z1)), .second, .val (.ref b2), .val (.ref b25), .val (.ref b48), .val (.int (own_to (p0 + z1) (p0 + (p1.toInt64 * (1000000 : Int64))))), .val (.int (own_to (p0 + z1) (p0 + (p1.toInt64 * (1000000 : Int64))))), .unset] [(.long (p0 + z1)), (.ref b2)])) rfl (by rw [hml]; rfl) (Steps.refl _) (argsL := [(.long (p0 + z1))]) (rest := []) (lenOf own_pd187 rfl) rfl (by show 2 * 0 + _ ≤ _; exact Nat.le_of_eq rfl) (hb hby at_130) (fun _ _ => ⟨rfl, rfl, (by decide : 11 + 0 ≤ _), (by decide : 70 + 0 ≤ _)⟩)
  dsimp only [Pt.U, Pt.locs, Pt.cells, Pt.slots] at X156 l156 y156 z156 st156 hQ156
  subst l156 y156 z156
  obtain ⟨rfl, Nq156, eq156⟩ := hQ156
  have N156 := Fr.app N150 Nq156
  have e156 : T156.heap = T150.heap := eq156
  refine own_go (fun t k => st156.trans k) ?_
  show OwnG p.tables e below _ (T156.setTop (mkF m 133 #[.val (.long p0), .second, .val (.int p1), .val (.long p2), .second, .val (.int p3), .val (.int p4), .val (.long (p1.toInt64 * (1000000 : Int64))), .second, .val (.long z1), .second, .val (.long (p0 + z1)), .second, .val (.ref b2), .val (.ref b25), .val (.ref b48), .val (.int (own_to (p0 + z1) (p0 + (p1.toInt64 * (1000000 : Int64))))), .val (.int (own_to (p0 + z1) (p0 + (p1.toInt64 * (1000000 : Int64))))), .unset] [(.int (own_to (p0 + z1) ((p0 + z1) + (p1.toInt64 * (1000000 : Int64)))))]))
  refine own_go (fun t k => XS.istore X156.here hx rfl (hb hby at_133) rfl (l' := #[.val (.long p0), .second, .val (.int p1), .val (.long p2), .second, .val (.int p3), .val (.int p4), .val (.long (p1.toInt64 * (1000000 : Int64))), .second, .val (.long z1), .second, .val (.long (p0 + z1)), .second, .val (.ref b2), .val (.ref b25), .val (.ref b48), .val (.int (own_to (p0 + z1) (p0 + (p1.toInt64 * (1000000 : Int64))))), .val (.int (own_to (p0 + z1) (p0 + (p1.toInt64 * (1000000 : Int64))))), .val (.int (own_to (p0 + z1) ((p0 + z1) + (p1.toInt64 * (1000000 : Int64)))))]) rfl k) ?_
  show OwnG p.tables e below _ (T156.setTop (mkF m 135 #[.val (.long p0), .second, .val (.int p1), .val (.long p2), .second, .val (.int p3), .val (.int p4), .val (.long (p1.toInt64 * (1000000 : Int64))), .second, .val (.long z1), .second, .val (.long (p0 + z1)), .second, .val (.ref b2), .val (.ref b25), .val (.ref b48), .val (.int (own_to (p0 + z1) (p0 + (p1.toInt64 * (1000000 : Int64))))), .val (.int (own_to (p0 + z1) (p0 + (p1.toInt64 * (1000000 : Int64))))), .val (.int (own_to (p0 + z1) ((p0 + z1) + (p1.toInt64 * (1000000 : Int64)))))] []))
  refine own_go (fun t k => XS.iload X156.here hx rfl (hb hby at_135) rfl  k) ?_
  show OwnG p.tables e below _ (T156.setTop (mkF m 137 #[.val (.long p0), .second, .val (.int p1), .val (.long p2), .second, .val (.int p3), .val (.int p4), .val (.long (p1.toInt64 * (1000000 : Int64))), .second, .val (.long z1), .second, .val (.long (p0 + z1)), .second, .val (.ref b2), .val (.ref b25), .val (.ref b48), .val (.int (own_to (p0 + z1) (p0 + (p1.toInt64 * (1000000 : Int64))))), .val (.int (own_to (p0 + z1) (p0 + (p1.toInt64 * (1000000 : Int64))))), .val (.int (own_to (p0 + z1) ((p0 + z1) + (p1.toInt64 * (1000000 : Int64)))))] [(.int (own_to (p0 + z1) (p0 + (p1.toInt64 * (1000000 : Int64)))))]))
  refine own_go (fun t k => XS.lload X156.here hx rfl (hb hby at_137) rfl  k) ?_
  show OwnG p.tables e below _ (T156.setTop (mkF m 139 #[.val (.long p0), .second, .val (.int p1), .val (.long p2), .second, .val (.int p3), .val (.int p4), .val (.long (p1.toInt64 * (1000000 : Int64))), .second, .val (.long z1), .second, .val (.long (p0 + z1)), .second, .val (.ref b2), .val (.ref b25), .val (.ref b48), .val (.int (own_to (p0 + z1) (p0 + (p1.toInt64 * (1000000 : Int64))))), .val (.int (own_to (p0 + z1) (p0 + (p1.toInt64 * (1000000 : Int64))))), .val (.int (own_to (p0 + z1) ((p0 + z1) + (p1.toInt64 * (1000000 : Int64)))))] [(.long z1), (.int (own_to (p0 + z1) (p0 + (p1.toInt64 * (1000000 : Int64)))))]))
  refine own_go (fun t k => XS.lload X156.here hx rfl (hb hby at_139) rfl  k) ?_
  show OwnG p.tables e below _ (T156.setTop (mkF m 141 #[.val (.long p0), .second, .val (.int p1), .val (.long p2), .second, .val (.int p3), .val (.int p4), .val (.long (p1.toInt64 * (1000000 : Int64))), .second, .val (.long z1), .second, .val (.long (p0 + z1)), .second, .val (.ref b2), .val (.ref b25), .val (.ref b48), .val (.int (own_to (p0 + z1) (p0 + (p1.toInt64 * (1000000 : Int64))))), .val (.int (own_to (p0 + z1) (p0 + (p1.toInt64 * (1000000 : Int64))))), .val (.int (own_to (p0 + z1) ((p0 + z1) + (p1.toInt64 * (1000000 : Int64)))))] [(.long (p1.toInt64 * (1000000 : Int64))), (.long z1), (.int (own_to (p0 + z1) (p0 + (p1.toInt64 * (1000000 : Int64)))))]))
  refine own_go (fun t k => XS.lcmp X156.here hx rfl (hb hby at_141) rfl k) ?_
  show OwnG p.tables e below _ (T156.setTop (mkF m 142 #[.val (.long p0), .second, .val (.int p1), .val (.long p2), .second, .val (.int p3), .val (.int p4), .val (.long (p1.toInt64 * (1000000 : Int64))), .second, .val (.long z1), .second, .val (.long (p0 + z1)), .second, .val (.ref b2), .val (.ref b25), .val (.ref b48), .val (.int (own_to (p0 + z1) (p0 + (p1.toInt64 * (1000000 : Int64))))), .val (.int (own_to (p0 + z1) (p0 + (p1.toInt64 * (1000000 : Int64))))), .val (.int (own_to (p0 + z1) ((p0 + z1) + (p1.toInt64 * (1000000 : Int64)))))] [(.int (lcmpW z1 (p1.toInt64 * (1000000 : Int64)))), (.int (own_to (p0 + z1) (p0 + (p1.toInt64 * (1000000 : Int64)))))]))
  obtain ⟨z157, hp157, hn157⟩ := own_pick (z1 < (p1.toInt64 * (1000000 : Int64))) ((0 : Int32)) ((1 : Int32))
  refine own_go (nxt := T156.setTop (mkF m 150 #[.val (.long p0), .second, .val (.int p1), .val (.long p2), .second, .val (.int p3), .val (.int p4), .val (.long (p1.toInt64 * (1000000 : Int64))), .second, .val (.long z1), .second, .val (.long (p0 + z1)), .second, .val (.ref b2), .val (.ref b25), .val (.ref b48), .val (.int (own_to (p0 + z1) (p0 + (p1.toInt64 * (1000000 : Int64))))), .val (.int (own_to (p0 + z1) (p0 + (p1.toInt64 * (1000000 : Int64))))), .val (.int (own_to (p0 + z1) ((p0 + z1) + (p1.toInt64 * (1000000 : Int64)))))] [(.int z157), (.int (own_to (p0 + z1) (p0 + (p1.toInt64 * (1000000 : Int64)))))])) (fun t k => ?_) ?_
  · by_cases hq : z1 < (p1.toInt64 * (1000000 : Int64))
    · rw [hp157 hq] at k
      refine XS.ifYes X156.here hx rfl (pc0 := 142) (pc' := 149) rfl (hb hby at_142) rfl ((if0 _ _).trans (tlt ((lw_lt _ _).mpr hq)).1) (by decide) (by decide) ?_
      show Steps p.tables e below (T156.setTop (mkF m 149 #[.val (.long p0), .second, .val (.int p1), .val (.long p2), .second, .val (.int p3), .val (.int p4), .val (.long (p1.toInt64 * (1000000 : Int64))), .second, .val (.long z1), .second, .val (.long (p0 + z1)), .second, .val (.ref b2), .val (.ref b25), .val (.ref b48), .val (.int (own_to (p0 + z1) (p0 + (p1.toInt64 * (1000000 : Int64))))), .val (.int (own_to (p0 + z1) (p0 + (p1.toInt64 * (1000000 : Int64))))), .val (.int (own_to (p0 + z1) ((p0 + z1) + (p1.toInt64 * (1000000 : Int64)))))] [(.int (own_to (p0 + z1) (p0 + (p1.toInt64 * (1000000 : Int64)))))])) _
      refine XS.iconst X156.here hx rfl (hb hby at_149) ?_
      show Steps p.tables e below (T156.setTop (mkF m 150 #[.val (.long p0), .second, .val (.int p1), .val (.long p2), .second, .val (.int p3), .val (.int p4), .val (.long (p1.toInt64 * (1000000 : Int64))), .second, .val (.long z1), .second, .val (.long (p0 + z1)), .second, .val (.ref b2), .val (.ref b25), .val (.ref b48), .val (.int (own_to (p0 + z1) (p0 + (p1.toInt64 * (1000000 : Int64))))), .val (.int (own_to (p0 + z1) (p0 + (p1.toInt64 * (1000000 : Int64))))), .val (.int (own_to (p0 + z1) ((p0 + z1) + (p1.toInt64 * (1000000 : Int64)))))] [(.int (0 : Int32)), (.int (own_to (p0 + z1) (p0 + (p1.toInt64 * (1000000 : Int64)))))])) _
      exact k
    · rw [hn157 hq] at k
      refine XS.ifNo X156.here hx rfl (hb hby at_142) rfl ((if0 _ _).trans (flt (mt (lw_lt _ _).mp hq)).1) ?_
      show Steps p.tables e below (T156.setTop (mkF m 145 #[.val (.long p0), .second, .val (.int p1), .val (.long p2), .second, .val (.int p3), .val (.int p4), .val (.long (p1.toInt64 * (1000000 : Int64))), .second, .val (.long z1), .second, .val (.long (p0 + z1)), .second, .val (.ref b2), .val (.ref b25), .val (.ref b48), .val (.int (own_to (p0 + z1) (p0 + (p1.toInt64 * (1000000 : Int64))))), .val (.int (own_to (p0 + z1) (p0 + (p1.toInt64 * (1000000 : Int64))))), .val (.int (own_to (p0 + z1) ((p0 + z1) + (p1.toInt64 * (1000000 : Int64)))))] [(.int (own_to (p0 + z1) (p0 + (p1.toInt64 * (1000000 : Int64)))))])) _
      refine XS.iconst X156.here hx rfl (hb hby at_145) ?_
      show Steps p.tables e below (T156.setTop (mkF m 146 #[.val (.long p0), .second, .val (.int p1), .val (.long p2), .second, .val (.int p3), .val (.int p4), .val (.long (p1.toInt64 * (1000000 : Int64))), .second, .val (.long z1), .second, .val (.long (p0 + z1)), .second, .val (.ref b2), .val (.ref b25), .val (.ref b48), .val (.int (own_to (p0 + z1) (p0 + (p1.toInt64 * (1000000 : Int64))))), .val (.int (own_to (p0 + z1) (p0 + (p1.toInt64 * (1000000 : Int64))))), .val (.int (own_to (p0 + z1) ((p0 + z1) + (p1.toInt64 * (1000000 : Int64)))))] [(.int (1 : Int32)), (.int (own_to (p0 + z1) (p0 + (p1.toInt64 * (1000000 : Int64)))))])) _
      refine XS.goto X156.here hx rfl (pc0 := 146) (pc' := 150) rfl (hb hby at_146) (by decide) (by decide) ?_
      show Steps p.tables e below (T156.setTop (mkF m 150 #[.val (.long p0), .second, .val (.int p1), .val (.long p2), .second, .val (.int p3), .val (.int p4), .val (.long (p1.toInt64 * (1000000 : Int64))), .second, .val (.long z1), .second, .val (.long (p0 + z1)), .second, .val (.ref b2), .val (.ref b25), .val (.ref b48), .val (.int (own_to (p0 + z1) (p0 + (p1.toInt64 * (1000000 : Int64))))), .val (.int (own_to (p0 + z1) (p0 + (p1.toInt64 * (1000000 : Int64))))), .val (.int (own_to (p0 + z1) ((p0 + z1) + (p1.toInt64 * (1000000 : Int64)))))] [(.int (1 : Int32)), (.int (own_to (p0 + z1) (p0 + (p1.toInt64 * (1000000 : Int64)))))])) _
      exact k
  show OwnG p.tables e below _ (T156.setTop (mkF m 150 #[.val (.long p0), .second, .val (.int p1), .val (.long p2), .second, .val (.int p3), .val (.int p4), .val (.long (p1.toInt64 * (1000000 : Int64))), .second, .val (.long z1), .second, .val (.long (p0 + z1)), .second, .val (.ref b2), .val (.ref b25), .val (.ref b48), .val (.int (own_to (p0 + z1) (p0 + (p1.toInt64 * (1000000 : Int64))))), .val (.int (own_to (p0 + z1) (p0 + (p1.toInt64 * (1000000 : Int64))))), .val (.int (own_to (p0 + z1) ((p0 + z1) + (p1.toInt64 * (1000000 : Int64)))))] [(.int z157), (.int (own_to (p0 + z1) (p0 + (p1.toInt64 * (1000000 : Int64)))))]))
  refine own_go (fun t k => XS.icmpNo X156.here hx rfl (hb hby at_150) rfl (teq (own_first (p := p0) hzb hp157 hn157)).2 k) ?_
  show OwnG p.tables e below _ (T156.setTop (mkF m 153 #[.val (.long p0), .second, .val (.int p1), .val (.long p2), .second, .val (.int p3), .val (.int p4), .val (.long (p1.toInt64 * (1000000 : Int64))), .second, .val (.long z1), .second, .val (.long (p0 + z1)), .second, .val (.ref b2), .val (.ref b25), .val (.ref b48), .val (.int (own_to (p0 + z1) (p0 + (p1.toInt64 * (1000000 : Int64))))), .val (.int (own_to (p0 + z1) (p0 + (p1.toInt64 * (1000000 : Int64))))), .val (.int (own_to (p0 + z1) ((p0 + z1) + (p1.toInt64 * (1000000 : Int64)))))] []))
  refine own_go (fun t k => XS.iload X156.here hx rfl (hb hby at_153) rfl  k) ?_
  show OwnG p.tables e below _ (T156.setTop (mkF m 155 #[.val (.long p0), .second, .val (.int p1), .val (.long p2), .second, .val (.int p3), .val (.int p4), .val (.long (p1.toInt64 * (1000000 : Int64))), .second, .val (.long z1), .second, .val (.long (p0 + z1)), .second, .val (.ref b2), .val (.ref b25), .val (.ref b48), .val (.int (own_to (p0 + z1) (p0 + (p1.toInt64 * (1000000 : Int64))))), .val (.int (own_to (p0 + z1) (p0 + (p1.toInt64 * (1000000 : Int64))))), .val (.int (own_to (p0 + z1) ((p0 + z1) + (p1.toInt64 * (1000000 : Int64)))))] [(.int (own_to (p0 + z1) (p0 + (p1.toInt64 * (1000000 : Int64)))))]))
  refine own_go (fun t k => XS.iload X156.here hx rfl (hb hby at_155) rfl  k) ?_
  show OwnG p.tables e below _ (T156.setTop (mkF m 157 #[.val (.long p0), .second, .val (.int p1), .val (.long p2), .second, .val (.int p3), .val (.int p4), .val (.long (p1.toInt64 * (1000000 : Int64))), .second, .val (.long z1), .second, .val (.long (p0 + z1)), .second, .val (.ref b2), .val (.ref b25), .val (.ref b48), .val (.int (own_to (p0 + z1) (p0 + (p1.toInt64 * (1000000 : Int64))))), .val (.int (own_to (p0 + z1) (p0 + (p1.toInt64 * (1000000 : Int64))))), .val (.int (own_to (p0 + z1) ((p0 + z1) + (p1.toInt64 * (1000000 : Int64)))))] [(.int (own_to (p0 + z1) (p0 + (p1.toInt64 * (1000000 : Int64))))), (.int (own_to (p0 + z1) (p0 + (p1.toInt64 * (1000000 : Int64)))))]))
  refine own_go (fun t k => XS.icmpNo X156.here hx rfl (hb hby at_157) rfl (teq (rfl : (own_to (p0 + z1) (p0 + (p1.toInt64 * (1000000 : Int64)))) = (own_to (p0 + z1) (p0 + (p1.toInt64 * (1000000 : Int64)))))).2 k) ?_
  show OwnG p.tables e below _ (T156.setTop (mkF m 160 #[.val (.long p0), .second, .val (.int p1), .val (.long p2), .second, .val (.int p3), .val (.int p4), .val (.long (p1.toInt64 * (1000000 : Int64))), .second, .val (.long z1), .second, .val (.long (p0 + z1)), .second, .val (.ref b2), .val (.ref b25), .val (.ref b48), .val (.int (own_to (p0 + z1) (p0 + (p1.toInt64 * (1000000 : Int64))))), .val (.int (own_to (p0 + z1) (p0 + (p1.toInt64 * (1000000 : Int64))))), .val (.int (own_to (p0 + z1) ((p0 + z1) + (p1.toInt64 * (1000000 : Int64)))))] []))
  refine own_go (fun t k => XS.iload X156.here hx rfl (hb hby at_160) rfl  k) ?_
  show OwnG p.tables e below _ (T156.setTop (mkF m 162 #[.val (.long p0), .second, .val (.int p1), .val (.long p2), .second, .val (.int p3), .val (.int p4), .val (.long (p1.toInt64 * (1000000 : Int64))), .second, .val (.long z1), .second, .val (.long (p0 + z1)), .second, .val (.ref b2), .val (.ref b25), .val (.ref b48), .val (.int (own_to (p0 + z1) (p0 + (p1.toInt64 * (1000000 : Int64))))), .val (.int (own_to (p0 + z1) (p0 + (p1.toInt64 * (1000000 : Int64))))), .val (.int (own_to (p0 + z1) ((p0 + z1) + (p1.toInt64 * (1000000 : Int64)))))] [(.int (own_to (p0 + z1) ((p0 + z1) + (p1.toInt64 * (1000000 : Int64)))))]))
  refine own_go (fun t k => XS.iloadN X156.here hx rfl (hb hby at_162) rfl  k) ?_
  show OwnG p.tables e below _ (T156.setTop (mkF m 163 #[.val (.long p0), .second, .val (.int p1), .val (.long p2), .second, .val (.int p3), .val (.int p4), .val (.long (p1.toInt64 * (1000000 : Int64))), .second, .val (.long z1), .second, .val (.long (p0 + z1)), .second, .val (.ref b2), .val (.ref b25), .val (.ref b48), .val (.int (own_to (p0 + z1) (p0 + (p1.toInt64 * (1000000 : Int64))))), .val (.int (own_to (p0 + z1) (p0 + (p1.toInt64 * (1000000 : Int64))))), .val (.int (own_to (p0 + z1) ((p0 + z1) + (p1.toInt64 * (1000000 : Int64)))))] [(.int p1), (.int (own_to (p0 + z1) ((p0 + z1) + (p1.toInt64 * (1000000 : Int64)))))]))
  obtain ⟨z158, hp158, hn158⟩ := own_pick ((0 : Int32) < p1) ((0 : Int32)) ((1 : Int32))
  refine own_go (nxt := T156.setTop (mkF m 171 #[.val (.long p0), .second, .val (.int p1), .val (.long p2), .second, .val (.int p3), .val (.int p4), .val (.long (p1.toInt64 * (1000000 : Int64))), .second, .val (.long z1), .second, .val (.long (p0 + z1)), .second, .val (.ref b2), .val (.ref b25), .val (.ref b48), .val (.int (own_to (p0 + z1) (p0 + (p1.toInt64 * (1000000 : Int64))))), .val (.int (own_to (p0 + z1) (p0 + (p1.toInt64 * (1000000 : Int64))))), .val (.int (own_to (p0 + z1) ((p0 + z1) + (p1.toInt64 * (1000000 : Int64)))))] [(.int z158), (.int (own_to (p0 + z1) ((p0 + z1) + (p1.toInt64 * (1000000 : Int64)))))])) (fun t k => ?_) ?_
  · by_cases hq : (0 : Int32) < p1
    · rw [hp158 hq] at k
      refine XS.ifYes X156.here hx rfl (pc0 := 163) (pc' := 170) rfl (hb hby at_163) rfl ((if0 _ _).trans (tlt hq).2.2.1) (by decide) (by decide) ?_
      show Steps p.tables e below (T156.setTop (mkF m 170 #[.val (.long p0), .second, .val (.int p1), .val (.long p2), .second, .val (.int p3), .val (.int p4), .val (.long (p1.toInt64 * (1000000 : Int64))), .second, .val (.long z1), .second, .val (.long (p0 + z1)), .second, .val (.ref b2), .val (.ref b25), .val (.ref b48), .val (.int (own_to (p0 + z1) (p0 + (p1.toInt64 * (1000000 : Int64))))), .val (.int (own_to (p0 + z1) (p0 + (p1.toInt64 * (1000000 : Int64))))), .val (.int (own_to (p0 + z1) ((p0 + z1) + (p1.toInt64 * (1000000 : Int64)))))] [(.int (own_to (p0 + z1) ((p0 + z1) + (p1.toInt64 * (1000000 : Int64)))))])) _
      refine XS.iconst X156.here hx rfl (hb hby at_170) ?_
      show Steps p.tables e below (T156.setTop (mkF m 171 #[.val (.long p0), .second, .val (.int p1), .val (.long p2), .second, .val (.int p3), .val (.int p4), .val (.long (p1.toInt64 * (1000000 : Int64))), .second, .val (.long z1), .second, .val (.long (p0 + z1)), .second, .val (.ref b2), .val (.ref b25), .val (.ref b48), .val (.int (own_to (p0 + z1) (p0 + (p1.toInt64 * (1000000 : Int64))))), .val (.int (own_to (p0 + z1) (p0 + (p1.toInt64 * (1000000 : Int64))))), .val (.int (own_to (p0 + z1) ((p0 + z1) + (p1.toInt64 * (1000000 : Int64)))))] [(.int (0 : Int32)), (.int (own_to (p0 + z1) ((p0 + z1) + (p1.toInt64 * (1000000 : Int64)))))])) _
      exact k
    · rw [hn158 hq] at k
      refine XS.ifNo X156.here hx rfl (hb hby at_163) rfl ((if0 _ _).trans (flt hq).2.2.1) ?_
      show Steps p.tables e below (T156.setTop (mkF m 166 #[.val (.long p0), .second, .val (.int p1), .val (.long p2), .second, .val (.int p3), .val (.int p4), .val (.long (p1.toInt64 * (1000000 : Int64))), .second, .val (.long z1), .second, .val (.long (p0 + z1)), .second, .val (.ref b2), .val (.ref b25), .val (.ref b48), .val (.int (own_to (p0 + z1) (p0 + (p1.toInt64 * (1000000 : Int64))))), .val (.int (own_to (p0 + z1) (p0 + (p1.toInt64 * (1000000 : Int64))))), .val (.int (own_to (p0 + z1) ((p0 + z1) + (p1.toInt64 * (1000000 : Int64)))))] [(.int (own_to (p0 + z1) ((p0 + z1) + (p1.toInt64 * (1000000 : Int64)))))])) _
      refine XS.iconst X156.here hx rfl (hb hby at_166) ?_
      show Steps p.tables e below (T156.setTop (mkF m 167 #[.val (.long p0), .second, .val (.int p1), .val (.long p2), .second, .val (.int p3), .val (.int p4), .val (.long (p1.toInt64 * (1000000 : Int64))), .second, .val (.long z1), .second, .val (.long (p0 + z1)), .second, .val (.ref b2), .val (.ref b25), .val (.ref b48), .val (.int (own_to (p0 + z1) (p0 + (p1.toInt64 * (1000000 : Int64))))), .val (.int (own_to (p0 + z1) (p0 + (p1.toInt64 * (1000000 : Int64))))), .val (.int (own_to (p0 + z1) ((p0 + z1) + (p1.toInt64 * (1000000 : Int64)))))] [(.int (1 : Int32)), (.int (own_to (p0 + z1) ((p0 + z1) + (p1.toInt64 * (1000000 : Int64)))))])) _
      refine XS.goto X156.here hx rfl (pc0 := 167) (pc' := 171) rfl (hb hby at_167) (by decide) (by decide) ?_
      show Steps p.tables e below (T156.setTop (mkF m 171 #[.val (.long p0), .second, .val (.int p1), .val (.long p2), .second, .val (.int p3), .val (.int p4), .val (.long (p1.toInt64 * (1000000 : Int64))), .second, .val (.long z1), .second, .val (.long (p0 + z1)), .second, .val (.ref b2), .val (.ref b25), .val (.ref b48), .val (.int (own_to (p0 + z1) (p0 + (p1.toInt64 * (1000000 : Int64))))), .val (.int (own_to (p0 + z1) (p0 + (p1.toInt64 * (1000000 : Int64))))), .val (.int (own_to (p0 + z1) ((p0 + z1) + (p1.toInt64 * (1000000 : Int64)))))] [(.int (1 : Int32)), (.int (own_to (p0 + z1) ((p0 + z1) + (p1.toInt64 * (1000000 : Int64)))))])) _
      exact k
  show OwnG p.tables e below _ (T156.setTop (mkF m 171 #[.val (.long p0), .second, .val (.int p1), .val (.long p2), .second, .val (.int p3), .val (.int p4), .val (.long (p1.toInt64 * (1000000 : Int64))), .second, .val (.long z1), .second, .val (.long (p0 + z1)), .second, .val (.ref b2), .val (.ref b25), .val (.ref b48), .val (.int (own_to (p0 + z1) (p0 + (p1.toInt64 * (1000000 : Int64))))), .val (.int (own_to (p0 + z1) (p0 + (p1.toInt64 * (1000000 : Int64))))), .val (.int (own_to (p0 + z1) ((p0 + z1) + (p1.toInt64 * (1000000 : Int64)))))] [(.int z158), (.int (own_to (p0 + z1) ((p0 + z1) + (p1.toInt64 * (1000000 : Int64)))))]))
  refine own_go (fun t k => XS.icmpNo X156.here hx rfl (hb hby at_171) rfl (teq (own_fresh (p := (p0 + z1)) hp158 hn158)).2 k) ?_
  show OwnG p.tables e below _ (T156.setTop (mkF m 174 #[.val (.long p0), .second, .val (.int p1), .val (.long p2), .second, .val (.int p3), .val (.int p4), .val (.long (p1.toInt64 * (1000000 : Int64))), .second, .val (.long z1), .second, .val (.long (p0 + z1)), .second, .val (.ref b2), .val (.ref b25), .val (.ref b48), .val (.int (own_to (p0 + z1) (p0 + (p1.toInt64 * (1000000 : Int64))))), .val (.int (own_to (p0 + z1) (p0 + (p1.toInt64 * (1000000 : Int64))))), .val (.int (own_to (p0 + z1) ((p0 + z1) + (p1.toInt64 * (1000000 : Int64)))))] []))
  refine own_go (fun t k => XS.iconst X156.here hx rfl (hb hby at_174) k) ?_
  show OwnG p.tables e below _ (T156.setTop (mkF m 175 #[.val (.long p0), .second, .val (.int p1), .val (.long p2), .second, .val (.int p3), .val (.int p4), .val (.long (p1.toInt64 * (1000000 : Int64))), .second, .val (.long z1), .second, .val (.long (p0 + z1)), .second, .val (.ref b2), .val (.ref b25), .val (.ref b48), .val (.int (own_to (p0 + z1) (p0 + (p1.toInt64 * (1000000 : Int64))))), .val (.int (own_to (p0 + z1) (p0 + (p1.toInt64 * (1000000 : Int64))))), .val (.int (own_to (p0 + z1) ((p0 + z1) + (p1.toInt64 * (1000000 : Int64)))))] [(.int (1 : Int32))]))
  refine own_go (fun t k => XS.goto X156.here hx rfl (pc0 := 175) (pc' := 179) rfl (hb hby at_175) (by decide) (by decide) k) ?_
  show OwnG p.tables e below _ (T156.setTop (mkF m 179 #[.val (.long p0), .second, .val (.int p1), .val (.long p2), .second, .val (.int p3), .val (.int p4), .val (.long (p1.toInt64 * (1000000 : Int64))), .second, .val (.long z1), .second, .val (.long (p0 + z1)), .second, .val (.ref b2), .val (.ref b25), .val (.ref b48), .val (.int (own_to (p0 + z1) (p0 + (p1.toInt64 * (1000000 : Int64))))), .val (.int (own_to (p0 + z1) (p0 + (p1.toInt64 * (1000000 : Int64))))), .val (.int (own_to (p0 + z1) ((p0 + z1) + (p1.toInt64 * (1000000 : Int64)))))] [(.int (1 : Int32))]))
  obtain ⟨fs, hr, hrun, hended, ⟨-, hW2, hW3, hsame⟩⟩ := Jvm.Stand.leaveW (s := s) (vm₁ := T106.vm) X156 S106 (show _ ≤ T156.heap.size from by rw [e156]; exact hk150) (v := some (.int (1 : Int32))) (fun h => by rw [Bd.returns] at h; cases h)
  refine ⟨_, _, retN X156 hx (t := .boolean) Bd.returns (by simp) (hb hby at_179) hr, hrun, hended, _, _, rfl, ?_, ⟨_, rfl⟩, hW2, hW3, hsame.mono (by decide) (by decide)⟩
  show Q_own_law Z p0 p1 p2 p3 p4 o_NO_ASSIGNMENT i_COMPACT_STRINGS o_DEFAULTCAPACITY_EMPTY_ELEMENTDATA o_MILLISECONDS h0 n0 _ T156.heap _
  rw [e156]
  exact ⟨rfl, N156⟩
set_option maxRecDepth 65536 in
set_option maxHeartbeats 40000000 in
theorem comes_1 {Post : Tables → Env → Array Value → State → Outcome → State → Prop} (hpost : ∀ tb e args s v u, (limb_1_1.after args s (.returned v) u = true ∧ limb_1_2.after args s (.returned v) u = true ∧ True) → ReturnedEndW s (.returned v) u (Jvm.fieldLocs frame_1_writes args s ++ Jvm.arrayLocs frame_1_arrays args s ++ Jvm.staticLocs frame_1_statics s) 24 3200 → Post tb e args s (.returned v) u) :
    ArmFor flags0 classFile x code maxLocals ret World_1 tables_1 room_1 Calls_1 rest_1 Pre_1 Post := by
  intro l hfl _ _ p e ha hc hk s m args below hf hA hF happ hP
  obtain ⟨hcalls, hrest, hpre⟩ := hP
  obtain ⟨-, -, -, hnamed, -, -, -, hat⟩ := (Spec.applies_iff hf).mp happ
  obtain ⟨hg, hn⟩ := and_e (Cond.before_iff.mp (show (Jvm.Cond.and given_1 narrow_1).before args s = true from hpre))
  obtain ⟨hcount, hg⟩ := and_e hg
  obtain ⟨ga0, hg⟩ := and_e hg
  obtain ⟨ga1, hg⟩ := and_e hg
  obtain ⟨ga2, hg⟩ := and_e hg
  obtain ⟨ga3, hg⟩ := and_e hg
  have ga4 := hg
  obtain ⟨w0, w1, w2, w3, w4, rfl⟩ : ∃ w0 w1 w2 w3 w4 : Value, args = #[w0, w1, w2, w3, w4] := by
    have hs : args.size = 5 := by simpa [Cond.value, given_1] using hcount
    obtain ⟨L⟩ := args
    match L, hs with
    | [w0, w1, w2, w3, w4], _ => exact ⟨w0, w1, w2, w3, w4, rfl⟩
  have hw := fun d (hd : d ∈ tables_1) => atoms_spec (ws := Jvm.Cond.code x code maxLocals ret :: tables_1) hat d (List.mem_cons_of_mem _ hd)
  have hfit : Fit s := fun {y c} hc i hi => by
    obtain ⟨ha, rfl⟩ := Array.getElem?_eq_some_iff.mp hc
    have q := List.all_eq_true.mp ((Array.all_eq_true_iff_forall_mem.mp hF) _ (Array.getElem_mem ha)) i (List.mem_range.mpr hi)
    simpa [Array.getElem?_eq_getElem hi] using q
  obtain ⟨hsets, hown0⟩ := atoms_of _ (rest_1_c_eq ▸ (show rest_1_c.before _ s = true from hrest))
  have hr0 := Cond.before_iff.mp hown0
  obtain ⟨i0, ei0⟩ := isL_v ga0
  obtain rfl : w0 = (.long i0) := Option.some.inj ei0
  obtain ⟨i1, ei1⟩ := is_v ga1
  obtain rfl : w1 = (.int i1) := Option.some.inj ei1
  obtain ⟨i2, ei2⟩ := isL_v ga2
  obtain rfl : w2 = (.long i2) := Option.some.inj ei2
  obtain ⟨i3, ei3⟩ := is_v ga3
  obtain rfl : w3 = (.int i3) := Option.some.inj ei3
  obtain ⟨i4, ei4⟩ := is_v ga4
  obtain rfl : w4 = (.int i4) := Option.some.inj ei4
  obtain ⟨hn1, hn⟩ := and_e hn
  obtain ⟨o_NO_ASSIGNMENT, ev_o_NO_ASSIGNMENT⟩ := arr_v hn1
  have S_NO_ASSIGNMENT : Sta s s.heap "com/example/offst/offst/group/Member" "NO_ASSIGNMENT" "[B" (.ref o_NO_ASSIGNMENT) := Sta.start ev_o_NO_ASSIGNMENT (Or.inr ⟨(hw _ (List.mem_of_getElem? (i := 3) rfl)), (hw _ (List.mem_of_getElem? (i := 35) rfl))⟩)
  obtain ⟨cl_o_NO_ASSIGNMENT, Ar_o_NO_ASSIGNMENT⟩ := Arr.start ev_o_NO_ASSIGNMENT hn1
  obtain ⟨sm_o_NO_ASSIGNMENT, ln_o_NO_ASSIGNMENT⟩ := own_len ev_o_NO_ASSIGNMENT Ar_o_NO_ASSIGNMENT hn
  obtain ⟨i_COMPACT_STRINGS, ev_i_COMPACT_STRINGS⟩ := is_v (Cond.before_iff.mp (hsets _ (List.mem_of_getElem? (i := 1) rfl)))
  have S_COMPACT_STRINGS : Sta s s.heap "java/lang/String" "COMPACT_STRINGS" "Z" (.int i_COMPACT_STRINGS) := Sta.start ev_i_COMPACT_STRINGS (Or.inl (hsets _ (List.mem_of_getElem? (i := 0) rfl)))
  have nz_i_COMPACT_STRINGS : i_COMPACT_STRINGS ≠ (0 : Int32) := own_neI (Cond.before_iff.mp (hsets _ (List.mem_of_getElem? (i := 2) rfl))) ev_i_COMPACT_STRINGS
  obtain ⟨v_SIOOBE_FORMATTER, ev_v_SIOOBE_FORMATTER, ir_v_SIOOBE_FORMATTER⟩ := isR_v (Cond.before_iff.mp (hsets _ (List.mem_of_getElem? (i := 8) rfl)))
  have S_SIOOBE_FORMATTER : Sta s s.heap "jdk/internal/util/Preconditions" "SIOOBE_FORMATTER" "Ljava/util/function/BiFunction;" v_SIOOBE_FORMATTER := Sta.start ev_v_SIOOBE_FORMATTER (Or.inl (hsets _ (List.mem_of_getElem? (i := 7) rfl)))
  obtain ⟨o_EMPTY_ELEMENTDATA, ev_o_EMPTY_ELEMENTDATA⟩ := arr_v (Cond.before_iff.mp (hsets _ (List.mem_of_getElem? (i := 12) rfl)))
  have S_EMPTY_ELEMENTDATA : Sta s s.heap "java/util/ArrayList" "EMPTY_ELEMENTDATA" "[Ljava/lang/Object;" (.ref o_EMPTY_ELEMENTDATA) := Sta.start ev_o_EMPTY_ELEMENTDATA (Or.inr ⟨(hw _ (List.mem_of_getElem? (i := 42) rfl)), (hsets _ (List.mem_of_getElem? (i := 9) rfl))⟩)
  obtain ⟨cl_o_EMPTY_ELEMENTDATA, Ar_o_EMPTY_ELEMENTDATA⟩ := Arr.start ev_o_EMPTY_ELEMENTDATA (Cond.before_iff.mp (hsets _ (List.mem_of_getElem? (i := 12) rfl)))
  have E_o_EMPTY_ELEMENTDATA : Exa s s.heap o_EMPTY_ELEMENTDATA "[Ljava/lang/Object;" := Exa.start ev_o_EMPTY_ELEMENTDATA (Cond.before_iff.mp (hsets _ (List.mem_of_getElem? (i := 13) rfl)))
  obtain ⟨sm_o_EMPTY_ELEMENTDATA, ln_o_EMPTY_ELEMENTDATA⟩ := own_len ev_o_EMPTY_ELEMENTDATA Ar_o_EMPTY_ELEMENTDATA (Cond.before_iff.mp (hsets _ (List.mem_of_getElem? (i := 14) rfl)))
  obtain ⟨o_DEFAULTCAPACITY_EMPTY_ELEMENTDATA, ev_o_DEFAULTCAPACITY_EMPTY_ELEMENTDATA⟩ := arr_v (Cond.before_iff.mp (hsets _ (List.mem_of_getElem? (i := 15) rfl)))
  have S_DEFAULTCAPACITY_EMPTY_ELEMENTDATA : Sta s s.heap "java/util/ArrayList" "DEFAULTCAPACITY_EMPTY_ELEMENTDATA" "[Ljava/lang/Object;" (.ref o_DEFAULTCAPACITY_EMPTY_ELEMENTDATA) := Sta.start ev_o_DEFAULTCAPACITY_EMPTY_ELEMENTDATA (Or.inr ⟨(hw _ (List.mem_of_getElem? (i := 42) rfl)), (hsets _ (List.mem_of_getElem? (i := 11) rfl))⟩)
  obtain ⟨cl_o_DEFAULTCAPACITY_EMPTY_ELEMENTDATA, Ar_o_DEFAULTCAPACITY_EMPTY_ELEMENTDATA⟩ := Arr.start ev_o_DEFAULTCAPACITY_EMPTY_ELEMENTDATA (Cond.before_iff.mp (hsets _ (List.mem_of_getElem? (i := 15) rfl)))
  have E_o_DEFAULTCAPACITY_EMPTY_ELEMENTDATA : Exa s s.heap o_DEFAULTCAPACITY_EMPTY_ELEMENTDATA "[Ljava/lang/Object;" := Exa.start ev_o_DEFAULTCAPACITY_EMPTY_ELEMENTDATA (Cond.before_iff.mp (hsets _ (List.mem_of_getElem? (i := 16) rfl)))
  obtain ⟨sm_o_DEFAULTCAPACITY_EMPTY_ELEMENTDATA, ln_o_DEFAULTCAPACITY_EMPTY_ELEMENTDATA⟩ := own_len ev_o_DEFAULTCAPACITY_EMPTY_ELEMENTDATA Ar_o_DEFAULTCAPACITY_EMPTY_ELEMENTDATA (Cond.before_iff.mp (hsets _ (List.mem_of_getElem? (i := 17) rfl)))
  obtain ⟨o_MILLISECONDS, ev_o_MILLISECONDS⟩ := exa_v (Cond.before_iff.mp (hsets _ (List.mem_of_getElem? (i := 20) rfl)))
  have S_MILLISECONDS : Sta s s.heap "java/util/concurrent/TimeUnit" "MILLISECONDS" "Ljava/util/concurrent/TimeUnit;" (.ref o_MILLISECONDS) := Sta.start ev_o_MILLISECONDS (Or.inr ⟨(hw _ (List.mem_of_getElem? (i := 110) rfl)), (hsets _ (List.mem_of_getElem? (i := 18) rfl))⟩)
  have E_o_MILLISECONDS : Exa s s.heap o_MILLISECONDS "java/util/concurrent/TimeUnit" := Exa.start ev_o_MILLISECONDS (Cond.before_iff.mp (hsets _ (List.mem_of_getElem? (i := 20) rfl)))
  obtain ⟨o_MILLISECONDS_name, ev_o_MILLISECONDS_name⟩ := exa_v (Cond.before_iff.mp (hsets _ (List.mem_of_getElem? (i := 21) rfl)))
  have F_o_MILLISECONDS_name : Fld s s.heap o_MILLISECONDS "java/lang/Enum" "name" "Ljava/lang/String;" (.ref o_MILLISECONDS_name) := own_fld ev_o_MILLISECONDS ev_o_MILLISECONDS_name
  have E_o_MILLISECONDS_name : Exa s s.heap o_MILLISECONDS_name "java/lang/String" := Exa.start ev_o_MILLISECONDS_name (Cond.before_iff.mp (hsets _ (List.mem_of_getElem? (i := 21) rfl)))
  have F_o_MILLISECONDS_ordinal : Fld s s.heap o_MILLISECONDS "java/lang/Enum" "ordinal" "I" (.int (2 : Int32)) := own_fld ev_o_MILLISECONDS (own_eqI (Cond.before_iff.mp (hsets _ (List.mem_of_getElem? (i := 22) rfl))))
  have F_o_MILLISECONDS_scale : Fld s s.heap o_MILLISECONDS "java/util/concurrent/TimeUnit" "scale" "J" (.long (1000000 : Int64)) := own_fld ev_o_MILLISECONDS (own_eqJ (Cond.before_iff.mp (hsets _ (List.mem_of_getElem? (i := 23) rfl))))
  have F_o_MILLISECONDS_maxNanos : Fld s s.heap o_MILLISECONDS "java/util/concurrent/TimeUnit" "maxNanos" "J" (.long (9223372036854 : Int64)) := own_fld ev_o_MILLISECONDS (own_eqJ (Cond.before_iff.mp (hsets _ (List.mem_of_getElem? (i := 24) rfl))))
  have F_o_MILLISECONDS_microRatio : Fld s s.heap o_MILLISECONDS "java/util/concurrent/TimeUnit" "microRatio" "J" (.long (1000 : Int64)) := own_fld ev_o_MILLISECONDS (own_eqJ (Cond.before_iff.mp (hsets _ (List.mem_of_getElem? (i := 25) rfl))))
  have F_o_MILLISECONDS_maxMicros : Fld s s.heap o_MILLISECONDS "java/util/concurrent/TimeUnit" "maxMicros" "J" (.long (9223372036854775 : Int64)) := own_fld ev_o_MILLISECONDS (own_eqJ (Cond.before_iff.mp (hsets _ (List.mem_of_getElem? (i := 26) rfl))))
  have F_o_MILLISECONDS_milliRatio : Fld s s.heap o_MILLISECONDS "java/util/concurrent/TimeUnit" "milliRatio" "I" (.int (1 : Int32)) := own_fld ev_o_MILLISECONDS (own_eqI (Cond.before_iff.mp (hsets _ (List.mem_of_getElem? (i := 27) rfl))))
  have F_o_MILLISECONDS_maxMillis : Fld s s.heap o_MILLISECONDS "java/util/concurrent/TimeUnit" "maxMillis" "J" (.long (9223372036854775807 : Int64)) := own_fld ev_o_MILLISECONDS (own_eqJ (Cond.before_iff.mp (hsets _ (List.mem_of_getElem? (i := 28) rfl))))
  have F_o_MILLISECONDS_secRatio : Fld s s.heap o_MILLISECONDS "java/util/concurrent/TimeUnit" "secRatio" "I" (.int (1000 : Int32)) := own_fld ev_o_MILLISECONDS (own_eqI (Cond.before_iff.mp (hsets _ (List.mem_of_getElem? (i := 29) rfl))))
  have F_o_MILLISECONDS_maxSecs : Fld s s.heap o_MILLISECONDS "java/util/concurrent/TimeUnit" "maxSecs" "J" (.long (9223372036854775 : Int64)) := own_fld ev_o_MILLISECONDS (own_eqJ (Cond.before_iff.mp (hsets _ (List.mem_of_getElem? (i := 30) rfl))))
  obtain ⟨kc_o_NO_ASSIGNMENT, V_o_NO_ASSIGNMENT⟩ : ∃ k, Arv s s.heap o_NO_ASSIGNMENT k .byte (0 : Int32) [] (.int (0 : Int32)) := ⟨_, Arv.start hfit Ar_o_NO_ASSIGNMENT sm_o_NO_ASSIGNMENT ln_o_NO_ASSIGNMENT (by decide) rfl trivial⟩
  obtain ⟨kc_o_EMPTY_ELEMENTDATA, V_o_EMPTY_ELEMENTDATA⟩ : ∃ k, Arv s s.heap o_EMPTY_ELEMENTDATA k (.object "java/lang/Object") (0 : Int32) [] .null := ⟨_, Arv.start hfit Ar_o_EMPTY_ELEMENTDATA sm_o_EMPTY_ELEMENTDATA ln_o_EMPTY_ELEMENTDATA (by decide) rfl trivial⟩
  obtain ⟨kc_o_DEFAULTCAPACITY_EMPTY_ELEMENTDATA, V_o_DEFAULTCAPACITY_EMPTY_ELEMENTDATA⟩ : ∃ k, Arv s s.heap o_DEFAULTCAPACITY_EMPTY_ELEMENTDATA k (.object "java/lang/Object") (0 : Int32) [] .null := ⟨_, Arv.start hfit Ar_o_DEFAULTCAPACITY_EMPTY_ELEMENTDATA sm_o_DEFAULTCAPACITY_EMPTY_ELEMENTDATA ln_o_DEFAULTCAPACITY_EMPTY_ELEMENTDATA (by decide) rfl trivial⟩
  obtain ⟨n, o, h1, h2, h3, _, L, rfl, ⟨rfl, N⟩, hq⟩ := own_law l s _ hw tables_1 i0 i1 i2 i3 i4 o_NO_ASSIGNMENT i_COMPACT_STRINGS o_DEFAULTCAPACITY_EMPTY_ELEMENTDATA o_MILLISECONDS s.heap s.heap.size (Nat.le_refl _) (Old.start s) S_NO_ASSIGNMENT S_COMPACT_STRINGS nz_i_COMPACT_STRINGS S_MILLISECONDS E_o_MILLISECONDS F_o_MILLISECONDS_scale F_o_MILLISECONDS_maxNanos S_DEFAULTCAPACITY_EMPTY_ELEMENTDATA  p e ha hc hk s m _ below hf ((Spec.applies_iff_loose hf).mp happ).1 ⟨rfl, State.Warmed39.refl s, rfl⟩ trivial
  refine ⟨n, _, h1, h2, h3, hpost _ _ _ _ _ _ ⟨Cond.after_iff.mpr rfl, Cond.after_iff.mpr (eq_i res_at (Term.int_eval (1)) rfl), trivial⟩ ⟨hq.1, hq.2.1, hq.2.2.1, (hq.2.2.2.sift fun y hy => Or.inr (N y hy)).mono (by decide) (by decide)⟩⟩
theorem main_1_1 : Claimed_1_1 := comes_1 fun _ _ _ _ _ _ h hF => ⟨h.1, hF⟩
theorem main_1_2 : Claimed_1_2 := comes_1 fun _ _ _ _ _ _ h hF => ⟨h.2.1, hF⟩
end Jvm.Pilot.@@N@@
namespace Jvm.Pilot.@@N@@
open Jvm Jvm.ClassFile Sem Op Lib Jvm.Free Jvm.Stand Jvm.Pilot.@@N@@.Jvm.D
/-! MADE BY PROGRAM (witnessworld.py) out of the Statement's table words and the real class files: 30 classes; the members and pool entries that the words name. The judged class is class 1, her method 1. -/
namespace start1
open Jvm.ClassFile
def u (s : String) : CpInfo := .utf8 (stringToUtf16 s)
/-- a pool by its gaps: so many unusable entries, then the entry; so many at the end -/
def gap : Nat → List CpInfo → List CpInfo
  | 0, r => r
  | n + 1, r => .unusable :: gap n r
def poolList (es : List (Nat × CpInfo)) (last : Nat) : List CpInfo := es.foldr (fun e r => gap e.1 (e.2 :: r)) (gap last [])
def pool (es : List (Nat × CpInfo)) (last : Nat) : Array CpInfo := ⟨poolList es last⟩
def fileOf (pool : Array CpInfo) (this : Nat) (attrs : Array Attribute := #[]) (ms : Array MethodInfo := #[]) (fl : Nat := 33) (sup : Nat := 0) (ifs : Array Nat := #[]) (fds : Array FieldInfo := #[]) : ClassFile where
  minorVersion := 0
  majorVersion := 65
  constantPool := pool
  accessFlags := fl
  thisClass := this
  superClass := sup
  interfaces := ifs
  fields := fds
  methods := ms
  attributes := attrs
def plain (name : String) (sup : Option ClassId) : Class where
  name := name
  kind := .ordinary
  loader := none
  accessFlags := 33
  super := sup
  interfaces := #[]
  cf := none
  fields := #[]
  methods := #[]
  instanceTypes := #[]
  staticTypes := #[]
  resolved := #[]
  callSites := []
  init := .initialized
  statics := none
  mirror := none

def pool0 : Array CpInfo := pool [(5, u "<init>"), (0, u "()V"), (1, .class_ 10), (1, u "java/lang/Object")] 113

def k0c0 : Code := { maxStack := 0, maxLocals := 1, code := object_method_1_code, exceptionTable := #[], attributes := #[] }
def k0m0 : Method := { name := "<init>", desc := "()V", sig := { parameters := [], returnType := none }, accessFlags := 1, code := some k0c0 }
/-- java/lang/Object -/
def k0 : Class := { plain "java/lang/Object" none with
  accessFlags := 33
  interfaces := #[]
  cf := some (fileOf pool0 8 #[] #[{ accessFlags := 1, nameIndex := 5, descriptorIndex := 6, attributes := #[] }] 33 0 #[] #[])
  fields := #[]
  methods := #[k0m0]
  instanceTypes := #[]
  staticTypes := #[]
  resolved := Array.replicate 124 none
  statics := none }

def pool1 : Array CpInfo := pool [(2, .class_ 4), (0, .nameAndType 5 6), (0, u "java/lang/Object"), (0, u "<init>"), (0, u "()V"), (0, .long 1000000), (1, .class_ 10), (0, u "com/example/offst/offst/group/Member"), (0, .methodref 12 13), (0, .class_ 14), (0, .nameAndType 15 16), (0, u "java/lang/String"), (0, u "valueOf"), (0, u "(C)Ljava/lang/String;"), (0, .methodref 9 18), (0, .nameAndType 5 19), (0, u "(Ljava/lang/String;)V"), (0, .class_ 21), (0, u "java/util/ArrayList"), (0, .methodref 20 3), (0, .class_ 24), (0, u "com/example/offst/offst/protocol/JoinGroupRequest"), (0, .string 26), (0, u "g"), (0, .string 28), (0, u ""), (0, .string 30), (0, u "consumer"), (0, .methodref 23 32), (0, .nameAndType 5 33), (0, u "(Ljava/lang/String;IILjava/lang/String;Ljava/lang/String;Ljava/util/List;Z)V"), (0, .methodref 9 35), (0, .nameAndType 36 37), (0, u "joinWith"), (0, u "(Lcom/example/offst/offst/protocol/JoinGroupRequest;J)V"), (0, .methodref 9 39), (0, .nameAndType 40 41), (0, u "renewSession"), (0, u "(J)V"), (0, .methodref 9 43), (0, .nameAndType 44 45), (0, u "hasTimedOut"), (0, u "(J)Z"), (0, .class_ 47), (0, u "com/example/offst/offst/group/MemberHasTimedOutPinLaw"), (2, u "law"), (0, u "(JIJII)Z")] 3

def k1m0 : Method := { name := "<init>", desc := "()V", sig := { parameters := [], returnType := none }, accessFlags := 1, code := none }
def k1c1 : Code := { maxStack := 9, maxLocals := 19, code := code, exceptionTable := #[], attributes := #[] }
def k1m1 : Method := { name := "law", desc := "(JIJII)Z", sig := { parameters := [.long, .int, .long, .int, .int], returnType := some .boolean }, accessFlags := 9, code := some k1c1 }
/-- com/example/offst/offst/group/MemberHasTimedOutPinLaw -/
def k1 : Class := { plain "com/example/offst/offst/group/MemberHasTimedOutPinLaw" (some 0) with
  accessFlags := 49
  interfaces := #[]
  cf := some (fileOf pool1 46 #[] #[{ accessFlags := 1, nameIndex := 5, descriptorIndex := 6, attributes := #[] }, { accessFlags := 9, nameIndex := 50, descriptorIndex := 51, attributes := #[] }] 49 2 #[] #[])
  fields := #[]
  methods := #[k1m0, k1m1]
  instanceTypes := #[]
  staticTypes := #[]
  resolved := Array.replicate 55 none
  statics := none }

def pool2 : Array CpInfo := pool [(1, .methodref 2 3), (0, .class_ 4), (0, .nameAndType 5 6), (0, u "java/lang/Object"), (0, u "<init>"), (0, u "()V"), (0, .fieldref 8 9), (0, .class_ 10), (0, .nameAndType 11 12), (0, u "com/example/offst/offst/group/Member"), (0, u "NO_ASSIGNMENT"), (0, u "[B"), (0, .fieldref 8 14), (0, .nameAndType 15 12), (0, u "assignment"), (0, .fieldref 8 17), (0, .nameAndType 18 19), (0, u "id"), (0, u "Ljava/lang/String;"), (9, .class_ 31), (1, u "com/example/offst/offst/protocol/JoinGroupRequest"), (7, u "()I"), (29, .fieldref 8 70), (0, .nameAndType 71 72), (0, u "joinedWith"), (0, u "Lcom/example/offst/offst/protocol/JoinGroupRequest;"), (0, .fieldref 8 74), (0, .nameAndType 75 76), (0, u "heldBytes"), (0, u "J"), (29, u "(Ljava/lang/String;)V"), (0, .fieldref 108 109), (0, .class_ 110), (0, .nameAndType 111 112), (0, u "java/util/concurrent/TimeUnit"), (0, u "MILLISECONDS"), (0, u "Ljava/util/concurrent/TimeUnit;"), (0, .methodref 29 114), (0, .nameAndType 115 39), (0, u "sessionTimeoutMs"), (0, .methodref 108 117), (0, .nameAndType 118 119), (0, u "toNanos"), (0, u "(J)J"), (0, .fieldref 8 121), (0, .nameAndType 122 76), (0, u "sessionDeadline"), (0, .fieldref 8 124), (0, .nameAndType 125 126), (0, u "joining"), (0, u "Ljava/util/concurrent/CompletableFuture;"), (0, .fieldref 8 128), (0, .nameAndType 129 126), (0, u "syncing"), (10, u "joinWith"), (0, u "(Lcom/example/offst/offst/protocol/JoinGroupRequest;J)V"), (4, u "renewSession"), (0, u "(J)V"), (0, u "hasTimedOut"), (0, u "(J)Z")] 40

def k2c0 : Code := { maxStack := 2, maxLocals := 2, code := prog_26_method_1_code, exceptionTable := #[], attributes := #[] }
def k2m0 : Method := { name := "<init>", desc := "(Ljava/lang/String;)V", sig := { parameters := [(.object "java/lang/String")], returnType := none }, accessFlags := 0, code := some k2c0 }
def k2c1 : Code := { maxStack := 3, maxLocals := 4, code := prog_26_method_6_code, exceptionTable := #[], attributes := #[] }
def k2m1 : Method := { name := "joinWith", desc := "(Lcom/example/offst/offst/protocol/JoinGroupRequest;J)V", sig := { parameters := [(.object "com/example/offst/offst/protocol/JoinGroupRequest"), .long], returnType := none }, accessFlags := 0, code := some k2c1 }
def k2c2 : Code := { maxStack := 6, maxLocals := 3, code := prog_26_method_9_code, exceptionTable := #[], attributes := #[] }
def k2m2 : Method := { name := "renewSession", desc := "(J)V", sig := { parameters := [.long], returnType := none }, accessFlags := 0, code := some k2c2 }
def k2c3 : Code := { maxStack := 4, maxLocals := 3, code := prog_26_method_10_code, exceptionTable := #[], attributes := #[] }
def k2m3 : Method := { name := "hasTimedOut", desc := "(J)Z", sig := { parameters := [.long], returnType := some .boolean }, accessFlags := 0, code := some k2c3 }
/-- com/example/offst/offst/group/Member -/
def k2 : Class := { plain "com/example/offst/offst/group/Member" (some 0) with
  accessFlags := 48
  interfaces := #[]
  cf := some (fileOf pool2 8 #[] #[{ accessFlags := 0, nameIndex := 5, descriptorIndex := 106, attributes := #[] }, { accessFlags := 0, nameIndex := 140, descriptorIndex := 141, attributes := #[] }, { accessFlags := 0, nameIndex := 146, descriptorIndex := 147, attributes := #[] }, { accessFlags := 0, nameIndex := 148, descriptorIndex := 149, attributes := #[] }] 48 2 #[] #[{ accessFlags := 26, nameIndex := 11, descriptorIndex := 12, attributes := #[] }, { accessFlags := 18, nameIndex := 18, descriptorIndex := 19, attributes := #[] }, { accessFlags := 2, nameIndex := 71, descriptorIndex := 72, attributes := #[] }, { accessFlags := 2, nameIndex := 75, descriptorIndex := 76, attributes := #[] }, { accessFlags := 2, nameIndex := 122, descriptorIndex := 76, attributes := #[] }, { accessFlags := 2, nameIndex := 125, descriptorIndex := 126, attributes := #[] }, { accessFlags := 2, nameIndex := 129, descriptorIndex := 126, attributes := #[] }, { accessFlags := 2, nameIndex := 15, descriptorIndex := 12, attributes := #[] }])
  fields := #[{ name := "NO_ASSIGNMENT", type := (.array .byte), accessFlags := 26, slot := 0, constantValue := 0 }, { name := "id", type := (.object "java/lang/String"), accessFlags := 18, slot := 0, constantValue := 0 }, { name := "joinedWith", type := (.object "com/example/offst/offst/protocol/JoinGroupRequest"), accessFlags := 2, slot := 1, constantValue := 0 }, { name := "heldBytes", type := .long, accessFlags := 2, slot := 2, constantValue := 0 }, { name := "sessionDeadline", type := .long, accessFlags := 2, slot := 3, constantValue := 0 }, { name := "joining", type := (.object "java/util/concurrent/CompletableFuture"), accessFlags := 2, slot := 4, constantValue := 0 }, { name := "syncing", type := (.object "java/util/concurrent/CompletableFuture"), accessFlags := 2, slot := 5, constantValue := 0 }, { name := "assignment", type := (.array .byte), accessFlags := 2, slot := 6, constantValue := 0 }]
  methods := #[k2m0, k2m1, k2m2, k2m3]
  instanceTypes := #[(.object "java/lang/String"), (.object "com/example/offst/offst/protocol/JoinGroupRequest"), .long, .long, (.object "java/util/concurrent/CompletableFuture"), (.object "java/util/concurrent/CompletableFuture"), (.array .byte)]
  staticTypes := #[(.array .byte)]
  resolved := Array.replicate 190 none
  statics := some 0 }

def pool3 : Array CpInfo := pool [(1, .class_ 2), (0, u "java/io/Serializable"), (0, .class_ 4), (0, u "java/lang/Object")] 2

/-- java/io/Serializable -/
def k3 : Class := { plain "java/io/Serializable" (some 0) with
  accessFlags := 1537
  interfaces := #[]
  cf := some (fileOf pool3 1 #[] #[] 1537 3 #[] #[])
  fields := #[]
  methods := #[]
  instanceTypes := #[]
  staticTypes := #[]
  resolved := Array.replicate 7 none
  statics := none }

def pool4 : Array CpInfo := pool [(1, .class_ 2), (0, u "java/lang/Comparable"), (0, .class_ 4), (0, u "java/lang/Object")] 7

/-- java/lang/Comparable -/
def k4 : Class := { plain "java/lang/Comparable" (some 0) with
  accessFlags := 1537
  interfaces := #[]
  cf := some (fileOf pool4 1 #[] #[] 1537 3 #[] #[])
  fields := #[]
  methods := #[]
  instanceTypes := #[]
  staticTypes := #[]
  resolved := Array.replicate 12 none
  statics := none }

def pool5 : Array CpInfo := pool [(2, .class_ 4), (1, u "java/lang/CharSequence"), (42, .class_ 48), (0, u "java/lang/CharSequence$1CodePointIterator"), (10, .class_ 60), (0, u "java/lang/CharSequence$1CharIterator"), (5, .class_ 67), (0, u "java/lang/Object")] 63

/-- java/lang/CharSequence -/
def k5 : Class := { plain "java/lang/CharSequence" (some 0) with
  accessFlags := 1537
  interfaces := #[]
  cf := some (fileOf pool5 2 #[.nestMembers #[47, 59]] #[] 1537 66 #[] #[])
  fields := #[]
  methods := #[]
  instanceTypes := #[]
  staticTypes := #[]
  resolved := Array.replicate 131 none
  statics := none }

def pool6 : Array CpInfo := pool [(1, .class_ 2), (0, u "java/lang/constant/Constable"), (0, .class_ 4), (0, u "java/lang/Object")] 6

/-- java/lang/constant/Constable -/
def k6 : Class := { plain "java/lang/constant/Constable" (some 0) with
  accessFlags := 1537
  interfaces := #[]
  cf := some (fileOf pool6 1 #[] #[] 1537 3 #[] #[])
  fields := #[]
  methods := #[]
  instanceTypes := #[]
  staticTypes := #[]
  resolved := Array.replicate 11 none
  statics := none }

def pool7 : Array CpInfo := pool [(1, .class_ 2), (0, u "java/lang/constant/ConstantDesc"), (0, .class_ 4), (0, u "java/lang/Object")] 32

/-- java/lang/constant/ConstantDesc -/
def k7 : Class := { plain "java/lang/constant/ConstantDesc" (some 0) with
  accessFlags := 1537
  interfaces := #[]
  cf := some (fileOf pool7 1 #[] #[] 1537 3 #[] #[])
  fields := #[]
  methods := #[]
  instanceTypes := #[]
  staticTypes := #[]
  resolved := Array.replicate 37 none
  statics := none }

def pool8 : Array CpInfo := pool [(1, .methodref 2 3), (0, .class_ 4), (0, .nameAndType 5 6), (0, u "java/lang/Object"), (0, u "<init>"), (0, u "()V"), (2, .fieldref 10 11), (0, .class_ 12), (0, .nameAndType 13 14), (0, u "java/lang/String"), (0, u "value"), (0, u "[B"), (0, .fieldref 10 16), (0, .nameAndType 17 18), (0, u "coder"), (0, u "B"), (2, u "hash"), (0, u "I"), (2, u "hashIsZero"), (0, u "Z"), (11, .fieldref 10 39), (0, .nameAndType 40 26), (0, u "COMPACT_STRINGS"), (12, u "toBytes"), (53, .class_ 109), (1, u "java/lang/StringLatin1"), (99, .methodref 10 210), (0, .nameAndType 5 211), (0, u "([BB)V"), (157, u "(C)Z"), (205, .class_ 576), (0, u "java/lang/CharSequence"), (22, u "CASE_INSENSITIVE_ORDER"), (0, u "Ljava/util/Comparator;"), (181, u "valueOf"), (0, u "(C)Ljava/lang/String;"), (231, .methodref 107 1016), (0, .nameAndType 1017 369), (0, u "canEncode"), (0, .methodref 107 1019), (0, .nameAndType 53 1020), (0, u "(C)[B"), (80, u "serialPersistentFields"), (0, u "[Ljava/io/ObjectStreamField;"), (0, .class_ 1104), (0, u "java/lang/String$CaseInsensitiveComparator"), (1, .class_ 1107), (0, u "java/io/Serializable"), (0, .class_ 1109), (0, u "java/lang/Comparable"), (0, .class_ 1111), (0, u "java/lang/constant/Constable"), (0, .class_ 1113), (0, u "java/lang/constant/ConstantDesc"), (2, u "serialVersionUID"), (0, u "J"), (3, u "REPL"), (0, u "C"), (2, u "LATIN1"), (1, u "UTF16")] 323

def k8m0 : Method := { name := "<init>", desc := "()V", sig := { parameters := [], returnType := none }, accessFlags := 1, code := none }
def k8c1 : Code := { maxStack := 4, maxLocals := 1, code := jdk_42_method_139_code, exceptionTable := #[], attributes := #[] }
def k8m1 : Method := { name := "valueOf", desc := "(C)Ljava/lang/String;", sig := { parameters := [.char], returnType := some (.object "java/lang/String") }, accessFlags := 9, code := some k8c1 }
def k8c2 : Code := { maxStack := 2, maxLocals := 3, code := jdk_42_method_151_code, exceptionTable := #[], attributes := #[] }
def k8m2 : Method := { name := "<init>", desc := "([BB)V", sig := { parameters := [(.array .byte), .byte], returnType := none }, accessFlags := 0, code := some k8c2 }
/-- java/lang/String -/
def k8 : Class := { plain "java/lang/String" (some 0) with
  accessFlags := 49
  interfaces := #[3, 4, 5, 6, 7]
  cf := some (fileOf pool8 10 #[.nestMembers #[1103]] #[{ accessFlags := 1, nameIndex := 5, descriptorIndex := 6, attributes := #[] }, { accessFlags := 9, nameIndex := 782, descriptorIndex := 783, attributes := #[] }, { accessFlags := 0, nameIndex := 5, descriptorIndex := 211, attributes := #[] }] 49 2 #[1106, 1108, 575, 1110, 1112] #[{ accessFlags := 18, nameIndex := 13, descriptorIndex := 14, attributes := #[] }, { accessFlags := 18, nameIndex := 17, descriptorIndex := 18, attributes := #[] }, { accessFlags := 2, nameIndex := 21, descriptorIndex := 22, attributes := #[] }, { accessFlags := 2, nameIndex := 25, descriptorIndex := 26, attributes := #[] }, { accessFlags := 26, nameIndex := 1116, descriptorIndex := 1117, attributes := #[] }, { accessFlags := 24, nameIndex := 40, descriptorIndex := 26, attributes := #[] }, { accessFlags := 26, nameIndex := 1101, descriptorIndex := 1102, attributes := #[] }, { accessFlags := 26, nameIndex := 1121, descriptorIndex := 1122, attributes := #[] }, { accessFlags := 25, nameIndex := 599, descriptorIndex := 600, attributes := #[] }, { accessFlags := 24, nameIndex := 1125, descriptorIndex := 18, attributes := #[] }, { accessFlags := 24, nameIndex := 1127, descriptorIndex := 18, attributes := #[] }])
  fields := #[{ name := "value", type := (.array .byte), accessFlags := 18, slot := 0, constantValue := 0 }, { name := "coder", type := .byte, accessFlags := 18, slot := 1, constantValue := 0 }, { name := "hash", type := .int, accessFlags := 2, slot := 2, constantValue := 0 }, { name := "hashIsZero", type := .boolean, accessFlags := 2, slot := 3, constantValue := 0 }, { name := "serialVersionUID", type := .long, accessFlags := 26, slot := 0, constantValue := 0 }, { name := "COMPACT_STRINGS", type := .boolean, accessFlags := 24, slot := 1, constantValue := 0 }, { name := "serialPersistentFields", type := (.array (.object "java/io/ObjectStreamField")), accessFlags := 26, slot := 2, constantValue := 0 }, { name := "REPL", type := .char, accessFlags := 26, slot := 3, constantValue := 0 }, { name := "CASE_INSENSITIVE_ORDER", type := (.object "java/util/Comparator"), accessFlags := 25, slot := 4, constantValue := 0 }, { name := "LATIN1", type := .byte, accessFlags := 24, slot := 5, constantValue := 0 }, { name := "UTF16", type := .byte, accessFlags := 24, slot := 6, constantValue := 0 }]
  methods := #[k8m0, k8m1, k8m2]
  instanceTypes := #[(.array .byte), .byte, .int, .boolean]
  staticTypes := #[.long, .boolean, (.array (.object "java/io/ObjectStreamField")), .char, (.object "java/util/Comparator"), .byte, .byte]
  resolved := Array.replicate 1451 none
  statics := some 1 }

def pool9 : Array CpInfo := pool [(4, .class_ 6), (1, u "java/lang/Object"), (0, u "<init>"), (0, u "()V"), (5, .class_ 16), (1, u "java/lang/StringLatin1"), (73, u "canEncode"), (14, u "(C)Z"), (15, u "$assertionsDisabled"), (0, u "Z"), (98, .class_ 223), (1, u "java/lang/StringLatin1$LinesSpliterator"), (156, u "toBytes"), (1, u "(C)[B"), (7, .class_ 391), (0, u "java/lang/StringLatin1$CharsSpliterator")] 3

def k9m0 : Method := { name := "<init>", desc := "()V", sig := { parameters := [], returnType := none }, accessFlags := 0, code := none }
def k9c1 : Code := { maxStack := 2, maxLocals := 1, code := jdk_43_method_3_code, exceptionTable := #[], attributes := #[] }
def k9m1 : Method := { name := "canEncode", desc := "(C)Z", sig := { parameters := [.char], returnType := some .boolean }, accessFlags := 9, code := some k9c1 }
def k9c2 : Code := { maxStack := 4, maxLocals := 1, code := jdk_43_method_46_code, exceptionTable := #[], attributes := #[] }
def k9m2 : Method := { name := "toBytes", desc := "(C)[B", sig := { parameters := [.char], returnType := some (.array .byte) }, accessFlags := 9, code := some k9c2 }
/-- java/lang/StringLatin1 -/
def k9 : Class := { plain "java/lang/StringLatin1" (some 0) with
  accessFlags := 48
  interfaces := #[]
  cf := some (fileOf pool9 14 #[.nestMembers #[390, 221]] #[{ accessFlags := 0, nameIndex := 7, descriptorIndex := 8, attributes := #[] }, { accessFlags := 9, nameIndex := 90, descriptorIndex := 105, attributes := #[] }, { accessFlags := 9, nameIndex := 380, descriptorIndex := 382, attributes := #[] }] 48 4 #[] #[{ accessFlags := 4120, nameIndex := 121, descriptorIndex := 122, attributes := #[] }])
  fields := #[{ name := "$assertionsDisabled", type := .boolean, accessFlags := 4120, slot := 0, constantValue := 0 }]
  methods := #[k9m0, k9m1, k9m2]
  instanceTypes := #[]
  staticTypes := #[.boolean]
  resolved := Array.replicate 395 none
  statics := none }

def pool10 : Array CpInfo := pool [(8, .class_ 10), (1, u "java/lang/Iterable"), (24, .class_ 36), (0, u "java/lang/Object")] 25

/-- java/lang/Iterable -/
def k10 : Class := { plain "java/lang/Iterable" (some 0) with
  accessFlags := 1537
  interfaces := #[]
  cf := some (fileOf pool10 8 #[] #[] 1537 35 #[] #[])
  fields := #[]
  methods := #[]
  instanceTypes := #[]
  staticTypes := #[]
  resolved := Array.replicate 62 none
  statics := none }

def pool11 : Array CpInfo := pool [(10, .class_ 12), (1, u "java/util/Collection"), (47, .class_ 61), (0, u "java/lang/Object"), (0, .class_ 63), (0, u "java/lang/Iterable")] 51

/-- java/util/Collection -/
def k11 : Class := { plain "java/util/Collection" (some 0) with
  accessFlags := 1537
  interfaces := #[10]
  cf := some (fileOf pool11 10 #[] #[] 1537 60 #[62] #[])
  fields := #[]
  methods := #[]
  instanceTypes := #[]
  staticTypes := #[]
  resolved := Array.replicate 115 none
  statics := none }

def pool12 : Array CpInfo := pool [(1, .methodref 2 3), (0, .class_ 4), (0, .nameAndType 5 6), (0, u "java/lang/Object"), (0, u "<init>"), (0, u "()V"), (1, .class_ 10), (1, u "java/util/AbstractCollection"), (66, .class_ 78), (0, u "java/util/Collection")] 81

def k12c0 : Code := { maxStack := 1, maxLocals := 1, code := jdk_22_method_1_code, exceptionTable := #[], attributes := #[] }
def k12m0 : Method := { name := "<init>", desc := "()V", sig := { parameters := [], returnType := none }, accessFlags := 4, code := some k12c0 }
/-- java/util/AbstractCollection -/
def k12 : Class := { plain "java/util/AbstractCollection" (some 0) with
  accessFlags := 1057
  interfaces := #[11]
  cf := some (fileOf pool12 8 #[] #[{ accessFlags := 4, nameIndex := 5, descriptorIndex := 6, attributes := #[] }] 1057 2 #[77] #[])
  fields := #[]
  methods := #[k12m0]
  instanceTypes := #[]
  staticTypes := #[]
  resolved := Array.replicate 160 none
  statics := none }

def pool13 : Array CpInfo := pool [(8, .class_ 10), (1, u "java/util/SequencedCollection"), (15, .class_ 27), (0, u "java/lang/Object"), (0, .class_ 29), (0, u "java/util/Collection")] 27

/-- java/util/SequencedCollection -/
def k13 : Class := { plain "java/util/SequencedCollection" (some 0) with
  accessFlags := 1537
  interfaces := #[11]
  cf := some (fileOf pool13 8 #[] #[] 1537 26 #[28] #[])
  fields := #[]
  methods := #[]
  instanceTypes := #[]
  staticTypes := #[]
  resolved := Array.replicate 57 none
  statics := none }

def pool14 : Array CpInfo := pool [(8, .class_ 10), (1, u "java/util/List"), (92, .class_ 104), (0, u "java/lang/Object"), (15, .class_ 121), (0, u "java/util/SequencedCollection")] 129

/-- java/util/List -/
def k14 : Class := { plain "java/util/List" (some 0) with
  accessFlags := 1537
  interfaces := #[13]
  cf := some (fileOf pool14 8 #[] #[] 1537 103 #[120] #[])
  fields := #[]
  methods := #[]
  instanceTypes := #[]
  staticTypes := #[]
  resolved := Array.replicate 251 none
  statics := none }

def pool15 : Array CpInfo := pool [(1, .methodref 2 3), (0, .class_ 4), (0, .nameAndType 5 6), (0, u "java/util/AbstractCollection"), (0, u "<init>"), (0, u "()V"), (0, .fieldref 8 9), (0, .class_ 10), (0, .nameAndType 11 12), (0, u "java/util/AbstractList"), (0, u "modCount"), (0, u "I"), (64, .class_ 78), (0, u "java/util/AbstractList$Itr"), (3, .class_ 83), (0, u "java/util/AbstractList$ListItr"), (9, .class_ 94), (0, u "java/util/AbstractList$RandomAccessSubList"), (3, .class_ 99), (0, u "java/util/AbstractList$SubList"), (33, .class_ 134), (0, u "java/util/List"), (73, .class_ 209), (0, u "java/util/AbstractList$SubList$1"), (0, .class_ 211), (0, u "java/util/AbstractList$RandomAccessSpliterator")] 6

def k15c0 : Code := { maxStack := 2, maxLocals := 1, code := jdk_39_method_1_code, exceptionTable := #[], attributes := #[] }
def k15m0 : Method := { name := "<init>", desc := "()V", sig := { parameters := [], returnType := none }, accessFlags := 4, code := some k15c0 }
/-- java/util/AbstractList -/
def k15 : Class := { plain "java/util/AbstractList" (some 12) with
  accessFlags := 1057
  interfaces := #[14]
  cf := some (fileOf pool15 8 #[.nestMembers #[93, 98, 208, 210, 82, 77]] #[{ accessFlags := 4, nameIndex := 5, descriptorIndex := 6, attributes := #[] }] 1057 2 #[133] #[{ accessFlags := 132, nameIndex := 11, descriptorIndex := 12, attributes := #[] }])
  fields := #[{ name := "modCount", type := .int, accessFlags := 132, slot := 0, constantValue := 0 }]
  methods := #[k15m0]
  instanceTypes := #[.int]
  staticTypes := #[]
  resolved := Array.replicate 218 none
  statics := none }

def pool16 : Array CpInfo := pool [(1, .class_ 2), (0, u "java/util/RandomAccess"), (0, .class_ 4), (0, u "java/lang/Object")] 2

/-- java/util/RandomAccess -/
def k16 : Class := { plain "java/util/RandomAccess" (some 0) with
  accessFlags := 1537
  interfaces := #[]
  cf := some (fileOf pool16 1 #[] #[] 1537 3 #[] #[])
  fields := #[]
  methods := #[]
  instanceTypes := #[]
  staticTypes := #[]
  resolved := Array.replicate 7 none
  statics := none }

def pool17 : Array CpInfo := pool [(1, .class_ 2), (0, u "java/lang/Cloneable"), (0, .class_ 4), (0, u "java/lang/Object")] 2

/-- java/lang/Cloneable -/
def k17 : Class := { plain "java/lang/Cloneable" (some 0) with
  accessFlags := 1537
  interfaces := #[]
  cf := some (fileOf pool17 1 #[] #[] 1537 3 #[] #[])
  fields := #[]
  methods := #[]
  instanceTypes := #[]
  staticTypes := #[]
  resolved := Array.replicate 7 none
  statics := none }

def pool18 : Array CpInfo := pool [(1, .methodref 2 3), (0, .class_ 4), (0, .nameAndType 5 6), (0, u "java/util/AbstractList"), (0, u "<init>"), (0, u "()V"), (2, .fieldref 10 11), (0, .class_ 12), (0, .nameAndType 13 14), (0, u "java/util/ArrayList"), (0, u "elementData"), (0, u "[Ljava/lang/Object;"), (2, u "EMPTY_ELEMENTDATA"), (21, .fieldref 10 40), (0, .nameAndType 41 14), (0, u "DEFAULTCAPACITY_EMPTY_ELEMENTDATA"), (8, u "size"), (0, u "I"), (96, .class_ 149), (0, u "java/util/List"), (112, .class_ 263), (0, u "java/util/ArrayList$ListItr"), (3, .class_ 268), (0, u "java/util/ArrayList$Itr"), (7, .class_ 277), (0, u "java/util/ArrayList$SubList"), (12, .class_ 291), (0, u "java/util/ArrayList$ArrayListSpliterator"), (37, .class_ 330), (0, u "java/util/RandomAccess"), (0, .class_ 332), (0, u "java/lang/Cloneable"), (0, .class_ 334), (0, u "java/io/Serializable"), (0, u "serialVersionUID"), (0, u "J"), (3, u "DEFAULT_CAPACITY"), (159, .class_ 501), (0, u "java/util/ArrayList$SubList$2"), (0, .class_ 503), (0, u "java/util/ArrayList$SubList$1")] 5

def k18c0 : Code := { maxStack := 2, maxLocals := 1, code := jdk_38_method_2_code, exceptionTable := #[], attributes := #[] }
def k18m0 : Method := { name := "<init>", desc := "()V", sig := { parameters := [], returnType := none }, accessFlags := 1, code := some k18c0 }
/-- java/util/ArrayList -/
def k18 : Class := { plain "java/util/ArrayList" (some 15) with
  accessFlags := 33
  interfaces := #[14, 16, 17, 3]
  cf := some (fileOf pool18 10 #[.nestMembers #[290, 276, 500, 502, 262, 267]] #[{ accessFlags := 1, nameIndex := 5, descriptorIndex := 6, attributes := #[] }] 33 2 #[148, 329, 331, 333] #[{ accessFlags := 26, nameIndex := 335, descriptorIndex := 336, attributes := #[] }, { accessFlags := 26, nameIndex := 340, descriptorIndex := 51, attributes := #[] }, { accessFlags := 26, nameIndex := 17, descriptorIndex := 14, attributes := #[] }, { accessFlags := 26, nameIndex := 41, descriptorIndex := 14, attributes := #[] }, { accessFlags := 128, nameIndex := 13, descriptorIndex := 14, attributes := #[] }, { accessFlags := 2, nameIndex := 50, descriptorIndex := 51, attributes := #[] }])
  fields := #[{ name := "serialVersionUID", type := .long, accessFlags := 26, slot := 0, constantValue := 0 }, { name := "DEFAULT_CAPACITY", type := .int, accessFlags := 26, slot := 1, constantValue := 0 }, { name := "EMPTY_ELEMENTDATA", type := (.array (.object "java/lang/Object")), accessFlags := 26, slot := 2, constantValue := 0 }, { name := "DEFAULTCAPACITY_EMPTY_ELEMENTDATA", type := (.array (.object "java/lang/Object")), accessFlags := 26, slot := 3, constantValue := 0 }, { name := "elementData", type := (.array (.object "java/lang/Object")), accessFlags := 128, slot := 1, constantValue := 0 }, { name := "size", type := .int, accessFlags := 2, slot := 2, constantValue := 0 }]
  methods := #[k18m0]
  instanceTypes := #[.int, (.array (.object "java/lang/Object")), .int]
  staticTypes := #[.long, .int, (.array (.object "java/lang/Object")), (.array (.object "java/lang/Object"))]
  resolved := Array.replicate 509 none
  statics := some 2 }

def pool19 : Array CpInfo := pool [(1, .methodref 2 3), (0, .class_ 4), (0, .nameAndType 5 6), (0, u "java/lang/Object"), (0, u "<init>"), (0, u "()V"), (0, .class_ 8), (0, u "java/lang/Record")] 13

def k19c0 : Code := { maxStack := 1, maxLocals := 1, code := jdk_30_method_1_code, exceptionTable := #[], attributes := #[] }
def k19m0 : Method := { name := "<init>", desc := "()V", sig := { parameters := [], returnType := none }, accessFlags := 4, code := some k19c0 }
/-- java/lang/Record -/
def k19 : Class := { plain "java/lang/Record" (some 0) with
  accessFlags := 1057
  interfaces := #[]
  cf := some (fileOf pool19 7 #[] #[{ accessFlags := 4, nameIndex := 5, descriptorIndex := 6, attributes := #[] }] 1057 2 #[] #[])
  fields := #[]
  methods := #[k19m0]
  instanceTypes := #[]
  staticTypes := #[]
  resolved := Array.replicate 22 none
  statics := none }

def pool20 : Array CpInfo := pool [(1, .methodref 2 3), (0, .class_ 4), (0, .nameAndType 5 6), (0, u "java/lang/Record"), (0, u "<init>"), (0, u "()V"), (0, .fieldref 8 9), (0, .class_ 10), (0, .nameAndType 11 12), (0, u "com/example/offst/offst/protocol/JoinGroupRequest"), (0, u "groupId"), (0, u "Ljava/lang/String;"), (0, .fieldref 8 14), (0, .nameAndType 15 16), (0, u "sessionTimeoutMs"), (0, u "I"), (0, .fieldref 8 18), (0, .nameAndType 19 16), (0, u "rebalanceTimeoutMs"), (0, .fieldref 8 21), (0, .nameAndType 22 12), (0, u "memberId"), (0, .fieldref 8 24), (0, .nameAndType 25 12), (0, u "protocolType"), (0, .fieldref 8 27), (0, .nameAndType 28 29), (0, u "protocols"), (0, u "Ljava/util/List;"), (0, .fieldref 8 31), (0, .nameAndType 32 33), (0, u "takesMemberId"), (0, u "Z"), (9, u "()I"), (13, u "(Ljava/lang/String;IILjava/lang/String;Ljava/lang/String;Ljava/util/List;Z)V"), (0, .class_ 59), (0, u "com/example/offst/offst/protocol/JoinGroupRequest$Protocol"), (21, u "FIRST_MEMBER_ID_ROUND_VERSION"), (0, u "S")] 60

def k20c0 : Code := { maxStack := 2, maxLocals := 8, code := prog_74_method_1_code, exceptionTable := #[], attributes := #[] }
def k20m0 : Method := { name := "<init>", desc := "(Ljava/lang/String;IILjava/lang/String;Ljava/lang/String;Ljava/util/List;Z)V", sig := { parameters := [(.object "java/lang/String"), .int, .int, (.object "java/lang/String"), (.object "java/lang/String"), (.object "java/util/List"), .boolean], returnType := none }, accessFlags := 1, code := some k20c0 }
def k20c1 : Code := { maxStack := 1, maxLocals := 1, code := prog_74_method_7_code, exceptionTable := #[], attributes := #[] }
def k20m1 : Method := { name := "sessionTimeoutMs", desc := "()I", sig := { parameters := [], returnType := some .int }, accessFlags := 1, code := some k20c1 }
/-- com/example/offst/offst/protocol/JoinGroupRequest -/
def k20 : Class := { plain "com/example/offst/offst/protocol/JoinGroupRequest" (some 19) with
  accessFlags := 49
  interfaces := #[]
  cf := some (fileOf pool20 8 #[.nestMembers #[58]] #[{ accessFlags := 1, nameIndex := 5, descriptorIndex := 57, attributes := #[] }, { accessFlags := 1, nameIndex := 15, descriptorIndex := 43, attributes := #[] }] 49 2 #[] #[{ accessFlags := 18, nameIndex := 11, descriptorIndex := 12, attributes := #[] }, { accessFlags := 18, nameIndex := 15, descriptorIndex := 16, attributes := #[] }, { accessFlags := 18, nameIndex := 19, descriptorIndex := 16, attributes := #[] }, { accessFlags := 18, nameIndex := 22, descriptorIndex := 12, attributes := #[] }, { accessFlags := 18, nameIndex := 25, descriptorIndex := 12, attributes := #[] }, { accessFlags := 18, nameIndex := 28, descriptorIndex := 29, attributes := #[] }, { accessFlags := 18, nameIndex := 32, descriptorIndex := 33, attributes := #[] }, { accessFlags := 25, nameIndex := 81, descriptorIndex := 82, attributes := #[] }])
  fields := #[{ name := "groupId", type := (.object "java/lang/String"), accessFlags := 18, slot := 0, constantValue := 0 }, { name := "sessionTimeoutMs", type := .int, accessFlags := 18, slot := 1, constantValue := 0 }, { name := "rebalanceTimeoutMs", type := .int, accessFlags := 18, slot := 2, constantValue := 0 }, { name := "memberId", type := (.object "java/lang/String"), accessFlags := 18, slot := 3, constantValue := 0 }, { name := "protocolType", type := (.object "java/lang/String"), accessFlags := 18, slot := 4, constantValue := 0 }, { name := "protocols", type := (.object "java/util/List"), accessFlags := 18, slot := 5, constantValue := 0 }, { name := "takesMemberId", type := .boolean, accessFlags := 18, slot := 6, constantValue := 0 }, { name := "FIRST_MEMBER_ID_ROUND_VERSION", type := .short, accessFlags := 25, slot := 0, constantValue := 0 }]
  methods := #[k20m0, k20m1]
  instanceTypes := #[(.object "java/lang/String"), .int, .int, (.object "java/lang/String"), (.object "java/lang/String"), (.object "java/util/List"), .boolean]
  staticTypes := #[.short]
  resolved := Array.replicate 143 none
  statics := none }

def pool21 : Array CpInfo := pool [(2, .class_ 4), (1, u "java/lang/Enum"), (0, u "name"), (0, u "Ljava/lang/String;"), (2, u "ordinal"), (0, u "I"), (1, .class_ 14), (1, u "java/lang/Object"), (4, u "hash"), (86, .class_ 108), (1, u "java/lang/Enum$EnumDesc"), (2, .class_ 112), (0, u "java/lang/constant/Constable"), (0, .class_ 114), (0, u "java/lang/Comparable"), (0, .class_ 116), (0, u "java/io/Serializable")] 87

/-- java/lang/Enum -/
def k21 : Class := { plain "java/lang/Enum" (some 0) with
  accessFlags := 1057
  interfaces := #[6, 4, 3]
  cf := some (fileOf pool21 2 #[.nestMembers #[106]] #[] 1057 12 #[111, 113, 115] #[{ accessFlags := 18, nameIndex := 5, descriptorIndex := 6, attributes := #[] }, { accessFlags := 18, nameIndex := 9, descriptorIndex := 10, attributes := #[] }, { accessFlags := 2, nameIndex := 19, descriptorIndex := 10, attributes := #[] }])
  fields := #[{ name := "name", type := (.object "java/lang/String"), accessFlags := 18, slot := 0, constantValue := 0 }, { name := "ordinal", type := .int, accessFlags := 18, slot := 1, constantValue := 0 }, { name := "hash", type := .int, accessFlags := 2, slot := 2, constantValue := 0 }]
  methods := #[]
  instanceTypes := #[(.object "java/lang/String"), .int, .int]
  staticTypes := #[]
  resolved := Array.replicate 204 none
  statics := none }

def pool22 : Array CpInfo := pool [(1, .class_ 2), (0, u "java/util/concurrent/TimeUnit"), (2, u "NANOSECONDS"), (0, u "Ljava/util/concurrent/TimeUnit;"), (2, u "MICROSECONDS"), (2, u "MILLISECONDS"), (2, u "SECONDS"), (2, u "MINUTES"), (2, u "HOURS"), (2, u "DAYS"), (2, u "$VALUES"), (0, u "[Ljava/util/concurrent/TimeUnit;"), (6, .class_ 37), (1, u "java/lang/Enum"), (6, .fieldref 1 45), (0, .nameAndType 46 47), (0, u "scale"), (0, u "J"), (4, .fieldref 1 53), (0, .nameAndType 54 47), (0, u "maxNanos"), (4, u "microRatio"), (2, u "maxMicros"), (4, u "milliRatio"), (0, u "I"), (2, u "maxMillis"), (4, u "secRatio"), (2, u "maxSecs"), (8, u "toNanos"), (0, u "(J)J"), (73, .class_ 165), (1, u "java/util/concurrent/TimeUnit$1"), (46, u "NANO_SCALE"), (3, u "MICRO_SCALE"), (0, u "MILLI_SCALE"), (0, u "SECOND_SCALE"), (0, u "MINUTE_SCALE"), (0, u "HOUR_SCALE"), (0, u "DAY_SCALE")] 61

def k22c0 : Code := { maxStack := 6, maxLocals := 7, code := jdk_2799_method_7_code, exceptionTable := #[], attributes := #[] }
def k22m0 : Method := { name := "toNanos", desc := "(J)J", sig := { parameters := [.long], returnType := some .long }, accessFlags := 1, code := some k22c0 }
/-- java/util/concurrent/TimeUnit -/
def k22 : Class := { plain "java/util/concurrent/TimeUnit" (some 21) with
  accessFlags := 16433
  interfaces := #[]
  cf := some (fileOf pool22 1 #[.nestMembers #[163]] #[{ accessFlags := 1, nameIndex := 88, descriptorIndex := 89, attributes := #[] }] 16433 35 #[] #[{ accessFlags := 16409, nameIndex := 5, descriptorIndex := 6, attributes := #[] }, { accessFlags := 16409, nameIndex := 9, descriptorIndex := 6, attributes := #[] }, { accessFlags := 16409, nameIndex := 12, descriptorIndex := 6, attributes := #[] }, { accessFlags := 16409, nameIndex := 15, descriptorIndex := 6, attributes := #[] }, { accessFlags := 16409, nameIndex := 18, descriptorIndex := 6, attributes := #[] }, { accessFlags := 16409, nameIndex := 21, descriptorIndex := 6, attributes := #[] }, { accessFlags := 16409, nameIndex := 24, descriptorIndex := 6, attributes := #[] }, { accessFlags := 26, nameIndex := 212, descriptorIndex := 47, attributes := #[] }, { accessFlags := 26, nameIndex := 216, descriptorIndex := 47, attributes := #[] }, { accessFlags := 26, nameIndex := 217, descriptorIndex := 47, attributes := #[] }, { accessFlags := 26, nameIndex := 218, descriptorIndex := 47, attributes := #[] }, { accessFlags := 26, nameIndex := 219, descriptorIndex := 47, attributes := #[] }, { accessFlags := 26, nameIndex := 220, descriptorIndex := 47, attributes := #[] }, { accessFlags := 26, nameIndex := 221, descriptorIndex := 47, attributes := #[] }, { accessFlags := 18, nameIndex := 46, descriptorIndex := 47, attributes := #[] }, { accessFlags := 18, nameIndex := 54, descriptorIndex := 47, attributes := #[] }, { accessFlags := 18, nameIndex := 62, descriptorIndex := 47, attributes := #[] }, { accessFlags := 18, nameIndex := 71, descriptorIndex := 47, attributes := #[] }, { accessFlags := 18, nameIndex := 79, descriptorIndex := 47, attributes := #[] }, { accessFlags := 18, nameIndex := 59, descriptorIndex := 47, attributes := #[] }, { accessFlags := 18, nameIndex := 67, descriptorIndex := 68, attributes := #[] }, { accessFlags := 18, nameIndex := 76, descriptorIndex := 68, attributes := #[] }, { accessFlags := 4122, nameIndex := 27, descriptorIndex := 28, attributes := #[] }])
  fields := #[{ name := "NANOSECONDS", type := (.object "java/util/concurrent/TimeUnit"), accessFlags := 16409, slot := 0, constantValue := 0 }, { name := "MICROSECONDS", type := (.object "java/util/concurrent/TimeUnit"), accessFlags := 16409, slot := 1, constantValue := 0 }, { name := "MILLISECONDS", type := (.object "java/util/concurrent/TimeUnit"), accessFlags := 16409, slot := 2, constantValue := 0 }, { name := "SECONDS", type := (.object "java/util/concurrent/TimeUnit"), accessFlags := 16409, slot := 3, constantValue := 0 }, { name := "MINUTES", type := (.object "java/util/concurrent/TimeUnit"), accessFlags := 16409, slot := 4, constantValue := 0 }, { name := "HOURS", type := (.object "java/util/concurrent/TimeUnit"), accessFlags := 16409, slot := 5, constantValue := 0 }, { name := "DAYS", type := (.object "java/util/concurrent/TimeUnit"), accessFlags := 16409, slot := 6, constantValue := 0 }, { name := "NANO_SCALE", type := .long, accessFlags := 26, slot := 7, constantValue := 0 }, { name := "MICRO_SCALE", type := .long, accessFlags := 26, slot := 8, constantValue := 0 }, { name := "MILLI_SCALE", type := .long, accessFlags := 26, slot := 9, constantValue := 0 }, { name := "SECOND_SCALE", type := .long, accessFlags := 26, slot := 10, constantValue := 0 }, { name := "MINUTE_SCALE", type := .long, accessFlags := 26, slot := 11, constantValue := 0 }, { name := "HOUR_SCALE", type := .long, accessFlags := 26, slot := 12, constantValue := 0 }, { name := "DAY_SCALE", type := .long, accessFlags := 26, slot := 13, constantValue := 0 }, { name := "scale", type := .long, accessFlags := 18, slot := 3, constantValue := 0 }, { name := "maxNanos", type := .long, accessFlags := 18, slot := 4, constantValue := 0 }, { name := "maxMicros", type := .long, accessFlags := 18, slot := 5, constantValue := 0 }, { name := "maxMillis", type := .long, accessFlags := 18, slot := 6, constantValue := 0 }, { name := "maxSecs", type := .long, accessFlags := 18, slot := 7, constantValue := 0 }, { name := "microRatio", type := .long, accessFlags := 18, slot := 8, constantValue := 0 }, { name := "milliRatio", type := .int, accessFlags := 18, slot := 9, constantValue := 0 }, { name := "secRatio", type := .int, accessFlags := 18, slot := 10, constantValue := 0 }, { name := "$VALUES", type := (.array (.object "java/util/concurrent/TimeUnit")), accessFlags := 4122, slot := 14, constantValue := 0 }]
  methods := #[k22m0]
  instanceTypes := #[(.object "java/lang/String"), .int, .int, .long, .long, .long, .long, .long, .long, .int, .int]
  staticTypes := #[(.object "java/util/concurrent/TimeUnit"), (.object "java/util/concurrent/TimeUnit"), (.object "java/util/concurrent/TimeUnit"), (.object "java/util/concurrent/TimeUnit"), (.object "java/util/concurrent/TimeUnit"), (.object "java/util/concurrent/TimeUnit"), (.object "java/util/concurrent/TimeUnit"), .long, .long, .long, .long, .long, .long, .long, (.array (.object "java/util/concurrent/TimeUnit"))]
  resolved := Array.replicate 283 none
  statics := some 3 }

def pool23 : Array CpInfo := pool [(2, .class_ 4), (1, u "java/lang/Object"), (0, u "<init>"), (0, u "()V"), (17, .class_ 26), (1, u "jdk/internal/util/Preconditions"), (28, .class_ 56), (0, u "jdk/internal/util/Preconditions$4"), (57, .class_ 115), (0, u "jdk/internal/util/Preconditions$1"), (7, u "SIOOBE_FORMATTER"), (0, u "Ljava/util/function/BiFunction;"), (0, .class_ 126), (0, u "jdk/internal/util/Preconditions$2"), (3, u "AIOOBE_FORMATTER"), (0, .class_ 132), (0, u "jdk/internal/util/Preconditions$3"), (3, u "IOOBE_FORMATTER")] 57

def k23m0 : Method := { name := "<init>", desc := "()V", sig := { parameters := [], returnType := none }, accessFlags := 1, code := none }
/-- jdk/internal/util/Preconditions -/
def k23 : Class := { plain "jdk/internal/util/Preconditions" (some 0) with
  accessFlags := 33
  interfaces := #[]
  cf := some (fileOf pool23 24 #[.nestMembers #[55, 131, 125, 114]] #[{ accessFlags := 1, nameIndex := 5, descriptorIndex := 6, attributes := #[] }] 33 2 #[] #[{ accessFlags := 25, nameIndex := 123, descriptorIndex := 124, attributes := #[] }, { accessFlags := 25, nameIndex := 130, descriptorIndex := 124, attributes := #[] }, { accessFlags := 25, nameIndex := 136, descriptorIndex := 124, attributes := #[] }])
  fields := #[{ name := "SIOOBE_FORMATTER", type := (.object "java/util/function/BiFunction"), accessFlags := 25, slot := 0, constantValue := 0 }, { name := "AIOOBE_FORMATTER", type := (.object "java/util/function/BiFunction"), accessFlags := 25, slot := 1, constantValue := 0 }, { name := "IOOBE_FORMATTER", type := (.object "java/util/function/BiFunction"), accessFlags := 25, slot := 2, constantValue := 0 }]
  methods := #[k23m0]
  instanceTypes := #[]
  staticTypes := #[(.object "java/util/function/BiFunction"), (.object "java/util/function/BiFunction"), (.object "java/util/function/BiFunction")]
  resolved := Array.replicate 194 none
  statics := some 4 }

def pool24 : Array CpInfo := pool [(9, u "<init>"), (6, .class_ 18), (1, u "java/lang/Object"), (0, u "()V"), (1, .class_ 23), (1, u "jdk/internal/util/ArraysSupport"), (0, u "LOG2_ARRAY_LONG_INDEX_SCALE"), (0, u "I"), (2, u "U"), (0, u "Ljdk/internal/misc/Unsafe;"), (8, u "BIG_ENDIAN"), (0, u "Z"), (8, u "LOG2_BYTE_BIT_SIZE"), (4, u "LOG2_ARRAY_INT_INDEX_SCALE"), (54, u "JLA"), (0, u "Ljdk/internal/access/JavaLangAccess;"), (11, u "LOG2_ARRAY_BOOLEAN_INDEX_SCALE"), (9, u "LOG2_ARRAY_BYTE_INDEX_SCALE"), (5, u "LOG2_ARRAY_CHAR_INDEX_SCALE"), (5, u "LOG2_ARRAY_SHORT_INDEX_SCALE"), (18, u "LOG2_ARRAY_FLOAT_INDEX_SCALE"), (24, u "LOG2_ARRAY_DOUBLE_INDEX_SCALE"), (89, u "T_BOOLEAN"), (2, u "T_CHAR"), (1, u "T_FLOAT"), (1, u "T_DOUBLE"), (1, u "T_BYTE"), (1, u "T_SHORT"), (1, u "T_INT"), (1, u "T_LONG"), (1, u "SOFT_MAX_ARRAY_LENGTH")] 83

def k24m0 : Method := { name := "<init>", desc := "()V", sig := { parameters := [], returnType := none }, accessFlags := 2, code := none }
/-- jdk/internal/util/ArraysSupport -/
def k24 : Class := { plain "jdk/internal/util/ArraysSupport" (some 0) with
  accessFlags := 33
  interfaces := #[]
  cf := some (fileOf pool24 21 #[] #[{ accessFlags := 2, nameIndex := 9, descriptorIndex := 19, attributes := #[] }] 33 16 #[] #[{ accessFlags := 24, nameIndex := 28, descriptorIndex := 29, attributes := #[] }, { accessFlags := 26, nameIndex := 38, descriptorIndex := 39, attributes := #[] }, { accessFlags := 25, nameIndex := 121, descriptorIndex := 25, attributes := #[] }, { accessFlags := 25, nameIndex := 131, descriptorIndex := 25, attributes := #[] }, { accessFlags := 25, nameIndex := 137, descriptorIndex := 25, attributes := #[] }, { accessFlags := 25, nameIndex := 143, descriptorIndex := 25, attributes := #[] }, { accessFlags := 25, nameIndex := 53, descriptorIndex := 25, attributes := #[] }, { accessFlags := 25, nameIndex := 24, descriptorIndex := 25, attributes := #[] }, { accessFlags := 25, nameIndex := 162, descriptorIndex := 25, attributes := #[] }, { accessFlags := 25, nameIndex := 187, descriptorIndex := 25, attributes := #[] }, { accessFlags := 26, nameIndex := 48, descriptorIndex := 25, attributes := #[] }, { accessFlags := 25, nameIndex := 277, descriptorIndex := 25, attributes := #[] }, { accessFlags := 25, nameIndex := 280, descriptorIndex := 25, attributes := #[] }, { accessFlags := 25, nameIndex := 282, descriptorIndex := 25, attributes := #[] }, { accessFlags := 25, nameIndex := 284, descriptorIndex := 25, attributes := #[] }, { accessFlags := 25, nameIndex := 286, descriptorIndex := 25, attributes := #[] }, { accessFlags := 25, nameIndex := 288, descriptorIndex := 25, attributes := #[] }, { accessFlags := 25, nameIndex := 290, descriptorIndex := 25, attributes := #[] }, { accessFlags := 25, nameIndex := 292, descriptorIndex := 25, attributes := #[] }, { accessFlags := 26, nameIndex := 108, descriptorIndex := 109, attributes := #[] }, { accessFlags := 25, nameIndex := 294, descriptorIndex := 25, attributes := #[] }])
  fields := #[{ name := "U", type := (.object "jdk/internal/misc/Unsafe"), accessFlags := 24, slot := 0, constantValue := 0 }, { name := "BIG_ENDIAN", type := .boolean, accessFlags := 26, slot := 1, constantValue := 0 }, { name := "LOG2_ARRAY_BOOLEAN_INDEX_SCALE", type := .int, accessFlags := 25, slot := 2, constantValue := 0 }, { name := "LOG2_ARRAY_BYTE_INDEX_SCALE", type := .int, accessFlags := 25, slot := 3, constantValue := 0 }, { name := "LOG2_ARRAY_CHAR_INDEX_SCALE", type := .int, accessFlags := 25, slot := 4, constantValue := 0 }, { name := "LOG2_ARRAY_SHORT_INDEX_SCALE", type := .int, accessFlags := 25, slot := 5, constantValue := 0 }, { name := "LOG2_ARRAY_INT_INDEX_SCALE", type := .int, accessFlags := 25, slot := 6, constantValue := 0 }, { name := "LOG2_ARRAY_LONG_INDEX_SCALE", type := .int, accessFlags := 25, slot := 7, constantValue := 0 }, { name := "LOG2_ARRAY_FLOAT_INDEX_SCALE", type := .int, accessFlags := 25, slot := 8, constantValue := 0 }, { name := "LOG2_ARRAY_DOUBLE_INDEX_SCALE", type := .int, accessFlags := 25, slot := 9, constantValue := 0 }, { name := "LOG2_BYTE_BIT_SIZE", type := .int, accessFlags := 26, slot := 10, constantValue := 0 }, { name := "T_BOOLEAN", type := .int, accessFlags := 25, slot := 11, constantValue := 0 }, { name := "T_CHAR", type := .int, accessFlags := 25, slot := 12, constantValue := 0 }, { name := "T_FLOAT", type := .int, accessFlags := 25, slot := 13, constantValue := 0 }, { name := "T_DOUBLE", type := .int, accessFlags := 25, slot := 14, constantValue := 0 }, { name := "T_BYTE", type := .int, accessFlags := 25, slot := 15, constantValue := 0 }, { name := "T_SHORT", type := .int, accessFlags := 25, slot := 16, constantValue := 0 }, { name := "T_INT", type := .int, accessFlags := 25, slot := 17, constantValue := 0 }, { name := "T_LONG", type := .int, accessFlags := 25, slot := 18, constantValue := 0 }, { name := "JLA", type := (.object "jdk/internal/access/JavaLangAccess"), accessFlags := 26, slot := 19, constantValue := 0 }, { name := "SOFT_MAX_ARRAY_LENGTH", type := .int, accessFlags := 25, slot := 20, constantValue := 0 }]
  methods := #[k24m0]
  instanceTypes := #[]
  staticTypes := #[(.object "jdk/internal/misc/Unsafe"), .boolean, .int, .int, .int, .int, .int, .int, .int, .int, .int, .int, .int, .int, .int, .int, .int, .int, .int, (.object "jdk/internal/access/JavaLangAccess"), .int]
  resolved := Array.replicate 378 none
  statics := none }

/-- the primitive byte -/
def k25 : Class := { plain "byte" none with kind := .primitive 'B', accessFlags := 0x411 }
/-- [B -/
def k26 : Class := { plain "[B" (some 0) with kind := .array 25 .byte, interfaces := #[17, 3], accessFlags := 1041 }

/-- the primitive int -/
def k27 : Class := { plain "int" none with kind := .primitive 'I', accessFlags := 0x411 }
/-- [I -/
def k28 : Class := { plain "[I" (some 0) with kind := .array 27 .int, interfaces := #[17, 3], accessFlags := 1041 }

/-- [Ljava/lang/Object; -/
def k29 : Class := { plain "[Ljava/lang/Object;" (some 0) with kind := .array 0 (.object "java/lang/Object"), interfaces := #[17, 3], accessFlags := 1041 }

def heap : Heap := #[{ cls := 2, slots := #[.ref 5], vm := .statics 2 },
  { cls := 8, slots := #[.long 0, .int 1, .null, .int 0, .null, .int 0, .int 0], vm := .statics 8 },
  { cls := 18, slots := #[.long 0, .int 0, .ref 9, .ref 10], vm := .statics 18 },
  { cls := 22, slots := #[.null, .null, .ref 6, .null, .null, .null, .null, .long 0, .long 0, .long 0, .long 0, .long 0, .long 0, .long 0, .null], vm := .statics 22 },
  { cls := 23, slots := #[.null, .null, .null], vm := .statics 23 },
  { cls := 26, slots := #[], vm := .none },
  { cls := 22, slots := #[.ref 7, .int 2, .int 0, .long 1000000, .long 9223372036854, .long 9223372036854775, .long 9223372036854775807, .long 9223372036854775, .long 1000, .int 1, .int 1000], vm := .none },
  { cls := 8, slots := #[.ref 8, .int 0, .int 0, .int 0], vm := .none },
  { cls := 26, slots := #[], vm := .none },
  { cls := 29, slots := #[], vm := .none },
  { cls := 29, slots := #[], vm := .none }]
def classes : Array Class := #[k0, k1, k2, k3, k4, k5, k6, k7, k8, k9, k10, k11, k12, k13, k14, k15, k16, k17, k18, k19, k20, k21, k22, k23, k24, k25, k26, k27, k28, k29]
def interned : List (Array UInt16 × Addr) := []
def slotsUsed : Nat := 45
def theMethod : MethodId := ⟨1, 1⟩
def args0 : Array Value := #[.long 10, .int 3, .long 4, .int 3, .int 65]
def aboutOver (below : List Frame) : State where
  vm := { classes := classes, interned := interned.toArray }
  heap := heap
  slotsUsed := slotsUsed
  threads := #[{ frames := .invoking theMethod args0 :: below }]
def below0 : List Frame := [.native { method := ⟨0, 0⟩, args := #[] }]
def about1 : State := aboutOver below0
def p0 : Program := .bare "" "" ""
def e0 : Env := launch0.env 0 0 0
theorem w_frames : about1.frames = Frame.invoking theMethod args0 :: below0 := rfl
set_option maxRecDepth 65536 in
theorem w_args : argsFit about1.vm theMethod args0 = true := by decide +kernel
set_option maxRecDepth 65536 in
theorem w_heap : heapFits about1 = true := by decide +kernel
set_option maxRecDepth 65536 in
theorem w_runnable : about1.curStatus? = some .runnable := by decide +kernel
set_option maxRecDepth 65536 in
theorem w_alone : about1.alone = true := by decide +kernel
set_option maxRecDepth 65536 in
theorem w_named : about1.methodNamed? x = some theMethod := by decide +kernel
set_option maxRecDepth 65536 in
theorem w_hears : about1.hears theMethod below0 = true := by decide +kernel
set_option maxRecDepth 65536 in
theorem w_ripe : about1.ripe theMethod args0 below0 = true := by decide +kernel
theorem w_running : about1.status = .running := rfl
set_option maxRecDepth 65536 in
theorem w_room : about1.hasRoom e0.platform room_1 = true :=
  launch0.hasRoom_least _ room_1 (by decide +kernel) (by decide +kernel) (by decide +kernel) (by decide +kernel) (by decide +kernel) (by decide +kernel)
theorem allAtoms_all (ts : List Jvm.Cond) (a : Array Jvm.Value) (st : Jvm.State) : (allAtoms ts).before a st = ts.all (fun c => c.before a st) := by
  induction ts with
  | nil => rfl
  | cons c t ih =>
    show (Jvm.Cond.and c (allAtoms t)).before a st = _
    rw [Jvm.Cond.before_and, ih, List.all_cons]
def words1 : List Jvm.Cond := Jvm.Cond.code x code maxLocals ret :: tables_1
/-- a 'code' word, met by the world's own term for the bytes: nothing is compared byte by byte -/
theorem code_word {y : MethodName} {bytes : ByteArray} {mx : Nat} {rt : Option FieldType} {a : Array Value} {s : State} {m : MethodId} {meth : Method} {c : Code} (h1 : s.methodNamed? y = some m) (h2 : s.vm.method? m = some meth) (h3 : meth.code = some c) (h4 : c.code = bytes)
    (h5 : (c.maxLocals == mx && c.exceptionTable.isEmpty && decide (c.maxStack ≤ mostOperands) && decide (meth.sig.returnType = rt) && !meth.locks && decide (parseMethodDescriptor y.desc = some meth.sig)) = true) : (Jvm.Cond.code y bytes mx rt).before a s = true := by
  simp only [Bool.and_eq_true, beq_iff_eq, Bool.not_eq_true', decide_eq_true_eq] at h5
  obtain ⟨⟨⟨⟨⟨g1, g2⟩, g3⟩, g4⟩, g5⟩, g6⟩ := h5
  simp [Cond.before, Cond.holds, Cond.value, h1, h2, h3, h4, g1, g2, g3, g4, g5, g6]
def isCode : Jvm.Cond → Bool
  | .code _ _ _ _ => true
  | _ => false
theorem all_split {L : List Jvm.Cond} {P : Jvm.Cond → Bool} (h1 : L.all (fun c => isCode c || P c) = true) (h2 : ∀ c ∈ L.filter isCode, P c = true) : L.all P = true := by
  refine List.all_eq_true.mpr fun c hc => ?_
  have h := List.all_eq_true.mp h1 c hc
  rcases Bool.eq_false_or_eq_true (isCode c) with hi | hi
  · exact h2 c (List.mem_filter.mpr ⟨hc, hi⟩)
  · simpa [hi] using h
set_option maxRecDepth 65536 in
theorem w_c0 : (Jvm.Cond.code x code maxLocals ret).before args0 about1 = true := code_word (m := ⟨1, 1⟩) (meth := k1m1) (c := k1c1) (by decide +kernel) rfl rfl rfl (by decide +kernel)
set_option maxRecDepth 65536 in
theorem w_c1 : (Jvm.Cond.code ({ cls := "java/lang/String", name := "valueOf", desc := "(C)Ljava/lang/String;" } : Jvm.MethodName) jdk_42_method_139_code (1 : Nat) (Option.some (Jvm.ClassFile.FieldType.object "java/lang/String"))).before args0 about1 = true := code_word (m := ⟨8, 1⟩) (meth := k8m1) (c := k8c1) (by decide +kernel) rfl rfl rfl (by decide +kernel)
set_option maxRecDepth 65536 in
theorem w_c2 : (Jvm.Cond.code ({ cls := "java/lang/StringLatin1", name := "canEncode", desc := "(C)Z" } : Jvm.MethodName) jdk_43_method_3_code (1 : Nat) (Option.some Jvm.ClassFile.FieldType.boolean)).before args0 about1 = true := code_word (m := ⟨9, 1⟩) (meth := k9m1) (c := k9c1) (by decide +kernel) rfl rfl rfl (by decide +kernel)
set_option maxRecDepth 65536 in
theorem w_c3 : (Jvm.Cond.code ({ cls := "java/lang/StringLatin1", name := "toBytes", desc := "(C)[B" } : Jvm.MethodName) jdk_43_method_46_code (1 : Nat) (Option.some (Jvm.ClassFile.FieldType.array Jvm.ClassFile.FieldType.byte))).before args0 about1 = true := code_word (m := ⟨9, 2⟩) (meth := k9m2) (c := k9c2) (by decide +kernel) rfl rfl rfl (by decide +kernel)
set_option maxRecDepth 65536 in
theorem w_c4 : (Jvm.Cond.code ({ cls := "java/lang/String", name := "<init>", desc := "([BB)V" } : Jvm.MethodName) jdk_42_method_151_code (3 : Nat) (Option.none : Option Jvm.ClassFile.FieldType)).before args0 about1 = true := code_word (m := ⟨8, 2⟩) (meth := k8m2) (c := k8c2) (by decide +kernel) rfl rfl rfl (by decide +kernel)
set_option maxRecDepth 65536 in
theorem w_c5 : (Jvm.Cond.code ({ cls := "java/lang/Object", name := "<init>", desc := "()V" } : Jvm.MethodName) object_method_1_code (1 : Nat) (Option.none : Option Jvm.ClassFile.FieldType)).before args0 about1 = true := code_word (m := ⟨0, 0⟩) (meth := k0m0) (c := k0c0) (by decide +kernel) rfl rfl rfl (by decide +kernel)
set_option maxRecDepth 65536 in
theorem w_c6 : (Jvm.Cond.code ({ cls := "com/example/offst/offst/group/Member", name := "<init>", desc := "(Ljava/lang/String;)V" } : Jvm.MethodName) prog_26_method_1_code (2 : Nat) (Option.none : Option Jvm.ClassFile.FieldType)).before args0 about1 = true := code_word (m := ⟨2, 0⟩) (meth := k2m0) (c := k2c0) (by decide +kernel) rfl rfl rfl (by decide +kernel)
set_option maxRecDepth 65536 in
theorem w_c7 : (Jvm.Cond.code ({ cls := "java/util/ArrayList", name := "<init>", desc := "()V" } : Jvm.MethodName) jdk_38_method_2_code (1 : Nat) (Option.none : Option Jvm.ClassFile.FieldType)).before args0 about1 = true := code_word (m := ⟨18, 0⟩) (meth := k18m0) (c := k18c0) (by decide +kernel) rfl rfl rfl (by decide +kernel)
set_option maxRecDepth 65536 in
theorem w_c8 : (Jvm.Cond.code ({ cls := "java/util/AbstractList", name := "<init>", desc := "()V" } : Jvm.MethodName) jdk_39_method_1_code (1 : Nat) (Option.none : Option Jvm.ClassFile.FieldType)).before args0 about1 = true := code_word (m := ⟨15, 0⟩) (meth := k15m0) (c := k15c0) (by decide +kernel) rfl rfl rfl (by decide +kernel)
set_option maxRecDepth 65536 in
theorem w_c9 : (Jvm.Cond.code ({ cls := "java/util/AbstractCollection", name := "<init>", desc := "()V" } : Jvm.MethodName) jdk_22_method_1_code (1 : Nat) (Option.none : Option Jvm.ClassFile.FieldType)).before args0 about1 = true := code_word (m := ⟨12, 0⟩) (meth := k12m0) (c := k12c0) (by decide +kernel) rfl rfl rfl (by decide +kernel)
set_option maxRecDepth 65536 in
theorem w_c10 : (Jvm.Cond.code ({ cls := "com/example/offst/offst/protocol/JoinGroupRequest", name := "<init>", desc := "(Ljava/lang/String;IILjava/lang/String;Ljava/lang/String;Ljava/util/List;Z)V" } : Jvm.MethodName) prog_74_method_1_code (8 : Nat) (Option.none : Option Jvm.ClassFile.FieldType)).before args0 about1 = true := code_word (m := ⟨20, 0⟩) (meth := k20m0) (c := k20c0) (by decide +kernel) rfl rfl rfl (by decide +kernel)
set_option maxRecDepth 65536 in
theorem w_c11 : (Jvm.Cond.code ({ cls := "java/lang/Record", name := "<init>", desc := "()V" } : Jvm.MethodName) jdk_30_method_1_code (1 : Nat) (Option.none : Option Jvm.ClassFile.FieldType)).before args0 about1 = true := code_word (m := ⟨19, 0⟩) (meth := k19m0) (c := k19c0) (by decide +kernel) rfl rfl rfl (by decide +kernel)
set_option maxRecDepth 65536 in
theorem w_c12 : (Jvm.Cond.code ({ cls := "com/example/offst/offst/group/Member", name := "joinWith", desc := "(Lcom/example/offst/offst/protocol/JoinGroupRequest;J)V" } : Jvm.MethodName) prog_26_method_6_code (4 : Nat) (Option.none : Option Jvm.ClassFile.FieldType)).before args0 about1 = true := code_word (m := ⟨2, 1⟩) (meth := k2m1) (c := k2c1) (by decide +kernel) rfl rfl rfl (by decide +kernel)
set_option maxRecDepth 65536 in
theorem w_c13 : (Jvm.Cond.code ({ cls := "com/example/offst/offst/group/Member", name := "renewSession", desc := "(J)V" } : Jvm.MethodName) prog_26_method_9_code (3 : Nat) (Option.none : Option Jvm.ClassFile.FieldType)).before args0 about1 = true := code_word (m := ⟨2, 2⟩) (meth := k2m2) (c := k2c2) (by decide +kernel) rfl rfl rfl (by decide +kernel)
set_option maxRecDepth 65536 in
theorem w_c14 : (Jvm.Cond.code ({ cls := "com/example/offst/offst/protocol/JoinGroupRequest", name := "sessionTimeoutMs", desc := "()I" } : Jvm.MethodName) prog_74_method_7_code (1 : Nat) (Option.some Jvm.ClassFile.FieldType.int)).before args0 about1 = true := code_word (m := ⟨20, 1⟩) (meth := k20m1) (c := k20c1) (by decide +kernel) rfl rfl rfl (by decide +kernel)
set_option maxRecDepth 65536 in
theorem w_c15 : (Jvm.Cond.code ({ cls := "java/util/concurrent/TimeUnit", name := "toNanos", desc := "(J)J" } : Jvm.MethodName) jdk_2799_method_7_code (7 : Nat) (Option.some Jvm.ClassFile.FieldType.long)).before args0 about1 = true := code_word (m := ⟨22, 0⟩) (meth := k22m0) (c := k22c0) (by decide +kernel) rfl rfl rfl (by decide +kernel)
set_option maxRecDepth 65536 in
theorem w_c16 : (Jvm.Cond.code ({ cls := "com/example/offst/offst/group/Member", name := "hasTimedOut", desc := "(J)Z" } : Jvm.MethodName) prog_26_method_10_code (3 : Nat) (Option.some Jvm.ClassFile.FieldType.boolean)).before args0 about1 = true := code_word (m := ⟨2, 3⟩) (meth := k2m3) (c := k2c3) (by decide +kernel) rfl rfl rfl (by decide +kernel)
def codes1 : List Jvm.Cond := [Jvm.Cond.code x code maxLocals ret, Jvm.Cond.code ({ cls := "java/lang/String", name := "valueOf", desc := "(C)Ljava/lang/String;" } : Jvm.MethodName) jdk_42_method_139_code (1 : Nat) (Option.some (Jvm.ClassFile.FieldType.object "java/lang/String")), Jvm.Cond.code ({ cls := "java/lang/StringLatin1", name := "canEncode", desc := "(C)Z" } : Jvm.MethodName) jdk_43_method_3_code (1 : Nat) (Option.some Jvm.ClassFile.FieldType.boolean), Jvm.Cond.code ({ cls := "java/lang/StringLatin1", name := "toBytes", desc := "(C)[B" } : Jvm.MethodName) jdk_43_method_46_code (1 : Nat) (Option.some (Jvm.ClassFile.FieldType.array Jvm.ClassFile.FieldType.byte)), Jvm.Cond.code ({ cls := "java/lang/String", name := "<init>", desc := "([BB)V" } : Jvm.MethodName) jdk_42_method_151_code (3 : Nat) (Option.none : Option Jvm.ClassFile.FieldType), Jvm.Cond.code ({ cls := "java/lang/Object", name := "<init>", desc := "()V" } : Jvm.MethodName) object_method_1_code (1 : Nat) (Option.none : Option Jvm.ClassFile.FieldType), Jvm.Cond.code ({ cls := "com/example/offst/offst/group/Member", name := "<init>", desc := "(Ljava/lang/String;)V" } : Jvm.MethodName) prog_26_method_1_code (2 : Nat) (Option.none : Option Jvm.ClassFile.FieldType), Jvm.Cond.code ({ cls := "java/util/ArrayList", name := "<init>", desc := "()V" } : Jvm.MethodName) jdk_38_method_2_code (1 : Nat) (Option.none : Option Jvm.ClassFile.FieldType), Jvm.Cond.code ({ cls := "java/util/AbstractList", name := "<init>", desc := "()V" } : Jvm.MethodName) jdk_39_method_1_code (1 : Nat) (Option.none : Option Jvm.ClassFile.FieldType), Jvm.Cond.code ({ cls := "java/util/AbstractCollection", name := "<init>", desc := "()V" } : Jvm.MethodName) jdk_22_method_1_code (1 : Nat) (Option.none : Option Jvm.ClassFile.FieldType), Jvm.Cond.code ({ cls := "com/example/offst/offst/protocol/JoinGroupRequest", name := "<init>", desc := "(Ljava/lang/String;IILjava/lang/String;Ljava/lang/String;Ljava/util/List;Z)V" } : Jvm.MethodName) prog_74_method_1_code (8 : Nat) (Option.none : Option Jvm.ClassFile.FieldType), Jvm.Cond.code ({ cls := "java/lang/Record", name := "<init>", desc := "()V" } : Jvm.MethodName) jdk_30_method_1_code (1 : Nat) (Option.none : Option Jvm.ClassFile.FieldType), Jvm.Cond.code ({ cls := "com/example/offst/offst/group/Member", name := "joinWith", desc := "(Lcom/example/offst/offst/protocol/JoinGroupRequest;J)V" } : Jvm.MethodName) prog_26_method_6_code (4 : Nat) (Option.none : Option Jvm.ClassFile.FieldType), Jvm.Cond.code ({ cls := "com/example/offst/offst/group/Member", name := "renewSession", desc := "(J)V" } : Jvm.MethodName) prog_26_method_9_code (3 : Nat) (Option.none : Option Jvm.ClassFile.FieldType), Jvm.Cond.code ({ cls := "com/example/offst/offst/protocol/JoinGroupRequest", name := "sessionTimeoutMs", desc := "()I" } : Jvm.MethodName) prog_74_method_7_code (1 : Nat) (Option.some Jvm.ClassFile.FieldType.int), Jvm.Cond.code ({ cls := "java/util/concurrent/TimeUnit", name := "toNanos", desc := "(J)J" } : Jvm.MethodName) jdk_2799_method_7_code (7 : Nat) (Option.some Jvm.ClassFile.FieldType.long), Jvm.Cond.code ({ cls := "com/example/offst/offst/group/Member", name := "hasTimedOut", desc := "(J)Z" } : Jvm.MethodName) prog_26_method_10_code (3 : Nat) (Option.some Jvm.ClassFile.FieldType.boolean)]
set_option maxRecDepth 65536 in
theorem codes_eq : words1.filter isCode = codes1 := rfl
theorem w_codes : ∀ c ∈ words1.filter isCode, c.before args0 about1 = true := by
  rw [codes_eq]
  intro c hc
  simp only [codes1, List.mem_cons, List.not_mem_nil, or_false] at hc
  rcases hc with rfl | rfl | rfl | rfl | rfl | rfl | rfl | rfl | rfl | rfl | rfl | rfl | rfl | rfl | rfl | rfl | rfl
  · exact w_c0
  · exact w_c1
  · exact w_c2
  · exact w_c3
  · exact w_c4
  · exact w_c5
  · exact w_c6
  · exact w_c7
  · exact w_c8
  · exact w_c9
  · exact w_c10
  · exact w_c11
  · exact w_c12
  · exact w_c13
  · exact w_c14
  · exact w_c15
  · exact w_c16
set_option maxRecDepth 65536 in
theorem w_t1 : (words1.take 24).all (fun c => isCode c || c.before args0 about1) = true := by decide +kernel
set_option maxRecDepth 65536 in
theorem w_t2 : ((words1.drop 24).take 24).all (fun c => isCode c || c.before args0 about1) = true := by decide +kernel
set_option maxRecDepth 65536 in
theorem w_t3 : (((words1.drop 24).drop 24).take 24).all (fun c => isCode c || c.before args0 about1) = true := by decide +kernel
set_option maxRecDepth 65536 in
theorem w_t4 : ((((words1.drop 24).drop 24).drop 24).take 24).all (fun c => isCode c || c.before args0 about1) = true := by decide +kernel
set_option maxRecDepth 65536 in
theorem w_t5 : (((((words1.drop 24).drop 24).drop 24).drop 24).take 24).all (fun c => isCode c || c.before args0 about1) = true := by decide +kernel
set_option maxRecDepth 65536 in
theorem w_t6 : (((((words1.drop 24).drop 24).drop 24).drop 24).drop 24).all (fun c => isCode c || c.before args0 about1) = true := by decide +kernel
theorem w_tables : (allAtoms (Jvm.Cond.code x code maxLocals ret :: tables_1)).before args0 about1 = true := by
  rw [allAtoms_all]
  show words1.all (fun c => c.before args0 about1) = true
  refine all_split ?_ w_codes
  rw [← List.take_append_drop 24 words1, List.all_append, w_t1, ← List.take_append_drop 24 (words1.drop 24), List.all_append, w_t2, ← List.take_append_drop 24 ((words1.drop 24).drop 24), List.all_append, w_t3, ← List.take_append_drop 24 (((words1.drop 24).drop 24).drop 24), List.all_append, w_t4, ← List.take_append_drop 24 ((((words1.drop 24).drop 24).drop 24).drop 24), List.all_append, w_t5, w_t6]
  rfl
set_option maxRecDepth 65536 in
theorem w_rest : rest_1_c.before args0 about1 = true := by decide +kernel
set_option maxRecDepth 65536 in
theorem w_case : (Jvm.Cond.and given_1 narrow_1).before args0 about1 = true := by decide +kernel
theorem w_applies : (headSpec (Jvm.Cond.code x code maxLocals ret :: tables_1) room_1).applies x e0.platform about1 = true :=
  (Spec.applies_iff w_frames).mpr ⟨w_running, w_runnable, w_alone, w_named, w_hears, w_ripe, w_room, w_tables⟩
theorem atStart : AtStart classFile x code maxLocals ret World_1 tables_1 room_1 Calls_1 rest_1 Pre_1 launch0 p0 e0 about1 theMethod args0 below0 :=
  ⟨lists_1, trivial, launch0.admits_env _ _ _, launch0.least_env, fairChoices_fair.cas, fairChoices_fair.clock, w_frames, w_args, w_heap, w_applies, trivial, w_rest, w_case⟩
end start1
theorem witness_1 : WitnessClaimed_1 := ⟨start1.p0, start1.e0, start1.about1, start1.theMethod, start1.args0, start1.below0, start1.atStart⟩
end Jvm.Pilot.@@N@@
