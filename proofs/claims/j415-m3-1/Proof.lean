import JvmDerived
import JvmDerived.Pilot.@@N@@Statement
import JvmDerived.Pilot.@@N@@Code
set_option linter.unusedVariables false
set_option linter.unusedSimpArgs false
namespace Jvm.RoadKit
open Sem ClassFile Op Lib Jvm.Stand Jvm.Free Jvm.LawKit
section New
variable {p : Program} {l : Launch} {e : Env} {R : Room} {s : State} {m : MethodId} {args : Array Value} {below : List Frame} {meth : Method} {c : Code} {T : State} {locs : List Loc} {cells slots : Nat}
theorem retI (X : Stand p l e R s m args below meth c T locs cells slots) (hx : p.tables.exec = Jvm.exec) {pc : Nat} {Ls : Array Slot} {z : Int32} {rest : List Value} (hret : meth.sig.returnType = some .int) (hd : decode c.code pc = .ok (.ireturn, 1)) {fs : List Frame}
    (hl : ∀ (f : JFrame) (acts : List Action), f.method = m → f.locked = none → f.entered = [] → (doReturn e (T.setTop f) acts (some (.int z))).1 = T.setFrames fs) : Steps p.tables e below (T.setTop (mkF m pc Ls (.int z :: rest))) (T.setFrames fs) := by
  have hm' : T.vm.method? m = some meth := X.method'
  have hn : narrow .int (.int z) = .int z := rfl
  show Steps p.tables e below (T.setTop { method := m, pc := pc, locals := Ls, stack := _ :: rest, locked := none }) _
  jvm_step X.here [X.here.top, hx, hd, hm', hret, hn]
  first | (intro acts; rw [hl _ acts rfl rfl rfl]) | rw [hl _ _ rfl rfl rfl]
  exact Steps.refl _
end New
end Jvm.RoadKit
namespace Jvm.Pilot.@@N@@
open Jvm Jvm.ClassFile Sem Op Lib Jvm.Free Jvm.Stand Jvm.LawKit Jvm.RoadKit Bundle Jvm.Pilot.@@N@@.Jvm.D
abbrev OwnG (tb : Tables) (e : Env) (below : List Frame) (R : State → Outcome → Prop) (cur : State) : Prop := ∃ s₂ o, Steps tb e below cur s₂ ∧ R s₂ o
theorem own_go {tb : Tables} {e : Env} {below : List Frame} {R : State → Outcome → Prop} {cur nxt : State} (h : ∀ t, Steps tb e below nxt t → Steps tb e below cur t) (k : OwnG tb e below R nxt) : OwnG tb e below R cur := by
  obtain ⟨s₂, o, h1, h2⟩ := k
  exact ⟨s₂, o, h _ h1, h2⟩
abbrev OG {tb : Tables} {e : Env} {below : List Frame} {R : State → Outcome → Prop} (m : MethodId) (T : State) (pc : Nat) (L : Array Slot) (S : List Value) : Prop := OwnG tb e below R (T.setTop (mkF m pc L S))
abbrev sI (x : Int32) : Slot := .val (.int x)
abbrev sR (x : Addr) : Slot := .val (.ref x)
abbrev sU : Slot := .unset
theorem tw {Z : State} {a0 : Array Value} (hw : ∀ d ∈ tables_1, d.before a0 Z = true) (i : Nat) {d : Jvm.Cond} (h : tables_1[i]? = some d) : d.before a0 Z = true := hw _ (List.mem_of_getElem? h)
theorem og {tb : Tables} {e : Env} {below : List Frame} {R : State → Outcome → Prop} {cur nxt : State} (h : ∀ {t}, Steps tb e below nxt t → Steps tb e below cur t) (k : OwnG tb e below R nxt) : OwnG tb e below R cur := own_go (fun _ => h) k
theorem own_named {tb : Tables} {e : Env} {below : List Frame} {R : State → Outcome → Prop} {cur : State} (k : ∀ R', R' = R → OwnG tb e below R' cur) : OwnG tb e below R cur := k R rfl
theorem own_pick {α : Type} (c : Prop) (a b : α) : ∃ z : α, (c → z = a) ∧ (¬ c → z = b) := by
  by_cases h : c
  · exact ⟨a, fun _ => rfl, fun q => absurd h q⟩
  · exact ⟨b, fun q => absurd q h, fun _ => rfl⟩
theorem own_selself {s : State} {args : Array Value} {C : String} {y : MethodName} (h : (Cond.selects C y y).before args s = true) (hpriv : s.PrivateAt y) (hinst : (Cond.instanceMethod y).before args s = true) (hy : y.cls ≠ "java/lang/invoke/MethodHandle" ∧ y.cls ≠ "java/lang/invoke/VarHandle") : (Cond.selects y.cls y y).before args s = true := by
  obtain ⟨_, _, m, -, -, q3, -, kP, hkP, hkPi⟩ := Cond.selects_spec h
  exact Jvm.Stand.selects_self_of_private (findClass_of_methodNamed q3) hkP hkPi hpriv hinst hy
theorem own_sameself {Z : State} {a0 : Array Value} {C : String} {y z : MethodName} (hz : z.cls = y.cls) (w3 : (Cond.instanceMethod y).before a0 Z = true) (ws : (Cond.selects C z z).before a0 Z = true) (hy : y.cls ≠ "java/lang/invoke/MethodHandle" ∧ y.cls ≠ "java/lang/invoke/VarHandle") : (Cond.sameMethod y.cls y.cls y.name y.desc).before a0 Z = true := by
  obtain ⟨mk, methM, hnamed, hmethM, -, -⟩ := Cond.instanceMethod_spec w3
  obtain ⟨_, _, m, -, -, q3, -, kP, hkP, hkPi⟩ := Cond.selects_spec ws
  have hc := findClass_of_methodNamed q3
  rw [hz] at hc
  have hf := State.methodFound?_of_named hnamed hy
  have hn : Z.methodNamed? ⟨y.cls, y.name, y.desc⟩ = some mk := hnamed
  simp [Cond.before, Cond.holds, Cond.value, hc, hf, hn, hkP, hkPi]
theorem own_notface {Z : State} {a0 : Array Value} {C : String} {y z : MethodName} (hz : z.cls = y.cls) (ws : (Cond.selects C z z).before a0 Z = true) : NotFace Z y := fun r0 h0 => by
  obtain ⟨_, _, m, -, -, q3, -, kP, hkP, hkPi⟩ := Cond.selects_spec ws
  have hc := findClass_of_methodNamed q3
  rw [hz] at hc
  have e : m.cls = r0.cls := Option.some.inj (hc.symm.trans (findClass_of_methodNamed h0))
  exact ⟨kP, by rw [← e]; exact hkP, hkPi⟩
theorem own_ne_or {a d x n : Nat} (h : x = d ∨ n ≤ x) (h1 : a ≠ d) (h2 : a < n) : a ≠ x := by
  rcases h with h | h <;> omega
theorem own_ge_or {d x n k : Nat} (h : x = d ∨ n ≤ x) (h1 : k ≤ d) (h2 : k ≤ n) : k ≤ x := by
  rcases h with h | h <;> omega
theorem own_in_or {d x n k : Nat} {ws : List Nat} (h : x = d ∨ n ≤ x) (h1 : d ∈ ws) (h2 : k ≤ n) : x ∈ ws ∨ k ≤ x := by
  rcases h with rfl | h
  · exact Or.inl h1
  · exact Or.inr (Nat.le_trans h2 h)
theorem own_iw_or {d x n k : Nat} {ws : List Nat} (h : x = d ∨ n ≤ x) (h1 : d ∈ ws ∨ k ≤ d) (h2 : k ≤ n) : x ∈ ws ∨ k ≤ x := by
  rcases h with rfl | h
  · exact h1
  · exact Or.inr (Nat.le_trans h2 h)
section OwnStat
variable {args : Array Value} {s : State} {t u w : Term} {a b : Addr} {cl : Cell} {ty : FieldType}
theorem own_eqI {v : Int32} (h : (Cond.eq t (.int v)).value args s none s [] = some true) : t.eval args s none [] s = some (.int v) := by
  cases hx : t.eval args s none [] s with
  | none => simp [Cond.value, Term.eval, hx] at h
  | some y => cases y <;> simp [Cond.value, Term.eval, hx] at h; rw [h]
theorem own_eqJ {v : Int64} (h : (Cond.eq t (.long v)).value args s none s [] = some true) : t.eval args s none [] s = some (.long v) := by
  cases hx : t.eval args s none [] s with
  | none => simp [Cond.value, Term.eval, hx] at h
  | some y => cases y <;> simp [Cond.value, Term.eval, hx] at h; rw [h]
theorem own_eqR (h : (Cond.eq t u).value args s none s [] = some true) (hu : u.eval args s none [] s = some (.ref b)) : t.eval args s none [] s = some (.ref b) := by
  cases hx : t.eval args s none [] s with
  | none => simp [Cond.value, hu, hx] at h
  | some y => cases y <;> simp [Cond.value, hu, hx] at h; rw [h]
theorem own_neI {i v : Int32} (h : (Cond.not (.eq t (.int v))).value args s none s [] = some true) (ev : t.eval args s none [] s = some (.int i)) : i ≠ v := by
  intro e
  subst e
  simp [Cond.value, ev, Term.eval] at h
theorem own_len {n : Int32} (ev : t.eval args s none [] s = some (.ref a)) (A : Arr s s.heap a cl ty) (h : (Cond.eq (.length t) (.int n)).value args s none s [] = some true) : cl.slots.size < 2 ^ 31 ∧ cl.slots.size.toInt32 = n := by
  have e := own_eqI h
  have hA : s.arrayAt? a = some cl := A.fin (Vm.Alike.refl _)
  by_cases q : cl.slots.size < 2 ^ 31
  · rw [len_f ev hA q] at e
    exact ⟨q, by cases e; rfl⟩
  · simp [Term.eval, ev, hA, q] at e
theorem own_elem {j : Int32} {v : Value} (hj : ¬ j < 0) (ev : t.eval args s none [] s = some (.ref a)) (A : Arr s s.heap a cl ty) (h : (Term.elem t (.int j)).eval args s none [] s = some v) : cl.slots[j.toNatClampNeg]? = some v := by
  rw [elem_f (a := .int j) ev rfl (A.fin (Vm.Alike.refl _)) hj] at h; exact h
theorem own_fld {C n d : String} {v : Value} (ev : t.eval args s none [] s = some (.ref a)) (h : (Term.field t C n d).eval args s none [] s = some v) : Fld s s.heap a C n d v :=
  Fld.start (by rw [← fld_at ev]; exact h)
end OwnStat

abbrev own_B (bs : List Int32) : List Value := bs.map Value.int
theorem own_B_get (bs : List Int32) (i : Nat) (h : bs.length ≤ i) : (own_B bs).getD i (.int 0) = .int 0 := by
  simp [List.getD_eq_getElem?_getD, h]
theorem own_copy (bs : List Int32) (n : Nat) (h : bs.length ≤ n) (i : Nat) : (own_B bs).getD i (.int (0 : Int32)) = ((List.replicate n (Value.int 0)).take (0 : Int32).toNatClampNeg ++ (List.range n).map (fun j => (own_B bs).getD ((0 : Int32).toNatClampNeg + j) (.int (0 : Int32))) ++ (List.replicate n (Value.int 0)).drop ((0 : Int32).toNatClampNeg + n)).getD i (.int (0 : Int32)) := by
  simp only [show (0 : Int32).toNatClampNeg = 0 from rfl, List.take_zero, List.nil_append, Nat.zero_add, List.drop_replicate, Nat.sub_self, List.replicate_zero, List.append_nil]
  by_cases c : i < n
  · simp [List.getD_eq_getElem?_getD, c]
  · have c2 : n ≤ i := by omega
    rw [own_B_get bs i (by omega)]
    simp [List.getD_eq_getElem?_getD, c2]
theorem own_push (bs : List Int32) (v : Int32) : (own_B bs ++ List.replicate 1 (Value.int 0)).set bs.length (.int v) = own_B (bs ++ [v]) := by
  rw [List.set_append]; simp
theorem own_pushlen (bs : List Int32) : bs.length < (own_B bs ++ List.replicate 1 (Value.int 0)).length := by simp
theorem own_setv {Z : State} {h : Heap} {a : Addr} {k : ClassId} {ty : FieldType} {z : Int32} {vs ws : List Value} {dv : Value} {i : Nat} {x y : Int32} (q : Arv Z h a k ty z (vs.set i (.int x)) dv) (e : x = y) (e2 : vs.set i (.int y) = ws) : Arv Z h a k ty z ws dv := by
  subst e; subst e2; exact q
theorem own_fillV (bs suf : List Int32) (m : Nat) (v : Int32) : (own_B (bs ++ List.replicate (m + 1) (0 : Int32) ++ suf)).set (bs.length + m) (.int v) = own_B (bs ++ List.replicate m 0 ++ (v :: suf)) := by
  rw [← List.map_set]; congr 1
  rw [List.append_assoc, List.append_assoc, List.set_append]
  simp only [Nat.not_lt.mpr (Nat.le_add_right bs.length m), if_false, Nat.add_sub_cancel_left]
  congr 1
  induction m with
  | zero => simp
  | succ m ih => simp only [List.replicate_succ, List.cons_append, List.set_cons_succ]; congr 1
theorem own_shr0 (x : Int32) : x >>> ((0 : Int32) &&& 31) = x := by
  have h := c_ishr x 0 0 (by decide); apply Int32.toInt_inj.mp; rw [h]; simp
theorem own_shl0 (x : Int32) : x <<< ((0 : Int32) &&& 31) = x := by
  have h := c_ishl x 0 0 (by decide); have r1 := rng32 x; have r2 := rng32 (x <<< ((0 : Int32) &&& 31)); apply Int32.toInt_inj.mp; rw [show ((2 ^ 0 : Nat) : Int) = 1 from rfl, Int.mul_one] at h; omega
theorem own_join (bs cs : List Int32) (p sl : Int32) (h1 : p.toNatClampNeg = bs.length) (h2 : sl.toNatClampNeg = cs.length) (i : Nat) : (own_B (bs ++ cs)).getD i (.int (0 : Int32)) = ((own_B bs ++ List.replicate cs.length (Value.int 0)).take p.toNatClampNeg ++ (List.range sl.toNatClampNeg).map (fun j => (own_B cs).getD ((0 : Int32).toNatClampNeg + j) (.int (0 : Int32))) ++ (own_B bs ++ List.replicate cs.length (Value.int 0)).drop (p.toNatClampNeg + sl.toNatClampNeg)).getD i (.int (0 : Int32)) := by
  have e1 : (own_B bs ++ List.replicate cs.length (Value.int 0)).take p.toNatClampNeg = own_B bs := by rw [h1]; exact List.take_left' (List.length_map ..)
  have e2 : (own_B bs ++ List.replicate cs.length (Value.int 0)).drop (p.toNatClampNeg + sl.toNatClampNeg) = [] := by rw [h1, h2]; apply List.drop_eq_nil_of_le; simp
  have e3 : (List.range sl.toNatClampNeg).map (fun j => (own_B cs).getD ((0 : Int32).toNatClampNeg + j) (.int (0 : Int32))) = own_B cs := by
    rw [h2, show (0 : Int32).toNatClampNeg = 0 from rfl]
    apply List.ext_getElem (by simp)
    intro j a b
    have : j < cs.length := by simpa using a
    simp [List.getD_eq_getElem?_getD, this]
  rw [e1, e2, e3, List.append_nil, own_B, List.map_append]
def own_mx (a b : Int32) : Int32 := if a < b then b else a
def own_mn (a b : Int32) : Int32 := if b < a then b else a
theorem own_mn_le {a b : Int32} (h : a.toInt ≤ b.toInt) : own_mn a b = a := if_neg (by rw [Int32.lt_iff_toInt_lt]; omega)
abbrev own_nc (cap m : Int32) : Int32 := cap + (own_mx (m - cap) (cap + (2 : Int32)))
theorem own_nc_val {cap m : Int32} (hc : ¬ cap < 0 ∧ cap.toInt ≤ 74) (hm : m.toInt ≤ 37) (hg : cap.toInt < m.toInt) : m.toInt ≤ (own_nc cap m).toInt ∧ (own_nc cap m).toInt ≤ 74 := by
  have h0 := hc.1; rw [Int32.lt_iff_toInt_lt, show (0 : Int32).toInt = 0 from rfl] at h0
  have e2 : (2 : Int32).toInt = 2 := rfl
  have a1 := c_isub m cap; have r1 := rng32 (m - cap); have b1 : (m - cap).toInt = m.toInt - cap.toInt := by omega
  have a2 := c_iadd cap 2; have r2 := rng32 (cap + 2); have b2 : (cap + 2).toInt = cap.toInt + 2 := by omega
  have hmx : (own_mx (m - cap) (cap + 2)).toInt = (m - cap).toInt ∨ (own_mx (m - cap) (cap + 2)).toInt = (cap + 2).toInt := by unfold own_mx; split <;> simp
  have hge : (m - cap).toInt ≤ (own_mx (m - cap) (cap + 2)).toInt := by
    unfold own_mx; split
    · rename_i c; rw [Int32.lt_iff_toInt_lt] at c; omega
    · exact Int.le_refl _
  have a3 := c_iadd cap (own_mx (m - cap) (cap + 2)); have r3 := rng32 (cap + own_mx (m - cap) (cap + 2))
  have b3 : (cap + own_mx (m - cap) (cap + 2)).toInt = cap.toInt + (own_mx (m - cap) (cap + 2)).toInt := by rcases hmx with q | q <;> omega
  show m.toInt ≤ (cap + own_mx (m - cap) (cap + 2)).toInt ∧ (cap + own_mx (m - cap) (cap + 2)).toInt ≤ 74
  rcases hmx with q | q <;> omega
theorem own_gt0 {x m : Int32} (h : m.toInt ≤ x.toInt) (h2 : 0 < m.toInt) : (0 : Int32) < x := by rw [Int32.lt_iff_toInt_lt]; have : (0 : Int32).toInt = 0 := rfl; omega
theorem own_nbig {x : Int32} (h : x.toInt ≤ 74) : ¬ (2147483639 : Int32) < x := by rw [Int32.lt_iff_toInt_lt]; have : (2147483639 : Int32).toInt = 2147483639 := rfl; omega
theorem own_nmax {x : Int32} (h : x.toInt ≤ 74) : ¬ x = (2147483647 : Int32) := fun q => by rw [q] at h; exact absurd h (by decide)
theorem own_clamp {x : Int32} (h : ¬ x < 0) : (x.toNatClampNeg : Int) = x.toInt := by
  rw [Int32.lt_iff_toInt_lt, show (0 : Int32).toInt = 0 from rfl] at h; simp only [Int32.toNatClampNeg]; omega
theorem own_nn {x : Int32} (h : 0 ≤ x.toInt) : ¬ x < 0 := by rw [Int32.lt_iff_toInt_lt, show (0 : Int32).toInt = 0 from rfl]; omega
theorem own_cnt {cnt k : Int32} {n j : Int} (h : cnt.toInt = n) (hk : k.toInt = j) (h1 : 0 ≤ n + j) (h2 : n + j ≤ 1000) : (cnt + k).toInt = n + j := by
  have a := c_iadd cnt k; have r := rng32 (cnt + k); omega
theorem own_cnt1 {cnt : Int32} {n : Int} (h : cnt.toInt = n) (h2 : 0 ≤ n ∧ n < 37) : (cnt + (1 : Int32)).toInt = n + 1 := own_cnt h rfl (by omega) (by omega)
theorem own_sub_pos {m cap : Int32} (hc : ¬ cap < 0 ∧ cap.toInt ≤ 74) (hm : 0 ≤ m.toInt ∧ m.toInt ≤ 37) : ((0 : Int32) < m - cap) ↔ cap.toInt < m.toInt := by
  have h0 := hc.1; rw [Int32.lt_iff_toInt_lt, show (0 : Int32).toInt = 0 from rfl] at h0
  have a1 := c_isub m cap; have r1 := rng32 (m - cap)
  rw [Int32.lt_iff_toInt_lt, show (0 : Int32).toInt = 0 from rfl]; omega
def own_ds (v : Nat) : Nat → List Int32
  | 0 => []
  | d + 1 => Int32.ofNat (48 + v / 10 ^ d % 10) :: own_ds v d
theorem own_ds_len (v : Nat) : ∀ d, (own_ds v d).length = d
  | 0 => rfl
  | d + 1 => by simp [own_ds, own_ds_len v d]
theorem own_ds_get (v : Nat) : ∀ d k, k < d → (own_ds v d)[d - 1 - k]? = some (Int32.ofNat (48 + v / 10 ^ k % 10))
  | 0, k, h => absurd h (Nat.not_lt_zero _)
  | d + 1, k, h => by
    by_cases e : k = d
    · subst e; simp [own_ds]
    · have h2 : k < d := by omega
      have h3 : d + 1 - 1 - k = (d - 1 - k) + 1 := by omega
      rw [h3]; simp only [own_ds, List.getElem?_cons_succ]
      exact own_ds_get v d k h2
def own_nd (v : Nat) : Nat := if v < 10 then 1 else if v < 100 then 2 else if v < 1000 then 3 else if v < 10000 then 4 else if v < 100000 then 5 else if v < 1000000 then 6 else if v < 10000000 then 7 else if v < 100000000 then 8 else if v < 1000000000 then 9 else 10
theorem own_nd_rng (v : Nat) : 1 ≤ own_nd v ∧ own_nd v ≤ 10 := by unfold own_nd; repeat' split
                                                                  all_goals omega
theorem own_nd_eq (v i : Nat) (h1 : 1 ≤ i ∧ i ≤ 10) (lo : i = 1 ∨ 10 ^ (i - 1) ≤ v) (up : i = 10 ∨ v < 10 ^ i) : own_nd v = i := by
  obtain rfl | rfl | rfl | rfl | rfl | rfl | rfl | rfl | rfl | rfl : i = 1 ∨ i = 2 ∨ i = 3 ∨ i = 4 ∨ i = 5 ∨ i = 6 ∨ i = 7 ∨ i = 8 ∨ i = 9 ∨ i = 10 := by omega
  · simp at up
    rw [own_nd, if_pos (show v < 10 by omega)]
  · simp at lo up
    rw [own_nd, if_neg (show ¬ v < 10 by omega), if_pos (show v < 100 by omega)]
  · simp at lo up
    rw [own_nd, if_neg (show ¬ v < 10 by omega), if_neg (show ¬ v < 100 by omega), if_pos (show v < 1000 by omega)]
  · simp at lo up
    rw [own_nd, if_neg (show ¬ v < 10 by omega), if_neg (show ¬ v < 100 by omega), if_neg (show ¬ v < 1000 by omega), if_pos (show v < 10000 by omega)]
  · simp at lo up
    rw [own_nd, if_neg (show ¬ v < 10 by omega), if_neg (show ¬ v < 100 by omega), if_neg (show ¬ v < 1000 by omega), if_neg (show ¬ v < 10000 by omega), if_pos (show v < 100000 by omega)]
  · simp at lo up
    rw [own_nd, if_neg (show ¬ v < 10 by omega), if_neg (show ¬ v < 100 by omega), if_neg (show ¬ v < 1000 by omega), if_neg (show ¬ v < 10000 by omega), if_neg (show ¬ v < 100000 by omega), if_pos (show v < 1000000 by omega)]
  · simp at lo up
    rw [own_nd, if_neg (show ¬ v < 10 by omega), if_neg (show ¬ v < 100 by omega), if_neg (show ¬ v < 1000 by omega), if_neg (show ¬ v < 10000 by omega), if_neg (show ¬ v < 100000 by omega), if_neg (show ¬ v < 1000000 by omega), if_pos (show v < 10000000 by omega)]
  · simp at lo up
    rw [own_nd, if_neg (show ¬ v < 10 by omega), if_neg (show ¬ v < 100 by omega), if_neg (show ¬ v < 1000 by omega), if_neg (show ¬ v < 10000 by omega), if_neg (show ¬ v < 100000 by omega), if_neg (show ¬ v < 1000000 by omega), if_neg (show ¬ v < 10000000 by omega), if_pos (show v < 100000000 by omega)]
  · simp at lo up
    rw [own_nd, if_neg (show ¬ v < 10 by omega), if_neg (show ¬ v < 100 by omega), if_neg (show ¬ v < 1000 by omega), if_neg (show ¬ v < 10000 by omega), if_neg (show ¬ v < 100000 by omega), if_neg (show ¬ v < 1000000 by omega), if_neg (show ¬ v < 10000000 by omega), if_neg (show ¬ v < 100000000 by omega), if_pos (show v < 1000000000 by omega)]
  · simp at lo
    rw [own_nd, if_neg (show ¬ v < 10 by omega), if_neg (show ¬ v < 100 by omega), if_neg (show ¬ v < 1000 by omega), if_neg (show ¬ v < 10000 by omega), if_neg (show ¬ v < 100000 by omega), if_neg (show ¬ v < 1000000 by omega), if_neg (show ¬ v < 10000000 by omega), if_neg (show ¬ v < 100000000 by omega), if_neg (show ¬ v < 1000000000 by omega)]
theorem own_nd_lo (v t : Nat) (h1 : 1 ≤ t ∧ t ≤ 9) (h : 10 ^ t ≤ v) : t < own_nd v := by
  obtain rfl | rfl | rfl | rfl | rfl | rfl | rfl | rfl | rfl : t = 1 ∨ t = 2 ∨ t = 3 ∨ t = 4 ∨ t = 5 ∨ t = 6 ∨ t = 7 ∨ t = 8 ∨ t = 9 := by omega
  · simp at h
    rw [own_nd, if_neg (show ¬ v < 10 by omega)]; repeat' split
    all_goals omega
  · simp at h
    rw [own_nd, if_neg (show ¬ v < 10 by omega), if_neg (show ¬ v < 100 by omega)]; repeat' split
    all_goals omega
  · simp at h
    rw [own_nd, if_neg (show ¬ v < 10 by omega), if_neg (show ¬ v < 100 by omega), if_neg (show ¬ v < 1000 by omega)]; repeat' split
    all_goals omega
  · simp at h
    rw [own_nd, if_neg (show ¬ v < 10 by omega), if_neg (show ¬ v < 100 by omega), if_neg (show ¬ v < 1000 by omega), if_neg (show ¬ v < 10000 by omega)]; repeat' split
    all_goals omega
  · simp at h
    rw [own_nd, if_neg (show ¬ v < 10 by omega), if_neg (show ¬ v < 100 by omega), if_neg (show ¬ v < 1000 by omega), if_neg (show ¬ v < 10000 by omega), if_neg (show ¬ v < 100000 by omega)]; repeat' split
    all_goals omega
  · simp at h
    rw [own_nd, if_neg (show ¬ v < 10 by omega), if_neg (show ¬ v < 100 by omega), if_neg (show ¬ v < 1000 by omega), if_neg (show ¬ v < 10000 by omega), if_neg (show ¬ v < 100000 by omega), if_neg (show ¬ v < 1000000 by omega)]; repeat' split
    all_goals omega
  · simp at h
    rw [own_nd, if_neg (show ¬ v < 10 by omega), if_neg (show ¬ v < 100 by omega), if_neg (show ¬ v < 1000 by omega), if_neg (show ¬ v < 10000 by omega), if_neg (show ¬ v < 100000 by omega), if_neg (show ¬ v < 1000000 by omega), if_neg (show ¬ v < 10000000 by omega)]; repeat' split
    all_goals omega
  · simp at h
    rw [own_nd, if_neg (show ¬ v < 10 by omega), if_neg (show ¬ v < 100 by omega), if_neg (show ¬ v < 1000 by omega), if_neg (show ¬ v < 10000 by omega), if_neg (show ¬ v < 100000 by omega), if_neg (show ¬ v < 1000000 by omega), if_neg (show ¬ v < 10000000 by omega), if_neg (show ¬ v < 100000000 by omega)]; repeat' split
    all_goals omega
  · simp at h
    rw [own_nd, if_neg (show ¬ v < 10 by omega), if_neg (show ¬ v < 100 by omega), if_neg (show ¬ v < 1000 by omega), if_neg (show ¬ v < 10000 by omega), if_neg (show ¬ v < 100000 by omega), if_neg (show ¬ v < 1000000 by omega), if_neg (show ¬ v < 10000000 by omega), if_neg (show ¬ v < 100000000 by omega), if_neg (show ¬ v < 1000000000 by omega)]; repeat' split
    all_goals omega
def own_sg (x : Int32) : Nat := if x < 0 then 1 else 0
def own_txt (x : Int32) : List Int32 := (if x < 0 then [45] else []) ++ own_ds x.toInt.natAbs (own_nd x.toInt.natAbs)
theorem own_txt_len (x : Int32) : (own_txt x).length = own_nd x.toInt.natAbs + own_sg x := by
  unfold own_txt own_sg; split <;> simp [own_ds_len]
def own_ssz (x : Int32) : Int32 := Int32.ofNat (own_nd x.toInt.natAbs + own_sg x)
theorem own_sg_le (x : Int32) : own_sg x ≤ 1 := by unfold own_sg; split <;> omega
theorem own_ofNat {n : Nat} (h : n ≤ 1000) : (Int32.ofNat n).toInt = (n : Int) := Int32.toInt_ofNat_of_lt (by omega)
theorem own_ssz_val (x : Int32) : (own_ssz x).toInt = ((own_nd x.toInt.natAbs + own_sg x : Nat) : Int) := own_ofNat (by have := own_nd_rng x.toInt.natAbs; have := own_sg_le x; omega)
theorem own_ss_leaf {x z r : Int32} (i s L U : Nat) (hs : (x < 0 ∧ s = 1 ∧ z = x) ∨ (¬ x < 0 ∧ s = 0 ∧ z = -x)) (h1 : 1 ≤ i ∧ i ≤ 10) (hL : L = 10 ^ (i - 1)) (hU : U = 10 ^ i) (lo : i = 1 ∨ z.toInt ≤ -(L : Int)) (up : i = 10 ∨ -(U : Int) < z.toInt) (hr : r.toInt = ((i + s : Nat) : Int)) : some (Value.int r) = some (Value.int (own_ssz x)) := by
  have e : (0 : Int32).toInt = 0 := rfl
  have hz : z.toInt = -(x.toInt.natAbs : Int) := by
    rcases hs with ⟨a, -, rfl⟩ | ⟨a, -, rfl⟩
    · rw [Int32.lt_iff_toInt_lt] at a; omega
    · rw [Int32.lt_iff_toInt_lt] at a; have q := c_ineg x; have q1 := rng32 x; have q2 := rng32 (-x); omega
  have hn : own_nd x.toInt.natAbs = i := own_nd_eq _ i h1 (lo.imp id (fun q => by rw [← hL]; omega)) (up.imp id (fun q => by rw [← hU]; omega))
  have hsg : own_sg x = s := by
    unfold own_sg; rcases hs with ⟨a, b, -⟩ | ⟨a, b, -⟩
    · rw [if_pos a, b]
    · rw [if_neg a, b]
  have : r = own_ssz x := Int32.toInt_inj.mp (by rw [own_ssz_val, hn, hsg, hr])
  rw [this]
theorem own_div100 {z : Int32} {n : Nat} (h : z.toInt = -(n : Int)) : (z / (100 : Int32)).toInt = -((n / 100 : Nat) : Int) := by
  have q := c_idiv z 100 100 rfl (by decide)
  by_cases c : z.toInt < 0
  · rw [q.2 c, h]; omega
  · have : n = 0 := by omega
    subst this; rw [q.1 (by omega), h]; rfl
theorem own_rem100 {z : Int32} {n : Nat} (h : z.toInt = -(n : Int)) (hn : n ≤ 2147483648) : (z / (100 : Int32) * (100 : Int32) - z).toInt = ((n % 100 : Nat) : Int) := by
  have q := own_div100 h; have e : (100 : Int32).toInt = 100 := rfl
  have a := c_imul (z / 100) 100; rw [q, e] at a; have r1 := rng32 (z / 100 * 100)
  have b1 : (z / 100 * 100).toInt = -((n / 100 : Nat) : Int) * 100 := by omega
  have c := c_isub (z / 100 * 100) z; have r2 := rng32 (z / 100 * 100 - z); rw [b1, h] at c
  omega
theorem own_neg {z : Int32} {n : Nat} (h : z.toInt = -(n : Int)) (hn : n < 2147483648) : (-z).toInt = (n : Int) := by
  have q := c_ineg z; have r := rng32 (-z); omega
theorem own_idx {z : Int32} {n : Nat} (h : z.toInt = (n : Int)) : ¬ z < 0 ∧ z.toNatClampNeg = n := by
  have e : (0 : Int32).toInt = 0 := rfl
  exact ⟨by rw [Int32.lt_iff_toInt_lt]; omega, by simp only [Int32.toNatClampNeg]; omega⟩
def own_ones : List Int32 := (List.range 100).map fun i => Int32.ofNat (48 + i % 10)
def own_tens : List Int32 := (List.range 100).map fun i => Int32.ofNat (48 + i / 10)
theorem own_ones_at {n : Nat} (h : n < 100) : (own_B own_ones).getD n (.int (0 : Int32)) = .int (Int32.ofNat (48 + n % 10)) := by
  simp [own_ones, List.getD_eq_getElem?_getD, h]
theorem own_tens_at {n : Nat} (h : n < 100) : (own_B own_tens).getD n (.int (0 : Int32)) = .int (Int32.ofNat (48 + n / 10)) := by
  simp [own_tens, List.getD_eq_getElem?_getD, h]
theorem own_one_at {r : Int32} {v D t : Nat} (h : r.toNatClampNeg = v / D % 100) (hD : D = 10 ^ t) : (own_B own_ones).getD r.toNatClampNeg (.int (0 : Int32)) = .int (Int32.ofNat (48 + v / 10 ^ t % 10)) := by
  subst hD; rw [h, own_ones_at (Nat.mod_lt _ (by decide))]; rw [show v / 10 ^ t % 100 % 10 = v / 10 ^ t % 10 by omega]
theorem own_ten_at {r : Int32} {v D t : Nat} (h : r.toNatClampNeg = v / D % 100) (hD : D = 10 ^ t) : (own_B own_tens).getD r.toNatClampNeg (.int (0 : Int32)) = .int (Int32.ofNat (48 + v / 10 ^ (t + 1) % 10)) := by
  subst hD; rw [h, own_tens_at (Nat.mod_lt _ (by decide))]; rw [show v / 10 ^ (t + 1) % 10 = v / 10 ^ t % 100 / 10 by rw [Nat.pow_succ, ← Nat.div_div_eq_div_mul]; omega]
theorem own_pos {p : Int32} {n m : Nat} (h : p.toInt = ((n + (m + 1) : Nat) : Int)) (hb : n + (m + 1) ≤ 1000) : (p + (-1 : Int32)).toInt = ((n + m : Nat) : Int) := by
  have q := c_iadd p (-1); have r := rng32 (p + (-1)); have e : (-1 : Int32).toInt = -1 := rfl; omega
theorem own_txt_eq {x : Int32} {t : Nat} (h : own_nd x.toInt.natAbs = t) : own_txt x = (if x < 0 then [45] else []) ++ own_ds x.toInt.natAbs t := by subst h; rfl
theorem own_padz (bs : List Int32) (n : Nat) (i : Nat) : (own_B (bs ++ List.replicate n (0 : Int32) ++ [])).getD i (.int (0 : Int32)) = (own_B bs).getD i (.int (0 : Int32)) := by
  rw [List.append_nil]
  by_cases c : i < bs.length
  · simp [List.getD_eq_getElem?_getD, List.getElem?_append, c]
  · by_cases c2 : i - bs.length < n <;> simp [List.getD_eq_getElem?_getD, List.getElem?_append, c, c2, List.getElem?_replicate]
theorem own_l1 {v t : Nat} (h : 9 < v / 10 ^ t) : 10 ^ (t + 1) ≤ v := by
  have q := (Nat.le_div_iff_mul_le (Nat.pow_pos (by decide : 0 < 10))).mp (show 10 ≤ v / 10 ^ t from h)
  rw [Nat.pow_succ]; omega
theorem own_l2 {v t : Nat} (h : 100 ≤ v / 10 ^ t) : 10 ^ (t + 1 + 1) ≤ v := by
  have q := (Nat.le_div_iff_mul_le (Nat.pow_pos (by decide : 0 < 10))).mp h
  rw [Nat.pow_succ, Nat.pow_succ]; omega
theorem own_u1 {v t : Nat} (h : v / 10 ^ t ≤ 9) : v < 10 ^ (t + 1) := by
  have q := (Nat.div_lt_iff_lt_mul (Nat.pow_pos (by decide : 0 < 10))).mp (show v / 10 ^ t < 10 by omega)
  rw [Nat.pow_succ]; omega
theorem own_u2 {v t : Nat} (h : v / 10 ^ t < 100) : v < 10 ^ (t + 1 + 1) := by
  have q := (Nat.div_lt_iff_lt_mul (Nat.pow_pos (by decide : 0 < 10))).mp h
  rw [Nat.pow_succ, Nat.pow_succ]; omega
theorem own_t9 {v t : Nat} (h : 10 ^ t ≤ v) (hv : v ≤ 2147483648) : t ≤ 9 := by
  by_cases c : t ≤ 9
  · exact c
  · have q : 10 ^ 10 ≤ 10 ^ t := Nat.pow_le_pow_right (by decide) (by omega)
    rw [show 10 ^ 10 = 10000000000 from rfl] at q; omega
theorem own_ndlt {v t : Nat} (h : t = 0 ∨ 10 ^ t ≤ v) (hv : v ≤ 2147483648) : t < own_nd v := by
  rcases h with rfl | h
  · have := own_nd_rng v; omega
  · by_cases c : t = 0
    · have := own_nd_rng v; omega
    · exact own_nd_lo v t ⟨by omega, own_t9 h hv⟩ h
theorem own_ndx1 {v t : Nat} (h : t = 0 ∨ 10 ^ t ≤ v) (hv : v ≤ 2147483648) (h9 : v / 10 ^ t ≤ 9) : own_nd v = t + 1 := by
  have h10 : t ≤ 9 := by
    rcases h with rfl | h
    · omega
    · exact own_t9 h hv
  refine own_nd_eq v (t + 1) ⟨by omega, by omega⟩ ?_ (Or.inr (own_u1 h9))
  rcases h with rfl | h
  · exact Or.inl rfl
  · exact Or.inr h
theorem own_ndx2 {v t : Nat} (hv : v ≤ 2147483648) (h9 : 9 < v / 10 ^ t) (hA : v / 10 ^ t < 100) : own_nd v = t + 1 + 1 := by
  have h := own_l1 h9
  exact own_nd_eq v (t + 1 + 1) ⟨by omega, by have := own_t9 h hv; omega⟩ (Or.inr h) (Or.inr (own_u2 hA))
theorem own_q2 (v t : Nat) : v / 10 ^ t / 100 = v / 10 ^ (t + 1 + 1) := by
  rw [Nat.div_div_eq_div_mul, Nat.pow_succ, Nat.pow_succ, Nat.mul_assoc]
theorem own_filllen (bs suf : List Int32) (m : Nat) : bs.length + m < (own_B (bs ++ List.replicate (m + 1) (0 : Int32) ++ suf)).length := by simp; omega
theorem own_ss_r {dd c : Int32} {sg i : Nat} (hd : dd.toInt = (sg : Int)) (h1 : sg ≤ 1) (hc : c.toInt = (i : Int)) (hi : i ≤ 10) : (c + dd).toInt = ((i + sg : Nat) : Int) := by
  have a := c_iadd c dd; have r := rng32 (c + dd); omega
theorem own_sub0 (x : Int32) : x - (0 : Int32) = x := by
  have a := c_isub x 0; have r := rng32 (x - 0); have r2 := rng32 x; have e : (0 : Int32).toInt = 0 := rfl; exact Int32.toInt_inj.mp (by omega)
theorem own_mn_ge {a b : Int32} (h : b.toInt ≤ a.toInt) : own_mn a b = b := by
  unfold own_mn; split
  · rfl
  · rename_i c; rw [Int32.lt_iff_toInt_lt] at c; exact Int32.toInt_inj.mp (by omega)
theorem own_narb (n : Nat) : nar .byte (Int32.ofNat (48 + n % 10)) = Int32.ofNat (48 + n % 10) := by
  have h : ∀ i : Fin 10, nar .byte (Int32.ofNat (48 + i.val)) = Int32.ofNat (48 + i.val) := by decide +kernel
  exact h ⟨n % 10, Nat.mod_lt _ (by decide)⟩
theorem own_nlt {c z : Int32} {L : Nat} (h : ¬ c < z) (hc : c.toInt = -(L : Int)) : z.toInt ≤ -(L : Int) := by rw [Int32.lt_iff_toInt_lt] at h; omega
theorem own_plt {c z : Int32} {L : Nat} (h : c < z) (hc : c.toInt = -(L : Int)) : -(L : Int) < z.toInt := by rw [Int32.lt_iff_toInt_lt] at h; omega
theorem own_lt100 {z : Int32} {n : Nat} (h : (-100 : Int32) < z) (hz : z.toInt = -(n : Int)) : n < 100 := by rw [Int32.lt_iff_toInt_lt, show (-100 : Int32).toInt = -100 from rfl] at h; omega
theorem own_ge100 {z : Int32} {n : Nat} (h : ¬ (-100 : Int32) < z) (hz : z.toInt = -(n : Int)) : 100 ≤ n := by rw [Int32.lt_iff_toInt_lt, show (-100 : Int32).toInt = -100 from rfl] at h; omega
theorem own_gt9 {z : Int32} {n : Nat} (h : z < (-9 : Int32)) (hz : z.toInt = -(n : Int)) : 9 < n := by rw [Int32.lt_iff_toInt_lt, show (-9 : Int32).toInt = -9 from rfl] at h; omega
theorem own_le9 {z : Int32} {n : Nat} (h : ¬ z < (-9 : Int32)) (hz : z.toInt = -(n : Int)) : n ≤ 9 := by rw [Int32.lt_iff_toInt_lt, show (-9 : Int32).toInt = -9 from rfl] at h; omega
theorem own_lt100n {z : Int32} {n : Nat} (hz : z.toInt = -(n : Int)) (h : n < 100) : (-100 : Int32) < z := by rw [Int32.lt_iff_toInt_lt, show (-100 : Int32).toInt = -100 from rfl]; omega
theorem own_lt_cap {z cap : Int32} {n : Nat} (hz : z.toInt = (n : Int)) (h : (n : Int) < cap.toInt) : ¬ z < 0 ∧ z < cap := ⟨(own_idx hz).1, by rw [Int32.lt_iff_toInt_lt]; omega⟩
theorem own_tab {args : Array Value} {s : State} {C n d : String} {a : Addr} {F : Term} {f : Nat → Int32} (ev : (Term.static C n d).eval args s none [] s = some (.ref a)) (E : Exa s s.heap a "[B") (wa : (Cond.arrayClass .byte).before args s = true)
    (hl : (Cond.eq (.length (.static C n d)) (.int 100)).value args s none s [] = some true) (ha : (Cond.all (.static C n d) (.eq (.elem (.static C n d) (.index 0)) F)).value args s none s [] = some true)
    (hF : ∀ i, i < 100 → F.eval args s none [i] s = some (.int (f i))) (hb : ∀ i, i < 100 → fits .byte (.int (f i)) = true) : ∃ k, Arv s s.heap a k .byte (100 : Int32) (own_B ((List.range 100).map f)) (.int (0 : Int32)) := by
  obtain ⟨a', cell, e1, e2, e3⟩ := Term.length_spec (own_eqI hl)
  cases ev.symm.trans e1
  obtain ⟨g1, g2, g3, -⟩ := State.arrayAt?_spec e2
  obtain ⟨c, kc, comp, w1, w2, w3⟩ := Cond.arrayClass_spec wa
  obtain ⟨cell', k', q1, q2, q3, q4, -⟩ := E
  cases g1.symm.trans q1
  have q5 : c = cell.cls := Option.some.inj (w1.symm.trans q2)
  subst q5
  have A : Arr s s.heap a cell .byte := ⟨g1, ⟨fun k e => (by rw [e] at g3; cases g3), kc, w2, comp, w3⟩, g2⟩
  obtain ⟨hsm, hln⟩ := own_len ev A hl
  have hsz : cell.slots.size = 100 := by
    have q : cell.slots.size.toInt32.toInt = cell.slots.size := len_toInt hsm
    rw [hln] at q; have : (100 : Int32).toInt = 100 := rfl; omega
  have hel : ∀ i, i < 100 → cell.slots[i]? = some (.int (f i)) := fun i hi => by
    have h := Cond.all_elim ev e2 ha i (by omega)
    have ev' : (Term.static C n d).eval args s none [i] s = some (.ref a) := ev
    have hi32 : (i.toInt32).toInt = i := len_toInt (by omega)
    have h1 : ¬ i.toInt32 < 0 := by rw [Int32.lt_iff_toInt_lt, hi32]; have : (0 : Int32).toInt = 0 := rfl; omega
    have h2 : i.toInt32.toNatClampNeg = i := by simp only [Int32.toNatClampNeg, hi32]; rfl
    have e4 : (Term.elem (.static C n d) (.index 0)).eval args s none [i] s = cell.slots[i]? := by
      have := elem_f (a := .index 0) (idx := [i]) (o := none) (first := s) ev' (show (Term.index 0).eval args s none [i] s = some (.int i.toInt32) from rfl) e2 h1
      rw [this, h2]
    have e5 := hF i hi
    cases hx : cell.slots[i]? with
    | none => rw [hx] at e4; simp [Cond.value, e4, e5] at h
    | some y => rw [hx] at e4; cases y <;> simp [Cond.value, e4, e5] at h; rw [h]
  have hgd : ∀ i, i < 100 → (own_B ((List.range 100).map f)).getD i (.int (0 : Int32)) = .int (f i) := fun i hi => by simp [List.getD_eq_getElem?_getD, hi]
  refine ⟨cell.cls, cell, A, rfl, by rw [hsz]; rfl, by decide, fun i hi => ?_, fun i hi => ?_⟩
  · rw [hel i (by omega), hgd i (by omega)]
  · rw [hgd i (by omega)]; exact hb i (by omega)
theorem own_fin {P : Nat → Prop} (h : ∀ i : Fin 100, P i.val) : ∀ i, i < 100 → P i := fun i hi => h ⟨i, hi⟩

theorem own_ef0 (m : MethodId) (a1 : Addr) (p1 : Int32) : entryFrame m #[(.ref a1), (.int p1)] 2 = mkF m 0 #[sR a1, sI p1] [] := by first | (simp [entryFrame, mkF, argsToLocals, Value.category]; done) | rfl
theorem own_pn1 : plainName "java/lang/AbstractStringBuilder" = true := by first | (simp [plainName, overriddenIn]; done) | decide +kernel
theorem own_d2 : decode jdk_68_method_2_code 0 = .ok (.aload_n 0, 1) := by decide +kernel
theorem own_d3 : decode jdk_68_method_2_code 1 = .ok (.invokespecial 3, 3) := by decide +kernel
theorem own_d4 : decode jdk_68_method_2_code 4 = .ok (.getstatic 18, 3) := by decide +kernel
theorem own_d5 : decode jdk_68_method_2_code 7 = .ok (.ifCond .eq 18, 3) := by decide +kernel
theorem own_d6 : decode jdk_68_method_2_code 10 = .ok (.aload_n 0, 1) := by decide +kernel
theorem own_d7 : decode jdk_68_method_2_code 11 = .ok (.iload_n 1, 1) := by decide +kernel
theorem own_d8 : decode jdk_68_method_2_code 12 = .ok (.newarray .byte, 2) := by decide +kernel
theorem own_d9 : decode jdk_68_method_2_code 14 = .ok (.putfield 15, 3) := by decide +kernel
theorem own_d10 : decode jdk_68_method_2_code 17 = .ok (.aload_n 0, 1) := by decide +kernel
theorem own_d11 : decode jdk_68_method_2_code 18 = .ok (.iconst 0, 1) := by decide +kernel
theorem own_d12 : decode jdk_68_method_2_code 19 = .ok (.putfield 22, 3) := by decide +kernel
theorem own_d13 : decode jdk_68_method_2_code 22 = .ok (.goto 16, 3) := by decide +kernel
theorem own_d14 : decode jdk_68_method_2_code 38 = .ok (.return_, 1) := by decide +kernel
def Q_own_ai (Z : State) (a1 : Addr) (p1 : Int32) (i_COMPACT_STRINGS : Int32) (h0 : Heap) (n0 : Nat) (v : Option Value) (h : Heap) (L : List Loc) : Prop := ∃ xd : Addr, ∃ xk : ClassId, v = none ∧ Fr n0 L ∧ Keep h0 h [a1] ∧ Exa Z h a1 "java/lang/StringBuilder" ∧ Fld Z h a1 "java/lang/AbstractStringBuilder" "value" "[B" (.ref xd) ∧ Fld Z h a1 "java/lang/AbstractStringBuilder" "coder" "B" (.int (0 : Int32)) ∧ Fld Z h a1 "java/lang/AbstractStringBuilder" "count" "I" (.int (0 : Int32)) ∧ Exa Z h xd "[B" ∧ Arv Z h xd xk .byte p1 (own_B []) (.int (0 : Int32)) ∧ (h0.size ≤ xd)
set_option maxRecDepth 65536 in
set_option maxHeartbeats 40000000 in
theorem own_ai (l : Launch) (Z : State) (a0 : Array Value) (hw : ∀ d ∈ tables_1, d.before a0 Z = true) (ws : List Jvm.Cond) (a1 : Addr) (p1 : Int32) (i_COMPACT_STRINGS : Int32) (h0 : Heap) (n0 : Nat) (Z0 : n0 ≤ h0.size) (O0 : Old Z n0 h0) (S_COMPACT_STRINGS : Sta Z Z.heap "java/lang/String" "COMPACT_STRINGS" "Z" (.int i_COMPACT_STRINGS)) (nz_i_COMPACT_STRINGS : i_COMPACT_STRINGS ≠ (0 : Int32)) (f0_0 : Exa Z h0 a1 "java/lang/StringBuilder") (f0_1 : Fld Z h0 a1 "java/lang/AbstractStringBuilder" "value" "[B" .null) (f0_2 : Fld Z h0 a1 "java/lang/AbstractStringBuilder" "coder" "B" (.int (0 : Int32))) (f0_3 : Fld Z h0 a1 "java/lang/AbstractStringBuilder" "count" "I" (.int (0 : Int32))) (g_a1 : n0 ≤ a1) (hn : ¬ p1 < 0) (hle : p1.toNatClampNeg ≤ 23) :
    MetFree l (⟨"java/lang/AbstractStringBuilder", "<init>", "(I)V"⟩ : MethodName) (head1 (Jvm.Cond.code (⟨"java/lang/AbstractStringBuilder", "<init>", "(I)V"⟩ : MethodName) jdk_68_method_2_code 2 none :: ws) ({ frames := 1, cells := 1, slots := 23, locals := 12 } : Room)) (fun a U => a = #[(.ref a1), (.int p1)] ∧ Z.Warmed39 U.vm ∧ U.heap = h0) (fun _ _ _ _ _ => True) (fun _ U o U' => ∃ v L, o = .returned v ∧ Q_own_ai Z a1 p1 i_COMPACT_STRINGS h0 n0 v U'.heap L ∧ FrameEnd U o U' L ({ frames := 1, cells := 1, slots := 23, locals := 12 } : Room).cells ({ frames := 1, cells := 1, slots := 23, locals := 12 } : Room).slots) := by
  refine MetFree.of_bodySF (plainFor_of_name own_pn1) hisR ?_
  intro p e s m args below meth c s₁ Bd hml0 hP hK
  obtain ⟨rfl, hZ, hh⟩ := hP
  have hx := Bd.exec
  have hby := Bd.bytes
  have hml : c.maxLocals = 2 := hml0
  have hown : s.vm.findClass "java/lang/AbstractStringBuilder" = some m.cls := findClass_of_methodNamed Bd.named
  have hnm := (name_of_methodNamed Bd.named Bd.method).1
  have X0 : Stand p l e ({ frames := 1, cells := 1, slots := 23, locals := 12 } : Room) s m #[(.ref a1), (.int p1)] below meth c s₁ [] 0 0 := Stand.of_body Bd
  have e0 : s₁.heap = h0 := by rw [← hh, Bd.state]; rfl
  have N0 := Fr.nil n0
  have K0 := Keep.refl h0 [a1]
  refine own_go (fun t k => castTop (own_ef0 m a1 p1) k) ?_
  show OG m s₁ 0 #[sR a1, sI p1] []
  refine og (XS.aloadN X0.here hx rfl (hb hby own_d2) rfl rfl) ?_
  show OG m s₁ 1 #[sR a1, sI p1] [(.ref a1)]
  obtain ⟨T1, X1, e1, st1⟩ := initO X0 hx hZ hown (tw hw 17 rfl) (tw hw 18 rfl) (tw hw 19 rfl) e0 (g := (mkF m 1 #[sR a1, sI p1] [(.ref a1)])) rfl (by rw [hml]; rfl) rfl (hb hby own_d3) (by decide) (W := 0) (by show 2 * 0 + _ ≤ _; exact Nat.le_of_eq rfl) (by decide)
  refine own_go (fun t k => st1 t k) ?_
  show OG m T1 4 #[sR a1, sI p1] []
  obtain ⟨T2, X2, e2, st2⟩ := getS2 X1 hx hZ hown (host := "") (Or.inl (tw hw 20 rfl)) Via.refl e1 (S_COMPACT_STRINGS.ext O0.2) (g := (mkF m 4 #[sR a1, sI p1] [])) rfl (hb hby own_d4)
  refine own_go (fun t k => st2 t k) ?_
  show OG m T2 7 #[sR a1, sI p1] [(.int i_COMPACT_STRINGS)]
  refine og (XS.ifNo X2.here hx rfl (hb hby own_d5) rfl ((if0 _ _).trans (feq nz_i_COMPACT_STRINGS).1)) ?_
  show OG m T2 10 #[sR a1, sI p1] []
  refine og (XS.aloadN X2.here hx rfl (hb hby own_d6) rfl rfl) ?_
  refine og (XS.iloadN X2.here hx rfl (hb hby own_d7) rfl) ?_
  show OG m T2 12 #[sR a1, sI p1] [(.int p1), (.ref a1)]
  obtain ⟨T3, h3, k3, X3, e3, E3, A3, B3, st3⟩ := newPE X2 hx hZ (tw hw 22 rfl) e2 (g := (mkF m 12 #[sR a1, sI p1] [(.int p1), (.ref a1)])) rfl (hb hby own_d8) rfl hn (cap := 23) hle (by decide) (by decide) (by decide) (ad := "[B") (by decide)
  obtain ⟨b3, g3⟩ : ∃ z, z = h0.size := ⟨_, rfl⟩
  rw [← g3] at A3 B3 st3
  have ne4 : a1 ≠ b3 := Nat.ne_of_lt (Nat.lt_of_lt_of_le f0_0.lt (Nat.le_of_eq g3.symm))
  have g_b3 : n0 ≤ b3 := Nat.le_trans Z0 (Nat.le_of_eq g3.symm)
  have sz_b3 : h0.size ≤ b3 := Nat.le_trans K0.1 (Nat.le_of_eq g3.symm)
  have F5 : Exa Z h3 a1 "java/lang/StringBuilder" := f0_0.ext E3
  have F6 : Fld Z h3 a1 "java/lang/AbstractStringBuilder" "value" "[B" .null := f0_1.ext E3
  have F7 : Fld Z h3 a1 "java/lang/AbstractStringBuilder" "coder" "B" (.int (0 : Int32)) := f0_2.ext E3
  have F8 : Fld Z h3 a1 "java/lang/AbstractStringBuilder" "count" "I" (.int (0 : Int32)) := f0_3.ext E3
  have F9 : Old Z n0 h3 := O0.ext E3
  have K10 : Keep h0 h3 [a1] := K0.ext E3
  have Z10 : n0 ≤ h3.size := Nat.le_trans Z0 E3.1
  have F11 : Arv Z h3 b3 k3 .byte p1 [] (.int (0 : Int32)) := Arv.new A3 hn
  refine own_go (fun t k => st3 t k) ?_
  show OG m T3 14 #[sR a1, sI p1] [(.ref b3), (.ref a1)]
  obtain ⟨T12, h12, X12, e12, W12, st12⟩ := putF X3 hx hZ hown (host := "") (Or.inl (tw hw 23 rfl)) Via.refl e3 F6 F5 (Or.inl (tw hw 24 rfl)) (tw hw 6 rfl) (ty := (.array .byte)) (by decide) rfl rfl (g := (mkF m 14 #[sR a1, sI p1] [(.ref b3), (.ref a1)])) rfl rfl (hb hby own_d9)
  have F13 : Exa Z h12 a1 "java/lang/StringBuilder" := F5.wr W12
  have F14 : Fld Z h12 a1 "java/lang/AbstractStringBuilder" "value" "[B" (.ref b3) := F6.same W12
  have F15 : Fld Z h12 a1 "java/lang/AbstractStringBuilder" "coder" "B" (.int (0 : Int32)) := F7.other W12 (Or.inr (slot_ne (Or.inl (tw hw 26 rfl)) (Or.inl (tw hw 24 rfl)) (by decide) (t := .byte) (t' := (.array .byte)) (by decide) (by decide)))
  have F16 : Fld Z h12 a1 "java/lang/AbstractStringBuilder" "count" "I" (.int (0 : Int32)) := F8.other W12 (Or.inr (slot_ne (Or.inl (tw hw 38 rfl)) (Or.inl (tw hw 24 rfl)) (by decide) (t := .int) (t' := (.array .byte)) (by decide) (by decide)))
  have F17 : Old Z n0 h12 := F9.wr W12 g_a1
  have F18 : Exa Z h12 b3 "[B" := B3.wr W12
  have F19 : Arv Z h12 b3 k3 .byte p1 [] (.int (0 : Int32)) := F11.other W12 (Ne.symm ne4)
  have N20 := Fr.snoc X12 N0 g_a1
  have K20 : Keep h0 h12 [a1] := K10.wr W12 (Or.inl (List.mem_of_getElem? (i := 0) rfl))
  have Z20 : n0 ≤ h12.size := Nat.le_trans Z10 (Keep.of_wr W12).1
  refine own_go (fun t k => st12 t k) ?_
  show OG m T12 17 #[sR a1, sI p1] []
  refine og (XS.aloadN X12.here hx rfl (hb hby own_d10) rfl rfl) ?_
  refine og (XS.iconst X12.here hx rfl (hb hby own_d11)) ?_
  show OG m T12 19 #[sR a1, sI p1] [(.int (0 : Int32)), (.ref a1)]
  obtain ⟨T21, h21, X21, e21, W21, st21⟩ := putF X12 hx hZ hown (host := "") (Or.inl (tw hw 25 rfl)) Via.refl e12 F15 F13 (Or.inl (tw hw 26 rfl)) (tw hw 6 rfl) (ty := .byte) (by decide) rfl rfl (g := (mkF m 19 #[sR a1, sI p1] [(.int (0 : Int32)), (.ref a1)])) rfl rfl (hb hby own_d12)
  have F22 : Exa Z h21 a1 "java/lang/StringBuilder" := F13.wr W21
  have F23 : Fld Z h21 a1 "java/lang/AbstractStringBuilder" "value" "[B" (.ref b3) := F14.other W21 (Or.inr (slot_ne (Or.inl (tw hw 24 rfl)) (Or.inl (tw hw 26 rfl)) (by decide) (t := (.array .byte)) (t' := .byte) (by decide) (by decide)))
  have F24 : Fld Z h21 a1 "java/lang/AbstractStringBuilder" "coder" "B" (.int (0 : Int32)) := F15.same W21
  have F25 : Fld Z h21 a1 "java/lang/AbstractStringBuilder" "count" "I" (.int (0 : Int32)) := F16.other W21 (Or.inr (slot_ne (Or.inl (tw hw 38 rfl)) (Or.inl (tw hw 26 rfl)) (by decide) (t := .int) (t' := .byte) (by decide) (by decide)))
  have F26 : Old Z n0 h21 := F17.wr W21 g_a1
  have F27 : Exa Z h21 b3 "[B" := F18.wr W21
  have F28 : Arv Z h21 b3 k3 .byte p1 [] (.int (0 : Int32)) := F19.other W21 (Ne.symm ne4)
  have N29 := Fr.snoc X21 N20 g_a1
  have K29 : Keep h0 h21 [a1] := K20.wr W21 (Or.inl (List.mem_of_getElem? (i := 0) rfl))
  have Z29 : n0 ≤ h21.size := Nat.le_trans Z20 (Keep.of_wr W21).1
  refine own_go (fun t k => st21 t k) ?_
  show OG m T21 22 #[sR a1, sI p1] []
  refine og (XS.goto X21.here hx rfl (pc0 := 22) (pc' := 38) rfl (hb hby own_d13) (by decide) (by decide)) ?_
  show OG m T21 38 #[sR a1, sI p1] []
  have F30 : Arv Z h21 b3 k3 .byte p1 (own_B []) (.int (0 : Int32)) := F28
  obtain ⟨fs, hr, hrun, hended, hW, hsame⟩ := X21.leave (v := none) (fun _ => rfl)
  refine ⟨_, _, X21.returnOut hx Bd.returns (hb hby own_d14) hr, hrun, hended, _, _, rfl, ?_, ⟨_, rfl⟩, hW, hsame.mono (by decide) (by decide)⟩
  show Q_own_ai Z a1 p1 i_COMPACT_STRINGS h0 n0 _ T21.heap _
  rw [e21]
  exact ⟨b3, k3, rfl, N29, K29, F22, F23, F24, F25, F27, F30, sz_b3⟩
theorem own_ef15 (m : MethodId) (a1 : Addr) (p1 : Int32) : entryFrame m #[(.ref a1), (.int p1)] 2 = mkF m 0 #[sR a1, sI p1] [] := by first | (simp [entryFrame, mkF, argsToLocals, Value.category]; done) | rfl
theorem own_pn16 : plainName "java/lang/StringBuilder" = true := by first | (simp [plainName, overriddenIn]; done) | decide +kernel
theorem own_d17 : decode jdk_67_method_2_code 0 = .ok (.aload_n 0, 1) := by decide +kernel
theorem own_d18 : decode jdk_67_method_2_code 1 = .ok (.iload_n 1, 1) := by decide +kernel
theorem own_d19 : decode jdk_67_method_2_code 2 = .ok (.invokespecial 1, 3) := by decide +kernel
theorem own_pd20 : parseMethodDescriptor "(I)V" = some ⟨[.int], none⟩ := by decide +kernel
theorem own_d21 : decode jdk_67_method_2_code 5 = .ok (.return_, 1) := by decide +kernel
def Q_own_si (Z : State) (a1 : Addr) (p1 : Int32) (i_COMPACT_STRINGS : Int32) (h0 : Heap) (n0 : Nat) (v : Option Value) (h : Heap) (L : List Loc) : Prop := ∃ xd : Addr, ∃ xk : ClassId, v = none ∧ Fr n0 L ∧ Keep h0 h [a1] ∧ Exa Z h a1 "java/lang/StringBuilder" ∧ Fld Z h a1 "java/lang/AbstractStringBuilder" "value" "[B" (.ref xd) ∧ Fld Z h a1 "java/lang/AbstractStringBuilder" "coder" "B" (.int (0 : Int32)) ∧ Fld Z h a1 "java/lang/AbstractStringBuilder" "count" "I" (.int (0 : Int32)) ∧ Exa Z h xd "[B" ∧ Arv Z h xd xk .byte p1 (own_B []) (.int (0 : Int32)) ∧ (h0.size ≤ xd)
set_option maxRecDepth 65536 in
set_option maxHeartbeats 40000000 in
theorem own_si (l : Launch) (Z : State) (a0 : Array Value) (hw : ∀ d ∈ tables_1, d.before a0 Z = true) (ws : List Jvm.Cond) (a1 : Addr) (p1 : Int32) (i_COMPACT_STRINGS : Int32) (h0 : Heap) (n0 : Nat) (Z0 : n0 ≤ h0.size) (O0 : Old Z n0 h0) (S_COMPACT_STRINGS : Sta Z Z.heap "java/lang/String" "COMPACT_STRINGS" "Z" (.int i_COMPACT_STRINGS)) (nz_i_COMPACT_STRINGS : i_COMPACT_STRINGS ≠ (0 : Int32)) (f0_0 : Exa Z h0 a1 "java/lang/StringBuilder") (f0_1 : Fld Z h0 a1 "java/lang/AbstractStringBuilder" "value" "[B" .null) (f0_2 : Fld Z h0 a1 "java/lang/AbstractStringBuilder" "coder" "B" (.int (0 : Int32))) (f0_3 : Fld Z h0 a1 "java/lang/AbstractStringBuilder" "count" "I" (.int (0 : Int32))) (g_a1 : n0 ≤ a1) (hn : ¬ p1 < 0) (hle : p1.toNatClampNeg ≤ 23) :
    MetFree l (⟨"java/lang/StringBuilder", "<init>", "(I)V"⟩ : MethodName) (head1 (Jvm.Cond.code (⟨"java/lang/StringBuilder", "<init>", "(I)V"⟩ : MethodName) jdk_67_method_2_code 2 none :: ws) ({ frames := 2, cells := 1, slots := 23, locals := 25 } : Room)) (fun a U => a = #[(.ref a1), (.int p1)] ∧ Z.Warmed39 U.vm ∧ U.heap = h0) (fun _ _ _ _ _ => True) (fun _ U o U' => ∃ v L, o = .returned v ∧ Q_own_si Z a1 p1 i_COMPACT_STRINGS h0 n0 v U'.heap L ∧ FrameEnd U o U' L ({ frames := 2, cells := 1, slots := 23, locals := 25 } : Room).cells ({ frames := 2, cells := 1, slots := 23, locals := 25 } : Room).slots) := by
  refine MetFree.of_bodySF (plainFor_of_name own_pn16) hisR ?_
  intro p e s m args below meth c s₁ Bd hml0 hP hK
  obtain ⟨rfl, hZ, hh⟩ := hP
  have hx := Bd.exec
  have hby := Bd.bytes
  have hml : c.maxLocals = 2 := hml0
  have hown : s.vm.findClass "java/lang/StringBuilder" = some m.cls := findClass_of_methodNamed Bd.named
  have hnm := (name_of_methodNamed Bd.named Bd.method).1
  have X0 : Stand p l e ({ frames := 2, cells := 1, slots := 23, locals := 25 } : Room) s m #[(.ref a1), (.int p1)] below meth c s₁ [] 0 0 := Stand.of_body Bd
  have e0 : s₁.heap = h0 := by rw [← hh, Bd.state]; rfl
  have N0 := Fr.nil n0
  have K0 := Keep.refl h0 [a1]
  refine own_go (fun t k => castTop (own_ef15 m a1 p1) k) ?_
  show OG m s₁ 0 #[sR a1, sI p1] []
  refine og (XS.aloadN X0.here hx rfl (hb hby own_d17) rfl rfl) ?_
  refine og (XS.iloadN X0.here hx rfl (hb hby own_d18) rfl) ?_
  show OG m s₁ 2 #[sR a1, sI p1] [(.int p1), (.ref a1)]
  obtain ⟨_, _, ⟨T1, L1, k1, n1⟩, -, X1, ⟨Lc1, hQ1, l1, y1, z1⟩, st1⟩ := X0.specialBack hx (y := (⟨"java/lang/AbstractStringBuilder", "<init>", "(I)V"⟩ : MethodName)) rfl hown (mvT hZ (tw hw 11 rfl)) (mvT hZ (tw hw 12 rfl)) (mvT hZ (tw hw 16 rfl)) (by decide) (backOf (W := 0) (own_ai l Z a0 hw [] a1 p1 i_COMPACT_STRINGS h0 n0 Z0 O0 S_COMPACT_STRINGS nz_i_COMPACT_STRINGS f0_0 f0_1 f0_2 f0_3 g_a1 hn hle) hZ (tw hw 16 rfl) (tw hw 15 rfl) (by decide) (by decide)) (g := (mkF m 2 #[sR a1, sI p1] [(.int p1), (.ref a1)])) rfl (by rw [hml]; rfl) (Steps.refl _) (a := a1) (argsL := [(.int p1)]) (rest := []) (lenOf own_pd20 rfl) rfl (by show 2 * 0 + _ ≤ _; exact Nat.le_of_eq rfl) (hb hby own_d19) (fun _ _ => ⟨rfl, e0, (by decide : 0 + 1 ≤ _), (by decide : 0 + 23 ≤ _)⟩)
  dsimp only [Pt.U, Pt.locs, Pt.cells, Pt.slots] at X1 l1 y1 z1 st1 hQ1
  subst l1 y1 z1
  obtain ⟨xd_1, xk_1, rfl, Nq1, Kq1, Fq1_0, Fq1_1, Fq1_2, Fq1_3, Fq1_4, Fq1_5, mq1_fd⟩ := hQ1
  have N1 := Fr.app N0 Nq1
  have ne2 : a1 ≠ xd_1 := Nat.ne_of_lt (Nat.lt_of_lt_of_le f0_0.lt mq1_fd)
  have g_xd_1 : n0 ≤ xd_1 := Nat.le_trans Z0 mq1_fd
  have sz_xd_1 : h0.size ≤ xd_1 := Nat.le_trans K0.1 mq1_fd
  have F3 : Exa Z T1.heap a1 "java/lang/StringBuilder" := f0_0.keep Kq1
  have F4 : Old Z n0 T1.heap := O0.keep Kq1 (allS g_a1 all0)
  have K1 : Keep h0 T1.heap [a1] := K0.trans Kq1 (allS (Or.inl (List.mem_of_getElem? (i := 0) rfl)) all0)
  have Z1 : n0 ≤ T1.heap.size := Nat.le_trans Z0 Kq1.1
  refine og (st1.trans) ?_
  show OG m T1 5 #[sR a1, sI p1] []
  obtain ⟨fs, hr, hrun, hended, hW, hsame⟩ := X1.leave (v := none) (fun _ => rfl)
  refine ⟨_, _, X1.returnOut hx Bd.returns (hb hby own_d21) hr, hrun, hended, _, _, rfl, ?_, ⟨_, rfl⟩, hW, hsame.mono (by decide) (by decide)⟩
  show Q_own_si Z a1 p1 i_COMPACT_STRINGS h0 n0 _ T1.heap _
  exact ⟨xd_1, xk_1, rfl, N1, K1, Fq1_0, Fq1_1, Fq1_2, Fq1_3, Fq1_4, Fq1_5, sz_xd_1⟩
theorem own_ef22 (m : MethodId) (p1 : Int32) (p2 : Int32) : entryFrame m #[(.int p1), (.int p2)] 2 = mkF m 0 #[sI p1, sI p2] [] := by first | (simp [entryFrame, mkF, argsToLocals, Value.category]; done) | rfl
theorem own_d23 : decode jdk_29_method_65_code 0 = .ok (.iload_n 0, 1) := by decide +kernel
theorem own_d24 : decode jdk_29_method_65_code 1 = .ok (.iload_n 1, 1) := by decide +kernel
theorem own_d25 : decode jdk_29_method_65_code 2 = .ok (.if_icmp .lt 7, 3) := by decide +kernel
theorem own_d26 : decode jdk_29_method_65_code 9 = .ok (.iload_n 1, 1) := by decide +kernel
theorem own_d27 : decode jdk_29_method_65_code 10 = .ok (.ireturn, 1) := by decide +kernel
theorem own_d28 : decode jdk_29_method_65_code 5 = .ok (.iload_n 0, 1) := by decide +kernel
theorem own_d29 : decode jdk_29_method_65_code 6 = .ok (.goto 4, 3) := by decide +kernel
def Q_own_max (Z : State) (p1 : Int32) (p2 : Int32) (h0 : Heap) (n0 : Nat) (v : Option Value) (h : Heap) (L : List Loc) : Prop := v = some (.int (own_mx p1 p2)) ∧ Fr n0 L ∧ h = h0
set_option maxRecDepth 65536 in
set_option maxHeartbeats 40000000 in
theorem own_max (l : Launch) (Z : State) (a0 : Array Value) (hw : ∀ d ∈ tables_1, d.before a0 Z = true) (ws : List Jvm.Cond) (p1 : Int32) (p2 : Int32) (h0 : Heap) (n0 : Nat) (Z0 : n0 ≤ h0.size) :
    MetFree l (⟨"java/lang/Math", "max", "(II)I"⟩ : MethodName) (head1 (Jvm.Cond.code (⟨"java/lang/Math", "max", "(II)I"⟩ : MethodName) jdk_29_method_65_code 2 (some .int) :: ws) ({ frames := 0, cells := 0, slots := 0, locals := 0 } : Room)) (fun a U => a = #[(.int p1), (.int p2)] ∧ Z.Warmed39 U.vm ∧ U.heap = h0) (fun _ _ _ _ _ => True) (fun _ U o U' => ∃ v L, o = .returned v ∧ Q_own_max Z p1 p2 h0 n0 v U'.heap L ∧ FrameEnd U o U' L ({ frames := 0, cells := 0, slots := 0, locals := 0 } : Room).cells ({ frames := 0, cells := 0, slots := 0, locals := 0 } : Room).slots) := by
  refine MetFree.of_bodySF (Jvm.Free.JP.mathPlain rfl (by decide +kernel)) hisR ?_
  intro p e s m args below meth c s₁ Bd hml0 hP hK
  obtain ⟨rfl, hZ, hh⟩ := hP
  have hx := Bd.exec
  have hby := Bd.bytes
  have hml : c.maxLocals = 2 := hml0
  have hown : s.vm.findClass "java/lang/Math" = some m.cls := findClass_of_methodNamed Bd.named
  have hnm := (name_of_methodNamed Bd.named Bd.method).1
  have X0 : Stand p l e ({ frames := 0, cells := 0, slots := 0, locals := 0 } : Room) s m #[(.int p1), (.int p2)] below meth c s₁ [] 0 0 := Stand.of_body Bd
  have e0 : s₁.heap = h0 := by rw [← hh, Bd.state]; rfl
  have N0 := Fr.nil n0
  have K0 := Keep.refl h0 []
  refine own_go (fun t k => castTop (own_ef22 m p1 p2) k) ?_
  show OG m s₁ 0 #[sI p1, sI p2] []
  refine og (XS.iloadN X0.here hx rfl (hb hby own_d23) rfl) ?_
  refine og (XS.iloadN X0.here hx rfl (hb hby own_d24) rfl) ?_
  show OG m s₁ 2 #[sI p1, sI p2] [(.int p2), (.int p1)]
  by_cases hc1 : p1 < p2
  · refine og (XS.icmpYes X0.here hx rfl (pc0 := 2) (pc' := 9) rfl (hb hby own_d25) rfl (tlt hc1).1 (by decide) (by decide)) ?_
    show OG m s₁ 9 #[sI p1, sI p2] []
    refine og (XS.iloadN X0.here hx rfl (hb hby own_d26) rfl) ?_
    show OG m s₁ 10 #[sI p1, sI p2] [(.int p2)]
    obtain ⟨fs, hr, hrun, hended, hW, hsame⟩ := X0.leave (v := some (.int p2)) (fun h => by rw [Bd.returns] at h; cases h)
    refine ⟨_, _, retI X0 hx Bd.returns (hb hby own_d27) hr, hrun, hended, _, _, rfl, ?_, ⟨_, rfl⟩, hW, hsame.mono (by decide) (by decide)⟩
    show Q_own_max Z p1 p2 h0 n0 _ s₁.heap _
    rw [e0]
    exact ⟨by rw [own_mx, if_pos hc1], N0, rfl⟩
  · refine og (XS.icmpNo X0.here hx rfl (hb hby own_d25) rfl (flt hc1).1) ?_
    show OG m s₁ 5 #[sI p1, sI p2] []
    refine og (XS.iloadN X0.here hx rfl (hb hby own_d28) rfl) ?_
    refine og (XS.goto X0.here hx rfl (pc0 := 6) (pc' := 10) rfl (hb hby own_d29) (by decide) (by decide)) ?_
    show OG m s₁ 10 #[sI p1, sI p2] [(.int p1)]
    obtain ⟨fs, hr, hrun, hended, hW, hsame⟩ := X0.leave (v := some (.int p1)) (fun h => by rw [Bd.returns] at h; cases h)
    refine ⟨_, _, retI X0 hx Bd.returns (hb hby own_d27) hr, hrun, hended, _, _, rfl, ?_, ⟨_, rfl⟩, hW, hsame.mono (by decide) (by decide)⟩
    show Q_own_max Z p1 p2 h0 n0 _ s₁.heap _
    rw [e0]
    exact ⟨by rw [own_mx, if_neg hc1], N0, rfl⟩
theorem own_ef30 (m : MethodId) (p1 : Int32) (p2 : Int32) : entryFrame m #[(.int p1), (.int p2)] 2 = mkF m 0 #[sI p1, sI p2] [] := by first | (simp [entryFrame, mkF, argsToLocals, Value.category]; done) | rfl
theorem own_d31 : decode jdk_29_method_69_code 0 = .ok (.iload_n 0, 1) := by decide +kernel
theorem own_d32 : decode jdk_29_method_69_code 1 = .ok (.iload_n 1, 1) := by decide +kernel
theorem own_d33 : decode jdk_29_method_69_code 2 = .ok (.if_icmp .gt 7, 3) := by decide +kernel
theorem own_d34 : decode jdk_29_method_69_code 9 = .ok (.iload_n 1, 1) := by decide +kernel
theorem own_d35 : decode jdk_29_method_69_code 10 = .ok (.ireturn, 1) := by decide +kernel
theorem own_d36 : decode jdk_29_method_69_code 5 = .ok (.iload_n 0, 1) := by decide +kernel
theorem own_d37 : decode jdk_29_method_69_code 6 = .ok (.goto 4, 3) := by decide +kernel
def Q_own_min (Z : State) (p1 : Int32) (p2 : Int32) (h0 : Heap) (n0 : Nat) (v : Option Value) (h : Heap) (L : List Loc) : Prop := v = some (.int (own_mn p1 p2)) ∧ Fr n0 L ∧ h = h0
set_option maxRecDepth 65536 in
set_option maxHeartbeats 40000000 in
theorem own_min (l : Launch) (Z : State) (a0 : Array Value) (hw : ∀ d ∈ tables_1, d.before a0 Z = true) (ws : List Jvm.Cond) (p1 : Int32) (p2 : Int32) (h0 : Heap) (n0 : Nat) (Z0 : n0 ≤ h0.size) :
    MetFree l (⟨"java/lang/Math", "min", "(II)I"⟩ : MethodName) (head1 (Jvm.Cond.code (⟨"java/lang/Math", "min", "(II)I"⟩ : MethodName) jdk_29_method_69_code 2 (some .int) :: ws) ({ frames := 0, cells := 0, slots := 0, locals := 0 } : Room)) (fun a U => a = #[(.int p1), (.int p2)] ∧ Z.Warmed39 U.vm ∧ U.heap = h0) (fun _ _ _ _ _ => True) (fun _ U o U' => ∃ v L, o = .returned v ∧ Q_own_min Z p1 p2 h0 n0 v U'.heap L ∧ FrameEnd U o U' L ({ frames := 0, cells := 0, slots := 0, locals := 0 } : Room).cells ({ frames := 0, cells := 0, slots := 0, locals := 0 } : Room).slots) := by
  refine MetFree.of_bodySF (Jvm.Free.JP.mathPlain rfl (by decide +kernel)) hisR ?_
  intro p e s m args below meth c s₁ Bd hml0 hP hK
  obtain ⟨rfl, hZ, hh⟩ := hP
  have hx := Bd.exec
  have hby := Bd.bytes
  have hml : c.maxLocals = 2 := hml0
  have hown : s.vm.findClass "java/lang/Math" = some m.cls := findClass_of_methodNamed Bd.named
  have hnm := (name_of_methodNamed Bd.named Bd.method).1
  have X0 : Stand p l e ({ frames := 0, cells := 0, slots := 0, locals := 0 } : Room) s m #[(.int p1), (.int p2)] below meth c s₁ [] 0 0 := Stand.of_body Bd
  have e0 : s₁.heap = h0 := by rw [← hh, Bd.state]; rfl
  have N0 := Fr.nil n0
  have K0 := Keep.refl h0 []
  refine own_go (fun t k => castTop (own_ef30 m p1 p2) k) ?_
  show OG m s₁ 0 #[sI p1, sI p2] []
  refine og (XS.iloadN X0.here hx rfl (hb hby own_d31) rfl) ?_
  refine og (XS.iloadN X0.here hx rfl (hb hby own_d32) rfl) ?_
  show OG m s₁ 2 #[sI p1, sI p2] [(.int p2), (.int p1)]
  by_cases hc1 : p2 < p1
  · refine og (XS.icmpYes X0.here hx rfl (pc0 := 2) (pc' := 9) rfl (hb hby own_d33) rfl (tlt hc1).2.2.1 (by decide) (by decide)) ?_
    show OG m s₁ 9 #[sI p1, sI p2] []
    refine og (XS.iloadN X0.here hx rfl (hb hby own_d34) rfl) ?_
    show OG m s₁ 10 #[sI p1, sI p2] [(.int p2)]
    obtain ⟨fs, hr, hrun, hended, hW, hsame⟩ := X0.leave (v := some (.int p2)) (fun h => by rw [Bd.returns] at h; cases h)
    refine ⟨_, _, retI X0 hx Bd.returns (hb hby own_d35) hr, hrun, hended, _, _, rfl, ?_, ⟨_, rfl⟩, hW, hsame.mono (by decide) (by decide)⟩
    show Q_own_min Z p1 p2 h0 n0 _ s₁.heap _
    rw [e0]
    exact ⟨by rw [own_mn, if_pos hc1], N0, rfl⟩
  · refine og (XS.icmpNo X0.here hx rfl (hb hby own_d33) rfl (flt hc1).2.2.1) ?_
    show OG m s₁ 5 #[sI p1, sI p2] []
    refine og (XS.iloadN X0.here hx rfl (hb hby own_d36) rfl) ?_
    refine og (XS.goto X0.here hx rfl (pc0 := 6) (pc' := 10) rfl (hb hby own_d37) (by decide) (by decide)) ?_
    show OG m s₁ 10 #[sI p1, sI p2] [(.int p1)]
    obtain ⟨fs, hr, hrun, hended, hW, hsame⟩ := X0.leave (v := some (.int p1)) (fun h => by rw [Bd.returns] at h; cases h)
    refine ⟨_, _, retI X0 hx Bd.returns (hb hby own_d35) hr, hrun, hended, _, _, rfl, ?_, ⟨_, rfl⟩, hW, hsame.mono (by decide) (by decide)⟩
    show Q_own_min Z p1 p2 h0 n0 _ s₁.heap _
    rw [e0]
    exact ⟨by rw [own_mn, if_neg hc1], N0, rfl⟩
theorem own_ef38 (m : MethodId) (p1 : Int32) (p2 : Int32) (p3 : Int32) : entryFrame m #[(.int p1), (.int p2), (.int p3)] 4 = mkF m 0 #[sI p1, sI p2, sI p3, sU] [] := by first | (simp [entryFrame, mkF, argsToLocals, Value.category]; done) | rfl
theorem own_pn39 : plainName "jdk/internal/util/ArraysSupport" = true := by first | (simp [plainName, overriddenIn]; done) | decide +kernel
theorem own_d40 : decode jdk_48_method_27_code 0 = .ok (.iload_n 0, 1) := by decide +kernel
theorem own_d41 : decode jdk_48_method_27_code 1 = .ok (.iload_n 1, 1) := by decide +kernel
theorem own_d42 : decode jdk_48_method_27_code 2 = .ok (.iload_n 2, 1) := by decide +kernel
theorem own_d43 : decode jdk_48_method_27_code 3 = .ok (.invokestatic 194, 3) := by decide +kernel
theorem own_pd44 : parseMethodDescriptor "(II)I" = some ⟨[.int, .int], some .int⟩ := by decide +kernel
theorem own_d45 : decode jdk_48_method_27_code 6 = .ok (.iadd, 1) := by decide +kernel
theorem own_d46 : decode jdk_48_method_27_code 7 = .ok (.istore_n 3, 1) := by decide +kernel
theorem own_d47 : decode jdk_48_method_27_code 8 = .ok (.iconst 0, 1) := by decide +kernel
theorem own_d48 : decode jdk_48_method_27_code 9 = .ok (.iload_n 3, 1) := by decide +kernel
theorem own_d49 : decode jdk_48_method_27_code 10 = .ok (.if_icmp .ge 11, 3) := by decide +kernel
theorem own_d50 : decode jdk_48_method_27_code 13 = .ok (.iload_n 3, 1) := by decide +kernel
theorem own_d51 : decode jdk_48_method_27_code 14 = .ok (.ldc 200, 2) := by decide +kernel
theorem own_d52 : decode jdk_48_method_27_code 16 = .ok (.if_icmp .gt 5, 3) := by decide +kernel
theorem own_d53 : decode jdk_48_method_27_code 19 = .ok (.iload_n 3, 1) := by decide +kernel
theorem own_d54 : decode jdk_48_method_27_code 20 = .ok (.ireturn, 1) := by decide +kernel
def Q_own_nl (Z : State) (p1 : Int32) (p2 : Int32) (p3 : Int32) (h0 : Heap) (n0 : Nat) (v : Option Value) (h : Heap) (L : List Loc) : Prop := v = some (.int (p1 + (own_mx p2 p3))) ∧ Fr n0 L ∧ h = h0
set_option maxRecDepth 65536 in
set_option maxHeartbeats 40000000 in
theorem own_nl (l : Launch) (Z : State) (a0 : Array Value) (hw : ∀ d ∈ tables_1, d.before a0 Z = true) (ws : List Jvm.Cond) (p1 : Int32) (p2 : Int32) (p3 : Int32) (h0 : Heap) (n0 : Nat) (Z0 : n0 ≤ h0.size) (hpos : (0 : Int32) < (p1 + (own_mx p2 p3))) (hbig : ¬ (2147483639 : Int32) < (p1 + (own_mx p2 p3))) :
    MetFree l (⟨"jdk/internal/util/ArraysSupport", "newLength", "(III)I"⟩ : MethodName) (head1 (Jvm.Cond.code (⟨"jdk/internal/util/ArraysSupport", "newLength", "(III)I"⟩ : MethodName) jdk_48_method_27_code 4 (some .int) :: ws) ({ frames := 1, cells := 0, slots := 0, locals := 14 } : Room)) (fun a U => a = #[(.int p1), (.int p2), (.int p3)] ∧ Z.Warmed39 U.vm ∧ U.heap = h0) (fun _ _ _ _ _ => True) (fun _ U o U' => ∃ v L, o = .returned v ∧ Q_own_nl Z p1 p2 p3 h0 n0 v U'.heap L ∧ FrameEnd U o U' L ({ frames := 1, cells := 0, slots := 0, locals := 14 } : Room).cells ({ frames := 1, cells := 0, slots := 0, locals := 14 } : Room).slots) := by
  refine MetFree.of_bodySF (plainFor_of_name own_pn39) hisR ?_
  intro p e s m args below meth c s₁ Bd hml0 hP hK
  obtain ⟨rfl, hZ, hh⟩ := hP
  have hx := Bd.exec
  have hby := Bd.bytes
  have hml : c.maxLocals = 4 := hml0
  have hown : s.vm.findClass "jdk/internal/util/ArraysSupport" = some m.cls := findClass_of_methodNamed Bd.named
  have hnm := (name_of_methodNamed Bd.named Bd.method).1
  have X0 : Stand p l e ({ frames := 1, cells := 0, slots := 0, locals := 14 } : Room) s m #[(.int p1), (.int p2), (.int p3)] below meth c s₁ [] 0 0 := Stand.of_body Bd
  have e0 : s₁.heap = h0 := by rw [← hh, Bd.state]; rfl
  have N0 := Fr.nil n0
  have K0 := Keep.refl h0 []
  refine own_go (fun t k => castTop (own_ef38 m p1 p2 p3) k) ?_
  show OG m s₁ 0 #[sI p1, sI p2, sI p3, sU] []
  refine og (XS.iloadN X0.here hx rfl (hb hby own_d40) rfl) ?_
  refine og (XS.iloadN X0.here hx rfl (hb hby own_d41) rfl) ?_
  show OG m s₁ 2 #[sI p1, sI p2, sI p3, sU] [(.int p2), (.int p1)]
  refine og (XS.iloadN X0.here hx rfl (hb hby own_d42) rfl) ?_
  show OG m s₁ 3 #[sI p1, sI p2, sI p3, sU] [(.int p3), (.int p2), (.int p1)]
  obtain ⟨_, _, ⟨T1, L1, k1, n1⟩, -, X1, ⟨Lc1, hQ1, l1, y1, z1⟩, st1⟩ := Jvm.LawKit.callS X0 hx (y := (⟨"java/lang/Math", "max", "(II)I"⟩ : MethodName)) hown (mvT hZ (tw hw 225 rfl)) (mvT hZ (tw hw 226 rfl)) (mvT hZ (tw hw 158 rfl)) (mvT hZ (tw hw 227 rfl)) (by decide) (backOf (W := 1) (own_max l Z a0 hw [] p2 p3 h0 n0 Z0) hZ (tw hw 227 rfl) (tw hw 158 rfl) (by decide) (by decide)) (g := (mkF m 3 #[sI p1, sI p2, sI p3, sU] [(.int p3), (.int p2), (.int p1)])) rfl (by rw [hml]; rfl) (argsL := [(.int p2), (.int p3)]) (rest := [(.int p1)]) (lenOf own_pd44 rfl) rfl (by show 2 * 0 + _ ≤ _; exact Nat.le_of_eq rfl) (hb hby own_d43) (fun _ _ => ⟨rfl, e0, (by decide : 0 + 0 ≤ _), (by decide : 0 + 0 ≤ _)⟩)
  dsimp only [Pt.U, Pt.locs, Pt.cells, Pt.slots] at X1 l1 y1 z1 st1 hQ1
  subst l1 y1 z1
  obtain ⟨rfl, Nq1, eq1⟩ := hQ1
  have N1 := Fr.app N0 Nq1
  have e1 : T1.heap = h0 := eq1
  refine own_go (fun t k => st1 t k) ?_
  show OG m T1 6 #[sI p1, sI p2, sI p3, sU] [(.int (own_mx p2 p3)), (.int p1)]
  refine og (XS.iadd X1.here hx rfl (hb hby own_d45) rfl) ?_
  refine og (XS.istoreN X1.here hx rfl (hb hby own_d46) rfl (l' := #[sI p1, sI p2, sI p3, sI (p1 + (own_mx p2 p3))]) rfl) ?_
  show OG m T1 8 #[sI p1, sI p2, sI p3, sI (p1 + (own_mx p2 p3))] []
  refine og (XS.iconst X1.here hx rfl (hb hby own_d47)) ?_
  refine og (XS.iloadN X1.here hx rfl (hb hby own_d48) rfl) ?_
  show OG m T1 10 #[sI p1, sI p2, sI p3, sI (p1 + (own_mx p2 p3))] [(.int (p1 + (own_mx p2 p3))), (.int (0 : Int32))]
  refine og (XS.icmpNo X1.here hx rfl (hb hby own_d49) rfl (tlt hpos).2.1) ?_
  show OG m T1 13 #[sI p1, sI p2, sI p3, sI (p1 + (own_mx p2 p3))] []
  refine og (XS.iloadN X1.here hx rfl (hb hby own_d50) rfl) ?_
  show OG m T1 14 #[sI p1, sI p2, sI p3, sI (p1 + (own_mx p2 p3))] [(.int (p1 + (own_mx p2 p3)))]
  refine own_go (fun t k => (X1.ldcInt hx hown (mvT hZ (tw hw 228 rfl)) (g := (mkF m 14 #[sI p1, sI p2, sI p3, sI (p1 + (own_mx p2 p3))] [(.int (p1 + (own_mx p2 p3)))])) rfl (hb hby own_d51)) t k) ?_
  show OG m T1 16 #[sI p1, sI p2, sI p3, sI (p1 + (own_mx p2 p3))] [(.int (2147483639 : Int32)), (.int (p1 + (own_mx p2 p3)))]
  refine og (XS.icmpNo X1.here hx rfl (hb hby own_d52) rfl (flt hbig).2.2.1) ?_
  show OG m T1 19 #[sI p1, sI p2, sI p3, sI (p1 + (own_mx p2 p3))] []
  refine og (XS.iloadN X1.here hx rfl (hb hby own_d53) rfl) ?_
  show OG m T1 20 #[sI p1, sI p2, sI p3, sI (p1 + (own_mx p2 p3))] [(.int (p1 + (own_mx p2 p3)))]
  obtain ⟨fs, hr, hrun, hended, hW, hsame⟩ := X1.leave (v := some (.int (p1 + (own_mx p2 p3)))) (fun h => by rw [Bd.returns] at h; cases h)
  refine ⟨_, _, retI X1 hx Bd.returns (hb hby own_d54) hr, hrun, hended, _, _, rfl, ?_, ⟨_, rfl⟩, hW, hsame.mono (by decide) (by decide)⟩
  show Q_own_nl Z p1 p2 p3 h0 n0 _ T1.heap _
  rw [e1]
  exact ⟨rfl, N1, rfl⟩
theorem own_ef55 (m : MethodId) (a1 : Addr) (p1 : Int32) : entryFrame m #[(.ref a1), (.int p1)] 6 = mkF m 0 #[sR a1, sI p1, sU, sU, sU, sU] [] := by first | (simp [entryFrame, mkF, argsToLocals, Value.category]; done) | rfl
theorem own_d56 : decode jdk_68_method_10_code 0 = .ok (.aload_n 0, 1) := by decide +kernel
theorem own_d57 : decode jdk_68_method_10_code 1 = .ok (.getfield 15, 3) := by decide +kernel
theorem own_d58 : decode jdk_68_method_10_code 4 = .ok (.arraylength, 1) := by decide +kernel
theorem own_d59 : decode jdk_68_method_10_code 5 = .ok (.istore_n 2, 1) := by decide +kernel
theorem own_d60 : decode jdk_68_method_10_code 6 = .ok (.iload_n 1, 1) := by decide +kernel
theorem own_d61 : decode jdk_68_method_10_code 7 = .ok (.aload_n 0, 1) := by decide +kernel
theorem own_d62 : decode jdk_68_method_10_code 8 = .ok (.getfield 22, 3) := by decide +kernel
theorem own_d63 : decode jdk_68_method_10_code 11 = .ok (.ishl, 1) := by decide +kernel
theorem own_d64 : decode jdk_68_method_10_code 12 = .ok (.istore_n 3, 1) := by decide +kernel
theorem own_d65 : decode jdk_68_method_10_code 13 = .ok (.iload_n 3, 1) := by decide +kernel
theorem own_d66 : decode jdk_68_method_10_code 14 = .ok (.iload_n 2, 1) := by decide +kernel
theorem own_d67 : decode jdk_68_method_10_code 15 = .ok (.isub, 1) := by decide +kernel
theorem own_d68 : decode jdk_68_method_10_code 16 = .ok (.istore 4, 2) := by decide +kernel
theorem own_d69 : decode jdk_68_method_10_code 18 = .ok (.iload_n 2, 1) := by decide +kernel
theorem own_d70 : decode jdk_68_method_10_code 19 = .ok (.iload 4, 2) := by decide +kernel
theorem own_d71 : decode jdk_68_method_10_code 21 = .ok (.iload_n 2, 1) := by decide +kernel
theorem own_d72 : decode jdk_68_method_10_code 22 = .ok (.iconst 2, 1) := by decide +kernel
theorem own_d73 : decode jdk_68_method_10_code 23 = .ok (.aload_n 0, 1) := by decide +kernel
theorem own_d74 : decode jdk_68_method_10_code 24 = .ok (.getfield 22, 3) := by decide +kernel
theorem own_d75 : decode jdk_68_method_10_code 27 = .ok (.ishl, 1) := by decide +kernel
theorem own_d76 : decode jdk_68_method_10_code 28 = .ok (.iadd, 1) := by decide +kernel
theorem own_d77 : decode jdk_68_method_10_code 29 = .ok (.invokestatic 114, 3) := by decide +kernel
theorem own_pd78 : parseMethodDescriptor "(III)I" = some ⟨[.int, .int, .int], some .int⟩ := by decide +kernel
theorem own_d79 : decode jdk_68_method_10_code 32 = .ok (.istore 5, 2) := by decide +kernel
theorem own_d80 : decode jdk_68_method_10_code 34 = .ok (.iload 5, 2) := by decide +kernel
theorem own_d81 : decode jdk_68_method_10_code 36 = .ok (.ldc 39, 2) := by decide +kernel
theorem own_d82 : decode jdk_68_method_10_code 38 = .ok (.if_icmp .ne 13, 3) := by decide +kernel
theorem own_d83 : decode jdk_68_method_10_code 51 = .ok (.iload 5, 2) := by decide +kernel
theorem own_d84 : decode jdk_68_method_10_code 53 = .ok (.aload_n 0, 1) := by decide +kernel
theorem own_d85 : decode jdk_68_method_10_code 54 = .ok (.getfield 22, 3) := by decide +kernel
theorem own_d86 : decode jdk_68_method_10_code 57 = .ok (.ishr, 1) := by decide +kernel
theorem own_d87 : decode jdk_68_method_10_code 58 = .ok (.ireturn, 1) := by decide +kernel
def Q_own_newcap (Z : State) (a1 : Addr) (p1 : Int32) (d : Addr) (k : ClassId) (cap : Int32) (bs : List Int32) (h0 : Heap) (n0 : Nat) (v : Option Value) (h : Heap) (L : List Loc) : Prop := v = some (.int (cap + (own_mx (p1 - cap) (cap + (2 : Int32))))) ∧ Fr n0 L ∧ h = h0
set_option maxRecDepth 65536 in
set_option maxHeartbeats 40000000 in
theorem own_newcap (l : Launch) (Z : State) (a0 : Array Value) (hw : ∀ d ∈ tables_1, d.before a0 Z = true) (ws : List Jvm.Cond) (a1 : Addr) (p1 : Int32) (d : Addr) (k : ClassId) (cap : Int32) (bs : List Int32) (h0 : Heap) (n0 : Nat) (Z0 : n0 ≤ h0.size) (f0_0 : Exa Z h0 a1 "java/lang/StringBuilder") (f0_1 : Fld Z h0 a1 "java/lang/AbstractStringBuilder" "value" "[B" (.ref d)) (f0_2 : Fld Z h0 a1 "java/lang/AbstractStringBuilder" "coder" "B" (.int (0 : Int32))) (f0_3 : Arv Z h0 d k .byte cap (own_B bs) (.int (0 : Int32))) (hcap : ¬ cap < 0 ∧ cap.toInt ≤ 74) (hm : 0 ≤ p1.toInt ∧ p1.toInt ≤ 37) (hg : cap.toInt < p1.toInt) :
    MetFree l (⟨"java/lang/AbstractStringBuilder", "newCapacity", "(I)I"⟩ : MethodName) (head1 (Jvm.Cond.code (⟨"java/lang/AbstractStringBuilder", "newCapacity", "(I)I"⟩ : MethodName) jdk_68_method_10_code 6 (some .int) :: ws) ({ frames := 2, cells := 0, slots := 0, locals := 29 } : Room)) (fun a U => a = #[(.ref a1), (.int p1)] ∧ Z.Warmed39 U.vm ∧ U.heap = h0) (fun _ _ _ _ _ => True) (fun _ U o U' => ∃ v L, o = .returned v ∧ Q_own_newcap Z a1 p1 d k cap bs h0 n0 v U'.heap L ∧ FrameEnd U o U' L ({ frames := 2, cells := 0, slots := 0, locals := 29 } : Room).cells ({ frames := 2, cells := 0, slots := 0, locals := 29 } : Room).slots) := by
  refine MetFree.of_bodySF (plainFor_of_name own_pn1) hisR ?_
  intro p e s m args below meth c s₁ Bd hml0 hP hK
  obtain ⟨rfl, hZ, hh⟩ := hP
  have hx := Bd.exec
  have hby := Bd.bytes
  have hml : c.maxLocals = 6 := hml0
  have hown : s.vm.findClass "java/lang/AbstractStringBuilder" = some m.cls := findClass_of_methodNamed Bd.named
  have hnm := (name_of_methodNamed Bd.named Bd.method).1
  have X0 : Stand p l e ({ frames := 2, cells := 0, slots := 0, locals := 29 } : Room) s m #[(.ref a1), (.int p1)] below meth c s₁ [] 0 0 := Stand.of_body Bd
  have e0 : s₁.heap = h0 := by rw [← hh, Bd.state]; rfl
  have N0 := Fr.nil n0
  have K0 := Keep.refl h0 []
  refine own_go (fun t k => castTop (own_ef55 m a1 p1) k) ?_
  show OG m s₁ 0 #[sR a1, sI p1, sU, sU, sU, sU] []
  refine og (XS.aloadN X0.here hx rfl (hb hby own_d56) rfl rfl) ?_
  show OG m s₁ 1 #[sR a1, sI p1, sU, sU, sU, sU] [(.ref a1)]
  obtain ⟨T1, X1, e1, st1⟩ := getF X0 hx hZ hown (host := "") (Or.inl (tw hw 23 rfl)) Via.refl e0 f0_1 (g := (mkF m 1 #[sR a1, sI p1, sU, sU, sU, sU] [(.ref a1)])) rfl rfl (hb hby own_d57)
  refine own_go (fun t k => st1 t k) ?_
  show OG m T1 4 #[sR a1, sI p1, sU, sU, sU, sU] [(.ref d)]
  have vv2 := f0_3
  obtain ⟨cl2, Ar2, qk2, Sz2, Nn2, Hs2, Gs2⟩ := vv2
  have st2 : ∀ t, Steps p.tables e below (T1.setTop (mkF m 5 #[sR a1, sI p1, sU, sU, sU, sU] [(.int cap)])) t → Steps p.tables e below (T1.setTop (mkF m 4 #[sR a1, sI p1, sU, sU, sU, sU] [(.ref d)])) t := fun t k => by
    refine X1.arraylength hx (by rw [e1]; exact Ar2.1) (State.isArrayOf_alike hZ.alike Ar2.2.1) (g := (mkF m 4 #[sR a1, sI p1, sU, sU, sU, sU] [(.ref d)])) rfl rfl (hb hby own_d58) _ ?_
    rw [len_of Sz2 Nn2]
    exact k
  refine own_go (fun t k => st2 t k) ?_
  show OG m T1 5 #[sR a1, sI p1, sU, sU, sU, sU] [(.int cap)]
  refine og (XS.istoreN X1.here hx rfl (hb hby own_d59) rfl (l' := #[sR a1, sI p1, sI cap, sU, sU, sU]) rfl) ?_
  refine og (XS.iloadN X1.here hx rfl (hb hby own_d60) rfl) ?_
  show OG m T1 7 #[sR a1, sI p1, sI cap, sU, sU, sU] [(.int p1)]
  refine og (XS.aloadN X1.here hx rfl (hb hby own_d61) rfl rfl) ?_
  show OG m T1 8 #[sR a1, sI p1, sI cap, sU, sU, sU] [(.ref a1), (.int p1)]
  obtain ⟨T3, X3, e3, st3⟩ := getF X1 hx hZ hown (host := "") (Or.inl (tw hw 25 rfl)) Via.refl e1 f0_2 (g := (mkF m 8 #[sR a1, sI p1, sI cap, sU, sU, sU] [(.ref a1), (.int p1)])) rfl rfl (hb hby own_d62)
  refine own_go (fun t k => st3 t k) ?_
  show OG m T3 11 #[sR a1, sI p1, sI cap, sU, sU, sU] [(.int (0 : Int32)), (.int p1)]
  refine og (XS.ishl X3.here hx rfl (hb hby own_d63) rfl) ?_
  show OG m T3 12 #[sR a1, sI p1, sI cap, sU, sU, sU] [(.int (p1 <<< ((0 : Int32) &&& 31)))]
  rw [own_shl0 p1]
  show OG m T3 12 #[sR a1, sI p1, sI cap, sU, sU, sU] [(.int p1)]
  refine og (XS.istoreN X3.here hx rfl (hb hby own_d64) rfl (l' := #[sR a1, sI p1, sI cap, sI p1, sU, sU]) rfl) ?_
  refine og (XS.iloadN X3.here hx rfl (hb hby own_d65) rfl) ?_
  show OG m T3 14 #[sR a1, sI p1, sI cap, sI p1, sU, sU] [(.int p1)]
  refine og (XS.iloadN X3.here hx rfl (hb hby own_d66) rfl) ?_
  refine og (XS.isub X3.here hx rfl (hb hby own_d67) rfl) ?_
  show OG m T3 16 #[sR a1, sI p1, sI cap, sI p1, sU, sU] [(.int (p1 - cap))]
  refine og (XS.istore X3.here hx rfl (hb hby own_d68) rfl (l' := #[sR a1, sI p1, sI cap, sI p1, sI (p1 - cap), sU]) rfl) ?_
  refine og (XS.iloadN X3.here hx rfl (hb hby own_d69) rfl) ?_
  show OG m T3 19 #[sR a1, sI p1, sI cap, sI p1, sI (p1 - cap), sU] [(.int cap)]
  refine og (XS.iload X3.here hx rfl (hb hby own_d70) rfl) ?_
  refine og (XS.iloadN X3.here hx rfl (hb hby own_d71) rfl) ?_
  show OG m T3 22 #[sR a1, sI p1, sI cap, sI p1, sI (p1 - cap), sU] [(.int cap), (.int (p1 - cap)), (.int cap)]
  refine og (XS.iconst X3.here hx rfl (hb hby own_d72)) ?_
  refine og (XS.aloadN X3.here hx rfl (hb hby own_d73) rfl rfl) ?_
  show OG m T3 24 #[sR a1, sI p1, sI cap, sI p1, sI (p1 - cap), sU] [(.ref a1), (.int (2 : Int32)), (.int cap), (.int (p1 - cap)), (.int cap)]
  obtain ⟨T4, X4, e4, st4⟩ := getF X3 hx hZ hown (host := "") (Or.inl (tw hw 25 rfl)) Via.refl e3 f0_2 (g := (mkF m 24 #[sR a1, sI p1, sI cap, sI p1, sI (p1 - cap), sU] [(.ref a1), (.int (2 : Int32)), (.int cap), (.int (p1 - cap)), (.int cap)])) rfl rfl (hb hby own_d74)
  refine own_go (fun t k => st4 t k) ?_
  show OG m T4 27 #[sR a1, sI p1, sI cap, sI p1, sI (p1 - cap), sU] [(.int (0 : Int32)), (.int (2 : Int32)), (.int cap), (.int (p1 - cap)), (.int cap)]
  refine og (XS.ishl X4.here hx rfl (hb hby own_d75) rfl) ?_
  show OG m T4 28 #[sR a1, sI p1, sI cap, sI p1, sI (p1 - cap), sU] [(.int ((2 : Int32) <<< ((0 : Int32) &&& 31))), (.int cap), (.int (p1 - cap)), (.int cap)]
  rw [own_shl0 (2 : Int32)]
  show OG m T4 28 #[sR a1, sI p1, sI cap, sI p1, sI (p1 - cap), sU] [(.int (2 : Int32)), (.int cap), (.int (p1 - cap)), (.int cap)]
  refine og (XS.iadd X4.here hx rfl (hb hby own_d76) rfl) ?_
  show OG m T4 29 #[sR a1, sI p1, sI cap, sI p1, sI (p1 - cap), sU] [(.int (cap + (2 : Int32))), (.int (p1 - cap)), (.int cap)]
  have hv : p1.toInt ≤ (own_nc cap p1).toInt ∧ (own_nc cap p1).toInt ≤ 74 := own_nc_val hcap hm.2 hg
  have h0c : 0 ≤ cap.toInt := by have q := own_clamp hcap.1; omega
  obtain ⟨_, _, ⟨T5, L5, k5, n5⟩, -, X5, ⟨Lc5, hQ5, l5, y5, z5⟩, st5⟩ := Jvm.LawKit.callS X4 hx (y := (⟨"jdk/internal/util/ArraysSupport", "newLength", "(III)I"⟩ : MethodName)) hown (mvT hZ (tw hw 221 rfl)) (mvT hZ (tw hw 222 rfl)) (mvT hZ (tw hw 223 rfl)) (mvT hZ (tw hw 224 rfl)) (by decide) (backOf (W := 0) (own_nl l Z a0 hw [] cap (p1 - cap) (cap + (2 : Int32)) h0 n0 Z0 (own_gt0 hv.1 (by omega)) (own_nbig hv.2)) hZ (tw hw 224 rfl) (tw hw 223 rfl) (by decide) (by decide)) (g := (mkF m 29 #[sR a1, sI p1, sI cap, sI p1, sI (p1 - cap), sU] [(.int (cap + (2 : Int32))), (.int (p1 - cap)), (.int cap)])) rfl (by rw [hml]; rfl) (argsL := [(.int cap), (.int (p1 - cap)), (.int (cap + (2 : Int32)))]) (rest := []) (lenOf own_pd78 rfl) rfl (by show 2 * 0 + _ ≤ _; exact Nat.le_of_eq rfl) (hb hby own_d77) (fun _ _ => ⟨rfl, e4, (by decide : 0 + 0 ≤ _), (by decide : 0 + 0 ≤ _)⟩)
  dsimp only [Pt.U, Pt.locs, Pt.cells, Pt.slots] at X5 l5 y5 z5 st5 hQ5
  subst l5 y5 z5
  obtain ⟨rfl, Nq5, eq5⟩ := hQ5
  have N5 := Fr.app N0 Nq5
  have e5 : T5.heap = h0 := eq5
  refine own_go (fun t k => st5 t k) ?_
  show OG m T5 32 #[sR a1, sI p1, sI cap, sI p1, sI (p1 - cap), sU] [(.int (cap + (own_mx (p1 - cap) (cap + (2 : Int32)))))]
  refine og (XS.istore X5.here hx rfl (hb hby own_d79) rfl (l' := #[sR a1, sI p1, sI cap, sI p1, sI (p1 - cap), sI (cap + (own_mx (p1 - cap) (cap + (2 : Int32))))]) rfl) ?_
  refine og (XS.iload X5.here hx rfl (hb hby own_d80) rfl) ?_
  show OG m T5 36 #[sR a1, sI p1, sI cap, sI p1, sI (p1 - cap), sI (cap + (own_mx (p1 - cap) (cap + (2 : Int32))))] [(.int (cap + (own_mx (p1 - cap) (cap + (2 : Int32)))))]
  refine own_go (fun t k => (X5.ldcInt hx hown (mvT hZ (tw hw 229 rfl)) (g := (mkF m 36 #[sR a1, sI p1, sI cap, sI p1, sI (p1 - cap), sI (cap + (own_mx (p1 - cap) (cap + (2 : Int32))))] [(.int (cap + (own_mx (p1 - cap) (cap + (2 : Int32)))))])) rfl (hb hby own_d81)) t k) ?_
  show OG m T5 38 #[sR a1, sI p1, sI cap, sI p1, sI (p1 - cap), sI (cap + (own_mx (p1 - cap) (cap + (2 : Int32))))] [(.int (2147483647 : Int32)), (.int (cap + (own_mx (p1 - cap) (cap + (2 : Int32)))))]
  refine og (XS.icmpYes X5.here hx rfl (pc0 := 38) (pc' := 51) rfl (hb hby own_d82) rfl (feq (own_nmax hv.2)).2 (by decide) (by decide)) ?_
  show OG m T5 51 #[sR a1, sI p1, sI cap, sI p1, sI (p1 - cap), sI (cap + (own_mx (p1 - cap) (cap + (2 : Int32))))] []
  refine og (XS.iload X5.here hx rfl (hb hby own_d83) rfl) ?_
  refine og (XS.aloadN X5.here hx rfl (hb hby own_d84) rfl rfl) ?_
  show OG m T5 54 #[sR a1, sI p1, sI cap, sI p1, sI (p1 - cap), sI (cap + (own_mx (p1 - cap) (cap + (2 : Int32))))] [(.ref a1), (.int (cap + (own_mx (p1 - cap) (cap + (2 : Int32)))))]
  obtain ⟨T6, X6, e6, st6⟩ := getF X5 hx hZ hown (host := "") (Or.inl (tw hw 25 rfl)) Via.refl e5 f0_2 (g := (mkF m 54 #[sR a1, sI p1, sI cap, sI p1, sI (p1 - cap), sI (cap + (own_mx (p1 - cap) (cap + (2 : Int32))))] [(.ref a1), (.int (cap + (own_mx (p1 - cap) (cap + (2 : Int32)))))])) rfl rfl (hb hby own_d85)
  refine own_go (fun t k => st6 t k) ?_
  show OG m T6 57 #[sR a1, sI p1, sI cap, sI p1, sI (p1 - cap), sI (cap + (own_mx (p1 - cap) (cap + (2 : Int32))))] [(.int (0 : Int32)), (.int (cap + (own_mx (p1 - cap) (cap + (2 : Int32)))))]
  refine og (XS.ishr X6.here hx rfl (hb hby own_d86) rfl) ?_
  show OG m T6 58 #[sR a1, sI p1, sI cap, sI p1, sI (p1 - cap), sI (cap + (own_mx (p1 - cap) (cap + (2 : Int32))))] [(.int ((cap + (own_mx (p1 - cap) (cap + (2 : Int32)))) >>> ((0 : Int32) &&& 31)))]
  rw [own_shr0 (cap + (own_mx (p1 - cap) (cap + (2 : Int32))))]
  show OG m T6 58 #[sR a1, sI p1, sI cap, sI p1, sI (p1 - cap), sI (cap + (own_mx (p1 - cap) (cap + (2 : Int32))))] [(.int (cap + (own_mx (p1 - cap) (cap + (2 : Int32)))))]
  obtain ⟨fs, hr, hrun, hended, hW, hsame⟩ := X6.leave (v := some (.int (cap + (own_mx (p1 - cap) (cap + (2 : Int32)))))) (fun h => by rw [Bd.returns] at h; cases h)
  refine ⟨_, _, retI X6 hx Bd.returns (hb hby own_d87) hr, hrun, hended, _, _, rfl, ?_, ⟨_, rfl⟩, hW, hsame.mono (by decide) (by decide)⟩
  show Q_own_newcap Z a1 p1 d k cap bs h0 n0 _ T6.heap _
  rw [e6]
  exact ⟨rfl, N5, rfl⟩
theorem own_ef88 (m : MethodId) (d : Addr) (p1 : Int32) : entryFrame m #[(.ref d), (.int p1)] 3 = mkF m 0 #[sR d, sI p1, sU] [] := by first | (simp [entryFrame, mkF, argsToLocals, Value.category]; done) | rfl
theorem own_pn89 : plainName "java/util/Arrays" = true := by first | (simp [plainName, overriddenIn]; done) | decide +kernel
theorem own_d90 : decode jdk_65_method_121_code 0 = .ok (.iload_n 1, 1) := by decide +kernel
theorem own_d91 : decode jdk_65_method_121_code 1 = .ok (.aload_n 0, 1) := by decide +kernel
theorem own_d92 : decode jdk_65_method_121_code 2 = .ok (.arraylength, 1) := by decide +kernel
theorem own_d93 : decode jdk_65_method_121_code 3 = .ok (.if_icmp .ne 11, 3) := by decide +kernel
theorem own_d94 : decode jdk_65_method_121_code 14 = .ok (.iload_n 1, 1) := by decide +kernel
theorem own_d95 : decode jdk_65_method_121_code 15 = .ok (.newarray .byte, 2) := by decide +kernel
theorem own_d96 : decode jdk_65_method_121_code 17 = .ok (.astore_n 2, 1) := by decide +kernel
theorem own_d97 : decode jdk_65_method_121_code 18 = .ok (.aload_n 0, 1) := by decide +kernel
theorem own_d98 : decode jdk_65_method_121_code 19 = .ok (.iconst 0, 1) := by decide +kernel
theorem own_d99 : decode jdk_65_method_121_code 20 = .ok (.aload_n 2, 1) := by decide +kernel
theorem own_d100 : decode jdk_65_method_121_code 21 = .ok (.iconst 0, 1) := by decide +kernel
theorem own_d101 : decode jdk_65_method_121_code 22 = .ok (.aload_n 0, 1) := by decide +kernel
theorem own_d102 : decode jdk_65_method_121_code 23 = .ok (.arraylength, 1) := by decide +kernel
theorem own_d103 : decode jdk_65_method_121_code 24 = .ok (.iload_n 1, 1) := by decide +kernel
theorem own_d104 : decode jdk_65_method_121_code 25 = .ok (.invokestatic 304, 3) := by decide +kernel
theorem own_d105 : decode jdk_65_method_121_code 28 = .ok (.invokestatic 150, 3) := by decide +kernel
theorem own_d106 : decode jdk_65_method_121_code 31 = .ok (.aload_n 2, 1) := by decide +kernel
theorem own_d107 : decode jdk_65_method_121_code 32 = .ok (.areturn, 1) := by decide +kernel
def Q_own_copyOf (Z : State) (d : Addr) (p1 : Int32) (k : ClassId) (cap : Int32) (bs : List Int32) (h0 : Heap) (n0 : Nat) (v : Option Value) (h : Heap) (L : List Loc) : Prop := ∃ xd : Addr, ∃ xk : ClassId, v = some (.ref xd) ∧ Fr n0 L ∧ Keep h0 h [] ∧ Exa Z h xd "[B" ∧ Arv Z h xd xk .byte p1 (own_B bs) (.int (0 : Int32)) ∧ (h0.size ≤ xd)
set_option maxRecDepth 65536 in
set_option maxHeartbeats 40000000 in
theorem own_copyOf (l : Launch) (Z : State) (a0 : Array Value) (hw : ∀ d ∈ tables_1, d.before a0 Z = true) (ws : List Jvm.Cond) (d : Addr) (p1 : Int32) (k : ClassId) (cap : Int32) (bs : List Int32) (h0 : Heap) (n0 : Nat) (Z0 : n0 ≤ h0.size) (f0_0 : Arv Z h0 d k .byte cap (own_B bs) (.int (0 : Int32))) (hcap : ¬ cap < 0 ∧ cap.toInt ≤ 74) (hlen : (bs.length : Int) ≤ cap.toInt) (hg : cap.toInt < p1.toInt) (hbb : p1.toInt ≤ 74) :
    MetFree l (⟨"java/util/Arrays", "copyOf", "([BI)[B"⟩ : MethodName) (head1 (Jvm.Cond.code (⟨"java/util/Arrays", "copyOf", "([BI)[B"⟩ : MethodName) jdk_65_method_121_code 3 (some (.array .byte)) :: ws) ({ frames := 1, cells := 1, slots := 74, locals := 18 } : Room)) (fun a U => a = #[(.ref d), (.int p1)] ∧ Z.Warmed39 U.vm ∧ U.heap = h0) (fun _ _ _ _ _ => True) (fun _ U o U' => ∃ v L, o = .returned v ∧ Q_own_copyOf Z d p1 k cap bs h0 n0 v U'.heap L ∧ FrameEnd U o U' L ({ frames := 1, cells := 1, slots := 74, locals := 18 } : Room).cells ({ frames := 1, cells := 1, slots := 74, locals := 18 } : Room).slots) := by
  refine MetFree.of_bodySF (plainFor_of_name own_pn89) hisR ?_
  intro p e s m args below meth c s₁ Bd hml0 hP hK
  obtain ⟨rfl, hZ, hh⟩ := hP
  have hx := Bd.exec
  have hby := Bd.bytes
  have hml : c.maxLocals = 3 := hml0
  have hown : s.vm.findClass "java/util/Arrays" = some m.cls := findClass_of_methodNamed Bd.named
  have hnm := (name_of_methodNamed Bd.named Bd.method).1
  have X0 : Stand p l e ({ frames := 1, cells := 1, slots := 74, locals := 18 } : Room) s m #[(.ref d), (.int p1)] below meth c s₁ [] 0 0 := Stand.of_body Bd
  have e0 : s₁.heap = h0 := by rw [← hh, Bd.state]; rfl
  have N0 := Fr.nil n0
  have K0 := Keep.refl h0 []
  refine own_go (fun t k => castTop (own_ef88 m d p1) k) ?_
  show OG m s₁ 0 #[sR d, sI p1, sU] []
  have h0c : 0 ≤ cap.toInt := by have q := own_clamp hcap.1; omega
  have hnp : ¬ p1 < 0 := own_nn (by omega)
  have hq1 := own_clamp hcap.1
  have hq2 := own_clamp hnp
  refine og (XS.iloadN X0.here hx rfl (hb hby own_d90) rfl) ?_
  refine og (XS.aloadN X0.here hx rfl (hb hby own_d91) rfl rfl) ?_
  show OG m s₁ 2 #[sR d, sI p1, sU] [(.ref d), (.int p1)]
  have vv1 := f0_0
  obtain ⟨cl1, Ar1, qk1, Sz1, Nn1, Hs1, Gs1⟩ := vv1
  have st1 : ∀ t, Steps p.tables e below (s₁.setTop (mkF m 3 #[sR d, sI p1, sU] [(.int cap), (.int p1)])) t → Steps p.tables e below (s₁.setTop (mkF m 2 #[sR d, sI p1, sU] [(.ref d), (.int p1)])) t := fun t k => by
    refine X0.arraylength hx (by rw [e0]; exact Ar1.1) (State.isArrayOf_alike hZ.alike Ar1.2.1) (g := (mkF m 2 #[sR d, sI p1, sU] [(.ref d), (.int p1)])) rfl rfl (hb hby own_d92) _ ?_
    rw [len_of Sz1 Nn1]
    exact k
  refine own_go (fun t k => st1 t k) ?_
  show OG m s₁ 3 #[sR d, sI p1, sU] [(.int cap), (.int p1)]
  refine og (XS.icmpYes X0.here hx rfl (pc0 := 3) (pc' := 14) rfl (hb hby own_d93) rfl (feq (fun q => by rw [q] at hg; exact absurd hg (Int.lt_irrefl _))).2 (by decide) (by decide)) ?_
  show OG m s₁ 14 #[sR d, sI p1, sU] []
  refine og (XS.iloadN X0.here hx rfl (hb hby own_d94) rfl) ?_
  show OG m s₁ 15 #[sR d, sI p1, sU] [(.int p1)]
  obtain ⟨T2, h2, k2, X2, e2, E2, A2, B2, st2⟩ := newPE X0 hx hZ (tw hw 22 rfl) e0 (g := (mkF m 15 #[sR d, sI p1, sU] [(.int p1)])) rfl (hb hby own_d95) rfl hnp (cap := 74) (by omega) (by decide) (by decide) (by decide) (ad := "[B") (by decide)
  obtain ⟨b2, g2⟩ : ∃ z, z = h0.size := ⟨_, rfl⟩
  rw [← g2] at A2 B2 st2
  have ne3 : d ≠ b2 := Nat.ne_of_lt (Nat.lt_of_lt_of_le f0_0.lt (Nat.le_of_eq g2.symm))
  have g_b2 : n0 ≤ b2 := Nat.le_trans Z0 (Nat.le_of_eq g2.symm)
  have sz_b2 : h0.size ≤ b2 := Nat.le_trans K0.1 (Nat.le_of_eq g2.symm)
  have F4 : Arv Z h2 d k .byte cap (own_B bs) (.int (0 : Int32)) := f0_0.ext E2
  have K5 : Keep h0 h2 [] := K0.ext E2
  have Z5 : n0 ≤ h2.size := Nat.le_trans Z0 E2.1
  have F6 : Arv Z h2 b2 k2 .byte p1 [] (.int (0 : Int32)) := Arv.new A2 hnp
  refine own_go (fun t k => st2 t k) ?_
  show OG m T2 17 #[sR d, sI p1, sU] [(.ref b2)]
  refine og (XS.astoreN X2.here hx rfl (hb hby own_d96) rfl rfl (l' := #[sR d, sI p1, sR b2]) rfl) ?_
  refine og (XS.aloadN X2.here hx rfl (hb hby own_d97) rfl rfl) ?_
  show OG m T2 19 #[sR d, sI p1, sR b2] [(.ref d)]
  refine og (XS.iconst X2.here hx rfl (hb hby own_d98)) ?_
  refine og (XS.aloadN X2.here hx rfl (hb hby own_d99) rfl rfl) ?_
  show OG m T2 21 #[sR d, sI p1, sR b2] [(.ref b2), (.int (0 : Int32)), (.ref d)]
  refine og (XS.iconst X2.here hx rfl (hb hby own_d100)) ?_
  refine og (XS.aloadN X2.here hx rfl (hb hby own_d101) rfl rfl) ?_
  show OG m T2 23 #[sR d, sI p1, sR b2] [(.ref d), (.int (0 : Int32)), (.ref b2), (.int (0 : Int32)), (.ref d)]
  have vv7 := F4
  obtain ⟨cl7, Ar7, qk7, Sz7, Nn7, Hs7, Gs7⟩ := vv7
  have st7 : ∀ t, Steps p.tables e below (T2.setTop (mkF m 24 #[sR d, sI p1, sR b2] [(.int cap), (.int (0 : Int32)), (.ref b2), (.int (0 : Int32)), (.ref d)])) t → Steps p.tables e below (T2.setTop (mkF m 23 #[sR d, sI p1, sR b2] [(.ref d), (.int (0 : Int32)), (.ref b2), (.int (0 : Int32)), (.ref d)])) t := fun t k => by
    refine X2.arraylength hx (by rw [e2]; exact Ar7.1) (State.isArrayOf_alike hZ.alike Ar7.2.1) (g := (mkF m 23 #[sR d, sI p1, sR b2] [(.ref d), (.int (0 : Int32)), (.ref b2), (.int (0 : Int32)), (.ref d)])) rfl rfl (hb hby own_d102) _ ?_
    rw [len_of Sz7 Nn7]
    exact k
  refine own_go (fun t k => st7 t k) ?_
  show OG m T2 24 #[sR d, sI p1, sR b2] [(.int cap), (.int (0 : Int32)), (.ref b2), (.int (0 : Int32)), (.ref d)]
  refine og (XS.iloadN X2.here hx rfl (hb hby own_d103) rfl) ?_
  show OG m T2 25 #[sR d, sI p1, sR b2] [(.int p1), (.int cap), (.int (0 : Int32)), (.ref b2), (.int (0 : Int32)), (.ref d)]
  obtain ⟨_, _, ⟨T8, L8, k8, n8⟩, -, X8, ⟨Lc8, hQ8, l8, y8, z8⟩, st8⟩ := Jvm.LawKit.callS X2 hx (y := (⟨"java/lang/Math", "min", "(II)I"⟩ : MethodName)) hown (mvT hZ (tw hw 156 rfl)) (mvT hZ (tw hw 157 rfl)) (mvT hZ (tw hw 158 rfl)) (mvT hZ (tw hw 159 rfl)) (by decide) (backOf (W := 4) (own_min l Z a0 hw [] cap p1 h2 n0 Z5) hZ (tw hw 159 rfl) (tw hw 158 rfl) (by decide) (by decide)) (g := (mkF m 25 #[sR d, sI p1, sR b2] [(.int p1), (.int cap), (.int (0 : Int32)), (.ref b2), (.int (0 : Int32)), (.ref d)])) rfl (by rw [hml]; rfl) (argsL := [(.int cap), (.int p1)]) (rest := [(.int (0 : Int32)), (.ref b2), (.int (0 : Int32)), (.ref d)]) (lenOf own_pd44 rfl) rfl (by show 2 * 0 + _ ≤ _; exact Nat.le_of_eq rfl) (hb hby own_d104) (fun _ _ => ⟨rfl, e2, (by decide : 1 + 0 ≤ _), (by decide : 74 + 0 ≤ _)⟩)
  dsimp only [Pt.U, Pt.locs, Pt.cells, Pt.slots] at X8 l8 y8 z8 st8 hQ8
  subst l8 y8 z8
  obtain ⟨rfl, Nq8, eq8⟩ := hQ8
  have N8 := Fr.app N0 Nq8
  have e8 : T8.heap = h2 := eq8
  refine own_go (fun t k => st8 t k) ?_
  show OG m T8 28 #[sR d, sI p1, sR b2] [(.int (own_mn cap p1)), (.int (0 : Int32)), (.ref b2), (.int (0 : Int32)), (.ref d)]
  rw [own_mn_le (Int.le_of_lt hg)]
  show OG m T8 28 #[sR d, sI p1, sR b2] [(.int cap), (.int (0 : Int32)), (.ref b2), (.int (0 : Int32)), (.ref d)]
  have vd9 : Arv Z h2 b2 k2 .byte p1 (List.replicate (cap.toNatClampNeg) (.int (0 : Int32))) (.int (0 : Int32)) := F6.pad (pad_rep [] (.int (0 : Int32)) (cap.toNatClampNeg))
  obtain ⟨T9, h9, L9, X9, e9, Nq9, Kq9, A9, st9⟩ := cpA X8 hx hZ hown (tw hw 160 rfl) (tw hw 100 rfl) (tw hw 98 rfl) (tw hw 99 rfl) e8 F4 vd9 (Or.inl ⟨rfl, rfl⟩) (by decide) (by decide) hcap.1 (by show 0 + _ ≤ _; omega) (by show 0 + _ ≤ _; omega) rfl (by simp) (n0 := n0) N8 g_b2 (g := (mkF m 28 #[sR d, sI p1, sR b2] [(.int cap), (.int (0 : Int32)), (.ref b2), (.int (0 : Int32)), (.ref d)])) rfl (by rw [hml]; rfl) rfl (hb hby own_d105) (by decide) (W := 0) (by show 2 * 0 + _ ≤ _; exact Nat.le_of_eq rfl) (by decide)
  have F10 : Arv Z h9 d k .byte cap (own_B bs) (.int (0 : Int32)) := F4.keep Kq9 (ninS ne3 nin0)
  have F11 : Exa Z h9 b2 "[B" := B2.keep Kq9
  have K9 : Keep h0 h9 [] := K5.trans Kq9 (allS (Or.inr sz_b2) all0)
  have Z9 : n0 ≤ h9.size := Nat.le_trans Z5 Kq9.1
  have F12 : Arv Z h9 b2 k2 .byte p1 (own_B bs) (.int (0 : Int32)) := A9.pad (own_copy bs cap.toNatClampNeg (by omega))
  refine own_go (fun t k => st9 t k) ?_
  show OG m T9 31 #[sR d, sI p1, sR b2] []
  refine og (XS.aloadN X9.here hx rfl (hb hby own_d106) rfl rfl) ?_
  show OG m T9 32 #[sR d, sI p1, sR b2] [(.ref b2)]
  obtain ⟨fs, hr, hrun, hended, hW, hsame⟩ := X9.leave (v := some (.ref b2)) (fun h => by rw [Bd.returns] at h; cases h)
  have hlast : Steps p.tables e below (T9.setTop (mkF m 32 #[sR d, sI p1, sR b2] [(.ref b2)])) (T9.setFrames fs) := by
    exact retOut X9 hx (t := (.array .byte)) Bd.returns rfl (Or.inr (Or.inr (Or.inr (Or.inr ⟨rfl, rfl, rfl⟩)))) (hb hby own_d107) hr
  refine ⟨_, _, hlast, hrun, hended, _, _, rfl, ?_, ⟨_, rfl⟩, hW, hsame.mono (by decide) (by decide)⟩
  show Q_own_copyOf Z d p1 k cap bs h0 n0 _ T9.heap _
  rw [e9]
  exact ⟨b2, k2, rfl, Nq9, K9, F11, F12, sz_b2⟩
theorem own_ef108 (m : MethodId) (a1 : Addr) (p1 : Int32) : entryFrame m #[(.ref a1), (.int p1)] 3 = mkF m 0 #[sR a1, sI p1, sU] [] := by first | (simp [entryFrame, mkF, argsToLocals, Value.category]; done) | rfl
theorem own_d109 : decode jdk_68_method_9_code 0 = .ok (.aload_n 0, 1) := by decide +kernel
theorem own_d110 : decode jdk_68_method_9_code 1 = .ok (.getfield 15, 3) := by decide +kernel
theorem own_d111 : decode jdk_68_method_9_code 4 = .ok (.arraylength, 1) := by decide +kernel
theorem own_d112 : decode jdk_68_method_9_code 5 = .ok (.aload_n 0, 1) := by decide +kernel
theorem own_d113 : decode jdk_68_method_9_code 6 = .ok (.getfield 22, 3) := by decide +kernel
theorem own_d114 : decode jdk_68_method_9_code 9 = .ok (.ishr, 1) := by decide +kernel
theorem own_d115 : decode jdk_68_method_9_code 10 = .ok (.istore_n 2, 1) := by decide +kernel
theorem own_d116 : decode jdk_68_method_9_code 11 = .ok (.iload_n 1, 1) := by decide +kernel
theorem own_d117 : decode jdk_68_method_9_code 12 = .ok (.iload_n 2, 1) := by decide +kernel
theorem own_d118 : decode jdk_68_method_9_code 13 = .ok (.isub, 1) := by decide +kernel
theorem own_d119 : decode jdk_68_method_9_code 14 = .ok (.ifCond .le 24, 3) := by decide +kernel
theorem own_d120 : decode jdk_68_method_9_code 17 = .ok (.aload_n 0, 1) := by decide +kernel
theorem own_d121 : decode jdk_68_method_9_code 18 = .ok (.aload_n 0, 1) := by decide +kernel
theorem own_d122 : decode jdk_68_method_9_code 19 = .ok (.getfield 15, 3) := by decide +kernel
theorem own_d123 : decode jdk_68_method_9_code 22 = .ok (.aload_n 0, 1) := by decide +kernel
theorem own_d124 : decode jdk_68_method_9_code 23 = .ok (.iload_n 1, 1) := by decide +kernel
theorem own_d125 : decode jdk_68_method_9_code 24 = .ok (.invokevirtual 104, 3) := by decide +kernel
theorem own_pd126 : parseMethodDescriptor "(I)I" = some ⟨[.int], some .int⟩ := by decide +kernel
theorem own_d127 : decode jdk_68_method_9_code 27 = .ok (.aload_n 0, 1) := by decide +kernel
theorem own_d128 : decode jdk_68_method_9_code 28 = .ok (.getfield 22, 3) := by decide +kernel
theorem own_d129 : decode jdk_68_method_9_code 31 = .ok (.ishl, 1) := by decide +kernel
theorem own_d130 : decode jdk_68_method_9_code 32 = .ok (.invokestatic 108, 3) := by decide +kernel
theorem own_pd131 : parseMethodDescriptor "([BI)[B" = some ⟨[(.array .byte), .int], some (.array .byte)⟩ := by decide +kernel
theorem own_d132 : decode jdk_68_method_9_code 35 = .ok (.putfield 15, 3) := by decide +kernel
theorem own_d133 : decode jdk_68_method_9_code 38 = .ok (.return_, 1) := by decide +kernel
def Q_own_ensure (Z : State) (a1 : Addr) (p1 : Int32) (d : Addr) (k : ClassId) (cap : Int32) (cnt : Int32) (bs : List Int32) (h0 : Heap) (n0 : Nat) (v : Option Value) (h : Heap) (L : List Loc) : Prop := ∃ xd : Addr, ∃ xk : ClassId, ∃ xc : Int32, v = none ∧ Fr n0 L ∧ Keep h0 h [a1] ∧ Exa Z h a1 "java/lang/StringBuilder" ∧ Fld Z h a1 "java/lang/AbstractStringBuilder" "value" "[B" (.ref xd) ∧ Fld Z h a1 "java/lang/AbstractStringBuilder" "coder" "B" (.int (0 : Int32)) ∧ Fld Z h a1 "java/lang/AbstractStringBuilder" "count" "I" (.int cnt) ∧ Exa Z h xd "[B" ∧ Arv Z h xd xk .byte xc (own_B bs) (.int (0 : Int32)) ∧ (xd = d ∨ h0.size ≤ xd) ∧ (¬ xc < 0 ∧ xc.toInt ≤ 74) ∧ (p1.toInt ≤ xc.toInt)
set_option maxRecDepth 65536 in
set_option maxHeartbeats 40000000 in
theorem own_ensure (l : Launch) (Z : State) (a0 : Array Value) (hw : ∀ d ∈ tables_1, d.before a0 Z = true) (ws : List Jvm.Cond) (a1 : Addr) (p1 : Int32) (d : Addr) (k : ClassId) (cap : Int32) (cnt : Int32) (bs : List Int32) (h0 : Heap) (n0 : Nat) (Z0 : n0 ≤ h0.size) (f0_0 : Exa Z h0 a1 "java/lang/StringBuilder") (f0_1 : Fld Z h0 a1 "java/lang/AbstractStringBuilder" "value" "[B" (.ref d)) (f0_2 : Fld Z h0 a1 "java/lang/AbstractStringBuilder" "coder" "B" (.int (0 : Int32))) (f0_3 : Fld Z h0 a1 "java/lang/AbstractStringBuilder" "count" "I" (.int cnt)) (f0_4 : Exa Z h0 d "[B") (f0_5 : Arv Z h0 d k .byte cap (own_B bs) (.int (0 : Int32))) (g_a1 : n0 ≤ a1) (hcap : ¬ cap < 0 ∧ cap.toInt ≤ 74) (hlen : (bs.length : Int) ≤ cap.toInt) (hm : 0 ≤ p1.toInt ∧ p1.toInt ≤ 37) (hne : a1 ≠ d) :
    MetFree l (⟨"java/lang/AbstractStringBuilder", "ensureCapacityInternal", "(I)V"⟩ : MethodName) (head1 (Jvm.Cond.code (⟨"java/lang/AbstractStringBuilder", "ensureCapacityInternal", "(I)V"⟩ : MethodName) jdk_68_method_9_code 3 none :: ws) ({ frames := 3, cells := 1, slots := 74, locals := 48 } : Room)) (fun a U => a = #[(.ref a1), (.int p1)] ∧ Z.Warmed39 U.vm ∧ U.heap = h0) (fun _ _ _ _ _ => True) (fun _ U o U' => ∃ v L, o = .returned v ∧ Q_own_ensure Z a1 p1 d k cap cnt bs h0 n0 v U'.heap L ∧ FrameEnd U o U' L ({ frames := 3, cells := 1, slots := 74, locals := 48 } : Room).cells ({ frames := 3, cells := 1, slots := 74, locals := 48 } : Room).slots) := by
  refine MetFree.of_bodySF (plainFor_of_name own_pn1) hisR ?_
  intro p e s m args below meth c s₁ Bd hml0 hP hK
  obtain ⟨rfl, hZ, hh⟩ := hP
  have hx := Bd.exec
  have hby := Bd.bytes
  have hml : c.maxLocals = 3 := hml0
  have hown : s.vm.findClass "java/lang/AbstractStringBuilder" = some m.cls := findClass_of_methodNamed Bd.named
  have hnm := (name_of_methodNamed Bd.named Bd.method).1
  have X0 : Stand p l e ({ frames := 3, cells := 1, slots := 74, locals := 48 } : Room) s m #[(.ref a1), (.int p1)] below meth c s₁ [] 0 0 := Stand.of_body Bd
  have e0 : s₁.heap = h0 := by rw [← hh, Bd.state]; rfl
  have N0 := Fr.nil n0
  have K0 := Keep.refl h0 [a1]
  refine own_go (fun t k => castTop (own_ef108 m a1 p1) k) ?_
  show OG m s₁ 0 #[sR a1, sI p1, sU] []
  refine og (XS.aloadN X0.here hx rfl (hb hby own_d109) rfl rfl) ?_
  show OG m s₁ 1 #[sR a1, sI p1, sU] [(.ref a1)]
  obtain ⟨T1, X1, e1, st1⟩ := getF X0 hx hZ hown (host := "") (Or.inl (tw hw 23 rfl)) Via.refl e0 f0_1 (g := (mkF m 1 #[sR a1, sI p1, sU] [(.ref a1)])) rfl rfl (hb hby own_d110)
  refine own_go (fun t k => st1 t k) ?_
  show OG m T1 4 #[sR a1, sI p1, sU] [(.ref d)]
  have vv2 := f0_5
  obtain ⟨cl2, Ar2, qk2, Sz2, Nn2, Hs2, Gs2⟩ := vv2
  have st2 : ∀ t, Steps p.tables e below (T1.setTop (mkF m 5 #[sR a1, sI p1, sU] [(.int cap)])) t → Steps p.tables e below (T1.setTop (mkF m 4 #[sR a1, sI p1, sU] [(.ref d)])) t := fun t k => by
    refine X1.arraylength hx (by rw [e1]; exact Ar2.1) (State.isArrayOf_alike hZ.alike Ar2.2.1) (g := (mkF m 4 #[sR a1, sI p1, sU] [(.ref d)])) rfl rfl (hb hby own_d111) _ ?_
    rw [len_of Sz2 Nn2]
    exact k
  refine own_go (fun t k => st2 t k) ?_
  show OG m T1 5 #[sR a1, sI p1, sU] [(.int cap)]
  refine og (XS.aloadN X1.here hx rfl (hb hby own_d112) rfl rfl) ?_
  show OG m T1 6 #[sR a1, sI p1, sU] [(.ref a1), (.int cap)]
  obtain ⟨T3, X3, e3, st3⟩ := getF X1 hx hZ hown (host := "") (Or.inl (tw hw 25 rfl)) Via.refl e1 f0_2 (g := (mkF m 6 #[sR a1, sI p1, sU] [(.ref a1), (.int cap)])) rfl rfl (hb hby own_d113)
  refine own_go (fun t k => st3 t k) ?_
  show OG m T3 9 #[sR a1, sI p1, sU] [(.int (0 : Int32)), (.int cap)]
  refine og (XS.ishr X3.here hx rfl (hb hby own_d114) rfl) ?_
  show OG m T3 10 #[sR a1, sI p1, sU] [(.int (cap >>> ((0 : Int32) &&& 31)))]
  rw [own_shr0 cap]
  show OG m T3 10 #[sR a1, sI p1, sU] [(.int cap)]
  refine og (XS.istoreN X3.here hx rfl (hb hby own_d115) rfl (l' := #[sR a1, sI p1, sI cap]) rfl) ?_
  refine og (XS.iloadN X3.here hx rfl (hb hby own_d116) rfl) ?_
  show OG m T3 12 #[sR a1, sI p1, sI cap] [(.int p1)]
  refine og (XS.iloadN X3.here hx rfl (hb hby own_d117) rfl) ?_
  refine og (XS.isub X3.here hx rfl (hb hby own_d118) rfl) ?_
  show OG m T3 14 #[sR a1, sI p1, sI cap] [(.int (p1 - cap))]
  by_cases hc4 : (0 : Int32) < (p1 - cap)
  · refine og (XS.ifNo X3.here hx rfl (hb hby own_d119) rfl ((if0 _ _).trans (tlt hc4).2.2.2)) ?_
    show OG m T3 17 #[sR a1, sI p1, sI cap] []
    have hg := (own_sub_pos hcap hm).mp hc4
    refine og (XS.aloadN X3.here hx rfl (hb hby own_d120) rfl rfl) ?_
    refine og (XS.aloadN X3.here hx rfl (hb hby own_d121) rfl rfl) ?_
    show OG m T3 19 #[sR a1, sI p1, sI cap] [(.ref a1), (.ref a1)]
    obtain ⟨T5, X5, e5, st5⟩ := getF X3 hx hZ hown (host := "") (Or.inl (tw hw 23 rfl)) Via.refl e3 f0_1 (g := (mkF m 19 #[sR a1, sI p1, sI cap] [(.ref a1), (.ref a1)])) rfl rfl (hb hby own_d122)
    refine own_go (fun t k => st5 t k) ?_
    show OG m T5 22 #[sR a1, sI p1, sI cap] [(.ref d), (.ref a1)]
    refine og (XS.aloadN X5.here hx rfl (hb hby own_d123) rfl rfl) ?_
    refine og (XS.iloadN X5.here hx rfl (hb hby own_d124) rfl) ?_
    show OG m T5 24 #[sR a1, sI p1, sI cap] [(.int p1), (.ref a1), (.ref d), (.ref a1)]
    obtain ⟨cq6, q6, q6'⟩ := f0_0.cell
    obtain ⟨_, _, ⟨T6, L6, k6, n6⟩, -, X6, ⟨Lc6, hQ6, l6, y6, z6⟩, st6⟩ := X5.privateBack hx (y := (⟨"java/lang/AbstractStringBuilder", "newCapacity", "(I)I"⟩ : MethodName)) hown (mvT hZ (tw hw 216 rfl)) (mvT hZ (tw hw 217 rfl)) (own_selself (mvT hZ (tw hw 219 rfl)) (Cond.privateMethod_at (mvP hZ (tw hw 218 rfl) (args := #[]))) (mvT hZ (tw hw 217 rfl)) (by decide)) (Cond.privateMethod_at (mvP hZ (tw hw 218 rfl) (args := #[]))) (mvT hZ (tw hw 220 rfl)) (by decide) (backOf (W := 2) (own_newcap l Z a0 hw [] a1 p1 d k cap bs h0 n0 Z0 f0_0 f0_1 f0_2 f0_5 hcap hm hg) hZ (tw hw 220 rfl) (tw hw 15 rfl) (by decide) (by decide)) (g := (mkF m 24 #[sR a1, sI p1, sI cap] [(.int p1), (.ref a1), (.ref d), (.ref a1)])) rfl (by rw [hml]; rfl) (Steps.refl _) (a := a1) (by rw [e5]; exact q6) q6' (argsL := [(.int p1)]) (rest := [(.ref d), (.ref a1)]) (lenOf own_pd126 rfl) rfl (by show 2 * 0 + _ ≤ _; exact Nat.le_of_eq rfl) (hb hby own_d125) (fun _ _ => ⟨rfl, e5, (by decide : 0 + 0 ≤ _), (by decide : 0 + 0 ≤ _)⟩)
    dsimp only [Pt.U, Pt.locs, Pt.cells, Pt.slots] at X6 l6 y6 z6 st6 hQ6
    subst l6 y6 z6
    obtain ⟨rfl, Nq6, eq6⟩ := hQ6
    have N6 := Fr.app N0 Nq6
    have e6 : T6.heap = h0 := eq6
    refine og (st6.trans) ?_
    show OG m T6 27 #[sR a1, sI p1, sI cap] [(.int (cap + (own_mx (p1 - cap) (cap + (2 : Int32))))), (.ref d), (.ref a1)]
    refine og (XS.aloadN X6.here hx rfl (hb hby own_d127) rfl rfl) ?_
    show OG m T6 28 #[sR a1, sI p1, sI cap] [(.ref a1), (.int (cap + (own_mx (p1 - cap) (cap + (2 : Int32))))), (.ref d), (.ref a1)]
    obtain ⟨T7, X7, e7, st7⟩ := getF X6 hx hZ hown (host := "") (Or.inl (tw hw 25 rfl)) Via.refl e6 f0_2 (g := (mkF m 28 #[sR a1, sI p1, sI cap] [(.ref a1), (.int (cap + (own_mx (p1 - cap) (cap + (2 : Int32))))), (.ref d), (.ref a1)])) rfl rfl (hb hby own_d128)
    refine own_go (fun t k => st7 t k) ?_
    show OG m T7 31 #[sR a1, sI p1, sI cap] [(.int (0 : Int32)), (.int (cap + (own_mx (p1 - cap) (cap + (2 : Int32))))), (.ref d), (.ref a1)]
    refine og (XS.ishl X7.here hx rfl (hb hby own_d129) rfl) ?_
    show OG m T7 32 #[sR a1, sI p1, sI cap] [(.int ((cap + (own_mx (p1 - cap) (cap + (2 : Int32)))) <<< ((0 : Int32) &&& 31))), (.ref d), (.ref a1)]
    rw [own_shl0 (cap + (own_mx (p1 - cap) (cap + (2 : Int32))))]
    show OG m T7 32 #[sR a1, sI p1, sI cap] [(.int (cap + (own_mx (p1 - cap) (cap + (2 : Int32))))), (.ref d), (.ref a1)]
    have hv := own_nc_val hcap hm.2 hg
    obtain ⟨_, _, ⟨T8, L8, k8, n8⟩, -, X8, ⟨Lc8, hQ8, l8, y8, z8⟩, st8⟩ := Jvm.LawKit.callS X7 hx (y := (⟨"java/util/Arrays", "copyOf", "([BI)[B"⟩ : MethodName)) hown (mvT hZ (tw hw 230 rfl)) (mvT hZ (tw hw 231 rfl)) (mvT hZ (tw hw 148 rfl)) (mvT hZ (tw hw 232 rfl)) (by decide) (backOf (W := 1) (own_copyOf l Z a0 hw [] d (cap + (own_mx (p1 - cap) (cap + (2 : Int32)))) k cap bs h0 n0 Z0 f0_5 hcap hlen (Int.lt_of_lt_of_le hg hv.1) hv.2) hZ (tw hw 232 rfl) (tw hw 148 rfl) (by decide) (by decide)) (g := (mkF m 32 #[sR a1, sI p1, sI cap] [(.int (cap + (own_mx (p1 - cap) (cap + (2 : Int32))))), (.ref d), (.ref a1)])) rfl (by rw [hml]; rfl) (argsL := [(.ref d), (.int (cap + (own_mx (p1 - cap) (cap + (2 : Int32)))))]) (rest := [(.ref a1)]) (lenOf own_pd131 rfl) rfl (by show 2 * 0 + _ ≤ _; exact Nat.le_of_eq rfl) (hb hby own_d130) (fun _ _ => ⟨rfl, e7, (by decide : 0 + 1 ≤ _), (by decide : 0 + 74 ≤ _)⟩)
    dsimp only [Pt.U, Pt.locs, Pt.cells, Pt.slots] at X8 l8 y8 z8 st8 hQ8
    subst l8 y8 z8
    obtain ⟨xd_8, xk_8, rfl, Nq8, Kq8, Fq8_0, Fq8_1, mq8_fd⟩ := hQ8
    have N8 := Fr.app N6 Nq8
    have ne9 : a1 ≠ xd_8 := Nat.ne_of_lt (Nat.lt_of_lt_of_le f0_0.lt mq8_fd)
    have ne10 : d ≠ xd_8 := Nat.ne_of_lt (Nat.lt_of_lt_of_le f0_4.lt mq8_fd)
    have g_xd_8 : n0 ≤ xd_8 := Nat.le_trans Z0 mq8_fd
    have sz_xd_8 : h0.size ≤ xd_8 := Nat.le_trans K0.1 mq8_fd
    have F11 : Exa Z T8.heap a1 "java/lang/StringBuilder" := f0_0.keep Kq8
    have F12 : Fld Z T8.heap a1 "java/lang/AbstractStringBuilder" "value" "[B" (.ref d) := f0_1.keep Kq8 nin0
    have F13 : Fld Z T8.heap a1 "java/lang/AbstractStringBuilder" "coder" "B" (.int (0 : Int32)) := f0_2.keep Kq8 nin0
    have F14 : Fld Z T8.heap a1 "java/lang/AbstractStringBuilder" "count" "I" (.int cnt) := f0_3.keep Kq8 nin0
    have F15 : Exa Z T8.heap d "[B" := f0_4.keep Kq8
    have F16 : Arv Z T8.heap d k .byte cap (own_B bs) (.int (0 : Int32)) := f0_5.keep Kq8 nin0
    have K8 : Keep h0 T8.heap [a1] := K0.trans Kq8 all0
    have Z8 : n0 ≤ T8.heap.size := Nat.le_trans Z0 Kq8.1
    refine own_go (fun t k => st8 t k) ?_
    show OG m T8 35 #[sR a1, sI p1, sI cap] [(.ref xd_8), (.ref a1)]
    obtain ⟨T17, h17, X17, e17, W17, st17⟩ := putF X8 hx hZ hown (host := "") (Or.inl (tw hw 23 rfl)) Via.refl rfl F12 F11 (Or.inl (tw hw 24 rfl)) (tw hw 6 rfl) (ty := (.array .byte)) (by decide) rfl rfl (g := (mkF m 35 #[sR a1, sI p1, sI cap] [(.ref xd_8), (.ref a1)])) rfl rfl (hb hby own_d132)
    have F18 : Exa Z h17 a1 "java/lang/StringBuilder" := F11.wr W17
    have F19 : Fld Z h17 a1 "java/lang/AbstractStringBuilder" "value" "[B" (.ref xd_8) := F12.same W17
    have F20 : Fld Z h17 a1 "java/lang/AbstractStringBuilder" "coder" "B" (.int (0 : Int32)) := F13.other W17 (Or.inr (slot_ne (Or.inl (tw hw 26 rfl)) (Or.inl (tw hw 24 rfl)) (by decide) (t := .byte) (t' := (.array .byte)) (by decide) (by decide)))
    have F21 : Fld Z h17 a1 "java/lang/AbstractStringBuilder" "count" "I" (.int cnt) := F14.other W17 (Or.inr (slot_ne (Or.inl (tw hw 38 rfl)) (Or.inl (tw hw 24 rfl)) (by decide) (t := .int) (t' := (.array .byte)) (by decide) (by decide)))
    have F22 : Exa Z h17 d "[B" := F15.wr W17
    have F23 : Arv Z h17 d k .byte cap (own_B bs) (.int (0 : Int32)) := F16.other W17 (Ne.symm hne)
    have F24 : Exa Z h17 xd_8 "[B" := Fq8_0.wr W17
    have F25 : Arv Z h17 xd_8 xk_8 .byte (cap + (own_mx (p1 - cap) (cap + (2 : Int32)))) (own_B bs) (.int (0 : Int32)) := Fq8_1.other W17 (Ne.symm ne9)
    have N26 := Fr.snoc X17 N8 g_a1
    have K26 : Keep h0 h17 [a1] := K8.wr W17 (Or.inl (List.mem_of_getElem? (i := 0) rfl))
    have Z26 : n0 ≤ h17.size := Nat.le_trans Z8 (Keep.of_wr W17).1
    refine own_go (fun t k => st17 t k) ?_
    show OG m T17 38 #[sR a1, sI p1, sI cap] []
    obtain ⟨fs, hr, hrun, hended, hW, hsame⟩ := X17.leave (v := none) (fun _ => rfl)
    refine ⟨_, _, X17.returnOut hx Bd.returns (hb hby own_d133) hr, hrun, hended, _, _, rfl, ?_, ⟨_, rfl⟩, hW, hsame.mono (by decide) (by decide)⟩
    show Q_own_ensure Z a1 p1 d k cap cnt bs h0 n0 _ T17.heap _
    rw [e17]
    exact ⟨xd_8, xk_8, (cap + (own_mx (p1 - cap) (cap + (2 : Int32)))), rfl, N26, K26, F18, F19, F20, F21, F24, F25, Or.inr sz_xd_8, ⟨own_nn (Int.le_trans hm.1 hv.1), hv.2⟩, hv.1⟩
  · refine og (XS.ifYes X3.here hx rfl (pc0 := 14) (pc' := 38) rfl (hb hby own_d119) rfl ((if0 _ _).trans (flt hc4).2.2.2) (by decide) (by decide)) ?_
    show OG m T3 38 #[sR a1, sI p1, sI cap] []
    obtain ⟨fs, hr, hrun, hended, hW, hsame⟩ := X3.leave (v := none) (fun _ => rfl)
    refine ⟨_, _, X3.returnOut hx Bd.returns (hb hby own_d133) hr, hrun, hended, _, _, rfl, ?_, ⟨_, rfl⟩, hW, hsame.mono (by decide) (by decide)⟩
    show Q_own_ensure Z a1 p1 d k cap cnt bs h0 n0 _ T3.heap _
    rw [e3]
    exact ⟨d, k, cap, rfl, N0, K0, f0_0, f0_1, f0_2, f0_3, f0_4, f0_5, Or.inl rfl, hcap, Int.not_lt.mp (fun q => hc4 ((own_sub_pos hcap hm).mpr q))⟩
theorem own_ef134 (m : MethodId) (a1 : Addr) : entryFrame m #[(.ref a1)] 1 = mkF m 0 #[sR a1] [] := by first | (simp [entryFrame, mkF, argsToLocals, Value.category]; done) | rfl
theorem own_d135 : decode jdk_68_method_68_code 0 = .ok (.getstatic 18, 3) := by decide +kernel
theorem own_d136 : decode jdk_68_method_68_code 3 = .ok (.ifCond .eq 14, 3) := by decide +kernel
theorem own_d137 : decode jdk_68_method_68_code 6 = .ok (.aload_n 0, 1) := by decide +kernel
theorem own_d138 : decode jdk_68_method_68_code 7 = .ok (.getfield 22, 3) := by decide +kernel
theorem own_d139 : decode jdk_68_method_68_code 10 = .ok (.ifCond .ne 7, 3) := by decide +kernel
theorem own_d140 : decode jdk_68_method_68_code 13 = .ok (.iconst 1, 1) := by decide +kernel
theorem own_d141 : decode jdk_68_method_68_code 14 = .ok (.goto 4, 3) := by decide +kernel
theorem own_d142 : decode jdk_68_method_68_code 18 = .ok (.ireturn, 1) := by decide +kernel
def Q_own_il (Z : State) (a1 : Addr) (i_COMPACT_STRINGS : Int32) (h0 : Heap) (n0 : Nat) (v : Option Value) (h : Heap) (L : List Loc) : Prop := v = some (.int (1 : Int32)) ∧ Fr n0 L ∧ h = h0
set_option maxRecDepth 65536 in
set_option maxHeartbeats 40000000 in
theorem own_il (l : Launch) (Z : State) (a0 : Array Value) (hw : ∀ d ∈ tables_1, d.before a0 Z = true) (ws : List Jvm.Cond) (a1 : Addr) (i_COMPACT_STRINGS : Int32) (h0 : Heap) (n0 : Nat) (Z0 : n0 ≤ h0.size) (O0 : Old Z n0 h0) (S_COMPACT_STRINGS : Sta Z Z.heap "java/lang/String" "COMPACT_STRINGS" "Z" (.int i_COMPACT_STRINGS)) (nz_i_COMPACT_STRINGS : i_COMPACT_STRINGS ≠ (0 : Int32)) (f0_0 : Fld Z h0 a1 "java/lang/AbstractStringBuilder" "coder" "B" (.int (0 : Int32))) :
    MetFree l (⟨"java/lang/AbstractStringBuilder", "isLatin1", "()Z"⟩ : MethodName) (head1 (Jvm.Cond.code (⟨"java/lang/AbstractStringBuilder", "isLatin1", "()Z"⟩ : MethodName) jdk_68_method_68_code 1 (some .boolean) :: ws) ({ frames := 0, cells := 0, slots := 0, locals := 0 } : Room)) (fun a U => a = #[(.ref a1)] ∧ Z.Warmed39 U.vm ∧ U.heap = h0) (fun _ _ _ _ _ => True) (fun _ U o U' => ∃ v L, o = .returned v ∧ Q_own_il Z a1 i_COMPACT_STRINGS h0 n0 v U'.heap L ∧ FrameEnd U o U' L ({ frames := 0, cells := 0, slots := 0, locals := 0 } : Room).cells ({ frames := 0, cells := 0, slots := 0, locals := 0 } : Room).slots) := by
  refine MetFree.of_bodySF (plainFor_of_name own_pn1) hisR ?_
  intro p e s m args below meth c s₁ Bd hml0 hP hK
  obtain ⟨rfl, hZ, hh⟩ := hP
  have hx := Bd.exec
  have hby := Bd.bytes
  have hml : c.maxLocals = 1 := hml0
  have hown : s.vm.findClass "java/lang/AbstractStringBuilder" = some m.cls := findClass_of_methodNamed Bd.named
  have hnm := (name_of_methodNamed Bd.named Bd.method).1
  have X0 : Stand p l e ({ frames := 0, cells := 0, slots := 0, locals := 0 } : Room) s m #[(.ref a1)] below meth c s₁ [] 0 0 := Stand.of_body Bd
  have e0 : s₁.heap = h0 := by rw [← hh, Bd.state]; rfl
  have N0 := Fr.nil n0
  have K0 := Keep.refl h0 []
  refine own_go (fun t k => castTop (own_ef134 m a1) k) ?_
  show OG m s₁ 0 #[sR a1] []
  obtain ⟨T1, X1, e1, st1⟩ := getS2 X0 hx hZ hown (host := "") (Or.inl (tw hw 20 rfl)) Via.refl e0 (S_COMPACT_STRINGS.ext O0.2) (g := (mkF m 0 #[sR a1] [])) rfl (hb hby own_d135)
  refine own_go (fun t k => st1 t k) ?_
  show OG m T1 3 #[sR a1] [(.int i_COMPACT_STRINGS)]
  refine og (XS.ifNo X1.here hx rfl (hb hby own_d136) rfl ((if0 _ _).trans (feq nz_i_COMPACT_STRINGS).1)) ?_
  show OG m T1 6 #[sR a1] []
  refine og (XS.aloadN X1.here hx rfl (hb hby own_d137) rfl rfl) ?_
  show OG m T1 7 #[sR a1] [(.ref a1)]
  obtain ⟨T2, X2, e2, st2⟩ := getF X1 hx hZ hown (host := "") (Or.inl (tw hw 25 rfl)) Via.refl e1 f0_0 (g := (mkF m 7 #[sR a1] [(.ref a1)])) rfl rfl (hb hby own_d138)
  refine own_go (fun t k => st2 t k) ?_
  show OG m T2 10 #[sR a1] [(.int (0 : Int32))]
  refine og (XS.ifNo X2.here hx rfl (hb hby own_d139) rfl ((if0 _ _).trans (teq (by decide : (0 : Int32) = (0 : Int32))).2)) ?_
  refine og (XS.iconst X2.here hx rfl (hb hby own_d140)) ?_
  show OG m T2 14 #[sR a1] [(.int (1 : Int32))]
  refine og (XS.goto X2.here hx rfl (pc0 := 14) (pc' := 18) rfl (hb hby own_d141) (by decide) (by decide)) ?_
  show OG m T2 18 #[sR a1] [(.int (1 : Int32))]
  obtain ⟨fs, hr, hrun, hended, hW, hsame⟩ := X2.leave (v := some (.int (1 : Int32))) (fun h => by rw [Bd.returns] at h; cases h)
  refine ⟨_, _, retN X2 hx (t := .boolean) Bd.returns (by simp) (hb hby own_d142) hr, hrun, hended, _, _, rfl, ?_, ⟨_, rfl⟩, hW, hsame.mono (by decide) (by decide)⟩
  show Q_own_il Z a1 i_COMPACT_STRINGS h0 n0 _ T2.heap _
  rw [e2]
  exact ⟨rfl, N0, rfl⟩
theorem own_ef143 (m : MethodId) (p1 : Int32) : entryFrame m #[(.int p1)] 1 = mkF m 0 #[sI p1] [] := by first | (simp [entryFrame, mkF, argsToLocals, Value.category]; done) | rfl
theorem own_pn144 : plainName "java/lang/StringLatin1" = true := by first | (simp [plainName, overriddenIn]; done) | decide +kernel
theorem own_d145 : decode jdk_43_method_3_code 0 = .ok (.iload_n 0, 1) := by decide +kernel
theorem own_d146 : decode jdk_43_method_3_code 1 = .ok (.sipush 255, 3) := by decide +kernel
theorem own_d147 : decode jdk_43_method_3_code 4 = .ok (.if_icmp .gt 7, 3) := by decide +kernel
theorem own_d148 : decode jdk_43_method_3_code 7 = .ok (.iconst 1, 1) := by decide +kernel
theorem own_d149 : decode jdk_43_method_3_code 8 = .ok (.goto 4, 3) := by decide +kernel
theorem own_d150 : decode jdk_43_method_3_code 12 = .ok (.ireturn, 1) := by decide +kernel
def Q_own_ce (Z : State) (p1 : Int32) (h0 : Heap) (n0 : Nat) (v : Option Value) (h : Heap) (L : List Loc) : Prop := v = some (.int (1 : Int32)) ∧ Fr n0 L ∧ h = h0
set_option maxRecDepth 65536 in
set_option maxHeartbeats 40000000 in
theorem own_ce (l : Launch) (Z : State) (a0 : Array Value) (hw : ∀ d ∈ tables_1, d.before a0 Z = true) (ws : List Jvm.Cond) (p1 : Int32) (h0 : Heap) (n0 : Nat) (Z0 : n0 ≤ h0.size) (hc : ¬ (255 : Int32) < p1) :
    MetFree l (⟨"java/lang/StringLatin1", "canEncode", "(C)Z"⟩ : MethodName) (head1 (Jvm.Cond.code (⟨"java/lang/StringLatin1", "canEncode", "(C)Z"⟩ : MethodName) jdk_43_method_3_code 1 (some .boolean) :: ws) ({ frames := 0, cells := 0, slots := 0, locals := 0 } : Room)) (fun a U => a = #[(.int p1)] ∧ Z.Warmed39 U.vm ∧ U.heap = h0) (fun _ _ _ _ _ => True) (fun _ U o U' => ∃ v L, o = .returned v ∧ Q_own_ce Z p1 h0 n0 v U'.heap L ∧ FrameEnd U o U' L ({ frames := 0, cells := 0, slots := 0, locals := 0 } : Room).cells ({ frames := 0, cells := 0, slots := 0, locals := 0 } : Room).slots) := by
  refine MetFree.of_bodySF (plainFor_of_name own_pn144) hisR ?_
  intro p e s m args below meth c s₁ Bd hml0 hP hK
  obtain ⟨rfl, hZ, hh⟩ := hP
  have hx := Bd.exec
  have hby := Bd.bytes
  have hml : c.maxLocals = 1 := hml0
  have hown : s.vm.findClass "java/lang/StringLatin1" = some m.cls := findClass_of_methodNamed Bd.named
  have hnm := (name_of_methodNamed Bd.named Bd.method).1
  have X0 : Stand p l e ({ frames := 0, cells := 0, slots := 0, locals := 0 } : Room) s m #[(.int p1)] below meth c s₁ [] 0 0 := Stand.of_body Bd
  have e0 : s₁.heap = h0 := by rw [← hh, Bd.state]; rfl
  have N0 := Fr.nil n0
  have K0 := Keep.refl h0 []
  refine own_go (fun t k => castTop (own_ef143 m p1) k) ?_
  show OG m s₁ 0 #[sI p1] []
  refine og (XS.iloadN X0.here hx rfl (hb hby own_d145) rfl) ?_
  show OG m s₁ 1 #[sI p1] [(.int p1)]
  refine og (XS.sipush X0.here hx rfl (hb hby own_d146)) ?_
  show OG m s₁ 4 #[sI p1] [(.int (255 : Int32)), (.int p1)]
  refine og (XS.icmpNo X0.here hx rfl (hb hby own_d147) rfl (flt hc).2.2.1) ?_
  show OG m s₁ 7 #[sI p1] []
  refine og (XS.iconst X0.here hx rfl (hb hby own_d148)) ?_
  refine og (XS.goto X0.here hx rfl (pc0 := 8) (pc' := 12) rfl (hb hby own_d149) (by decide) (by decide)) ?_
  show OG m s₁ 12 #[sI p1] [(.int (1 : Int32))]
  obtain ⟨fs, hr, hrun, hended, hW, hsame⟩ := X0.leave (v := some (.int (1 : Int32))) (fun h => by rw [Bd.returns] at h; cases h)
  refine ⟨_, _, retN X0 hx (t := .boolean) Bd.returns (by simp) (hb hby own_d150) hr, hrun, hended, _, _, rfl, ?_, ⟨_, rfl⟩, hW, hsame.mono (by decide) (by decide)⟩
  show Q_own_ce Z p1 h0 n0 _ s₁.heap _
  rw [e0]
  exact ⟨rfl, N0, rfl⟩
theorem own_ef151 (m : MethodId) (a1 : Addr) (p1 : Int32) : entryFrame m #[(.ref a1), (.int p1)] 2 = mkF m 0 #[sR a1, sI p1] [] := by first | (simp [entryFrame, mkF, argsToLocals, Value.category]; done) | rfl
theorem own_d152 : decode jdk_68_method_31_code 0 = .ok (.aload_n 0, 1) := by decide +kernel
theorem own_d153 : decode jdk_68_method_31_code 1 = .ok (.aload_n 0, 1) := by decide +kernel
theorem own_d154 : decode jdk_68_method_31_code 2 = .ok (.getfield 79, 3) := by decide +kernel
theorem own_d155 : decode jdk_68_method_31_code 5 = .ok (.iconst 1, 1) := by decide +kernel
theorem own_d156 : decode jdk_68_method_31_code 6 = .ok (.iadd, 1) := by decide +kernel
theorem own_d157 : decode jdk_68_method_31_code 7 = .ok (.invokevirtual 100, 3) := by decide +kernel
theorem own_d158 : decode jdk_68_method_31_code 10 = .ok (.aload_n 0, 1) := by decide +kernel
theorem own_d159 : decode jdk_68_method_31_code 11 = .ok (.invokevirtual 83, 3) := by decide +kernel
theorem own_pd160 : parseMethodDescriptor "()Z" = some ⟨[], some .boolean⟩ := by decide +kernel
theorem own_d161 : decode jdk_68_method_31_code 14 = .ok (.ifCond .eq 31, 3) := by decide +kernel
theorem own_d162 : decode jdk_68_method_31_code 17 = .ok (.iload_n 1, 1) := by decide +kernel
theorem own_d163 : decode jdk_68_method_31_code 18 = .ok (.invokestatic 191, 3) := by decide +kernel
theorem own_pd164 : parseMethodDescriptor "(C)Z" = some ⟨[.char], some .boolean⟩ := by decide +kernel
theorem own_d165 : decode jdk_68_method_31_code 21 = .ok (.ifCond .eq 24, 3) := by decide +kernel
theorem own_d166 : decode jdk_68_method_31_code 24 = .ok (.aload_n 0, 1) := by decide +kernel
theorem own_d167 : decode jdk_68_method_31_code 25 = .ok (.getfield 15, 3) := by decide +kernel
theorem own_d168 : decode jdk_68_method_31_code 28 = .ok (.aload_n 0, 1) := by decide +kernel
theorem own_d169 : decode jdk_68_method_31_code 29 = .ok (.dup, 1) := by decide +kernel
theorem own_d170 : decode jdk_68_method_31_code 30 = .ok (.getfield 79, 3) := by decide +kernel
theorem own_d171 : decode jdk_68_method_31_code 33 = .ok (.dup_x1, 1) := by decide +kernel
theorem own_d172 : decode jdk_68_method_31_code 34 = .ok (.iconst 1, 1) := by decide +kernel
theorem own_d173 : decode jdk_68_method_31_code 35 = .ok (.iadd, 1) := by decide +kernel
theorem own_d174 : decode jdk_68_method_31_code 36 = .ok (.putfield 79, 3) := by decide +kernel
theorem own_d175 : decode jdk_68_method_31_code 39 = .ok (.iload_n 1, 1) := by decide +kernel
theorem own_d176 : decode jdk_68_method_31_code 40 = .ok (.i2b, 1) := by decide +kernel
theorem own_d177 : decode jdk_68_method_31_code 41 = .ok (.bastore, 1) := by decide +kernel
theorem own_d178 : decode jdk_68_method_31_code 42 = .ok (.goto 33, 3) := by decide +kernel
theorem own_d179 : decode jdk_68_method_31_code 75 = .ok (.aload_n 0, 1) := by decide +kernel
theorem own_d180 : decode jdk_68_method_31_code 76 = .ok (.areturn, 1) := by decide +kernel
def Q_own_ac (Z : State) (a1 : Addr) (p1 : Int32) (d : Addr) (k : ClassId) (cap : Int32) (cnt : Int32) (bs : List Int32) (i_COMPACT_STRINGS : Int32) (h0 : Heap) (n0 : Nat) (v : Option Value) (h : Heap) (L : List Loc) : Prop := ∃ xd : Addr, ∃ xk : ClassId, ∃ xc : Int32, v = some (.ref a1) ∧ Fr n0 L ∧ Keep h0 h [a1, d] ∧ Exa Z h a1 "java/lang/StringBuilder" ∧ Fld Z h a1 "java/lang/AbstractStringBuilder" "value" "[B" (.ref xd) ∧ Fld Z h a1 "java/lang/AbstractStringBuilder" "coder" "B" (.int (0 : Int32)) ∧ Fld Z h a1 "java/lang/AbstractStringBuilder" "count" "I" (.int (cnt + (1 : Int32))) ∧ Exa Z h xd "[B" ∧ Arv Z h xd xk .byte xc (own_B (bs ++ [p1])) (.int (0 : Int32)) ∧ (xd = d ∨ h0.size ≤ xd) ∧ (¬ xc < 0 ∧ xc.toInt ≤ 74) ∧ (((bs ++ [p1]).length : Int) ≤ xc.toInt)
set_option maxRecDepth 65536 in
set_option maxHeartbeats 40000000 in
theorem own_ac (l : Launch) (Z : State) (a0 : Array Value) (hw : ∀ d ∈ tables_1, d.before a0 Z = true) (ws : List Jvm.Cond) (a1 : Addr) (p1 : Int32) (d : Addr) (k : ClassId) (cap : Int32) (cnt : Int32) (bs : List Int32) (i_COMPACT_STRINGS : Int32) (h0 : Heap) (n0 : Nat) (Z0 : n0 ≤ h0.size) (O0 : Old Z n0 h0) (S_COMPACT_STRINGS : Sta Z Z.heap "java/lang/String" "COMPACT_STRINGS" "Z" (.int i_COMPACT_STRINGS)) (nz_i_COMPACT_STRINGS : i_COMPACT_STRINGS ≠ (0 : Int32)) (f0_0 : Exa Z h0 a1 "java/lang/StringBuilder") (f0_1 : Fld Z h0 a1 "java/lang/AbstractStringBuilder" "value" "[B" (.ref d)) (f0_2 : Fld Z h0 a1 "java/lang/AbstractStringBuilder" "coder" "B" (.int (0 : Int32))) (f0_3 : Fld Z h0 a1 "java/lang/AbstractStringBuilder" "count" "I" (.int cnt)) (f0_4 : Exa Z h0 d "[B") (f0_5 : Arv Z h0 d k .byte cap (own_B bs) (.int (0 : Int32))) (g_a1 : n0 ≤ a1) (g_d : n0 ≤ d) (hcap : ¬ cap < 0 ∧ cap.toInt ≤ 74) (hlen : (bs.length : Int) ≤ cap.toInt) (hcnt : cnt.toInt = (bs.length : Int)) (hroom : (bs.length : Int) < 37) (hne : a1 ≠ d) (hc : ¬ (255 : Int32) < p1) (hby8 : nar .byte (p1.toInt8.toInt32) = p1) :
    MetFree l (⟨"java/lang/AbstractStringBuilder", "append", "(C)Ljava/lang/AbstractStringBuilder;"⟩ : MethodName) (head1 (Jvm.Cond.code (⟨"java/lang/AbstractStringBuilder", "append", "(C)Ljava/lang/AbstractStringBuilder;"⟩ : MethodName) jdk_68_method_31_code 2 (some (.object "java/lang/AbstractStringBuilder")) :: ws) ({ frames := 4, cells := 1, slots := 74, locals := 62 } : Room)) (fun a U => a = #[(.ref a1), (.int p1)] ∧ Z.Warmed39 U.vm ∧ U.heap = h0) (fun _ _ _ _ _ => True) (fun _ U o U' => ∃ v L, o = .returned v ∧ Q_own_ac Z a1 p1 d k cap cnt bs i_COMPACT_STRINGS h0 n0 v U'.heap L ∧ FrameEnd U o U' L ({ frames := 4, cells := 1, slots := 74, locals := 62 } : Room).cells ({ frames := 4, cells := 1, slots := 74, locals := 62 } : Room).slots) := by
  refine MetFree.of_bodySF (plainFor_of_name own_pn1) hisR ?_
  intro p e s m args below meth c s₁ Bd hml0 hP hK
  obtain ⟨rfl, hZ, hh⟩ := hP
  have hx := Bd.exec
  have hby := Bd.bytes
  have hml : c.maxLocals = 2 := hml0
  have hown : s.vm.findClass "java/lang/AbstractStringBuilder" = some m.cls := findClass_of_methodNamed Bd.named
  have hnm := (name_of_methodNamed Bd.named Bd.method).1
  have X0 : Stand p l e ({ frames := 4, cells := 1, slots := 74, locals := 62 } : Room) s m #[(.ref a1), (.int p1)] below meth c s₁ [] 0 0 := Stand.of_body Bd
  have e0 : s₁.heap = h0 := by rw [← hh, Bd.state]; rfl
  have N0 := Fr.nil n0
  have K0 := Keep.refl h0 [a1, d]
  refine own_go (fun t k => castTop (own_ef151 m a1 p1) k) ?_
  show OG m s₁ 0 #[sR a1, sI p1] []
  refine og (XS.aloadN X0.here hx rfl (hb hby own_d152) rfl rfl) ?_
  refine og (XS.aloadN X0.here hx rfl (hb hby own_d153) rfl rfl) ?_
  show OG m s₁ 2 #[sR a1, sI p1] [(.ref a1), (.ref a1)]
  obtain ⟨T1, X1, e1, st1⟩ := getF X0 hx hZ hown (host := "") (Or.inl (tw hw 37 rfl)) Via.refl e0 f0_3 (g := (mkF m 2 #[sR a1, sI p1] [(.ref a1), (.ref a1)])) rfl rfl (hb hby own_d154)
  refine own_go (fun t k => st1 t k) ?_
  show OG m T1 5 #[sR a1, sI p1] [(.int cnt), (.ref a1)]
  refine og (XS.iconst X1.here hx rfl (hb hby own_d155)) ?_
  refine og (XS.iadd X1.here hx rfl (hb hby own_d156) rfl) ?_
  show OG m T1 7 #[sR a1, sI p1] [(.int (cnt + (1 : Int32))), (.ref a1)]
  have hc1 : (cnt + (1 : Int32)).toInt = (bs.length : Int) + 1 := own_cnt1 hcnt ⟨Int.natCast_nonneg _, hroom⟩
  obtain ⟨cq2, q2, q2'⟩ := f0_0.cell
  obtain ⟨_, _, ⟨T2, L2, k2, n2⟩, -, X2, ⟨Lc2, hQ2, l2, y2, z2⟩, st2⟩ := X1.privateBack hx (y := (⟨"java/lang/AbstractStringBuilder", "ensureCapacityInternal", "(I)V"⟩ : MethodName)) hown (mvT hZ (tw hw 39 rfl)) (mvT hZ (tw hw 40 rfl)) (own_selself (mvT hZ (tw hw 42 rfl)) (Cond.privateMethod_at (mvP hZ (tw hw 41 rfl) (args := #[]))) (mvT hZ (tw hw 40 rfl)) (by decide)) (Cond.privateMethod_at (mvP hZ (tw hw 41 rfl) (args := #[]))) (mvT hZ (tw hw 43 rfl)) (by decide) (backOf (W := 0) (own_ensure l Z a0 hw [] a1 (cnt + (1 : Int32)) d k cap cnt bs h0 n0 Z0 f0_0 f0_1 f0_2 f0_3 f0_4 f0_5 g_a1 hcap hlen (by rw [hc1]; omega) hne) hZ (tw hw 43 rfl) (tw hw 15 rfl) (by decide) (by decide)) (g := (mkF m 7 #[sR a1, sI p1] [(.int (cnt + (1 : Int32))), (.ref a1)])) rfl (by rw [hml]; rfl) (Steps.refl _) (a := a1) (by rw [e1]; exact q2) q2' (argsL := [(.int (cnt + (1 : Int32)))]) (rest := []) (lenOf own_pd20 rfl) rfl (by show 2 * 0 + _ ≤ _; exact Nat.le_of_eq rfl) (hb hby own_d157) (fun _ _ => ⟨rfl, e1, (by decide : 0 + 1 ≤ _), (by decide : 0 + 74 ≤ _)⟩)
  dsimp only [Pt.U, Pt.locs, Pt.cells, Pt.slots] at X2 l2 y2 z2 st2 hQ2
  subst l2 y2 z2
  obtain ⟨xd_2, xk_2, xc_2, rfl, Nq2, Kq2, Fq2_0, Fq2_1, Fq2_2, Fq2_3, Fq2_4, Fq2_5, mq2_mv, mq2_cb, mq2_cm⟩ := hQ2
  have N2 := Fr.app N0 Nq2
  have ne3 : a1 ≠ xd_2 := own_ne_or mq2_mv hne f0_0.lt
  have g_xd_2 : n0 ≤ xd_2 := own_ge_or mq2_mv g_d Z0
  have sz_xd_2 : xd_2 ∈ [a1, d] ∨ h0.size ≤ xd_2 := own_in_or mq2_mv (List.mem_of_getElem? (i := 1) rfl) K0.1
  have F4 : Exa Z T2.heap a1 "java/lang/StringBuilder" := f0_0.keep Kq2
  have F5 : Exa Z T2.heap d "[B" := f0_4.keep Kq2
  have F6 : Arv Z T2.heap d k .byte cap (own_B bs) (.int (0 : Int32)) := f0_5.keep Kq2 (ninS (Ne.symm hne) nin0)
  have F7 : Old Z n0 T2.heap := O0.keep Kq2 (allS g_a1 all0)
  have K2 : Keep h0 T2.heap [a1, d] := K0.trans Kq2 (allS (Or.inl (List.mem_of_getElem? (i := 0) rfl)) all0)
  have Z2 : n0 ≤ T2.heap.size := Nat.le_trans Z0 Kq2.1
  refine og (st2.trans) ?_
  show OG m T2 10 #[sR a1, sI p1] []
  refine og (XS.aloadN X2.here hx rfl (hb hby own_d158) rfl rfl) ?_
  show OG m T2 11 #[sR a1, sI p1] [(.ref a1)]
  obtain ⟨cq8, kq8, q8a, q8b, q8c⟩ := isOf hZ rfl Fq2_0
  obtain ⟨_, _, ⟨T8, L8, k8, n8⟩, -, X8, ⟨Lc8, hQ8, l8, y8, z8⟩, st8⟩ := X2.virtualBack hx (y := (⟨"java/lang/AbstractStringBuilder", "isLatin1", "()Z"⟩ : MethodName)) (z := (⟨"java/lang/AbstractStringBuilder", "isLatin1", "()Z"⟩ : MethodName)) hown (mvT hZ (tw hw 44 rfl)) (mvT hZ (tw hw 45 rfl)) (notFace_of_selects (args := #[]) (mvT hZ (tw hw 47 rfl))) (mvT hZ (tw hw 47 rfl)) (mvT hZ (tw hw 46 rfl)) (by decide) (backOf (W := 0) (own_il l Z a0 hw [] a1 i_COMPACT_STRINGS T2.heap n0 Z2 F7 S_COMPACT_STRINGS nz_i_COMPACT_STRINGS Fq2_2) hZ (tw hw 48 rfl) (tw hw 15 rfl) (by decide) (by decide)) q8a q8c (g := (mkF m 11 #[sR a1, sI p1] [(.ref a1)])) rfl (by rw [hml]; rfl) (Steps.refl _) (argsL := []) (rest := []) (lenOf own_pd160 rfl) rfl (by show 2 * 0 + _ ≤ _; exact Nat.le_of_eq rfl) (hb hby own_d159) (fun _ _ => ⟨rfl, rfl, (by decide : 1 + 0 ≤ _), (by decide : 74 + 0 ≤ _)⟩)
  dsimp only [Pt.U, Pt.locs, Pt.cells, Pt.slots] at X8 l8 y8 z8 st8 hQ8
  subst l8 y8 z8
  obtain ⟨rfl, Nq8, eq8⟩ := hQ8
  have N8 := Fr.app N2 Nq8
  have e8 : T8.heap = T2.heap := eq8
  refine og (st8.trans) ?_
  show OG m T8 14 #[sR a1, sI p1] [(.int (1 : Int32))]
  refine og (XS.ifNo X8.here hx rfl (hb hby own_d161) rfl ((if0 _ _).trans (feq (by decide : ¬ ((1 : Int32) = (0 : Int32)))).1)) ?_
  refine og (XS.iloadN X8.here hx rfl (hb hby own_d162) rfl) ?_
  show OG m T8 18 #[sR a1, sI p1] [(.int p1)]
  obtain ⟨_, _, ⟨T9, L9, k9, n9⟩, -, X9, ⟨Lc9, hQ9, l9, y9, z9⟩, st9⟩ := Jvm.LawKit.callS X8 hx (y := (⟨"java/lang/StringLatin1", "canEncode", "(C)Z"⟩ : MethodName)) hown (mvT hZ (tw hw 49 rfl)) (mvT hZ (tw hw 50 rfl)) (mvT hZ (tw hw 51 rfl)) (mvT hZ (tw hw 52 rfl)) (by decide) (backOf (W := 0) (own_ce l Z a0 hw [] p1 T2.heap n0 Z2 hc) hZ (tw hw 52 rfl) (tw hw 51 rfl) (by decide) (by decide)) (g := (mkF m 18 #[sR a1, sI p1] [(.int p1)])) rfl (by rw [hml]; rfl) (argsL := [(.int p1)]) (rest := []) (lenOf own_pd164 rfl) rfl (by show 2 * 0 + _ ≤ _; exact Nat.le_of_eq rfl) (hb hby own_d163) (fun _ _ => ⟨rfl, e8, (by decide : 1 + 0 ≤ _), (by decide : 74 + 0 ≤ _)⟩)
  dsimp only [Pt.U, Pt.locs, Pt.cells, Pt.slots] at X9 l9 y9 z9 st9 hQ9
  subst l9 y9 z9
  obtain ⟨rfl, Nq9, eq9⟩ := hQ9
  have N9 := Fr.app N8 Nq9
  have e9 : T9.heap = T2.heap := eq9
  refine own_go (fun t k => st9 t k) ?_
  show OG m T9 21 #[sR a1, sI p1] [(.int (1 : Int32))]
  refine og (XS.ifNo X9.here hx rfl (hb hby own_d165) rfl ((if0 _ _).trans (feq (by decide : ¬ ((1 : Int32) = (0 : Int32)))).1)) ?_
  refine og (XS.aloadN X9.here hx rfl (hb hby own_d166) rfl rfl) ?_
  show OG m T9 25 #[sR a1, sI p1] [(.ref a1)]
  obtain ⟨T10, X10, e10, st10⟩ := getF X9 hx hZ hown (host := "") (Or.inl (tw hw 23 rfl)) Via.refl e9 Fq2_1 (g := (mkF m 25 #[sR a1, sI p1] [(.ref a1)])) rfl rfl (hb hby own_d167)
  refine own_go (fun t k => st10 t k) ?_
  show OG m T10 28 #[sR a1, sI p1] [(.ref xd_2)]
  refine og (XS.aloadN X10.here hx rfl (hb hby own_d168) rfl rfl) ?_
  refine og (XS.dup X10.here hx rfl (hb hby own_d169) rfl rfl) ?_
  show OG m T10 30 #[sR a1, sI p1] [(.ref a1), (.ref a1), (.ref xd_2)]
  obtain ⟨T11, X11, e11, st11⟩ := getF X10 hx hZ hown (host := "") (Or.inl (tw hw 37 rfl)) Via.refl e10 Fq2_3 (g := (mkF m 30 #[sR a1, sI p1] [(.ref a1), (.ref a1), (.ref xd_2)])) rfl rfl (hb hby own_d170)
  refine own_go (fun t k => st11 t k) ?_
  show OG m T11 33 #[sR a1, sI p1] [(.int cnt), (.ref a1), (.ref xd_2)]
  refine og (XS.dupX1 X11.here hx rfl (hb hby own_d171) rfl rfl rfl) ?_
  refine og (XS.iconst X11.here hx rfl (hb hby own_d172)) ?_
  show OG m T11 35 #[sR a1, sI p1] [(.int (1 : Int32)), (.int cnt), (.ref a1), (.int cnt), (.ref xd_2)]
  refine og (XS.iadd X11.here hx rfl (hb hby own_d173) rfl) ?_
  show OG m T11 36 #[sR a1, sI p1] [(.int (cnt + (1 : Int32))), (.ref a1), (.int cnt), (.ref xd_2)]
  obtain ⟨T12, h12, X12, e12, W12, st12⟩ := putF X11 hx hZ hown (host := "") (Or.inl (tw hw 37 rfl)) Via.refl e11 Fq2_3 Fq2_0 (Or.inl (tw hw 38 rfl)) (tw hw 6 rfl) (ty := .int) (by decide) rfl rfl (g := (mkF m 36 #[sR a1, sI p1] [(.int (cnt + (1 : Int32))), (.ref a1), (.int cnt), (.ref xd_2)])) rfl rfl (hb hby own_d174)
  have F13 : Exa Z h12 a1 "java/lang/StringBuilder" := Fq2_0.wr W12
  have F14 : Old Z n0 h12 := F7.wr W12 g_a1
  have F15 : Fld Z h12 a1 "java/lang/AbstractStringBuilder" "value" "[B" (.ref xd_2) := Fq2_1.other W12 (Or.inr (slot_ne (Or.inl (tw hw 24 rfl)) (Or.inl (tw hw 38 rfl)) (by decide) (t := (.array .byte)) (t' := .int) (by decide) (by decide)))
  have F16 : Fld Z h12 a1 "java/lang/AbstractStringBuilder" "coder" "B" (.int (0 : Int32)) := Fq2_2.other W12 (Or.inr (slot_ne (Or.inl (tw hw 26 rfl)) (Or.inl (tw hw 38 rfl)) (by decide) (t := .byte) (t' := .int) (by decide) (by decide)))
  have F17 : Fld Z h12 a1 "java/lang/AbstractStringBuilder" "count" "I" (.int (cnt + (1 : Int32))) := Fq2_3.same W12
  have F18 : Exa Z h12 xd_2 "[B" := Fq2_4.wr W12
  have F19 : Arv Z h12 xd_2 xk_2 .byte xc_2 (own_B bs) (.int (0 : Int32)) := Fq2_5.other W12 (Ne.symm ne3)
  have N20 := Fr.snoc X12 N9 g_a1
  have K20 : Keep h0 h12 [a1, d] := K2.wr W12 (Or.inl (List.mem_of_getElem? (i := 0) rfl))
  have Z20 : n0 ≤ h12.size := Nat.le_trans Z2 (Keep.of_wr W12).1
  refine own_go (fun t k => st12 t k) ?_
  show OG m T12 39 #[sR a1, sI p1] [(.int cnt), (.ref xd_2)]
  refine og (XS.iloadN X12.here hx rfl (hb hby own_d175) rfl) ?_
  show OG m T12 40 #[sR a1, sI p1] [(.int p1), (.int cnt), (.ref xd_2)]
  refine og (XS.i2b X12.here hx rfl (hb hby own_d176) rfl) ?_
  show OG m T12 41 #[sR a1, sI p1] [(.int (p1.toInt8.toInt32)), (.int cnt), (.ref xd_2)]
  have hcm : (bs.length : Int) + 1 ≤ xc_2.toInt := by rw [← hc1]; exact mq2_cm
  have hnn : ¬ cnt < 0 := own_nn (by omega)
  have hidx : cnt.toNatClampNeg = bs.length := by have q := own_clamp hnn; omega
  have vv21 := F19.pad (pad_rep (own_B bs) (.int (0 : Int32)) 1)
  obtain ⟨cl21, Ar21, qk21, Sz21, Nn21, Hs21, Gs21⟩ := vv21
  have hin21 : ¬ (cnt < 0 ∨ cl21.slots.size ≤ (cnt).toNatClampNeg) := inb_of Sz21 ⟨hnn, by rw [Int32.lt_iff_toInt_lt]; omega⟩
  obtain ⟨T21, h21, X21, e21, W21, st21⟩ := stB X12 hx hZ e12 Ar21 (j := cnt) hin21 (g := (mkF m 41 #[sR a1, sI p1] [(.int (p1.toInt8.toInt32)), (.int cnt), (.ref xd_2)])) rfl rfl (hb hby own_d177)
  have F22 : Exa Z h21 a1 "java/lang/StringBuilder" := F13.wr W21
  have F23 : Old Z n0 h21 := F14.wr W21 g_xd_2
  have F24 : Fld Z h21 a1 "java/lang/AbstractStringBuilder" "value" "[B" (.ref xd_2) := F15.other W21 (Or.inl ne3)
  have F25 : Fld Z h21 a1 "java/lang/AbstractStringBuilder" "coder" "B" (.int (0 : Int32)) := F16.other W21 (Or.inl ne3)
  have F26 : Fld Z h21 a1 "java/lang/AbstractStringBuilder" "count" "I" (.int (cnt + (1 : Int32))) := F17.other W21 (Or.inl ne3)
  have F27 : Exa Z h21 xd_2 "[B" := F18.wr W21
  have N28 := Fr.snoc X21 N20 g_xd_2
  have K28 : Keep h0 h21 [a1, d] := K20.wr W21 sz_xd_2
  have Z28 : n0 ≤ h21.size := Nat.le_trans Z20 (Keep.of_wr W21).1
  have F29 : Arv Z h21 xd_2 xk_2 .byte xc_2 (own_B (bs ++ [p1])) (.int (0 : Int32)) := by
    have q := Arv.set Ar21 qk21 Sz21 Nn21 Hs21 Gs21 (fits_nar_byte _) W21 (bs).length hidx (own_pushlen _)
    exact own_setv q hby8 (own_push _ _)
  refine own_go (fun t k => st21 t k) ?_
  show OG m T21 42 #[sR a1, sI p1] []
  refine og (XS.goto X21.here hx rfl (pc0 := 42) (pc' := 75) rfl (hb hby own_d178) (by decide) (by decide)) ?_
  refine og (XS.aloadN X21.here hx rfl (hb hby own_d179) rfl rfl) ?_
  show OG m T21 76 #[sR a1, sI p1] [(.ref a1)]
  obtain ⟨fs, hr, hrun, hended, hW, hsame⟩ := X21.leave (v := some (.ref a1)) (fun h => by rw [Bd.returns] at h; cases h)
  have hlast : Steps p.tables e below (T21.setTop (mkF m 76 #[sR a1, sI p1] [(.ref a1)])) (T21.setFrames fs) := by
    exact retOut X21 hx (t := (.object "java/lang/AbstractStringBuilder")) Bd.returns rfl (Or.inr (Or.inr (Or.inr (Or.inr ⟨rfl, rfl, rfl⟩)))) (hb hby own_d180) hr
  refine ⟨_, _, hlast, hrun, hended, _, _, rfl, ?_, ⟨_, rfl⟩, hW, hsame.mono (by decide) (by decide)⟩
  show Q_own_ac Z a1 p1 d k cap cnt bs i_COMPACT_STRINGS h0 n0 _ T21.heap _
  rw [e21]
  exact ⟨xd_2, xk_2, xc_2, rfl, N28, K28, F22, F24, F25, F26, F27, F29, mq2_mv, mq2_cb, (by simp only [List.length_append, List.length_cons, List.length_nil]; omega)⟩
theorem own_ef181 (m : MethodId) (a1 : Addr) (p1 : Int32) : entryFrame m #[(.ref a1), (.int p1)] 2 = mkF m 0 #[sR a1, sI p1] [] := by first | (simp [entryFrame, mkF, argsToLocals, Value.category]; done) | rfl
theorem own_d182 : decode jdk_67_method_14_code 0 = .ok (.aload_n 0, 1) := by decide +kernel
theorem own_d183 : decode jdk_67_method_14_code 1 = .ok (.iload_n 1, 1) := by decide +kernel
theorem own_d184 : decode jdk_67_method_14_code 2 = .ok (.invokespecial 50, 3) := by decide +kernel
theorem own_pd185 : parseMethodDescriptor "(C)Ljava/lang/AbstractStringBuilder;" = some ⟨[.char], some (.object "java/lang/AbstractStringBuilder")⟩ := by decide +kernel
theorem own_d186 : decode jdk_67_method_14_code 5 = .ok (.pop, 1) := by decide +kernel
theorem own_d187 : decode jdk_67_method_14_code 6 = .ok (.aload_n 0, 1) := by decide +kernel
theorem own_d188 : decode jdk_67_method_14_code 7 = .ok (.areturn, 1) := by decide +kernel
def Q_own_sc (Z : State) (a1 : Addr) (p1 : Int32) (d : Addr) (k : ClassId) (cap : Int32) (cnt : Int32) (bs : List Int32) (i_COMPACT_STRINGS : Int32) (h0 : Heap) (n0 : Nat) (v : Option Value) (h : Heap) (L : List Loc) : Prop := ∃ xd : Addr, ∃ xk : ClassId, ∃ xc : Int32, v = some (.ref a1) ∧ Fr n0 L ∧ Keep h0 h [a1, d] ∧ Exa Z h a1 "java/lang/StringBuilder" ∧ Fld Z h a1 "java/lang/AbstractStringBuilder" "value" "[B" (.ref xd) ∧ Fld Z h a1 "java/lang/AbstractStringBuilder" "coder" "B" (.int (0 : Int32)) ∧ Fld Z h a1 "java/lang/AbstractStringBuilder" "count" "I" (.int (cnt + (1 : Int32))) ∧ Exa Z h xd "[B" ∧ Arv Z h xd xk .byte xc (own_B (bs ++ [p1])) (.int (0 : Int32)) ∧ (xd = d ∨ h0.size ≤ xd) ∧ (¬ xc < 0 ∧ xc.toInt ≤ 74) ∧ (((bs ++ [p1]).length : Int) ≤ xc.toInt)
set_option maxRecDepth 65536 in
set_option maxHeartbeats 40000000 in
theorem own_sc (l : Launch) (Z : State) (a0 : Array Value) (hw : ∀ d ∈ tables_1, d.before a0 Z = true) (ws : List Jvm.Cond) (a1 : Addr) (p1 : Int32) (d : Addr) (k : ClassId) (cap : Int32) (cnt : Int32) (bs : List Int32) (i_COMPACT_STRINGS : Int32) (h0 : Heap) (n0 : Nat) (Z0 : n0 ≤ h0.size) (O0 : Old Z n0 h0) (S_COMPACT_STRINGS : Sta Z Z.heap "java/lang/String" "COMPACT_STRINGS" "Z" (.int i_COMPACT_STRINGS)) (nz_i_COMPACT_STRINGS : i_COMPACT_STRINGS ≠ (0 : Int32)) (f0_0 : Exa Z h0 a1 "java/lang/StringBuilder") (f0_1 : Fld Z h0 a1 "java/lang/AbstractStringBuilder" "value" "[B" (.ref d)) (f0_2 : Fld Z h0 a1 "java/lang/AbstractStringBuilder" "coder" "B" (.int (0 : Int32))) (f0_3 : Fld Z h0 a1 "java/lang/AbstractStringBuilder" "count" "I" (.int cnt)) (f0_4 : Exa Z h0 d "[B") (f0_5 : Arv Z h0 d k .byte cap (own_B bs) (.int (0 : Int32))) (g_a1 : n0 ≤ a1) (g_d : n0 ≤ d) (hcap : ¬ cap < 0 ∧ cap.toInt ≤ 74) (hlen : (bs.length : Int) ≤ cap.toInt) (hcnt : cnt.toInt = (bs.length : Int)) (hroom : (bs.length : Int) < 37) (hne : a1 ≠ d) (hc : ¬ (255 : Int32) < p1) (hby8 : nar .byte (p1.toInt8.toInt32) = p1) :
    MetFree l (⟨"java/lang/StringBuilder", "append", "(C)Ljava/lang/StringBuilder;"⟩ : MethodName) (head1 (Jvm.Cond.code (⟨"java/lang/StringBuilder", "append", "(C)Ljava/lang/StringBuilder;"⟩ : MethodName) jdk_67_method_14_code 2 (some (.object "java/lang/StringBuilder")) :: ws) ({ frames := 5, cells := 1, slots := 74, locals := 75 } : Room)) (fun a U => a = #[(.ref a1), (.int p1)] ∧ Z.Warmed39 U.vm ∧ U.heap = h0) (fun _ _ _ _ _ => True) (fun _ U o U' => ∃ v L, o = .returned v ∧ Q_own_sc Z a1 p1 d k cap cnt bs i_COMPACT_STRINGS h0 n0 v U'.heap L ∧ FrameEnd U o U' L ({ frames := 5, cells := 1, slots := 74, locals := 75 } : Room).cells ({ frames := 5, cells := 1, slots := 74, locals := 75 } : Room).slots) := by
  refine MetFree.of_bodySF (plainFor_of_name own_pn16) hisR ?_
  intro p e s m args below meth c s₁ Bd hml0 hP hK
  obtain ⟨rfl, hZ, hh⟩ := hP
  have hx := Bd.exec
  have hby := Bd.bytes
  have hml : c.maxLocals = 2 := hml0
  have hown : s.vm.findClass "java/lang/StringBuilder" = some m.cls := findClass_of_methodNamed Bd.named
  have hnm := (name_of_methodNamed Bd.named Bd.method).1
  have X0 : Stand p l e ({ frames := 5, cells := 1, slots := 74, locals := 75 } : Room) s m #[(.ref a1), (.int p1)] below meth c s₁ [] 0 0 := Stand.of_body Bd
  have e0 : s₁.heap = h0 := by rw [← hh, Bd.state]; rfl
  have N0 := Fr.nil n0
  have K0 := Keep.refl h0 [a1, d]
  refine own_go (fun t k => castTop (own_ef181 m a1 p1) k) ?_
  show OG m s₁ 0 #[sR a1, sI p1] []
  refine og (XS.aloadN X0.here hx rfl (hb hby own_d182) rfl rfl) ?_
  refine og (XS.iloadN X0.here hx rfl (hb hby own_d183) rfl) ?_
  show OG m s₁ 2 #[sR a1, sI p1] [(.int p1), (.ref a1)]
  obtain ⟨_, _, ⟨T1, L1, k1, n1⟩, -, X1, ⟨Lc1, hQ1, l1, y1, z1⟩, st1⟩ := superBack X0 hx hZ (y := (⟨"java/lang/AbstractStringBuilder", "append", "(C)Ljava/lang/AbstractStringBuilder;"⟩ : MethodName)) hown (tw hw 32 rfl) (own_sameself (y := (⟨"java/lang/AbstractStringBuilder", "append", "(C)Ljava/lang/AbstractStringBuilder;"⟩ : MethodName)) (z := (⟨"java/lang/AbstractStringBuilder", "ensureCapacityInternal", "(I)V"⟩ : MethodName)) rfl (tw hw 33 rfl) (tw hw 42 rfl) (by decide)) (tw hw 33 rfl) (tw hw 34 rfl) (by decide) (backOf (W := 0) (own_ac l Z a0 hw [] a1 p1 d k cap cnt bs i_COMPACT_STRINGS h0 n0 Z0 O0 S_COMPACT_STRINGS nz_i_COMPACT_STRINGS f0_0 f0_1 f0_2 f0_3 f0_4 f0_5 g_a1 g_d hcap hlen hcnt hroom hne hc hby8) hZ (tw hw 36 rfl) (tw hw 15 rfl) (by decide) (by decide)) e0 (Ins.self f0_0) (g := (mkF m 2 #[sR a1, sI p1] [(.int p1), (.ref a1)])) rfl (by rw [hml]; rfl) (tw hw 36 rfl) (argsL := [(.int p1)]) (rest := []) (lenOf own_pd185 rfl) rfl (by show 2 * 0 + _ ≤ _; exact Nat.le_of_eq rfl) (hb hby own_d184) (fun _ _ => ⟨rfl, e0, (by decide : 0 + 1 ≤ _), (by decide : 0 + 74 ≤ _)⟩)
  dsimp only [Pt.U, Pt.locs, Pt.cells, Pt.slots] at X1 l1 y1 z1 st1 hQ1
  subst l1 y1 z1
  obtain ⟨xd_1, xk_1, xc_1, rfl, Nq1, Kq1, Fq1_0, Fq1_1, Fq1_2, Fq1_3, Fq1_4, Fq1_5, mq1_mv, mq1_cb, mq1_cl⟩ := hQ1
  have N1 := Fr.app N0 Nq1
  have ne2 : a1 ≠ xd_1 := own_ne_or mq1_mv hne f0_0.lt
  have g_xd_1 : n0 ≤ xd_1 := own_ge_or mq1_mv g_d Z0
  have sz_xd_1 : xd_1 ∈ [a1, d] ∨ h0.size ≤ xd_1 := own_in_or mq1_mv (List.mem_of_getElem? (i := 1) rfl) K0.1
  have F3 : Exa Z T1.heap a1 "java/lang/StringBuilder" := f0_0.keep Kq1
  have F4 : Exa Z T1.heap d "[B" := f0_4.keep Kq1
  have F5 : Old Z n0 T1.heap := O0.keep Kq1 (allS g_a1 (allS g_d all0))
  have K1 : Keep h0 T1.heap [a1, d] := K0.trans Kq1 (allS (Or.inl (List.mem_of_getElem? (i := 0) rfl)) (allS (Or.inl (List.mem_of_getElem? (i := 1) rfl)) all0))
  have Z1 : n0 ≤ T1.heap.size := Nat.le_trans Z0 Kq1.1
  refine og (st1.trans) ?_
  show OG m T1 5 #[sR a1, sI p1] [(.ref a1)]
  refine og (XS.pop X1.here hx rfl (hb hby own_d186) rfl rfl) ?_
  refine og (XS.aloadN X1.here hx rfl (hb hby own_d187) rfl rfl) ?_
  show OG m T1 7 #[sR a1, sI p1] [(.ref a1)]
  obtain ⟨fs, hr, hrun, hended, hW, hsame⟩ := X1.leave (v := some (.ref a1)) (fun h => by rw [Bd.returns] at h; cases h)
  have hlast : Steps p.tables e below (T1.setTop (mkF m 7 #[sR a1, sI p1] [(.ref a1)])) (T1.setFrames fs) := by
    exact retOut X1 hx (t := (.object "java/lang/StringBuilder")) Bd.returns rfl (Or.inr (Or.inr (Or.inr (Or.inr ⟨rfl, rfl, rfl⟩)))) (hb hby own_d188) hr
  refine ⟨_, _, hlast, hrun, hended, _, _, rfl, ?_, ⟨_, rfl⟩, hW, hsame.mono (by decide) (by decide)⟩
  show Q_own_sc Z a1 p1 d k cap cnt bs i_COMPACT_STRINGS h0 n0 _ T1.heap _
  exact ⟨xd_1, xk_1, xc_1, rfl, N1, K1, Fq1_0, Fq1_1, Fq1_2, Fq1_3, Fq1_4, Fq1_5, mq1_mv, mq1_cb, mq1_cl⟩
theorem own_ef189 (m : MethodId) (a2 : Addr) : entryFrame m #[(.ref a2)] 1 = mkF m 0 #[sR a2] [] := by first | (simp [entryFrame, mkF, argsToLocals, Value.category]; done) | rfl
theorem own_pn190 : plainName "java/lang/String" = true := by first | (simp [plainName, overriddenIn]; done) | decide +kernel
theorem own_d191 : decode jdk_42_method_152_code 0 = .ok (.getstatic 38, 3) := by decide +kernel
theorem own_d192 : decode jdk_42_method_152_code 3 = .ok (.ifCond .eq 10, 3) := by decide +kernel
theorem own_d193 : decode jdk_42_method_152_code 6 = .ok (.aload_n 0, 1) := by decide +kernel
theorem own_d194 : decode jdk_42_method_152_code 7 = .ok (.getfield 15, 3) := by decide +kernel
theorem own_d195 : decode jdk_42_method_152_code 10 = .ok (.goto 4, 3) := by decide +kernel
theorem own_d196 : decode jdk_42_method_152_code 14 = .ok (.ireturn, 1) := by decide +kernel
def Q_own_sco (Z : State) (a2 : Addr) (i_COMPACT_STRINGS : Int32) (h0 : Heap) (n0 : Nat) (v : Option Value) (h : Heap) (L : List Loc) : Prop := v = some (.int (0 : Int32)) ∧ Fr n0 L ∧ h = h0
set_option maxRecDepth 65536 in
set_option maxHeartbeats 40000000 in
theorem own_sco (l : Launch) (Z : State) (a0 : Array Value) (hw : ∀ d ∈ tables_1, d.before a0 Z = true) (ws : List Jvm.Cond) (a2 : Addr) (i_COMPACT_STRINGS : Int32) (h0 : Heap) (n0 : Nat) (Z0 : n0 ≤ h0.size) (O0 : Old Z n0 h0) (S_COMPACT_STRINGS : Sta Z Z.heap "java/lang/String" "COMPACT_STRINGS" "Z" (.int i_COMPACT_STRINGS)) (nz_i_COMPACT_STRINGS : i_COMPACT_STRINGS ≠ (0 : Int32)) (f0_0 : Fld Z h0 a2 "java/lang/String" "coder" "B" (.int (0 : Int32))) :
    MetFree l (⟨"java/lang/String", "coder", "()B"⟩ : MethodName) (head1 (Jvm.Cond.code (⟨"java/lang/String", "coder", "()B"⟩ : MethodName) jdk_42_method_152_code 1 (some .byte) :: ws) ({ frames := 0, cells := 0, slots := 0, locals := 0 } : Room)) (fun a U => a = #[(.ref a2)] ∧ Z.Warmed39 U.vm ∧ U.heap = h0) (fun _ _ _ _ _ => True) (fun _ U o U' => ∃ v L, o = .returned v ∧ Q_own_sco Z a2 i_COMPACT_STRINGS h0 n0 v U'.heap L ∧ FrameEnd U o U' L ({ frames := 0, cells := 0, slots := 0, locals := 0 } : Room).cells ({ frames := 0, cells := 0, slots := 0, locals := 0 } : Room).slots) := by
  refine MetFree.of_bodySF (plainFor_of_name own_pn190) hisR ?_
  intro p e s m args below meth c s₁ Bd hml0 hP hK
  obtain ⟨rfl, hZ, hh⟩ := hP
  have hx := Bd.exec
  have hby := Bd.bytes
  have hml : c.maxLocals = 1 := hml0
  have hown : s.vm.findClass "java/lang/String" = some m.cls := findClass_of_methodNamed Bd.named
  have hnm := (name_of_methodNamed Bd.named Bd.method).1
  have X0 : Stand p l e ({ frames := 0, cells := 0, slots := 0, locals := 0 } : Room) s m #[(.ref a2)] below meth c s₁ [] 0 0 := Stand.of_body Bd
  have e0 : s₁.heap = h0 := by rw [← hh, Bd.state]; rfl
  have N0 := Fr.nil n0
  have K0 := Keep.refl h0 []
  refine own_go (fun t k => castTop (own_ef189 m a2) k) ?_
  show OG m s₁ 0 #[sR a2] []
  obtain ⟨T1, X1, e1, st1⟩ := getS2 X0 hx hZ hown (host := "") (Or.inl (tw hw 79 rfl)) Via.refl e0 (S_COMPACT_STRINGS.ext O0.2) (g := (mkF m 0 #[sR a2] [])) rfl (hb hby own_d191)
  refine own_go (fun t k => st1 t k) ?_
  show OG m T1 3 #[sR a2] [(.int i_COMPACT_STRINGS)]
  refine og (XS.ifNo X1.here hx rfl (hb hby own_d192) rfl ((if0 _ _).trans (feq nz_i_COMPACT_STRINGS).1)) ?_
  show OG m T1 6 #[sR a2] []
  refine og (XS.aloadN X1.here hx rfl (hb hby own_d193) rfl rfl) ?_
  show OG m T1 7 #[sR a2] [(.ref a2)]
  obtain ⟨T2, X2, e2, st2⟩ := getF X1 hx hZ hown (host := "") (Or.inl (tw hw 80 rfl)) Via.refl e1 f0_0 (g := (mkF m 7 #[sR a2] [(.ref a2)])) rfl rfl (hb hby own_d194)
  refine own_go (fun t k => st2 t k) ?_
  show OG m T2 10 #[sR a2] [(.int (0 : Int32))]
  refine og (XS.goto X2.here hx rfl (pc0 := 10) (pc' := 14) rfl (hb hby own_d195) (by decide) (by decide)) ?_
  show OG m T2 14 #[sR a2] [(.int (0 : Int32))]
  obtain ⟨fs, hr, hrun, hended, hW, hsame⟩ := X2.leave (v := some (.int (0 : Int32))) (fun h => by rw [Bd.returns] at h; cases h)
  refine ⟨_, _, retN X2 hx (t := .byte) Bd.returns (by simp) (hb hby own_d196) hr, hrun, hended, _, _, rfl, ?_, ⟨_, rfl⟩, hW, hsame.mono (by decide) (by decide)⟩
  show Q_own_sco Z a2 i_COMPACT_STRINGS h0 n0 _ T2.heap _
  rw [e2]
  exact ⟨rfl, N0, rfl⟩
theorem own_ef197 (m : MethodId) (a2 : Addr) : entryFrame m #[(.ref a2)] 1 = mkF m 0 #[sR a2] [] := by first | (simp [entryFrame, mkF, argsToLocals, Value.category]; done) | rfl
theorem own_d198 : decode jdk_42_method_54_code 0 = .ok (.aload_n 0, 1) := by decide +kernel
theorem own_d199 : decode jdk_42_method_54_code 1 = .ok (.getfield 9, 3) := by decide +kernel
theorem own_d200 : decode jdk_42_method_54_code 4 = .ok (.arraylength, 1) := by decide +kernel
theorem own_d201 : decode jdk_42_method_54_code 5 = .ok (.aload_n 0, 1) := by decide +kernel
theorem own_d202 : decode jdk_42_method_54_code 6 = .ok (.invokevirtual 335, 3) := by decide +kernel
theorem own_pd203 : parseMethodDescriptor "()B" = some ⟨[], some .byte⟩ := by decide +kernel
theorem own_d204 : decode jdk_42_method_54_code 9 = .ok (.ishr, 1) := by decide +kernel
theorem own_d205 : decode jdk_42_method_54_code 10 = .ok (.ireturn, 1) := by decide +kernel
def Q_own_sle (Z : State) (a2 : Addr) (sv : Addr) (sk : ClassId) (sl : Int32) (cs : List Int32) (i_COMPACT_STRINGS : Int32) (h0 : Heap) (n0 : Nat) (v : Option Value) (h : Heap) (L : List Loc) : Prop := v = some (.int sl) ∧ Fr n0 L ∧ h = h0
set_option maxRecDepth 65536 in
set_option maxHeartbeats 40000000 in
theorem own_sle (l : Launch) (Z : State) (a0 : Array Value) (hw : ∀ d ∈ tables_1, d.before a0 Z = true) (ws : List Jvm.Cond) (a2 : Addr) (sv : Addr) (sk : ClassId) (sl : Int32) (cs : List Int32) (i_COMPACT_STRINGS : Int32) (h0 : Heap) (n0 : Nat) (Z0 : n0 ≤ h0.size) (O0 : Old Z n0 h0) (S_COMPACT_STRINGS : Sta Z Z.heap "java/lang/String" "COMPACT_STRINGS" "Z" (.int i_COMPACT_STRINGS)) (nz_i_COMPACT_STRINGS : i_COMPACT_STRINGS ≠ (0 : Int32)) (f0_0 : Exa Z h0 a2 "java/lang/String") (f0_1 : Fld Z h0 a2 "java/lang/String" "value" "[B" (.ref sv)) (f0_2 : Fld Z h0 a2 "java/lang/String" "coder" "B" (.int (0 : Int32))) (f0_3 : Arv Z h0 sv sk .byte sl (own_B cs) (.int (0 : Int32))) :
    MetFree l (⟨"java/lang/String", "length", "()I"⟩ : MethodName) (head1 (Jvm.Cond.code (⟨"java/lang/String", "length", "()I"⟩ : MethodName) jdk_42_method_54_code 1 (some .int) :: ws) ({ frames := 1, cells := 0, slots := 0, locals := 13 } : Room)) (fun a U => a = #[(.ref a2)] ∧ Z.Warmed39 U.vm ∧ U.heap = h0) (fun _ _ _ _ _ => True) (fun _ U o U' => ∃ v L, o = .returned v ∧ Q_own_sle Z a2 sv sk sl cs i_COMPACT_STRINGS h0 n0 v U'.heap L ∧ FrameEnd U o U' L ({ frames := 1, cells := 0, slots := 0, locals := 13 } : Room).cells ({ frames := 1, cells := 0, slots := 0, locals := 13 } : Room).slots) := by
  refine MetFree.of_bodySF (plainFor_of_name own_pn190) hisR ?_
  intro p e s m args below meth c s₁ Bd hml0 hP hK
  obtain ⟨rfl, hZ, hh⟩ := hP
  have hx := Bd.exec
  have hby := Bd.bytes
  have hml : c.maxLocals = 1 := hml0
  have hown : s.vm.findClass "java/lang/String" = some m.cls := findClass_of_methodNamed Bd.named
  have hnm := (name_of_methodNamed Bd.named Bd.method).1
  have X0 : Stand p l e ({ frames := 1, cells := 0, slots := 0, locals := 13 } : Room) s m #[(.ref a2)] below meth c s₁ [] 0 0 := Stand.of_body Bd
  have e0 : s₁.heap = h0 := by rw [← hh, Bd.state]; rfl
  have N0 := Fr.nil n0
  have K0 := Keep.refl h0 []
  refine own_go (fun t k => castTop (own_ef197 m a2) k) ?_
  show OG m s₁ 0 #[sR a2] []
  refine og (XS.aloadN X0.here hx rfl (hb hby own_d198) rfl rfl) ?_
  show OG m s₁ 1 #[sR a2] [(.ref a2)]
  obtain ⟨T1, X1, e1, st1⟩ := getF X0 hx hZ hown (host := "") (Or.inl (tw hw 73 rfl)) Via.refl e0 f0_1 (g := (mkF m 1 #[sR a2] [(.ref a2)])) rfl rfl (hb hby own_d199)
  refine own_go (fun t k => st1 t k) ?_
  show OG m T1 4 #[sR a2] [(.ref sv)]
  have vv2 := f0_3
  obtain ⟨cl2, Ar2, qk2, Sz2, Nn2, Hs2, Gs2⟩ := vv2
  have st2 : ∀ t, Steps p.tables e below (T1.setTop (mkF m 5 #[sR a2] [(.int sl)])) t → Steps p.tables e below (T1.setTop (mkF m 4 #[sR a2] [(.ref sv)])) t := fun t k => by
    refine X1.arraylength hx (by rw [e1]; exact Ar2.1) (State.isArrayOf_alike hZ.alike Ar2.2.1) (g := (mkF m 4 #[sR a2] [(.ref sv)])) rfl rfl (hb hby own_d200) _ ?_
    rw [len_of Sz2 Nn2]
    exact k
  refine own_go (fun t k => st2 t k) ?_
  show OG m T1 5 #[sR a2] [(.int sl)]
  refine og (XS.aloadN X1.here hx rfl (hb hby own_d201) rfl rfl) ?_
  show OG m T1 6 #[sR a2] [(.ref a2), (.int sl)]
  obtain ⟨cq3, kq3, q3a, q3b, q3c⟩ := isOf hZ e1 f0_0
  obtain ⟨_, _, ⟨T3, L3, k3, n3⟩, -, X3, ⟨Lc3, hQ3, l3, y3, z3⟩, st3⟩ := X1.virtualBack hx (y := (⟨"java/lang/String", "coder", "()B"⟩ : MethodName)) (z := (⟨"java/lang/String", "coder", "()B"⟩ : MethodName)) hown (mvT hZ (tw hw 74 rfl)) (mvT hZ (tw hw 75 rfl)) (notFace_of_selects (args := #[]) (mvT hZ (tw hw 77 rfl))) (mvT hZ (tw hw 77 rfl)) (mvT hZ (tw hw 76 rfl)) (by decide) (backOf (W := 1) (own_sco l Z a0 hw [] a2 i_COMPACT_STRINGS h0 n0 Z0 O0 S_COMPACT_STRINGS nz_i_COMPACT_STRINGS f0_2) hZ (tw hw 78 rfl) (tw hw 21 rfl) (by decide) (by decide)) q3a q3c (g := (mkF m 6 #[sR a2] [(.ref a2), (.int sl)])) rfl (by rw [hml]; rfl) (Steps.refl _) (argsL := []) (rest := [(.int sl)]) (lenOf own_pd203 rfl) rfl (by show 2 * 0 + _ ≤ _; exact Nat.le_of_eq rfl) (hb hby own_d202) (fun _ _ => ⟨rfl, e1, (by decide : 0 + 0 ≤ _), (by decide : 0 + 0 ≤ _)⟩)
  dsimp only [Pt.U, Pt.locs, Pt.cells, Pt.slots] at X3 l3 y3 z3 st3 hQ3
  subst l3 y3 z3
  obtain ⟨rfl, Nq3, eq3⟩ := hQ3
  have N3 := Fr.app N0 Nq3
  have e3 : T3.heap = h0 := eq3
  refine og (st3.trans) ?_
  show OG m T3 9 #[sR a2] [(.int (0 : Int32)), (.int sl)]
  refine og (XS.ishr X3.here hx rfl (hb hby own_d204) rfl) ?_
  show OG m T3 10 #[sR a2] [(.int (sl >>> ((0 : Int32) &&& 31)))]
  rw [own_shr0 sl]
  show OG m T3 10 #[sR a2] [(.int sl)]
  obtain ⟨fs, hr, hrun, hended, hW, hsame⟩ := X3.leave (v := some (.int sl)) (fun h => by rw [Bd.returns] at h; cases h)
  refine ⟨_, _, retI X3 hx Bd.returns (hb hby own_d205) hr, hrun, hended, _, _, rfl, ?_, ⟨_, rfl⟩, hW, hsame.mono (by decide) (by decide)⟩
  show Q_own_sle Z a2 sv sk sl cs i_COMPACT_STRINGS h0 n0 _ T3.heap _
  rw [e3]
  exact ⟨rfl, N3, rfl⟩
theorem own_ef206 (m : MethodId) (a1 : Addr) (a2 : Addr) : entryFrame m #[(.ref a1), (.ref a2)] 2 = mkF m 0 #[sR a1, sR a2] [] := by first | (simp [entryFrame, mkF, argsToLocals, Value.category]; done) | rfl
theorem own_d207 : decode jdk_68_method_71_code 0 = .ok (.getstatic 18, 3) := by decide +kernel
theorem own_d208 : decode jdk_68_method_71_code 3 = .ok (.ifCond .eq 18, 3) := by decide +kernel
theorem own_d209 : decode jdk_68_method_71_code 6 = .ok (.aload_n 0, 1) := by decide +kernel
theorem own_d210 : decode jdk_68_method_71_code 7 = .ok (.getfield 22, 3) := by decide +kernel
theorem own_d211 : decode jdk_68_method_71_code 10 = .ok (.aload_n 1, 1) := by decide +kernel
theorem own_d212 : decode jdk_68_method_71_code 11 = .ok (.invokevirtual 40, 3) := by decide +kernel
theorem own_d213 : decode jdk_68_method_71_code 14 = .ok (.if_icmp .eq 7, 3) := by decide +kernel
theorem own_d214 : decode jdk_68_method_71_code 21 = .ok (.return_, 1) := by decide +kernel
def Q_own_inf (Z : State) (a1 : Addr) (a2 : Addr) (i_COMPACT_STRINGS : Int32) (h0 : Heap) (n0 : Nat) (v : Option Value) (h : Heap) (L : List Loc) : Prop := v = none ∧ Fr n0 L ∧ h = h0
set_option maxRecDepth 65536 in
set_option maxHeartbeats 40000000 in
theorem own_inf (l : Launch) (Z : State) (a0 : Array Value) (hw : ∀ d ∈ tables_1, d.before a0 Z = true) (ws : List Jvm.Cond) (a1 : Addr) (a2 : Addr) (i_COMPACT_STRINGS : Int32) (h0 : Heap) (n0 : Nat) (Z0 : n0 ≤ h0.size) (O0 : Old Z n0 h0) (S_COMPACT_STRINGS : Sta Z Z.heap "java/lang/String" "COMPACT_STRINGS" "Z" (.int i_COMPACT_STRINGS)) (nz_i_COMPACT_STRINGS : i_COMPACT_STRINGS ≠ (0 : Int32)) (f0_0 : Fld Z h0 a1 "java/lang/AbstractStringBuilder" "coder" "B" (.int (0 : Int32))) (f0_1 : Exa Z h0 a2 "java/lang/String") (f0_2 : Fld Z h0 a2 "java/lang/String" "coder" "B" (.int (0 : Int32))) :
    MetFree l (⟨"java/lang/AbstractStringBuilder", "inflateIfNeededFor", "(Ljava/lang/String;)V"⟩ : MethodName) (head1 (Jvm.Cond.code (⟨"java/lang/AbstractStringBuilder", "inflateIfNeededFor", "(Ljava/lang/String;)V"⟩ : MethodName) jdk_68_method_71_code 2 none :: ws) ({ frames := 1, cells := 0, slots := 0, locals := 13 } : Room)) (fun a U => a = #[(.ref a1), (.ref a2)] ∧ Z.Warmed39 U.vm ∧ U.heap = h0) (fun _ _ _ _ _ => True) (fun _ U o U' => ∃ v L, o = .returned v ∧ Q_own_inf Z a1 a2 i_COMPACT_STRINGS h0 n0 v U'.heap L ∧ FrameEnd U o U' L ({ frames := 1, cells := 0, slots := 0, locals := 13 } : Room).cells ({ frames := 1, cells := 0, slots := 0, locals := 13 } : Room).slots) := by
  refine MetFree.of_bodySF (plainFor_of_name own_pn1) hisR ?_
  intro p e s m args below meth c s₁ Bd hml0 hP hK
  obtain ⟨rfl, hZ, hh⟩ := hP
  have hx := Bd.exec
  have hby := Bd.bytes
  have hml : c.maxLocals = 2 := hml0
  have hown : s.vm.findClass "java/lang/AbstractStringBuilder" = some m.cls := findClass_of_methodNamed Bd.named
  have hnm := (name_of_methodNamed Bd.named Bd.method).1
  have X0 : Stand p l e ({ frames := 1, cells := 0, slots := 0, locals := 13 } : Room) s m #[(.ref a1), (.ref a2)] below meth c s₁ [] 0 0 := Stand.of_body Bd
  have e0 : s₁.heap = h0 := by rw [← hh, Bd.state]; rfl
  have N0 := Fr.nil n0
  have K0 := Keep.refl h0 []
  refine own_go (fun t k => castTop (own_ef206 m a1 a2) k) ?_
  show OG m s₁ 0 #[sR a1, sR a2] []
  obtain ⟨T1, X1, e1, st1⟩ := getS2 X0 hx hZ hown (host := "") (Or.inl (tw hw 20 rfl)) Via.refl e0 (S_COMPACT_STRINGS.ext O0.2) (g := (mkF m 0 #[sR a1, sR a2] [])) rfl (hb hby own_d207)
  refine own_go (fun t k => st1 t k) ?_
  show OG m T1 3 #[sR a1, sR a2] [(.int i_COMPACT_STRINGS)]
  refine og (XS.ifNo X1.here hx rfl (hb hby own_d208) rfl ((if0 _ _).trans (feq nz_i_COMPACT_STRINGS).1)) ?_
  show OG m T1 6 #[sR a1, sR a2] []
  refine og (XS.aloadN X1.here hx rfl (hb hby own_d209) rfl rfl) ?_
  show OG m T1 7 #[sR a1, sR a2] [(.ref a1)]
  obtain ⟨T2, X2, e2, st2⟩ := getF X1 hx hZ hown (host := "") (Or.inl (tw hw 25 rfl)) Via.refl e1 f0_0 (g := (mkF m 7 #[sR a1, sR a2] [(.ref a1)])) rfl rfl (hb hby own_d210)
  refine own_go (fun t k => st2 t k) ?_
  show OG m T2 10 #[sR a1, sR a2] [(.int (0 : Int32))]
  refine og (XS.aloadN X2.here hx rfl (hb hby own_d211) rfl rfl) ?_
  show OG m T2 11 #[sR a1, sR a2] [(.ref a2), (.int (0 : Int32))]
  obtain ⟨cq3, kq3, q3a, q3b, q3c⟩ := isOf hZ e2 f0_1
  obtain ⟨_, _, ⟨T3, L3, k3, n3⟩, -, X3, ⟨Lc3, hQ3, l3, y3, z3⟩, st3⟩ := X2.virtualBack hx (y := (⟨"java/lang/String", "coder", "()B"⟩ : MethodName)) (z := (⟨"java/lang/String", "coder", "()B"⟩ : MethodName)) hown (mvT hZ (tw hw 91 rfl)) (mvT hZ (tw hw 75 rfl)) (notFace_of_selects (args := #[]) (mvT hZ (tw hw 77 rfl))) (mvT hZ (tw hw 77 rfl)) (mvT hZ (tw hw 76 rfl)) (by decide) (backOf (W := 1) (own_sco l Z a0 hw [] a2 i_COMPACT_STRINGS h0 n0 Z0 O0 S_COMPACT_STRINGS nz_i_COMPACT_STRINGS f0_2) hZ (tw hw 78 rfl) (tw hw 21 rfl) (by decide) (by decide)) q3a q3c (g := (mkF m 11 #[sR a1, sR a2] [(.ref a2), (.int (0 : Int32))])) rfl (by rw [hml]; rfl) (Steps.refl _) (argsL := []) (rest := [(.int (0 : Int32))]) (lenOf own_pd203 rfl) rfl (by show 2 * 0 + _ ≤ _; exact Nat.le_of_eq rfl) (hb hby own_d212) (fun _ _ => ⟨rfl, e2, (by decide : 0 + 0 ≤ _), (by decide : 0 + 0 ≤ _)⟩)
  dsimp only [Pt.U, Pt.locs, Pt.cells, Pt.slots] at X3 l3 y3 z3 st3 hQ3
  subst l3 y3 z3
  obtain ⟨rfl, Nq3, eq3⟩ := hQ3
  have N3 := Fr.app N0 Nq3
  have e3 : T3.heap = h0 := eq3
  refine og (st3.trans) ?_
  show OG m T3 14 #[sR a1, sR a2] [(.int (0 : Int32)), (.int (0 : Int32))]
  refine og (XS.icmpYes X3.here hx rfl (pc0 := 14) (pc' := 21) rfl (hb hby own_d213) rfl (teq (by decide : (0 : Int32) = (0 : Int32))).1 (by decide) (by decide)) ?_
  show OG m T3 21 #[sR a1, sR a2] []
  obtain ⟨fs, hr, hrun, hended, hW, hsame⟩ := X3.leave (v := none) (fun _ => rfl)
  refine ⟨_, _, X3.returnOut hx Bd.returns (hb hby own_d214) hr, hrun, hended, _, _, rfl, ?_, ⟨_, rfl⟩, hW, hsame.mono (by decide) (by decide)⟩
  show Q_own_inf Z a1 a2 i_COMPACT_STRINGS h0 n0 _ T3.heap _
  rw [e3]
  exact ⟨rfl, N3, rfl⟩
theorem own_ef215 (m : MethodId) (a2 : Addr) (d : Addr) (p1 : Int32) : entryFrame m #[(.ref a2), (.ref d), (.int p1), (.int (0 : Int32))] 4 = mkF m 0 #[sR a2, sR d, sI p1, sI (0 : Int32)] [] := by first | (simp [entryFrame, mkF, argsToLocals, Value.category]; done) | rfl
theorem own_d216 : decode jdk_42_method_147_code 0 = .ok (.aload_n 0, 1) := by decide +kernel
theorem own_d217 : decode jdk_42_method_147_code 1 = .ok (.invokevirtual 335, 3) := by decide +kernel
theorem own_d218 : decode jdk_42_method_147_code 4 = .ok (.iload_n 3, 1) := by decide +kernel
theorem own_d219 : decode jdk_42_method_147_code 5 = .ok (.if_icmp .ne 23, 3) := by decide +kernel
theorem own_d220 : decode jdk_42_method_147_code 8 = .ok (.aload_n 0, 1) := by decide +kernel
theorem own_d221 : decode jdk_42_method_147_code 9 = .ok (.getfield 9, 3) := by decide +kernel
theorem own_d222 : decode jdk_42_method_147_code 12 = .ok (.iconst 0, 1) := by decide +kernel
theorem own_d223 : decode jdk_42_method_147_code 13 = .ok (.aload_n 1, 1) := by decide +kernel
theorem own_d224 : decode jdk_42_method_147_code 14 = .ok (.iload_n 2, 1) := by decide +kernel
theorem own_d225 : decode jdk_42_method_147_code 15 = .ok (.iload_n 3, 1) := by decide +kernel
theorem own_d226 : decode jdk_42_method_147_code 16 = .ok (.ishl, 1) := by decide +kernel
theorem own_d227 : decode jdk_42_method_147_code 17 = .ok (.aload_n 0, 1) := by decide +kernel
theorem own_d228 : decode jdk_42_method_147_code 18 = .ok (.getfield 9, 3) := by decide +kernel
theorem own_d229 : decode jdk_42_method_147_code 21 = .ok (.arraylength, 1) := by decide +kernel
theorem own_d230 : decode jdk_42_method_147_code 22 = .ok (.invokestatic 212, 3) := by decide +kernel
theorem own_d231 : decode jdk_42_method_147_code 25 = .ok (.goto 18, 3) := by decide +kernel
theorem own_d232 : decode jdk_42_method_147_code 43 = .ok (.return_, 1) := by decide +kernel
def Q_own_gb (Z : State) (a2 : Addr) (d : Addr) (p1 : Int32) (sv : Addr) (sk : ClassId) (sl : Int32) (cs : List Int32) (k : ClassId) (cap : Int32) (bs : List Int32) (i_COMPACT_STRINGS : Int32) (h0 : Heap) (n0 : Nat) (v : Option Value) (h : Heap) (L : List Loc) : Prop := v = none ∧ Fr n0 L ∧ Keep h0 h [d] ∧ Arv Z h d k .byte cap (own_B (bs ++ cs)) (.int (0 : Int32))
set_option maxRecDepth 65536 in
set_option maxHeartbeats 40000000 in
theorem own_gb (l : Launch) (Z : State) (a0 : Array Value) (hw : ∀ d ∈ tables_1, d.before a0 Z = true) (ws : List Jvm.Cond) (a2 : Addr) (d : Addr) (p1 : Int32) (sv : Addr) (sk : ClassId) (sl : Int32) (cs : List Int32) (k : ClassId) (cap : Int32) (bs : List Int32) (i_COMPACT_STRINGS : Int32) (h0 : Heap) (n0 : Nat) (Z0 : n0 ≤ h0.size) (O0 : Old Z n0 h0) (S_COMPACT_STRINGS : Sta Z Z.heap "java/lang/String" "COMPACT_STRINGS" "Z" (.int i_COMPACT_STRINGS)) (nz_i_COMPACT_STRINGS : i_COMPACT_STRINGS ≠ (0 : Int32)) (f0_0 : Exa Z h0 a2 "java/lang/String") (f0_1 : Fld Z h0 a2 "java/lang/String" "value" "[B" (.ref sv)) (f0_2 : Fld Z h0 a2 "java/lang/String" "coder" "B" (.int (0 : Int32))) (f0_3 : Arv Z h0 sv sk .byte sl (own_B cs) (.int (0 : Int32))) (f0_4 : Arv Z h0 d k .byte cap (own_B bs) (.int (0 : Int32))) (g_d : n0 ≤ d) (hsl : ¬ sl < 0 ∧ sl.toNatClampNeg = cs.length) (hdp : ¬ p1 < 0 ∧ p1.toNatClampNeg = bs.length) (hfit : bs.length + cs.length ≤ cap.toNatClampNeg) (hsd : sv ≠ d) :
    MetFree l (⟨"java/lang/String", "getBytes", "([BIB)V"⟩ : MethodName) (head1 (Jvm.Cond.code (⟨"java/lang/String", "getBytes", "([BIB)V"⟩ : MethodName) jdk_42_method_147_code 4 none :: ws) ({ frames := 1, cells := 0, slots := 0, locals := 18 } : Room)) (fun a U => a = #[(.ref a2), (.ref d), (.int p1), (.int (0 : Int32))] ∧ Z.Warmed39 U.vm ∧ U.heap = h0) (fun _ _ _ _ _ => True) (fun _ U o U' => ∃ v L, o = .returned v ∧ Q_own_gb Z a2 d p1 sv sk sl cs k cap bs i_COMPACT_STRINGS h0 n0 v U'.heap L ∧ FrameEnd U o U' L ({ frames := 1, cells := 0, slots := 0, locals := 18 } : Room).cells ({ frames := 1, cells := 0, slots := 0, locals := 18 } : Room).slots) := by
  refine MetFree.of_bodySF (plainFor_of_name own_pn190) hisR ?_
  intro p e s m args below meth c s₁ Bd hml0 hP hK
  obtain ⟨rfl, hZ, hh⟩ := hP
  have hx := Bd.exec
  have hby := Bd.bytes
  have hml : c.maxLocals = 4 := hml0
  have hown : s.vm.findClass "java/lang/String" = some m.cls := findClass_of_methodNamed Bd.named
  have hnm := (name_of_methodNamed Bd.named Bd.method).1
  have X0 : Stand p l e ({ frames := 1, cells := 0, slots := 0, locals := 18 } : Room) s m #[(.ref a2), (.ref d), (.int p1), (.int (0 : Int32))] below meth c s₁ [] 0 0 := Stand.of_body Bd
  have e0 : s₁.heap = h0 := by rw [← hh, Bd.state]; rfl
  have N0 := Fr.nil n0
  have K0 := Keep.refl h0 [d]
  refine own_go (fun t k => castTop (own_ef215 m a2 d p1) k) ?_
  show OG m s₁ 0 #[sR a2, sR d, sI p1, sI (0 : Int32)] []
  refine og (XS.aloadN X0.here hx rfl (hb hby own_d216) rfl rfl) ?_
  show OG m s₁ 1 #[sR a2, sR d, sI p1, sI (0 : Int32)] [(.ref a2)]
  obtain ⟨cq1, kq1, q1a, q1b, q1c⟩ := isOf hZ e0 f0_0
  obtain ⟨_, _, ⟨T1, L1, k1, n1⟩, -, X1, ⟨Lc1, hQ1, l1, y1, z1⟩, st1⟩ := X0.virtualBack hx (y := (⟨"java/lang/String", "coder", "()B"⟩ : MethodName)) (z := (⟨"java/lang/String", "coder", "()B"⟩ : MethodName)) hown (mvT hZ (tw hw 74 rfl)) (mvT hZ (tw hw 75 rfl)) (notFace_of_selects (args := #[]) (mvT hZ (tw hw 77 rfl))) (mvT hZ (tw hw 77 rfl)) (mvT hZ (tw hw 76 rfl)) (by decide) (backOf (W := 0) (own_sco l Z a0 hw [] a2 i_COMPACT_STRINGS h0 n0 Z0 O0 S_COMPACT_STRINGS nz_i_COMPACT_STRINGS f0_2) hZ (tw hw 78 rfl) (tw hw 21 rfl) (by decide) (by decide)) q1a q1c (g := (mkF m 1 #[sR a2, sR d, sI p1, sI (0 : Int32)] [(.ref a2)])) rfl (by rw [hml]; rfl) (Steps.refl _) (argsL := []) (rest := []) (lenOf own_pd203 rfl) rfl (by show 2 * 0 + _ ≤ _; exact Nat.le_of_eq rfl) (hb hby own_d217) (fun _ _ => ⟨rfl, e0, (by decide : 0 + 0 ≤ _), (by decide : 0 + 0 ≤ _)⟩)
  dsimp only [Pt.U, Pt.locs, Pt.cells, Pt.slots] at X1 l1 y1 z1 st1 hQ1
  subst l1 y1 z1
  obtain ⟨rfl, Nq1, eq1⟩ := hQ1
  have N1 := Fr.app N0 Nq1
  have e1 : T1.heap = h0 := eq1
  refine og (st1.trans) ?_
  show OG m T1 4 #[sR a2, sR d, sI p1, sI (0 : Int32)] [(.int (0 : Int32))]
  refine og (XS.iloadN X1.here hx rfl (hb hby own_d218) rfl) ?_
  show OG m T1 5 #[sR a2, sR d, sI p1, sI (0 : Int32)] [(.int (0 : Int32)), (.int (0 : Int32))]
  refine og (XS.icmpNo X1.here hx rfl (hb hby own_d219) rfl (teq (by decide : (0 : Int32) = (0 : Int32))).2) ?_
  refine og (XS.aloadN X1.here hx rfl (hb hby own_d220) rfl rfl) ?_
  show OG m T1 9 #[sR a2, sR d, sI p1, sI (0 : Int32)] [(.ref a2)]
  obtain ⟨T2, X2, e2, st2⟩ := getF X1 hx hZ hown (host := "") (Or.inl (tw hw 73 rfl)) Via.refl e1 f0_1 (g := (mkF m 9 #[sR a2, sR d, sI p1, sI (0 : Int32)] [(.ref a2)])) rfl rfl (hb hby own_d221)
  refine own_go (fun t k => st2 t k) ?_
  show OG m T2 12 #[sR a2, sR d, sI p1, sI (0 : Int32)] [(.ref sv)]
  refine og (XS.iconst X2.here hx rfl (hb hby own_d222)) ?_
  refine og (XS.aloadN X2.here hx rfl (hb hby own_d223) rfl rfl) ?_
  show OG m T2 14 #[sR a2, sR d, sI p1, sI (0 : Int32)] [(.ref d), (.int (0 : Int32)), (.ref sv)]
  refine og (XS.iloadN X2.here hx rfl (hb hby own_d224) rfl) ?_
  refine og (XS.iloadN X2.here hx rfl (hb hby own_d225) rfl) ?_
  show OG m T2 16 #[sR a2, sR d, sI p1, sI (0 : Int32)] [(.int (0 : Int32)), (.int p1), (.ref d), (.int (0 : Int32)), (.ref sv)]
  refine og (XS.ishl X2.here hx rfl (hb hby own_d226) rfl) ?_
  show OG m T2 17 #[sR a2, sR d, sI p1, sI (0 : Int32)] [(.int (p1 <<< ((0 : Int32) &&& 31))), (.ref d), (.int (0 : Int32)), (.ref sv)]
  rw [own_shl0 p1]
  show OG m T2 17 #[sR a2, sR d, sI p1, sI (0 : Int32)] [(.int p1), (.ref d), (.int (0 : Int32)), (.ref sv)]
  refine og (XS.aloadN X2.here hx rfl (hb hby own_d227) rfl rfl) ?_
  show OG m T2 18 #[sR a2, sR d, sI p1, sI (0 : Int32)] [(.ref a2), (.int p1), (.ref d), (.int (0 : Int32)), (.ref sv)]
  obtain ⟨T3, X3, e3, st3⟩ := getF X2 hx hZ hown (host := "") (Or.inl (tw hw 73 rfl)) Via.refl e2 f0_1 (g := (mkF m 18 #[sR a2, sR d, sI p1, sI (0 : Int32)] [(.ref a2), (.int p1), (.ref d), (.int (0 : Int32)), (.ref sv)])) rfl rfl (hb hby own_d228)
  refine own_go (fun t k => st3 t k) ?_
  show OG m T3 21 #[sR a2, sR d, sI p1, sI (0 : Int32)] [(.ref sv), (.int p1), (.ref d), (.int (0 : Int32)), (.ref sv)]
  have vv4 := f0_3
  obtain ⟨cl4, Ar4, qk4, Sz4, Nn4, Hs4, Gs4⟩ := vv4
  have st4 : ∀ t, Steps p.tables e below (T3.setTop (mkF m 22 #[sR a2, sR d, sI p1, sI (0 : Int32)] [(.int sl), (.int p1), (.ref d), (.int (0 : Int32)), (.ref sv)])) t → Steps p.tables e below (T3.setTop (mkF m 21 #[sR a2, sR d, sI p1, sI (0 : Int32)] [(.ref sv), (.int p1), (.ref d), (.int (0 : Int32)), (.ref sv)])) t := fun t k => by
    refine X3.arraylength hx (by rw [e3]; exact Ar4.1) (State.isArrayOf_alike hZ.alike Ar4.2.1) (g := (mkF m 21 #[sR a2, sR d, sI p1, sI (0 : Int32)] [(.ref sv), (.int p1), (.ref d), (.int (0 : Int32)), (.ref sv)])) rfl rfl (hb hby own_d229) _ ?_
    rw [len_of Sz4 Nn4]
    exact k
  refine own_go (fun t k => st4 t k) ?_
  show OG m T3 22 #[sR a2, sR d, sI p1, sI (0 : Int32)] [(.int sl), (.int p1), (.ref d), (.int (0 : Int32)), (.ref sv)]
  have vd5 : Arv Z h0 d k .byte cap (own_B bs ++ List.replicate cs.length (Value.int 0)) (.int (0 : Int32)) := f0_4.pad (pad_rep (own_B bs) (.int (0 : Int32)) cs.length)
  obtain ⟨T5, h5, L5, X5, e5, Nq5, Kq5, A5, st5⟩ := cpA X3 hx hZ hown (tw hw 97 rfl) (tw hw 100 rfl) (tw hw 98 rfl) (tw hw 99 rfl) e3 f0_3 vd5 (Or.inl ⟨rfl, rfl⟩) (by decide) hdp.1 hsl.1 (by show 0 + _ ≤ _; omega) (by rw [hdp.2, hsl.2]; exact hfit) rfl (by rw [hdp.2, hsl.2]; simp) (n0 := n0) N1 g_d (g := (mkF m 22 #[sR a2, sR d, sI p1, sI (0 : Int32)] [(.int sl), (.int p1), (.ref d), (.int (0 : Int32)), (.ref sv)])) rfl (by rw [hml]; rfl) rfl (hb hby own_d230) (by decide) (W := 0) (by show 2 * 0 + _ ≤ _; exact Nat.le_of_eq rfl) (by decide)
  have F6 : Exa Z h5 a2 "java/lang/String" := f0_0.keep Kq5
  have F7 : Arv Z h5 sv sk .byte sl (own_B cs) (.int (0 : Int32)) := f0_3.keep Kq5 (ninS hsd nin0)
  have F8 : Old Z n0 h5 := O0.keep Kq5 (allS g_d all0)
  have K5 : Keep h0 h5 [d] := K0.trans Kq5 (allS (Or.inl (List.mem_of_getElem? (i := 0) rfl)) all0)
  have Z5 : n0 ≤ h5.size := Nat.le_trans Z0 Kq5.1
  have F9 : Arv Z h5 d k .byte cap (own_B (bs ++ cs)) (.int (0 : Int32)) := A5.pad (own_join bs cs p1 sl hdp.2 hsl.2)
  refine own_go (fun t k => st5 t k) ?_
  show OG m T5 25 #[sR a2, sR d, sI p1, sI (0 : Int32)] []
  refine og (XS.goto X5.here hx rfl (pc0 := 25) (pc' := 43) rfl (hb hby own_d231) (by decide) (by decide)) ?_
  show OG m T5 43 #[sR a2, sR d, sI p1, sI (0 : Int32)] []
  obtain ⟨fs, hr, hrun, hended, hW, hsame⟩ := X5.leave (v := none) (fun _ => rfl)
  refine ⟨_, _, X5.returnOut hx Bd.returns (hb hby own_d232) hr, hrun, hended, _, _, rfl, ?_, ⟨_, rfl⟩, hW, hsame.mono (by decide) (by decide)⟩
  show Q_own_gb Z a2 d p1 sv sk sl cs k cap bs i_COMPACT_STRINGS h0 n0 _ T5.heap _
  rw [e5]
  exact ⟨rfl, Nq5, K5, F9⟩
theorem own_ef233 (m : MethodId) (a1 : Addr) (p1 : Int32) (a2 : Addr) : entryFrame m #[(.ref a1), (.int p1), (.ref a2)] 3 = mkF m 0 #[sR a1, sI p1, sR a2] [] := by first | (simp [entryFrame, mkF, argsToLocals, Value.category]; done) | rfl
theorem own_d234 : decode jdk_68_method_73_code 0 = .ok (.aload_n 0, 1) := by decide +kernel
theorem own_d235 : decode jdk_68_method_73_code 1 = .ok (.aload_n 2, 1) := by decide +kernel
theorem own_d236 : decode jdk_68_method_73_code 2 = .ok (.invokevirtual 397, 3) := by decide +kernel
theorem own_pd237 : parseMethodDescriptor "(Ljava/lang/String;)V" = some ⟨[(.object "java/lang/String")], none⟩ := by decide +kernel
theorem own_d238 : decode jdk_68_method_73_code 5 = .ok (.aload_n 2, 1) := by decide +kernel
theorem own_d239 : decode jdk_68_method_73_code 6 = .ok (.aload_n 0, 1) := by decide +kernel
theorem own_d240 : decode jdk_68_method_73_code 7 = .ok (.getfield 15, 3) := by decide +kernel
theorem own_d241 : decode jdk_68_method_73_code 10 = .ok (.iload_n 1, 1) := by decide +kernel
theorem own_d242 : decode jdk_68_method_73_code 11 = .ok (.aload_n 0, 1) := by decide +kernel
theorem own_d243 : decode jdk_68_method_73_code 12 = .ok (.getfield 22, 3) := by decide +kernel
theorem own_d244 : decode jdk_68_method_73_code 15 = .ok (.invokevirtual 399, 3) := by decide +kernel
theorem own_pd245 : parseMethodDescriptor "([BIB)V" = some ⟨[(.array .byte), .int, .byte], none⟩ := by decide +kernel
theorem own_d246 : decode jdk_68_method_73_code 18 = .ok (.return_, 1) := by decide +kernel
def Q_own_pu (Z : State) (a1 : Addr) (p1 : Int32) (a2 : Addr) (sv : Addr) (sk : ClassId) (sl : Int32) (cs : List Int32) (d : Addr) (k : ClassId) (cap : Int32) (bs : List Int32) (i_COMPACT_STRINGS : Int32) (h0 : Heap) (n0 : Nat) (v : Option Value) (h : Heap) (L : List Loc) : Prop := v = none ∧ Fr n0 L ∧ Keep h0 h [d] ∧ Arv Z h d k .byte cap (own_B (bs ++ cs)) (.int (0 : Int32))
set_option maxRecDepth 65536 in
set_option maxHeartbeats 40000000 in
theorem own_pu (l : Launch) (Z : State) (a0 : Array Value) (hw : ∀ d ∈ tables_1, d.before a0 Z = true) (ws : List Jvm.Cond) (a1 : Addr) (p1 : Int32) (a2 : Addr) (sv : Addr) (sk : ClassId) (sl : Int32) (cs : List Int32) (d : Addr) (k : ClassId) (cap : Int32) (bs : List Int32) (i_COMPACT_STRINGS : Int32) (h0 : Heap) (n0 : Nat) (Z0 : n0 ≤ h0.size) (O0 : Old Z n0 h0) (S_COMPACT_STRINGS : Sta Z Z.heap "java/lang/String" "COMPACT_STRINGS" "Z" (.int i_COMPACT_STRINGS)) (nz_i_COMPACT_STRINGS : i_COMPACT_STRINGS ≠ (0 : Int32)) (f0_0 : Exa Z h0 a1 "java/lang/StringBuilder") (f0_1 : Fld Z h0 a1 "java/lang/AbstractStringBuilder" "value" "[B" (.ref d)) (f0_2 : Fld Z h0 a1 "java/lang/AbstractStringBuilder" "coder" "B" (.int (0 : Int32))) (f0_3 : Exa Z h0 a2 "java/lang/String") (f0_4 : Fld Z h0 a2 "java/lang/String" "value" "[B" (.ref sv)) (f0_5 : Fld Z h0 a2 "java/lang/String" "coder" "B" (.int (0 : Int32))) (f0_6 : Arv Z h0 sv sk .byte sl (own_B cs) (.int (0 : Int32))) (f0_7 : Arv Z h0 d k .byte cap (own_B bs) (.int (0 : Int32))) (g_d : n0 ≤ d) (hsl : ¬ sl < 0 ∧ sl.toNatClampNeg = cs.length) (hdp : ¬ p1 < 0 ∧ p1.toNatClampNeg = bs.length) (hfit : bs.length + cs.length ≤ cap.toNatClampNeg) (hsd : sv ≠ d) :
    MetFree l (⟨"java/lang/AbstractStringBuilder", "putStringAt", "(ILjava/lang/String;)V"⟩ : MethodName) (head1 (Jvm.Cond.code (⟨"java/lang/AbstractStringBuilder", "putStringAt", "(ILjava/lang/String;)V"⟩ : MethodName) jdk_68_method_73_code 3 none :: ws) ({ frames := 2, cells := 0, slots := 0, locals := 33 } : Room)) (fun a U => a = #[(.ref a1), (.int p1), (.ref a2)] ∧ Z.Warmed39 U.vm ∧ U.heap = h0) (fun _ _ _ _ _ => True) (fun _ U o U' => ∃ v L, o = .returned v ∧ Q_own_pu Z a1 p1 a2 sv sk sl cs d k cap bs i_COMPACT_STRINGS h0 n0 v U'.heap L ∧ FrameEnd U o U' L ({ frames := 2, cells := 0, slots := 0, locals := 33 } : Room).cells ({ frames := 2, cells := 0, slots := 0, locals := 33 } : Room).slots) := by
  refine MetFree.of_bodySF (plainFor_of_name own_pn1) hisR ?_
  intro p e s m args below meth c s₁ Bd hml0 hP hK
  obtain ⟨rfl, hZ, hh⟩ := hP
  have hx := Bd.exec
  have hby := Bd.bytes
  have hml : c.maxLocals = 3 := hml0
  have hown : s.vm.findClass "java/lang/AbstractStringBuilder" = some m.cls := findClass_of_methodNamed Bd.named
  have hnm := (name_of_methodNamed Bd.named Bd.method).1
  have X0 : Stand p l e ({ frames := 2, cells := 0, slots := 0, locals := 33 } : Room) s m #[(.ref a1), (.int p1), (.ref a2)] below meth c s₁ [] 0 0 := Stand.of_body Bd
  have e0 : s₁.heap = h0 := by rw [← hh, Bd.state]; rfl
  have N0 := Fr.nil n0
  have K0 := Keep.refl h0 [d]
  refine own_go (fun t k => castTop (own_ef233 m a1 p1 a2) k) ?_
  show OG m s₁ 0 #[sR a1, sI p1, sR a2] []
  refine og (XS.aloadN X0.here hx rfl (hb hby own_d234) rfl rfl) ?_
  refine og (XS.aloadN X0.here hx rfl (hb hby own_d235) rfl rfl) ?_
  show OG m s₁ 2 #[sR a1, sI p1, sR a2] [(.ref a2), (.ref a1)]
  obtain ⟨cq1, q1, q1'⟩ := f0_0.cell
  obtain ⟨_, _, ⟨T1, L1, k1, n1⟩, -, X1, ⟨Lc1, hQ1, l1, y1, z1⟩, st1⟩ := X0.privateBack hx (y := (⟨"java/lang/AbstractStringBuilder", "inflateIfNeededFor", "(Ljava/lang/String;)V"⟩ : MethodName)) hown (mvT hZ (tw hw 86 rfl)) (mvT hZ (tw hw 87 rfl)) (own_selself (mvT hZ (tw hw 89 rfl)) (Cond.privateMethod_at (mvP hZ (tw hw 88 rfl) (args := #[]))) (mvT hZ (tw hw 87 rfl)) (by decide)) (Cond.privateMethod_at (mvP hZ (tw hw 88 rfl) (args := #[]))) (mvT hZ (tw hw 90 rfl)) (by decide) (backOf (W := 0) (own_inf l Z a0 hw [] a1 a2 i_COMPACT_STRINGS h0 n0 Z0 O0 S_COMPACT_STRINGS nz_i_COMPACT_STRINGS f0_2 f0_3 f0_5) hZ (tw hw 90 rfl) (tw hw 15 rfl) (by decide) (by decide)) (g := (mkF m 2 #[sR a1, sI p1, sR a2] [(.ref a2), (.ref a1)])) rfl (by rw [hml]; rfl) (Steps.refl _) (a := a1) (by rw [e0]; exact q1) q1' (argsL := [(.ref a2)]) (rest := []) (lenOf own_pd237 rfl) rfl (by show 2 * 0 + _ ≤ _; exact Nat.le_of_eq rfl) (hb hby own_d236) (fun _ _ => ⟨rfl, e0, (by decide : 0 + 0 ≤ _), (by decide : 0 + 0 ≤ _)⟩)
  dsimp only [Pt.U, Pt.locs, Pt.cells, Pt.slots] at X1 l1 y1 z1 st1 hQ1
  subst l1 y1 z1
  obtain ⟨rfl, Nq1, eq1⟩ := hQ1
  have N1 := Fr.app N0 Nq1
  have e1 : T1.heap = h0 := eq1
  refine og (st1.trans) ?_
  show OG m T1 5 #[sR a1, sI p1, sR a2] []
  refine og (XS.aloadN X1.here hx rfl (hb hby own_d238) rfl rfl) ?_
  refine og (XS.aloadN X1.here hx rfl (hb hby own_d239) rfl rfl) ?_
  show OG m T1 7 #[sR a1, sI p1, sR a2] [(.ref a1), (.ref a2)]
  obtain ⟨T2, X2, e2, st2⟩ := getF X1 hx hZ hown (host := "") (Or.inl (tw hw 23 rfl)) Via.refl e1 f0_1 (g := (mkF m 7 #[sR a1, sI p1, sR a2] [(.ref a1), (.ref a2)])) rfl rfl (hb hby own_d240)
  refine own_go (fun t k => st2 t k) ?_
  show OG m T2 10 #[sR a1, sI p1, sR a2] [(.ref d), (.ref a2)]
  refine og (XS.iloadN X2.here hx rfl (hb hby own_d241) rfl) ?_
  refine og (XS.aloadN X2.here hx rfl (hb hby own_d242) rfl rfl) ?_
  show OG m T2 12 #[sR a1, sI p1, sR a2] [(.ref a1), (.int p1), (.ref d), (.ref a2)]
  obtain ⟨T3, X3, e3, st3⟩ := getF X2 hx hZ hown (host := "") (Or.inl (tw hw 25 rfl)) Via.refl e2 f0_2 (g := (mkF m 12 #[sR a1, sI p1, sR a2] [(.ref a1), (.int p1), (.ref d), (.ref a2)])) rfl rfl (hb hby own_d243)
  refine own_go (fun t k => st3 t k) ?_
  show OG m T3 15 #[sR a1, sI p1, sR a2] [(.int (0 : Int32)), (.int p1), (.ref d), (.ref a2)]
  have ne1 : a1 ≠ d := Exa.neArv f0_0 f0_7 (tw hw 6 rfl)
  have ne2 : a2 ≠ d := Exa.neArv f0_3 f0_7 (tw hw 54 rfl)
  obtain ⟨cq4, kq4, q4a, q4b, q4c⟩ := isOf hZ e3 f0_3
  obtain ⟨_, _, ⟨T4, L4, k4, n4⟩, -, X4, ⟨Lc4, hQ4, l4, y4, z4⟩, st4⟩ := X3.virtualBack hx (y := (⟨"java/lang/String", "getBytes", "([BIB)V"⟩ : MethodName)) (z := (⟨"java/lang/String", "getBytes", "([BIB)V"⟩ : MethodName)) hown (mvT hZ (tw hw 92 rfl)) (mvT hZ (tw hw 93 rfl)) (notFace_of_selects (args := #[]) (mvT hZ (tw hw 95 rfl))) (mvT hZ (tw hw 95 rfl)) (mvT hZ (tw hw 94 rfl)) (by decide) (backOf (W := 0) (own_gb l Z a0 hw [] a2 d p1 sv sk sl cs k cap bs i_COMPACT_STRINGS h0 n0 Z0 O0 S_COMPACT_STRINGS nz_i_COMPACT_STRINGS f0_3 f0_4 f0_5 f0_6 f0_7 g_d hsl hdp hfit hsd) hZ (tw hw 96 rfl) (tw hw 21 rfl) (by decide) (by decide)) q4a q4c (g := (mkF m 15 #[sR a1, sI p1, sR a2] [(.int (0 : Int32)), (.int p1), (.ref d), (.ref a2)])) rfl (by rw [hml]; rfl) (Steps.refl _) (argsL := [(.ref d), (.int p1), (.int (0 : Int32))]) (rest := []) (lenOf own_pd245 rfl) rfl (by show 2 * 0 + _ ≤ _; exact Nat.le_of_eq rfl) (hb hby own_d244) (fun _ _ => ⟨rfl, e3, (by decide : 0 + 0 ≤ _), (by decide : 0 + 0 ≤ _)⟩)
  dsimp only [Pt.U, Pt.locs, Pt.cells, Pt.slots] at X4 l4 y4 z4 st4 hQ4
  subst l4 y4 z4
  obtain ⟨rfl, Nq4, Kq4, Fq4_0⟩ := hQ4
  have N4 := Fr.app N1 Nq4
  have F5 : Exa Z T4.heap a1 "java/lang/StringBuilder" := f0_0.keep Kq4
  have F6 : Fld Z T4.heap a1 "java/lang/AbstractStringBuilder" "value" "[B" (.ref d) := f0_1.keep Kq4 (ninS ne1 nin0)
  have F7 : Fld Z T4.heap a1 "java/lang/AbstractStringBuilder" "coder" "B" (.int (0 : Int32)) := f0_2.keep Kq4 (ninS ne1 nin0)
  have F8 : Exa Z T4.heap a2 "java/lang/String" := f0_3.keep Kq4
  have F9 : Fld Z T4.heap a2 "java/lang/String" "value" "[B" (.ref sv) := f0_4.keep Kq4 (ninS ne2 nin0)
  have F10 : Fld Z T4.heap a2 "java/lang/String" "coder" "B" (.int (0 : Int32)) := f0_5.keep Kq4 (ninS ne2 nin0)
  have F11 : Arv Z T4.heap sv sk .byte sl (own_B cs) (.int (0 : Int32)) := f0_6.keep Kq4 (ninS hsd nin0)
  have F12 : Old Z n0 T4.heap := O0.keep Kq4 (allS g_d all0)
  have K4 : Keep h0 T4.heap [d] := K0.trans Kq4 (allS (Or.inl (List.mem_of_getElem? (i := 0) rfl)) all0)
  have Z4 : n0 ≤ T4.heap.size := Nat.le_trans Z0 Kq4.1
  refine og (st4.trans) ?_
  show OG m T4 18 #[sR a1, sI p1, sR a2] []
  obtain ⟨fs, hr, hrun, hended, hW, hsame⟩ := X4.leave (v := none) (fun _ => rfl)
  refine ⟨_, _, X4.returnOut hx Bd.returns (hb hby own_d246) hr, hrun, hended, _, _, rfl, ?_, ⟨_, rfl⟩, hW, hsame.mono (by decide) (by decide)⟩
  show Q_own_pu Z a1 p1 a2 sv sk sl cs d k cap bs i_COMPACT_STRINGS h0 n0 _ T4.heap _
  exact ⟨rfl, N4, K4, Fq4_0⟩
theorem own_ef247 (m : MethodId) (a1 : Addr) (a2 : Addr) : entryFrame m #[(.ref a1), (.ref a2)] 3 = mkF m 0 #[sR a1, sR a2, sU] [] := by first | (simp [entryFrame, mkF, argsToLocals, Value.category]; done) | rfl
theorem own_d248 : decode jdk_68_method_22_code 0 = .ok (.aload_n 1, 1) := by decide +kernel
theorem own_d249 : decode jdk_68_method_22_code 1 = .ok (.ifnonnull 8, 3) := by decide +kernel
theorem own_d250 : decode jdk_68_method_22_code 9 = .ok (.aload_n 1, 1) := by decide +kernel
theorem own_d251 : decode jdk_68_method_22_code 10 = .ok (.invokevirtual 32, 3) := by decide +kernel
theorem own_pd252 : parseMethodDescriptor "()I" = some ⟨[], some .int⟩ := by decide +kernel
theorem own_d253 : decode jdk_68_method_22_code 13 = .ok (.istore_n 2, 1) := by decide +kernel
theorem own_d254 : decode jdk_68_method_22_code 14 = .ok (.aload_n 0, 1) := by decide +kernel
theorem own_d255 : decode jdk_68_method_22_code 15 = .ok (.aload_n 0, 1) := by decide +kernel
theorem own_d256 : decode jdk_68_method_22_code 16 = .ok (.getfield 79, 3) := by decide +kernel
theorem own_d257 : decode jdk_68_method_22_code 19 = .ok (.iload_n 2, 1) := by decide +kernel
theorem own_d258 : decode jdk_68_method_22_code 20 = .ok (.iadd, 1) := by decide +kernel
theorem own_d259 : decode jdk_68_method_22_code 21 = .ok (.invokevirtual 100, 3) := by decide +kernel
theorem own_d260 : decode jdk_68_method_22_code 24 = .ok (.aload_n 0, 1) := by decide +kernel
theorem own_d261 : decode jdk_68_method_22_code 25 = .ok (.aload_n 0, 1) := by decide +kernel
theorem own_d262 : decode jdk_68_method_22_code 26 = .ok (.getfield 79, 3) := by decide +kernel
theorem own_d263 : decode jdk_68_method_22_code 29 = .ok (.aload_n 1, 1) := by decide +kernel
theorem own_d264 : decode jdk_68_method_22_code 30 = .ok (.invokevirtual 208, 3) := by decide +kernel
theorem own_pd265 : parseMethodDescriptor "(ILjava/lang/String;)V" = some ⟨[.int, (.object "java/lang/String")], none⟩ := by decide +kernel
theorem own_d266 : decode jdk_68_method_22_code 33 = .ok (.aload_n 0, 1) := by decide +kernel
theorem own_d267 : decode jdk_68_method_22_code 34 = .ok (.dup, 1) := by decide +kernel
theorem own_d268 : decode jdk_68_method_22_code 35 = .ok (.getfield 79, 3) := by decide +kernel
theorem own_d269 : decode jdk_68_method_22_code 38 = .ok (.iload_n 2, 1) := by decide +kernel
theorem own_d270 : decode jdk_68_method_22_code 39 = .ok (.iadd, 1) := by decide +kernel
theorem own_d271 : decode jdk_68_method_22_code 40 = .ok (.putfield 79, 3) := by decide +kernel
theorem own_d272 : decode jdk_68_method_22_code 43 = .ok (.aload_n 0, 1) := by decide +kernel
theorem own_d273 : decode jdk_68_method_22_code 44 = .ok (.areturn, 1) := by decide +kernel
def Q_own_aps (Z : State) (a1 : Addr) (a2 : Addr) (d : Addr) (k : ClassId) (cap : Int32) (cnt : Int32) (bs : List Int32) (sv : Addr) (sk : ClassId) (sl : Int32) (cs : List Int32) (i_COMPACT_STRINGS : Int32) (h0 : Heap) (n0 : Nat) (v : Option Value) (h : Heap) (L : List Loc) : Prop := ∃ xd : Addr, ∃ xk : ClassId, ∃ xc : Int32, v = some (.ref a1) ∧ Fr n0 L ∧ Keep h0 h [a1, d] ∧ Exa Z h a1 "java/lang/StringBuilder" ∧ Fld Z h a1 "java/lang/AbstractStringBuilder" "value" "[B" (.ref xd) ∧ Fld Z h a1 "java/lang/AbstractStringBuilder" "coder" "B" (.int (0 : Int32)) ∧ Fld Z h a1 "java/lang/AbstractStringBuilder" "count" "I" (.int (cnt + sl)) ∧ Exa Z h xd "[B" ∧ Arv Z h xd xk .byte xc (own_B (bs ++ cs)) (.int (0 : Int32)) ∧ (xd = d ∨ h0.size ≤ xd) ∧ (¬ xc < 0 ∧ xc.toInt ≤ 74) ∧ (((bs ++ cs).length : Int) ≤ xc.toInt)
set_option maxRecDepth 65536 in
set_option maxHeartbeats 40000000 in
theorem own_aps (l : Launch) (Z : State) (a0 : Array Value) (hw : ∀ d ∈ tables_1, d.before a0 Z = true) (ws : List Jvm.Cond) (a1 : Addr) (a2 : Addr) (d : Addr) (k : ClassId) (cap : Int32) (cnt : Int32) (bs : List Int32) (sv : Addr) (sk : ClassId) (sl : Int32) (cs : List Int32) (i_COMPACT_STRINGS : Int32) (h0 : Heap) (n0 : Nat) (Z0 : n0 ≤ h0.size) (O0 : Old Z n0 h0) (S_COMPACT_STRINGS : Sta Z Z.heap "java/lang/String" "COMPACT_STRINGS" "Z" (.int i_COMPACT_STRINGS)) (nz_i_COMPACT_STRINGS : i_COMPACT_STRINGS ≠ (0 : Int32)) (f0_0 : Exa Z h0 a1 "java/lang/StringBuilder") (f0_1 : Fld Z h0 a1 "java/lang/AbstractStringBuilder" "value" "[B" (.ref d)) (f0_2 : Fld Z h0 a1 "java/lang/AbstractStringBuilder" "coder" "B" (.int (0 : Int32))) (f0_3 : Fld Z h0 a1 "java/lang/AbstractStringBuilder" "count" "I" (.int cnt)) (f0_4 : Exa Z h0 d "[B") (f0_5 : Arv Z h0 d k .byte cap (own_B bs) (.int (0 : Int32))) (f0_6 : Exa Z h0 a2 "java/lang/String") (f0_7 : Fld Z h0 a2 "java/lang/String" "value" "[B" (.ref sv)) (f0_8 : Fld Z h0 a2 "java/lang/String" "coder" "B" (.int (0 : Int32))) (f0_9 : Arv Z h0 sv sk .byte sl (own_B cs) (.int (0 : Int32))) (g_a1 : n0 ≤ a1) (g_d : n0 ≤ d) (hcap : ¬ cap < 0 ∧ cap.toInt ≤ 74) (hlen : (bs.length : Int) ≤ cap.toInt) (hcnt : cnt.toInt = (bs.length : Int)) (hroom : (bs.length : Int) + (cs.length : Int) ≤ 37) (hne : a1 ≠ d) (hsl : ¬ sl < 0 ∧ sl.toNatClampNeg = cs.length) (hsd : sv ≠ d) :
    MetFree l (⟨"java/lang/AbstractStringBuilder", "append", "(Ljava/lang/String;)Ljava/lang/AbstractStringBuilder;"⟩ : MethodName) (head1 (Jvm.Cond.code (⟨"java/lang/AbstractStringBuilder", "append", "(Ljava/lang/String;)Ljava/lang/AbstractStringBuilder;"⟩ : MethodName) jdk_68_method_22_code 3 (some (.object "java/lang/AbstractStringBuilder")) :: ws) ({ frames := 4, cells := 1, slots := 74, locals := 62 } : Room)) (fun a U => a = #[(.ref a1), (.ref a2)] ∧ Z.Warmed39 U.vm ∧ U.heap = h0) (fun _ _ _ _ _ => True) (fun _ U o U' => ∃ v L, o = .returned v ∧ Q_own_aps Z a1 a2 d k cap cnt bs sv sk sl cs i_COMPACT_STRINGS h0 n0 v U'.heap L ∧ FrameEnd U o U' L ({ frames := 4, cells := 1, slots := 74, locals := 62 } : Room).cells ({ frames := 4, cells := 1, slots := 74, locals := 62 } : Room).slots) := by
  refine MetFree.of_bodySF (plainFor_of_name own_pn1) hisR ?_
  intro p e s m args below meth c s₁ Bd hml0 hP hK
  obtain ⟨rfl, hZ, hh⟩ := hP
  have hx := Bd.exec
  have hby := Bd.bytes
  have hml : c.maxLocals = 3 := hml0
  have hown : s.vm.findClass "java/lang/AbstractStringBuilder" = some m.cls := findClass_of_methodNamed Bd.named
  have hnm := (name_of_methodNamed Bd.named Bd.method).1
  have X0 : Stand p l e ({ frames := 4, cells := 1, slots := 74, locals := 62 } : Room) s m #[(.ref a1), (.ref a2)] below meth c s₁ [] 0 0 := Stand.of_body Bd
  have e0 : s₁.heap = h0 := by rw [← hh, Bd.state]; rfl
  have N0 := Fr.nil n0
  have K0 := Keep.refl h0 [a1, d]
  refine own_go (fun t k => castTop (own_ef247 m a1 a2) k) ?_
  show OG m s₁ 0 #[sR a1, sR a2, sU] []
  have ne1 : a1 ≠ a2 := Exa.ne f0_0 f0_6 (by decide)
  have ne2 : a1 ≠ sv := Exa.neArv f0_0 f0_9 (tw hw 6 rfl)
  have ne3 : a2 ≠ d := Exa.neArv f0_6 f0_5 (tw hw 54 rfl)
  have hslI : sl.toInt = (cs.length : Int) := by have q := own_clamp hsl.1; omega
  have hc1 : (cnt + sl).toInt = (bs.length : Int) + (cs.length : Int) := own_cnt hcnt hslI (by omega) (by omega)
  refine og (XS.aloadN X0.here hx rfl (hb hby own_d248) rfl rfl) ?_
  show OG m s₁ 1 #[sR a1, sR a2, sU] [(.ref a2)]
  refine og (XS.ifnonnullYes X0.here hx rfl (pc0 := 1) (pc' := 9) rfl (hb hby own_d249) rfl (by decide) (by decide)) ?_
  refine og (XS.aloadN X0.here hx rfl (hb hby own_d250) rfl rfl) ?_
  show OG m s₁ 10 #[sR a1, sR a2, sU] [(.ref a2)]
  obtain ⟨cq1, kq1, q1a, q1b, q1c⟩ := isOf hZ e0 f0_6
  obtain ⟨_, _, ⟨T1, L1, k1, n1⟩, -, X1, ⟨Lc1, hQ1, l1, y1, z1⟩, st1⟩ := X0.virtualBack hx (y := (⟨"java/lang/String", "length", "()I"⟩ : MethodName)) (z := (⟨"java/lang/String", "length", "()I"⟩ : MethodName)) hown (mvT hZ (tw hw 68 rfl)) (mvT hZ (tw hw 69 rfl)) (notFace_of_selects (args := #[]) (mvT hZ (tw hw 71 rfl))) (mvT hZ (tw hw 71 rfl)) (mvT hZ (tw hw 70 rfl)) (by decide) (backOf (W := 0) (own_sle l Z a0 hw [] a2 sv sk sl cs i_COMPACT_STRINGS h0 n0 Z0 O0 S_COMPACT_STRINGS nz_i_COMPACT_STRINGS f0_6 f0_7 f0_8 f0_9) hZ (tw hw 72 rfl) (tw hw 21 rfl) (by decide) (by decide)) q1a q1c (g := (mkF m 10 #[sR a1, sR a2, sU] [(.ref a2)])) rfl (by rw [hml]; rfl) (Steps.refl _) (argsL := []) (rest := []) (lenOf own_pd252 rfl) rfl (by show 2 * 0 + _ ≤ _; exact Nat.le_of_eq rfl) (hb hby own_d251) (fun _ _ => ⟨rfl, e0, (by decide : 0 + 0 ≤ _), (by decide : 0 + 0 ≤ _)⟩)
  dsimp only [Pt.U, Pt.locs, Pt.cells, Pt.slots] at X1 l1 y1 z1 st1 hQ1
  subst l1 y1 z1
  obtain ⟨rfl, Nq1, eq1⟩ := hQ1
  have N1 := Fr.app N0 Nq1
  have e1 : T1.heap = h0 := eq1
  refine og (st1.trans) ?_
  show OG m T1 13 #[sR a1, sR a2, sU] [(.int sl)]
  refine og (XS.istoreN X1.here hx rfl (hb hby own_d253) rfl (l' := #[sR a1, sR a2, sI sl]) rfl) ?_
  refine og (XS.aloadN X1.here hx rfl (hb hby own_d254) rfl rfl) ?_
  show OG m T1 15 #[sR a1, sR a2, sI sl] [(.ref a1)]
  refine og (XS.aloadN X1.here hx rfl (hb hby own_d255) rfl rfl) ?_
  show OG m T1 16 #[sR a1, sR a2, sI sl] [(.ref a1), (.ref a1)]
  obtain ⟨T2, X2, e2, st2⟩ := getF X1 hx hZ hown (host := "") (Or.inl (tw hw 37 rfl)) Via.refl e1 f0_3 (g := (mkF m 16 #[sR a1, sR a2, sI sl] [(.ref a1), (.ref a1)])) rfl rfl (hb hby own_d256)
  refine own_go (fun t k => st2 t k) ?_
  show OG m T2 19 #[sR a1, sR a2, sI sl] [(.int cnt), (.ref a1)]
  refine og (XS.iloadN X2.here hx rfl (hb hby own_d257) rfl) ?_
  refine og (XS.iadd X2.here hx rfl (hb hby own_d258) rfl) ?_
  show OG m T2 21 #[sR a1, sR a2, sI sl] [(.int (cnt + sl)), (.ref a1)]
  obtain ⟨cq3, q3, q3'⟩ := f0_0.cell
  obtain ⟨_, _, ⟨T3, L3, k3, n3⟩, -, X3, ⟨Lc3, hQ3, l3, y3, z3⟩, st3⟩ := X2.privateBack hx (y := (⟨"java/lang/AbstractStringBuilder", "ensureCapacityInternal", "(I)V"⟩ : MethodName)) hown (mvT hZ (tw hw 39 rfl)) (mvT hZ (tw hw 40 rfl)) (own_selself (mvT hZ (tw hw 42 rfl)) (Cond.privateMethod_at (mvP hZ (tw hw 41 rfl) (args := #[]))) (mvT hZ (tw hw 40 rfl)) (by decide)) (Cond.privateMethod_at (mvP hZ (tw hw 41 rfl) (args := #[]))) (mvT hZ (tw hw 43 rfl)) (by decide) (backOf (W := 0) (own_ensure l Z a0 hw [] a1 (cnt + sl) d k cap cnt bs h0 n0 Z0 f0_0 f0_1 f0_2 f0_3 f0_4 f0_5 g_a1 hcap hlen (by rw [hc1]; omega) hne) hZ (tw hw 43 rfl) (tw hw 15 rfl) (by decide) (by decide)) (g := (mkF m 21 #[sR a1, sR a2, sI sl] [(.int (cnt + sl)), (.ref a1)])) rfl (by rw [hml]; rfl) (Steps.refl _) (a := a1) (by rw [e2]; exact q3) q3' (argsL := [(.int (cnt + sl))]) (rest := []) (lenOf own_pd20 rfl) rfl (by show 2 * 0 + _ ≤ _; exact Nat.le_of_eq rfl) (hb hby own_d259) (fun _ _ => ⟨rfl, e2, (by decide : 0 + 1 ≤ _), (by decide : 0 + 74 ≤ _)⟩)
  dsimp only [Pt.U, Pt.locs, Pt.cells, Pt.slots] at X3 l3 y3 z3 st3 hQ3
  subst l3 y3 z3
  obtain ⟨xd_3, xk_3, xc_3, rfl, Nq3, Kq3, Fq3_0, Fq3_1, Fq3_2, Fq3_3, Fq3_4, Fq3_5, mq3_mv, mq3_cb, mq3_cm⟩ := hQ3
  have N3 := Fr.app N1 Nq3
  have ne4 : a1 ≠ xd_3 := own_ne_or mq3_mv hne f0_0.lt
  have ne5 : a2 ≠ xd_3 := own_ne_or mq3_mv ne3 f0_6.lt
  have ne6 : sv ≠ xd_3 := own_ne_or mq3_mv hsd f0_9.lt
  have g_xd_3 : n0 ≤ xd_3 := own_ge_or mq3_mv g_d Z0
  have sz_xd_3 : xd_3 ∈ [a1, d] ∨ h0.size ≤ xd_3 := own_in_or mq3_mv (List.mem_of_getElem? (i := 1) rfl) K0.1
  have F7 : Exa Z T3.heap a1 "java/lang/StringBuilder" := f0_0.keep Kq3
  have F8 : Exa Z T3.heap d "[B" := f0_4.keep Kq3
  have F9 : Arv Z T3.heap d k .byte cap (own_B bs) (.int (0 : Int32)) := f0_5.keep Kq3 (ninS (Ne.symm hne) nin0)
  have F10 : Exa Z T3.heap a2 "java/lang/String" := f0_6.keep Kq3
  have F11 : Fld Z T3.heap a2 "java/lang/String" "value" "[B" (.ref sv) := f0_7.keep Kq3 (ninS (Ne.symm ne1) nin0)
  have F12 : Fld Z T3.heap a2 "java/lang/String" "coder" "B" (.int (0 : Int32)) := f0_8.keep Kq3 (ninS (Ne.symm ne1) nin0)
  have F13 : Arv Z T3.heap sv sk .byte sl (own_B cs) (.int (0 : Int32)) := f0_9.keep Kq3 (ninS (Ne.symm ne2) nin0)
  have F14 : Old Z n0 T3.heap := O0.keep Kq3 (allS g_a1 all0)
  have K3 : Keep h0 T3.heap [a1, d] := K0.trans Kq3 (allS (Or.inl (List.mem_of_getElem? (i := 0) rfl)) all0)
  have Z3 : n0 ≤ T3.heap.size := Nat.le_trans Z0 Kq3.1
  refine og (st3.trans) ?_
  show OG m T3 24 #[sR a1, sR a2, sI sl] []
  refine og (XS.aloadN X3.here hx rfl (hb hby own_d260) rfl rfl) ?_
  refine og (XS.aloadN X3.here hx rfl (hb hby own_d261) rfl rfl) ?_
  show OG m T3 26 #[sR a1, sR a2, sI sl] [(.ref a1), (.ref a1)]
  obtain ⟨T15, X15, e15, st15⟩ := getF X3 hx hZ hown (host := "") (Or.inl (tw hw 37 rfl)) Via.refl rfl Fq3_3 (g := (mkF m 26 #[sR a1, sR a2, sI sl] [(.ref a1), (.ref a1)])) rfl rfl (hb hby own_d262)
  refine own_go (fun t k => st15 t k) ?_
  show OG m T15 29 #[sR a1, sR a2, sI sl] [(.int cnt), (.ref a1)]
  refine og (XS.aloadN X15.here hx rfl (hb hby own_d263) rfl rfl) ?_
  show OG m T15 30 #[sR a1, sR a2, sI sl] [(.ref a2), (.int cnt), (.ref a1)]
  have hcm : (bs.length : Int) + (cs.length : Int) ≤ xc_3.toInt := by rw [← hc1]; exact mq3_cm
  have hnn : ¬ cnt < 0 := own_nn (by omega)
  have hidx : cnt.toNatClampNeg = bs.length := by have q := own_clamp hnn; omega
  have hfit : bs.length + cs.length ≤ xc_3.toNatClampNeg := by have q := own_clamp mq3_cb.1; omega
  obtain ⟨cq16, q16, q16'⟩ := Fq3_0.cell
  obtain ⟨_, _, ⟨T16, L16, k16, n16⟩, -, X16, ⟨Lc16, hQ16, l16, y16, z16⟩, st16⟩ := X15.privateBack hx (y := (⟨"java/lang/AbstractStringBuilder", "putStringAt", "(ILjava/lang/String;)V"⟩ : MethodName)) hown (mvT hZ (tw hw 81 rfl)) (mvT hZ (tw hw 82 rfl)) (own_selself (mvT hZ (tw hw 84 rfl)) (Cond.privateMethod_at (mvP hZ (tw hw 83 rfl) (args := #[]))) (mvT hZ (tw hw 82 rfl)) (by decide)) (Cond.privateMethod_at (mvP hZ (tw hw 83 rfl) (args := #[]))) (mvT hZ (tw hw 85 rfl)) (by decide) (backOf (W := 0) (own_pu l Z a0 hw [] a1 cnt a2 sv sk sl cs xd_3 xk_3 xc_3 bs i_COMPACT_STRINGS T3.heap n0 Z3 F14 S_COMPACT_STRINGS nz_i_COMPACT_STRINGS Fq3_0 Fq3_1 Fq3_2 F10 F11 F12 F13 Fq3_5 g_xd_3 hsl (⟨hnn, hidx⟩) hfit ne6) hZ (tw hw 85 rfl) (tw hw 15 rfl) (by decide) (by decide)) (g := (mkF m 30 #[sR a1, sR a2, sI sl] [(.ref a2), (.int cnt), (.ref a1)])) rfl (by rw [hml]; rfl) (Steps.refl _) (a := a1) (by rw [e15]; exact q16) q16' (argsL := [(.int cnt), (.ref a2)]) (rest := []) (lenOf own_pd265 rfl) rfl (by show 2 * 0 + _ ≤ _; exact Nat.le_of_eq rfl) (hb hby own_d264) (fun _ _ => ⟨rfl, e15, (by decide : 1 + 0 ≤ _), (by decide : 74 + 0 ≤ _)⟩)
  dsimp only [Pt.U, Pt.locs, Pt.cells, Pt.slots] at X16 l16 y16 z16 st16 hQ16
  subst l16 y16 z16
  obtain ⟨rfl, Nq16, Kq16, Fq16_0⟩ := hQ16
  have N16 := Fr.app N3 Nq16
  have F17 : Exa Z T16.heap a1 "java/lang/StringBuilder" := Fq3_0.keep Kq16
  have F18 : Exa Z T16.heap a2 "java/lang/String" := F10.keep Kq16
  have F19 : Fld Z T16.heap a2 "java/lang/String" "value" "[B" (.ref sv) := F11.keep Kq16 (ninS ne5 nin0)
  have F20 : Fld Z T16.heap a2 "java/lang/String" "coder" "B" (.int (0 : Int32)) := F12.keep Kq16 (ninS ne5 nin0)
  have F21 : Arv Z T16.heap sv sk .byte sl (own_B cs) (.int (0 : Int32)) := F13.keep Kq16 (ninS ne6 nin0)
  have F22 : Old Z n0 T16.heap := F14.keep Kq16 (allS g_xd_3 all0)
  have F23 : Fld Z T16.heap a1 "java/lang/AbstractStringBuilder" "value" "[B" (.ref xd_3) := Fq3_1.keep Kq16 (ninS ne4 nin0)
  have F24 : Fld Z T16.heap a1 "java/lang/AbstractStringBuilder" "coder" "B" (.int (0 : Int32)) := Fq3_2.keep Kq16 (ninS ne4 nin0)
  have F25 : Fld Z T16.heap a1 "java/lang/AbstractStringBuilder" "count" "I" (.int cnt) := Fq3_3.keep Kq16 (ninS ne4 nin0)
  have F26 : Exa Z T16.heap xd_3 "[B" := Fq3_4.keep Kq16
  have K16 : Keep h0 T16.heap [a1, d] := K3.trans Kq16 (allS sz_xd_3 all0)
  have Z16 : n0 ≤ T16.heap.size := Nat.le_trans Z3 Kq16.1
  refine og (st16.trans) ?_
  show OG m T16 33 #[sR a1, sR a2, sI sl] []
  refine og (XS.aloadN X16.here hx rfl (hb hby own_d266) rfl rfl) ?_
  refine og (XS.dup X16.here hx rfl (hb hby own_d267) rfl rfl) ?_
  show OG m T16 35 #[sR a1, sR a2, sI sl] [(.ref a1), (.ref a1)]
  obtain ⟨T27, X27, e27, st27⟩ := getF X16 hx hZ hown (host := "") (Or.inl (tw hw 37 rfl)) Via.refl rfl F25 (g := (mkF m 35 #[sR a1, sR a2, sI sl] [(.ref a1), (.ref a1)])) rfl rfl (hb hby own_d268)
  refine own_go (fun t k => st27 t k) ?_
  show OG m T27 38 #[sR a1, sR a2, sI sl] [(.int cnt), (.ref a1)]
  refine og (XS.iloadN X27.here hx rfl (hb hby own_d269) rfl) ?_
  refine og (XS.iadd X27.here hx rfl (hb hby own_d270) rfl) ?_
  show OG m T27 40 #[sR a1, sR a2, sI sl] [(.int (cnt + sl)), (.ref a1)]
  obtain ⟨T28, h28, X28, e28, W28, st28⟩ := putF X27 hx hZ hown (host := "") (Or.inl (tw hw 37 rfl)) Via.refl e27 F25 F17 (Or.inl (tw hw 38 rfl)) (tw hw 6 rfl) (ty := .int) (by decide) rfl rfl (g := (mkF m 40 #[sR a1, sR a2, sI sl] [(.int (cnt + sl)), (.ref a1)])) rfl rfl (hb hby own_d271)
  have F29 : Exa Z h28 a1 "java/lang/StringBuilder" := F17.wr W28
  have F30 : Old Z n0 h28 := F22.wr W28 g_a1
  have F31 : Fld Z h28 a1 "java/lang/AbstractStringBuilder" "value" "[B" (.ref xd_3) := F23.other W28 (Or.inr (slot_ne (Or.inl (tw hw 24 rfl)) (Or.inl (tw hw 38 rfl)) (by decide) (t := (.array .byte)) (t' := .int) (by decide) (by decide)))
  have F32 : Fld Z h28 a1 "java/lang/AbstractStringBuilder" "coder" "B" (.int (0 : Int32)) := F24.other W28 (Or.inr (slot_ne (Or.inl (tw hw 26 rfl)) (Or.inl (tw hw 38 rfl)) (by decide) (t := .byte) (t' := .int) (by decide) (by decide)))
  have F33 : Fld Z h28 a1 "java/lang/AbstractStringBuilder" "count" "I" (.int (cnt + sl)) := F25.same W28
  have F34 : Exa Z h28 xd_3 "[B" := F26.wr W28
  have F35 : Arv Z h28 xd_3 xk_3 .byte xc_3 (own_B (bs ++ cs)) (.int (0 : Int32)) := Fq16_0.other W28 (Ne.symm ne4)
  have N36 := Fr.snoc X28 N16 g_a1
  have K36 : Keep h0 h28 [a1, d] := K16.wr W28 (Or.inl (List.mem_of_getElem? (i := 0) rfl))
  have Z36 : n0 ≤ h28.size := Nat.le_trans Z16 (Keep.of_wr W28).1
  refine own_go (fun t k => st28 t k) ?_
  show OG m T28 43 #[sR a1, sR a2, sI sl] []
  refine og (XS.aloadN X28.here hx rfl (hb hby own_d272) rfl rfl) ?_
  show OG m T28 44 #[sR a1, sR a2, sI sl] [(.ref a1)]
  obtain ⟨fs, hr, hrun, hended, hW, hsame⟩ := X28.leave (v := some (.ref a1)) (fun h => by rw [Bd.returns] at h; cases h)
  have hlast : Steps p.tables e below (T28.setTop (mkF m 44 #[sR a1, sR a2, sI sl] [(.ref a1)])) (T28.setFrames fs) := by
    exact retOut X28 hx (t := (.object "java/lang/AbstractStringBuilder")) Bd.returns rfl (Or.inr (Or.inr (Or.inr (Or.inr ⟨rfl, rfl, rfl⟩)))) (hb hby own_d273) hr
  refine ⟨_, _, hlast, hrun, hended, _, _, rfl, ?_, ⟨_, rfl⟩, hW, hsame.mono (by decide) (by decide)⟩
  show Q_own_aps Z a1 a2 d k cap cnt bs sv sk sl cs i_COMPACT_STRINGS h0 n0 _ T28.heap _
  rw [e28]
  exact ⟨xd_3, xk_3, xc_3, rfl, N36, K36, F29, F31, F32, F33, F34, F35, mq3_mv, mq3_cb, (by rw [List.length_append]; omega)⟩
theorem own_ef274 (m : MethodId) (a1 : Addr) (a2 : Addr) : entryFrame m #[(.ref a1), (.ref a2)] 2 = mkF m 0 #[sR a1, sR a2] [] := by first | (simp [entryFrame, mkF, argsToLocals, Value.category]; done) | rfl
theorem own_d275 : decode jdk_67_method_7_code 0 = .ok (.aload_n 0, 1) := by decide +kernel
theorem own_d276 : decode jdk_67_method_7_code 1 = .ok (.aload_n 1, 1) := by decide +kernel
theorem own_d277 : decode jdk_67_method_7_code 2 = .ok (.invokespecial 29, 3) := by decide +kernel
theorem own_pd278 : parseMethodDescriptor "(Ljava/lang/String;)Ljava/lang/AbstractStringBuilder;" = some ⟨[(.object "java/lang/String")], some (.object "java/lang/AbstractStringBuilder")⟩ := by decide +kernel
theorem own_d279 : decode jdk_67_method_7_code 5 = .ok (.pop, 1) := by decide +kernel
theorem own_d280 : decode jdk_67_method_7_code 6 = .ok (.aload_n 0, 1) := by decide +kernel
theorem own_d281 : decode jdk_67_method_7_code 7 = .ok (.areturn, 1) := by decide +kernel
def Q_own_sst (Z : State) (a1 : Addr) (a2 : Addr) (d : Addr) (k : ClassId) (cap : Int32) (cnt : Int32) (bs : List Int32) (sv : Addr) (sk : ClassId) (sl : Int32) (cs : List Int32) (i_COMPACT_STRINGS : Int32) (h0 : Heap) (n0 : Nat) (v : Option Value) (h : Heap) (L : List Loc) : Prop := ∃ xd : Addr, ∃ xk : ClassId, ∃ xc : Int32, v = some (.ref a1) ∧ Fr n0 L ∧ Keep h0 h [a1, d] ∧ Exa Z h a1 "java/lang/StringBuilder" ∧ Fld Z h a1 "java/lang/AbstractStringBuilder" "value" "[B" (.ref xd) ∧ Fld Z h a1 "java/lang/AbstractStringBuilder" "coder" "B" (.int (0 : Int32)) ∧ Fld Z h a1 "java/lang/AbstractStringBuilder" "count" "I" (.int (cnt + sl)) ∧ Exa Z h xd "[B" ∧ Arv Z h xd xk .byte xc (own_B (bs ++ cs)) (.int (0 : Int32)) ∧ (xd = d ∨ h0.size ≤ xd) ∧ (¬ xc < 0 ∧ xc.toInt ≤ 74) ∧ (((bs ++ cs).length : Int) ≤ xc.toInt)
set_option maxRecDepth 65536 in
set_option maxHeartbeats 40000000 in
theorem own_sst (l : Launch) (Z : State) (a0 : Array Value) (hw : ∀ d ∈ tables_1, d.before a0 Z = true) (ws : List Jvm.Cond) (a1 : Addr) (a2 : Addr) (d : Addr) (k : ClassId) (cap : Int32) (cnt : Int32) (bs : List Int32) (sv : Addr) (sk : ClassId) (sl : Int32) (cs : List Int32) (i_COMPACT_STRINGS : Int32) (h0 : Heap) (n0 : Nat) (Z0 : n0 ≤ h0.size) (O0 : Old Z n0 h0) (S_COMPACT_STRINGS : Sta Z Z.heap "java/lang/String" "COMPACT_STRINGS" "Z" (.int i_COMPACT_STRINGS)) (nz_i_COMPACT_STRINGS : i_COMPACT_STRINGS ≠ (0 : Int32)) (f0_0 : Exa Z h0 a1 "java/lang/StringBuilder") (f0_1 : Fld Z h0 a1 "java/lang/AbstractStringBuilder" "value" "[B" (.ref d)) (f0_2 : Fld Z h0 a1 "java/lang/AbstractStringBuilder" "coder" "B" (.int (0 : Int32))) (f0_3 : Fld Z h0 a1 "java/lang/AbstractStringBuilder" "count" "I" (.int cnt)) (f0_4 : Exa Z h0 d "[B") (f0_5 : Arv Z h0 d k .byte cap (own_B bs) (.int (0 : Int32))) (f0_6 : Exa Z h0 a2 "java/lang/String") (f0_7 : Fld Z h0 a2 "java/lang/String" "value" "[B" (.ref sv)) (f0_8 : Fld Z h0 a2 "java/lang/String" "coder" "B" (.int (0 : Int32))) (f0_9 : Arv Z h0 sv sk .byte sl (own_B cs) (.int (0 : Int32))) (g_a1 : n0 ≤ a1) (g_d : n0 ≤ d) (hcap : ¬ cap < 0 ∧ cap.toInt ≤ 74) (hlen : (bs.length : Int) ≤ cap.toInt) (hcnt : cnt.toInt = (bs.length : Int)) (hroom : (bs.length : Int) + (cs.length : Int) ≤ 37) (hne : a1 ≠ d) (hsl : ¬ sl < 0 ∧ sl.toNatClampNeg = cs.length) (hsd : sv ≠ d) :
    MetFree l (⟨"java/lang/StringBuilder", "append", "(Ljava/lang/String;)Ljava/lang/StringBuilder;"⟩ : MethodName) (head1 (Jvm.Cond.code (⟨"java/lang/StringBuilder", "append", "(Ljava/lang/String;)Ljava/lang/StringBuilder;"⟩ : MethodName) jdk_67_method_7_code 2 (some (.object "java/lang/StringBuilder")) :: ws) ({ frames := 5, cells := 1, slots := 74, locals := 76 } : Room)) (fun a U => a = #[(.ref a1), (.ref a2)] ∧ Z.Warmed39 U.vm ∧ U.heap = h0) (fun _ _ _ _ _ => True) (fun _ U o U' => ∃ v L, o = .returned v ∧ Q_own_sst Z a1 a2 d k cap cnt bs sv sk sl cs i_COMPACT_STRINGS h0 n0 v U'.heap L ∧ FrameEnd U o U' L ({ frames := 5, cells := 1, slots := 74, locals := 76 } : Room).cells ({ frames := 5, cells := 1, slots := 74, locals := 76 } : Room).slots) := by
  refine MetFree.of_bodySF (plainFor_of_name own_pn16) hisR ?_
  intro p e s m args below meth c s₁ Bd hml0 hP hK
  obtain ⟨rfl, hZ, hh⟩ := hP
  have hx := Bd.exec
  have hby := Bd.bytes
  have hml : c.maxLocals = 2 := hml0
  have hown : s.vm.findClass "java/lang/StringBuilder" = some m.cls := findClass_of_methodNamed Bd.named
  have hnm := (name_of_methodNamed Bd.named Bd.method).1
  have X0 : Stand p l e ({ frames := 5, cells := 1, slots := 74, locals := 76 } : Room) s m #[(.ref a1), (.ref a2)] below meth c s₁ [] 0 0 := Stand.of_body Bd
  have e0 : s₁.heap = h0 := by rw [← hh, Bd.state]; rfl
  have N0 := Fr.nil n0
  have K0 := Keep.refl h0 [a1, d]
  refine own_go (fun t k => castTop (own_ef274 m a1 a2) k) ?_
  show OG m s₁ 0 #[sR a1, sR a2] []
  refine og (XS.aloadN X0.here hx rfl (hb hby own_d275) rfl rfl) ?_
  refine og (XS.aloadN X0.here hx rfl (hb hby own_d276) rfl rfl) ?_
  show OG m s₁ 2 #[sR a1, sR a2] [(.ref a2), (.ref a1)]
  obtain ⟨_, _, ⟨T1, L1, k1, n1⟩, -, X1, ⟨Lc1, hQ1, l1, y1, z1⟩, st1⟩ := superBack X0 hx hZ (y := (⟨"java/lang/AbstractStringBuilder", "append", "(Ljava/lang/String;)Ljava/lang/AbstractStringBuilder;"⟩ : MethodName)) hown (tw hw 64 rfl) (own_sameself (y := (⟨"java/lang/AbstractStringBuilder", "append", "(Ljava/lang/String;)Ljava/lang/AbstractStringBuilder;"⟩ : MethodName)) (z := (⟨"java/lang/AbstractStringBuilder", "ensureCapacityInternal", "(I)V"⟩ : MethodName)) rfl (tw hw 65 rfl) (tw hw 42 rfl) (by decide)) (tw hw 65 rfl) (tw hw 34 rfl) (by decide) (backOf (W := 0) (own_aps l Z a0 hw [] a1 a2 d k cap cnt bs sv sk sl cs i_COMPACT_STRINGS h0 n0 Z0 O0 S_COMPACT_STRINGS nz_i_COMPACT_STRINGS f0_0 f0_1 f0_2 f0_3 f0_4 f0_5 f0_6 f0_7 f0_8 f0_9 g_a1 g_d hcap hlen hcnt hroom hne hsl hsd) hZ (tw hw 67 rfl) (tw hw 15 rfl) (by decide) (by decide)) e0 (Ins.self f0_0) (g := (mkF m 2 #[sR a1, sR a2] [(.ref a2), (.ref a1)])) rfl (by rw [hml]; rfl) (tw hw 67 rfl) (argsL := [(.ref a2)]) (rest := []) (lenOf own_pd278 rfl) rfl (by show 2 * 0 + _ ≤ _; exact Nat.le_of_eq rfl) (hb hby own_d277) (fun _ _ => ⟨rfl, e0, (by decide : 0 + 1 ≤ _), (by decide : 0 + 74 ≤ _)⟩)
  dsimp only [Pt.U, Pt.locs, Pt.cells, Pt.slots] at X1 l1 y1 z1 st1 hQ1
  subst l1 y1 z1
  obtain ⟨xd_1, xk_1, xc_1, rfl, Nq1, Kq1, Fq1_0, Fq1_1, Fq1_2, Fq1_3, Fq1_4, Fq1_5, mq1_mv, mq1_cb, mq1_cl⟩ := hQ1
  have N1 := Fr.app N0 Nq1
  have ne2 : a1 ≠ xd_1 := own_ne_or mq1_mv hne f0_0.lt
  have ne3 : sv ≠ xd_1 := own_ne_or mq1_mv hsd f0_9.lt
  have g_xd_1 : n0 ≤ xd_1 := own_ge_or mq1_mv g_d Z0
  have sz_xd_1 : xd_1 ∈ [a1, d] ∨ h0.size ≤ xd_1 := own_in_or mq1_mv (List.mem_of_getElem? (i := 1) rfl) K0.1
  have F4 : Exa Z T1.heap a1 "java/lang/StringBuilder" := f0_0.keep Kq1
  have F5 : Exa Z T1.heap d "[B" := f0_4.keep Kq1
  have F6 : Exa Z T1.heap a2 "java/lang/String" := f0_6.keep Kq1
  have F7 : Old Z n0 T1.heap := O0.keep Kq1 (allS g_a1 (allS g_d all0))
  have K1 : Keep h0 T1.heap [a1, d] := K0.trans Kq1 (allS (Or.inl (List.mem_of_getElem? (i := 0) rfl)) (allS (Or.inl (List.mem_of_getElem? (i := 1) rfl)) all0))
  have Z1 : n0 ≤ T1.heap.size := Nat.le_trans Z0 Kq1.1
  refine og (st1.trans) ?_
  show OG m T1 5 #[sR a1, sR a2] [(.ref a1)]
  refine og (XS.pop X1.here hx rfl (hb hby own_d279) rfl rfl) ?_
  refine og (XS.aloadN X1.here hx rfl (hb hby own_d280) rfl rfl) ?_
  show OG m T1 7 #[sR a1, sR a2] [(.ref a1)]
  obtain ⟨fs, hr, hrun, hended, hW, hsame⟩ := X1.leave (v := some (.ref a1)) (fun h => by rw [Bd.returns] at h; cases h)
  have hlast : Steps p.tables e below (T1.setTop (mkF m 7 #[sR a1, sR a2] [(.ref a1)])) (T1.setFrames fs) := by
    exact retOut X1 hx (t := (.object "java/lang/StringBuilder")) Bd.returns rfl (Or.inr (Or.inr (Or.inr (Or.inr ⟨rfl, rfl, rfl⟩)))) (hb hby own_d281) hr
  refine ⟨_, _, hlast, hrun, hended, _, _, rfl, ?_, ⟨_, rfl⟩, hW, hsame.mono (by decide) (by decide)⟩
  show Q_own_sst Z a1 a2 d k cap cnt bs sv sk sl cs i_COMPACT_STRINGS h0 n0 _ T1.heap _
  exact ⟨xd_1, xk_1, xc_1, rfl, N1, K1, Fq1_0, Fq1_1, Fq1_2, Fq1_3, Fq1_4, Fq1_5, mq1_mv, mq1_cb, mq1_cl⟩
theorem own_ef282 (m : MethodId) (p1 : Int32) : entryFrame m #[(.int p1)] 4 = mkF m 0 #[sI p1, sU, sU, sU] [] := by first | (simp [entryFrame, mkF, argsToLocals, Value.category]; done) | rfl
theorem own_pn283 : plainName "java/lang/Integer" = true := by first | (simp [plainName, overriddenIn]; done) | decide +kernel
theorem own_d284 : decode jdk_33_method_13_code 11 = .ok (.bipush (-10), 2) := by decide +kernel
theorem own_d285 : decode jdk_33_method_13_code 13 = .ok (.istore_n 2, 1) := by decide +kernel
theorem own_d286 : decode jdk_33_method_13_code 14 = .ok (.iconst 1, 1) := by decide +kernel
theorem own_d287 : decode jdk_33_method_13_code 15 = .ok (.istore_n 3, 1) := by decide +kernel
theorem own_d288 : decode jdk_33_method_13_code 16 = .ok (.iload_n 3, 1) := by decide +kernel
theorem own_d289 : decode jdk_33_method_13_code 17 = .ok (.bipush 10, 2) := by decide +kernel
theorem own_d290 : decode jdk_33_method_13_code 19 = .ok (.if_icmp .ge 23, 3) := by decide +kernel
theorem own_d291 : decode jdk_33_method_13_code 22 = .ok (.iload_n 0, 1) := by decide +kernel
theorem own_d292 : decode jdk_33_method_13_code 23 = .ok (.iload_n 2, 1) := by decide +kernel
theorem own_d293 : decode jdk_33_method_13_code 24 = .ok (.if_icmp .le 7, 3) := by decide +kernel
theorem own_d294 : decode jdk_33_method_13_code 27 = .ok (.iload_n 3, 1) := by decide +kernel
theorem own_d295 : decode jdk_33_method_13_code 28 = .ok (.iload_n 1, 1) := by decide +kernel
theorem own_d296 : decode jdk_33_method_13_code 29 = .ok (.iadd, 1) := by decide +kernel
theorem own_d297 : decode jdk_33_method_13_code 30 = .ok (.ireturn, 1) := by decide +kernel
theorem own_d298 : decode jdk_33_method_13_code 31 = .ok (.bipush 10, 2) := by decide +kernel
theorem own_d299 : decode jdk_33_method_13_code 33 = .ok (.iload_n 2, 1) := by decide +kernel
theorem own_d300 : decode jdk_33_method_13_code 34 = .ok (.imul, 1) := by decide +kernel
theorem own_d301 : decode jdk_33_method_13_code 35 = .ok (.istore_n 2, 1) := by decide +kernel
theorem own_d302 : decode jdk_33_method_13_code 36 = .ok (.iinc 3 1, 3) := by decide +kernel
theorem own_d303 : decode jdk_33_method_13_code 39 = .ok (.goto (-23), 3) := by decide +kernel
theorem own_d304 : decode jdk_33_method_13_code 42 = .ok (.bipush 10, 2) := by decide +kernel
theorem own_d305 : decode jdk_33_method_13_code 44 = .ok (.iload_n 1, 1) := by decide +kernel
theorem own_d306 : decode jdk_33_method_13_code 45 = .ok (.iadd, 1) := by decide +kernel
theorem own_d307 : decode jdk_33_method_13_code 46 = .ok (.ireturn, 1) := by decide +kernel
theorem own_d308 : decode jdk_33_method_13_code 0 = .ok (.iconst 1, 1) := by decide +kernel
theorem own_d309 : decode jdk_33_method_13_code 1 = .ok (.istore_n 1, 1) := by decide +kernel
theorem own_d310 : decode jdk_33_method_13_code 2 = .ok (.iload_n 0, 1) := by decide +kernel
theorem own_d311 : decode jdk_33_method_13_code 3 = .ok (.ifCond .lt 8, 3) := by decide +kernel
theorem own_d312 : decode jdk_33_method_13_code 6 = .ok (.iconst 0, 1) := by decide +kernel
theorem own_d313 : decode jdk_33_method_13_code 7 = .ok (.istore_n 1, 1) := by decide +kernel
theorem own_d314 : decode jdk_33_method_13_code 8 = .ok (.iload_n 0, 1) := by decide +kernel
theorem own_d315 : decode jdk_33_method_13_code 9 = .ok (.ineg, 1) := by decide +kernel
theorem own_d316 : decode jdk_33_method_13_code 10 = .ok (.istore_n 0, 1) := by decide +kernel
def Q_own_ssC (Z : State) (p1 : Int32) (h0 : Heap) (n0 : Nat) (v : Option Value) (h : Heap) (L : List Loc) : Prop := v = some (.int (own_ssz p1)) ∧ Fr n0 L ∧ h = h0
set_option maxRecDepth 65536 in
set_option maxHeartbeats 40000000 in
theorem own_ssC (l : Launch) (Z : State) (a0 : Array Value) (hw : ∀ d ∈ tables_1, d.before a0 Z = true) (ws : List Jvm.Cond) (p1 : Int32) (h0 : Heap) (n0 : Nat) (Z0 : n0 ≤ h0.size) :
    MetFree l (⟨"java/lang/Integer", "stringSize", "(I)I"⟩ : MethodName) (head1 (Jvm.Cond.code (⟨"java/lang/Integer", "stringSize", "(I)I"⟩ : MethodName) jdk_33_method_13_code 4 (some .int) :: ws) ({ frames := 0, cells := 0, slots := 0, locals := 0 } : Room)) (fun a U => a = #[(.int p1)] ∧ Z.Warmed39 U.vm ∧ U.heap = h0) (fun _ _ _ _ _ => True) (fun _ U o U' => ∃ v L, o = .returned v ∧ Q_own_ssC Z p1 h0 n0 v U'.heap L ∧ FrameEnd U o U' L ({ frames := 0, cells := 0, slots := 0, locals := 0 } : Room).cells ({ frames := 0, cells := 0, slots := 0, locals := 0 } : Room).slots) := by
  refine MetFree.of_bodySF (plainFor_of_name own_pn283) hisR ?_
  intro p e s m args below meth c s₁ Bd hml0 hP hK
  obtain ⟨rfl, hZ, hh⟩ := hP
  have hx := Bd.exec
  have hby := Bd.bytes
  have hml : c.maxLocals = 4 := hml0
  have hown : s.vm.findClass "java/lang/Integer" = some m.cls := findClass_of_methodNamed Bd.named
  have hnm := (name_of_methodNamed Bd.named Bd.method).1
  have X0 : Stand p l e ({ frames := 0, cells := 0, slots := 0, locals := 0 } : Room) s m #[(.int p1)] below meth c s₁ [] 0 0 := Stand.of_body Bd
  have e0 : s₁.heap = h0 := by rw [← hh, Bd.state]; rfl
  have N0 := Fr.nil n0
  have K0 := Keep.refl h0 []
  refine own_go (fun t k => castTop (own_ef282 m p1) k) ?_
  show OG m s₁ 0 #[sI p1, sU, sU, sU] []
  refine own_named (fun R hR => ?_)
  have lp : ∀ (sg : Nat) (zi : Int32) (dd : Int32) (T_lp : State) (L_lp : List Loc), (Stand p l e ({ frames := 0, cells := 0, slots := 0, locals := 0 } : Room) s m #[(.int p1)] below meth c T_lp L_lp 0 0) → (T_lp.heap = h0) → (Fr n0 L_lp) → (Keep h0 h0 []) → (n0 ≤ h0.size) → ((p1 < 0 ∧ sg = 1 ∧ zi = p1) ∨ (¬ p1 < 0 ∧ sg = 0 ∧ zi = -p1)) → (dd.toInt = (sg : Int)) → OwnG p.tables e below R (T_lp.setTop (mkF m 11 #[sI zi, sI dd, sU, sU] [])) := by
    intro sg zi dd T_lp L_lp X_lp e_lp N_lp K_lp Z_lp hs hd
    have hsg1 : sg ≤ 1 := by rcases hs with q | q <;> omega
    refine og (XS.bipush X_lp.here hx rfl (hb hby own_d284)) ?_
    refine og (XS.istoreN X_lp.here hx rfl (hb hby own_d285) rfl (l' := #[sI zi, sI dd, sI (-10 : Int32), sU]) rfl) ?_
    show OG m T_lp 14 #[sI zi, sI dd, sI (-10 : Int32), sU] []
    refine og (XS.iconst X_lp.here hx rfl (hb hby own_d286)) ?_
    refine og (XS.istoreN X_lp.here hx rfl (hb hby own_d287) rfl (l' := #[sI zi, sI dd, sI (-10 : Int32), sI (1 : Int32)]) rfl) ?_
    show OG m T_lp 16 #[sI zi, sI dd, sI (-10 : Int32), sI (1 : Int32)] []
    refine og (XS.iloadN X_lp.here hx rfl (hb hby own_d288) rfl) ?_
    refine og (XS.bipush X_lp.here hx rfl (hb hby own_d289)) ?_
    show OG m T_lp 19 #[sI zi, sI dd, sI (-10 : Int32), sI (1 : Int32)] [(.int (10 : Int32)), (.int (1 : Int32))]
    refine og (XS.icmpNo X_lp.here hx rfl (hb hby own_d290) rfl (tlt (by decide : (1 : Int32) < (10 : Int32))).2.1) ?_
    refine og (XS.iloadN X_lp.here hx rfl (hb hby own_d291) rfl) ?_
    show OG m T_lp 23 #[sI zi, sI dd, sI (-10 : Int32), sI (1 : Int32)] [(.int zi)]
    refine og (XS.iloadN X_lp.here hx rfl (hb hby own_d292) rfl) ?_
    show OG m T_lp 24 #[sI zi, sI dd, sI (-10 : Int32), sI (1 : Int32)] [(.int (-10 : Int32)), (.int zi)]
    by_cases hc1 : (-10 : Int32) < zi
    · refine og (XS.icmpNo X_lp.here hx rfl (hb hby own_d293) rfl (tlt hc1).2.2.2) ?_
      show OG m T_lp 27 #[sI zi, sI dd, sI (-10 : Int32), sI (1 : Int32)] []
      refine og (XS.iloadN X_lp.here hx rfl (hb hby own_d294) rfl) ?_
      refine og (XS.iloadN X_lp.here hx rfl (hb hby own_d295) rfl) ?_
      show OG m T_lp 29 #[sI zi, sI dd, sI (-10 : Int32), sI (1 : Int32)] [(.int dd), (.int (1 : Int32))]
      refine og (XS.iadd X_lp.here hx rfl (hb hby own_d296) rfl) ?_
      show OG m T_lp 30 #[sI zi, sI dd, sI (-10 : Int32), sI (1 : Int32)] [(.int ((1 : Int32) + dd))]
      rw [hR]
      obtain ⟨fs, hr, hrun, hended, hW, hsame⟩ := X_lp.leave (v := some (.int ((1 : Int32) + dd))) (fun h => by rw [Bd.returns] at h; cases h)
      refine ⟨_, _, retI X_lp hx Bd.returns (hb hby own_d297) hr, hrun, hended, _, _, rfl, ?_, ⟨_, rfl⟩, hW, hsame.mono (by decide) (by decide)⟩
      show Q_own_ssC Z p1 h0 n0 _ T_lp.heap _
      rw [e_lp]
      exact ⟨own_ss_leaf 1 sg 1 10 hs ⟨by decide, by decide⟩ rfl rfl (Or.inl rfl) (Or.inr (own_plt hc1 rfl)) (own_ss_r hd hsg1 rfl (by decide)), N_lp, rfl⟩
    · refine og (XS.icmpYes X_lp.here hx rfl (pc0 := 24) (pc' := 31) rfl (hb hby own_d293) rfl (flt hc1).2.2.2 (by decide) (by decide)) ?_
      show OG m T_lp 31 #[sI zi, sI dd, sI (-10 : Int32), sI (1 : Int32)] []
      refine og (XS.bipush X_lp.here hx rfl (hb hby own_d298)) ?_
      refine og (XS.iloadN X_lp.here hx rfl (hb hby own_d299) rfl) ?_
      show OG m T_lp 34 #[sI zi, sI dd, sI (-10 : Int32), sI (1 : Int32)] [(.int (-10 : Int32)), (.int (10 : Int32))]
      refine og (XS.imul X_lp.here hx rfl (hb hby own_d300) rfl) ?_
      show OG m T_lp 35 #[sI zi, sI dd, sI (-10 : Int32), sI (1 : Int32)] [(.int ((10 : Int32) * (-10 : Int32)))]
      rw [show ((10 : Int32) * (-10 : Int32)) = (-100 : Int32) from by decide]
      show OG m T_lp 35 #[sI zi, sI dd, sI (-10 : Int32), sI (1 : Int32)] [(.int (-100 : Int32))]
      refine og (XS.istoreN X_lp.here hx rfl (hb hby own_d301) rfl (l' := #[sI zi, sI dd, sI (-100 : Int32), sI (1 : Int32)]) rfl) ?_
      show OG m T_lp 36 #[sI zi, sI dd, sI (-100 : Int32), sI (1 : Int32)] []
      refine og (XS.iinc X_lp.here hx rfl (hb hby own_d302) rfl (l' := #[sI zi, sI dd, sI (-100 : Int32), sI ((1 : Int32) + (1 : Int32))]) rfl) ?_
      rw [show ((1 : Int32) + (1 : Int32)) = (2 : Int32) from by decide]
      show OG m T_lp 39 #[sI zi, sI dd, sI (-100 : Int32), sI (2 : Int32)] []
      refine og (XS.goto X_lp.here hx rfl (pc0 := 39) (pc' := 16) rfl (hb hby own_d303) (by decide) (by decide)) ?_
      refine og (XS.iloadN X_lp.here hx rfl (hb hby own_d288) rfl) ?_
      show OG m T_lp 17 #[sI zi, sI dd, sI (-100 : Int32), sI (2 : Int32)] [(.int (2 : Int32))]
      refine og (XS.bipush X_lp.here hx rfl (hb hby own_d289)) ?_
      show OG m T_lp 19 #[sI zi, sI dd, sI (-100 : Int32), sI (2 : Int32)] [(.int (10 : Int32)), (.int (2 : Int32))]
      refine og (XS.icmpNo X_lp.here hx rfl (hb hby own_d290) rfl (tlt (by decide : (2 : Int32) < (10 : Int32))).2.1) ?_
      refine og (XS.iloadN X_lp.here hx rfl (hb hby own_d291) rfl) ?_
      show OG m T_lp 23 #[sI zi, sI dd, sI (-100 : Int32), sI (2 : Int32)] [(.int zi)]
      refine og (XS.iloadN X_lp.here hx rfl (hb hby own_d292) rfl) ?_
      show OG m T_lp 24 #[sI zi, sI dd, sI (-100 : Int32), sI (2 : Int32)] [(.int (-100 : Int32)), (.int zi)]
      by_cases hc2 : (-100 : Int32) < zi
      · refine og (XS.icmpNo X_lp.here hx rfl (hb hby own_d293) rfl (tlt hc2).2.2.2) ?_
        show OG m T_lp 27 #[sI zi, sI dd, sI (-100 : Int32), sI (2 : Int32)] []
        refine og (XS.iloadN X_lp.here hx rfl (hb hby own_d294) rfl) ?_
        refine og (XS.iloadN X_lp.here hx rfl (hb hby own_d295) rfl) ?_
        show OG m T_lp 29 #[sI zi, sI dd, sI (-100 : Int32), sI (2 : Int32)] [(.int dd), (.int (2 : Int32))]
        refine og (XS.iadd X_lp.here hx rfl (hb hby own_d296) rfl) ?_
        show OG m T_lp 30 #[sI zi, sI dd, sI (-100 : Int32), sI (2 : Int32)] [(.int ((2 : Int32) + dd))]
        rw [hR]
        obtain ⟨fs, hr, hrun, hended, hW, hsame⟩ := X_lp.leave (v := some (.int ((2 : Int32) + dd))) (fun h => by rw [Bd.returns] at h; cases h)
        refine ⟨_, _, retI X_lp hx Bd.returns (hb hby own_d297) hr, hrun, hended, _, _, rfl, ?_, ⟨_, rfl⟩, hW, hsame.mono (by decide) (by decide)⟩
        show Q_own_ssC Z p1 h0 n0 _ T_lp.heap _
        rw [e_lp]
        exact ⟨own_ss_leaf 2 sg 10 100 hs ⟨by decide, by decide⟩ rfl rfl (Or.inr (own_nlt hc1 rfl)) (Or.inr (own_plt hc2 rfl)) (own_ss_r hd hsg1 rfl (by decide)), N_lp, rfl⟩
      · refine og (XS.icmpYes X_lp.here hx rfl (pc0 := 24) (pc' := 31) rfl (hb hby own_d293) rfl (flt hc2).2.2.2 (by decide) (by decide)) ?_
        show OG m T_lp 31 #[sI zi, sI dd, sI (-100 : Int32), sI (2 : Int32)] []
        refine og (XS.bipush X_lp.here hx rfl (hb hby own_d298)) ?_
        refine og (XS.iloadN X_lp.here hx rfl (hb hby own_d299) rfl) ?_
        show OG m T_lp 34 #[sI zi, sI dd, sI (-100 : Int32), sI (2 : Int32)] [(.int (-100 : Int32)), (.int (10 : Int32))]
        refine og (XS.imul X_lp.here hx rfl (hb hby own_d300) rfl) ?_
        show OG m T_lp 35 #[sI zi, sI dd, sI (-100 : Int32), sI (2 : Int32)] [(.int ((10 : Int32) * (-100 : Int32)))]
        rw [show ((10 : Int32) * (-100 : Int32)) = (-1000 : Int32) from by decide]
        show OG m T_lp 35 #[sI zi, sI dd, sI (-100 : Int32), sI (2 : Int32)] [(.int (-1000 : Int32))]
        refine og (XS.istoreN X_lp.here hx rfl (hb hby own_d301) rfl (l' := #[sI zi, sI dd, sI (-1000 : Int32), sI (2 : Int32)]) rfl) ?_
        show OG m T_lp 36 #[sI zi, sI dd, sI (-1000 : Int32), sI (2 : Int32)] []
        refine og (XS.iinc X_lp.here hx rfl (hb hby own_d302) rfl (l' := #[sI zi, sI dd, sI (-1000 : Int32), sI ((2 : Int32) + (1 : Int32))]) rfl) ?_
        rw [show ((2 : Int32) + (1 : Int32)) = (3 : Int32) from by decide]
        show OG m T_lp 39 #[sI zi, sI dd, sI (-1000 : Int32), sI (3 : Int32)] []
        refine og (XS.goto X_lp.here hx rfl (pc0 := 39) (pc' := 16) rfl (hb hby own_d303) (by decide) (by decide)) ?_
        refine og (XS.iloadN X_lp.here hx rfl (hb hby own_d288) rfl) ?_
        show OG m T_lp 17 #[sI zi, sI dd, sI (-1000 : Int32), sI (3 : Int32)] [(.int (3 : Int32))]
        refine og (XS.bipush X_lp.here hx rfl (hb hby own_d289)) ?_
        show OG m T_lp 19 #[sI zi, sI dd, sI (-1000 : Int32), sI (3 : Int32)] [(.int (10 : Int32)), (.int (3 : Int32))]
        refine og (XS.icmpNo X_lp.here hx rfl (hb hby own_d290) rfl (tlt (by decide : (3 : Int32) < (10 : Int32))).2.1) ?_
        refine og (XS.iloadN X_lp.here hx rfl (hb hby own_d291) rfl) ?_
        show OG m T_lp 23 #[sI zi, sI dd, sI (-1000 : Int32), sI (3 : Int32)] [(.int zi)]
        refine og (XS.iloadN X_lp.here hx rfl (hb hby own_d292) rfl) ?_
        show OG m T_lp 24 #[sI zi, sI dd, sI (-1000 : Int32), sI (3 : Int32)] [(.int (-1000 : Int32)), (.int zi)]
        by_cases hc3 : (-1000 : Int32) < zi
        · refine og (XS.icmpNo X_lp.here hx rfl (hb hby own_d293) rfl (tlt hc3).2.2.2) ?_
          show OG m T_lp 27 #[sI zi, sI dd, sI (-1000 : Int32), sI (3 : Int32)] []
          refine og (XS.iloadN X_lp.here hx rfl (hb hby own_d294) rfl) ?_
          refine og (XS.iloadN X_lp.here hx rfl (hb hby own_d295) rfl) ?_
          show OG m T_lp 29 #[sI zi, sI dd, sI (-1000 : Int32), sI (3 : Int32)] [(.int dd), (.int (3 : Int32))]
          refine og (XS.iadd X_lp.here hx rfl (hb hby own_d296) rfl) ?_
          show OG m T_lp 30 #[sI zi, sI dd, sI (-1000 : Int32), sI (3 : Int32)] [(.int ((3 : Int32) + dd))]
          rw [hR]
          obtain ⟨fs, hr, hrun, hended, hW, hsame⟩ := X_lp.leave (v := some (.int ((3 : Int32) + dd))) (fun h => by rw [Bd.returns] at h; cases h)
          refine ⟨_, _, retI X_lp hx Bd.returns (hb hby own_d297) hr, hrun, hended, _, _, rfl, ?_, ⟨_, rfl⟩, hW, hsame.mono (by decide) (by decide)⟩
          show Q_own_ssC Z p1 h0 n0 _ T_lp.heap _
          rw [e_lp]
          exact ⟨own_ss_leaf 3 sg 100 1000 hs ⟨by decide, by decide⟩ rfl rfl (Or.inr (own_nlt hc2 rfl)) (Or.inr (own_plt hc3 rfl)) (own_ss_r hd hsg1 rfl (by decide)), N_lp, rfl⟩
        · refine og (XS.icmpYes X_lp.here hx rfl (pc0 := 24) (pc' := 31) rfl (hb hby own_d293) rfl (flt hc3).2.2.2 (by decide) (by decide)) ?_
          show OG m T_lp 31 #[sI zi, sI dd, sI (-1000 : Int32), sI (3 : Int32)] []
          refine og (XS.bipush X_lp.here hx rfl (hb hby own_d298)) ?_
          refine og (XS.iloadN X_lp.here hx rfl (hb hby own_d299) rfl) ?_
          show OG m T_lp 34 #[sI zi, sI dd, sI (-1000 : Int32), sI (3 : Int32)] [(.int (-1000 : Int32)), (.int (10 : Int32))]
          refine og (XS.imul X_lp.here hx rfl (hb hby own_d300) rfl) ?_
          show OG m T_lp 35 #[sI zi, sI dd, sI (-1000 : Int32), sI (3 : Int32)] [(.int ((10 : Int32) * (-1000 : Int32)))]
          rw [show ((10 : Int32) * (-1000 : Int32)) = (-10000 : Int32) from by decide]
          show OG m T_lp 35 #[sI zi, sI dd, sI (-1000 : Int32), sI (3 : Int32)] [(.int (-10000 : Int32))]
          refine og (XS.istoreN X_lp.here hx rfl (hb hby own_d301) rfl (l' := #[sI zi, sI dd, sI (-10000 : Int32), sI (3 : Int32)]) rfl) ?_
          show OG m T_lp 36 #[sI zi, sI dd, sI (-10000 : Int32), sI (3 : Int32)] []
          refine og (XS.iinc X_lp.here hx rfl (hb hby own_d302) rfl (l' := #[sI zi, sI dd, sI (-10000 : Int32), sI ((3 : Int32) + (1 : Int32))]) rfl) ?_
          rw [show ((3 : Int32) + (1 : Int32)) = (4 : Int32) from by decide]
          show OG m T_lp 39 #[sI zi, sI dd, sI (-10000 : Int32), sI (4 : Int32)] []
          refine og (XS.goto X_lp.here hx rfl (pc0 := 39) (pc' := 16) rfl (hb hby own_d303) (by decide) (by decide)) ?_
          refine og (XS.iloadN X_lp.here hx rfl (hb hby own_d288) rfl) ?_
          show OG m T_lp 17 #[sI zi, sI dd, sI (-10000 : Int32), sI (4 : Int32)] [(.int (4 : Int32))]
          refine og (XS.bipush X_lp.here hx rfl (hb hby own_d289)) ?_
          show OG m T_lp 19 #[sI zi, sI dd, sI (-10000 : Int32), sI (4 : Int32)] [(.int (10 : Int32)), (.int (4 : Int32))]
          refine og (XS.icmpNo X_lp.here hx rfl (hb hby own_d290) rfl (tlt (by decide : (4 : Int32) < (10 : Int32))).2.1) ?_
          refine og (XS.iloadN X_lp.here hx rfl (hb hby own_d291) rfl) ?_
          show OG m T_lp 23 #[sI zi, sI dd, sI (-10000 : Int32), sI (4 : Int32)] [(.int zi)]
          refine og (XS.iloadN X_lp.here hx rfl (hb hby own_d292) rfl) ?_
          show OG m T_lp 24 #[sI zi, sI dd, sI (-10000 : Int32), sI (4 : Int32)] [(.int (-10000 : Int32)), (.int zi)]
          by_cases hc4 : (-10000 : Int32) < zi
          · refine og (XS.icmpNo X_lp.here hx rfl (hb hby own_d293) rfl (tlt hc4).2.2.2) ?_
            show OG m T_lp 27 #[sI zi, sI dd, sI (-10000 : Int32), sI (4 : Int32)] []
            refine og (XS.iloadN X_lp.here hx rfl (hb hby own_d294) rfl) ?_
            refine og (XS.iloadN X_lp.here hx rfl (hb hby own_d295) rfl) ?_
            show OG m T_lp 29 #[sI zi, sI dd, sI (-10000 : Int32), sI (4 : Int32)] [(.int dd), (.int (4 : Int32))]
            refine og (XS.iadd X_lp.here hx rfl (hb hby own_d296) rfl) ?_
            show OG m T_lp 30 #[sI zi, sI dd, sI (-10000 : Int32), sI (4 : Int32)] [(.int ((4 : Int32) + dd))]
            rw [hR]
            obtain ⟨fs, hr, hrun, hended, hW, hsame⟩ := X_lp.leave (v := some (.int ((4 : Int32) + dd))) (fun h => by rw [Bd.returns] at h; cases h)
            refine ⟨_, _, retI X_lp hx Bd.returns (hb hby own_d297) hr, hrun, hended, _, _, rfl, ?_, ⟨_, rfl⟩, hW, hsame.mono (by decide) (by decide)⟩
            show Q_own_ssC Z p1 h0 n0 _ T_lp.heap _
            rw [e_lp]
            exact ⟨own_ss_leaf 4 sg 1000 10000 hs ⟨by decide, by decide⟩ rfl rfl (Or.inr (own_nlt hc3 rfl)) (Or.inr (own_plt hc4 rfl)) (own_ss_r hd hsg1 rfl (by decide)), N_lp, rfl⟩
          · refine og (XS.icmpYes X_lp.here hx rfl (pc0 := 24) (pc' := 31) rfl (hb hby own_d293) rfl (flt hc4).2.2.2 (by decide) (by decide)) ?_
            show OG m T_lp 31 #[sI zi, sI dd, sI (-10000 : Int32), sI (4 : Int32)] []
            refine og (XS.bipush X_lp.here hx rfl (hb hby own_d298)) ?_
            refine og (XS.iloadN X_lp.here hx rfl (hb hby own_d299) rfl) ?_
            show OG m T_lp 34 #[sI zi, sI dd, sI (-10000 : Int32), sI (4 : Int32)] [(.int (-10000 : Int32)), (.int (10 : Int32))]
            refine og (XS.imul X_lp.here hx rfl (hb hby own_d300) rfl) ?_
            show OG m T_lp 35 #[sI zi, sI dd, sI (-10000 : Int32), sI (4 : Int32)] [(.int ((10 : Int32) * (-10000 : Int32)))]
            rw [show ((10 : Int32) * (-10000 : Int32)) = (-100000 : Int32) from by decide]
            show OG m T_lp 35 #[sI zi, sI dd, sI (-10000 : Int32), sI (4 : Int32)] [(.int (-100000 : Int32))]
            refine og (XS.istoreN X_lp.here hx rfl (hb hby own_d301) rfl (l' := #[sI zi, sI dd, sI (-100000 : Int32), sI (4 : Int32)]) rfl) ?_
            show OG m T_lp 36 #[sI zi, sI dd, sI (-100000 : Int32), sI (4 : Int32)] []
            refine og (XS.iinc X_lp.here hx rfl (hb hby own_d302) rfl (l' := #[sI zi, sI dd, sI (-100000 : Int32), sI ((4 : Int32) + (1 : Int32))]) rfl) ?_
            rw [show ((4 : Int32) + (1 : Int32)) = (5 : Int32) from by decide]
            show OG m T_lp 39 #[sI zi, sI dd, sI (-100000 : Int32), sI (5 : Int32)] []
            refine og (XS.goto X_lp.here hx rfl (pc0 := 39) (pc' := 16) rfl (hb hby own_d303) (by decide) (by decide)) ?_
            refine og (XS.iloadN X_lp.here hx rfl (hb hby own_d288) rfl) ?_
            show OG m T_lp 17 #[sI zi, sI dd, sI (-100000 : Int32), sI (5 : Int32)] [(.int (5 : Int32))]
            refine og (XS.bipush X_lp.here hx rfl (hb hby own_d289)) ?_
            show OG m T_lp 19 #[sI zi, sI dd, sI (-100000 : Int32), sI (5 : Int32)] [(.int (10 : Int32)), (.int (5 : Int32))]
            refine og (XS.icmpNo X_lp.here hx rfl (hb hby own_d290) rfl (tlt (by decide : (5 : Int32) < (10 : Int32))).2.1) ?_
            refine og (XS.iloadN X_lp.here hx rfl (hb hby own_d291) rfl) ?_
            show OG m T_lp 23 #[sI zi, sI dd, sI (-100000 : Int32), sI (5 : Int32)] [(.int zi)]
            refine og (XS.iloadN X_lp.here hx rfl (hb hby own_d292) rfl) ?_
            show OG m T_lp 24 #[sI zi, sI dd, sI (-100000 : Int32), sI (5 : Int32)] [(.int (-100000 : Int32)), (.int zi)]
            by_cases hc5 : (-100000 : Int32) < zi
            · refine og (XS.icmpNo X_lp.here hx rfl (hb hby own_d293) rfl (tlt hc5).2.2.2) ?_
              show OG m T_lp 27 #[sI zi, sI dd, sI (-100000 : Int32), sI (5 : Int32)] []
              refine og (XS.iloadN X_lp.here hx rfl (hb hby own_d294) rfl) ?_
              refine og (XS.iloadN X_lp.here hx rfl (hb hby own_d295) rfl) ?_
              show OG m T_lp 29 #[sI zi, sI dd, sI (-100000 : Int32), sI (5 : Int32)] [(.int dd), (.int (5 : Int32))]
              refine og (XS.iadd X_lp.here hx rfl (hb hby own_d296) rfl) ?_
              show OG m T_lp 30 #[sI zi, sI dd, sI (-100000 : Int32), sI (5 : Int32)] [(.int ((5 : Int32) + dd))]
              rw [hR]
              obtain ⟨fs, hr, hrun, hended, hW, hsame⟩ := X_lp.leave (v := some (.int ((5 : Int32) + dd))) (fun h => by rw [Bd.returns] at h; cases h)
              refine ⟨_, _, retI X_lp hx Bd.returns (hb hby own_d297) hr, hrun, hended, _, _, rfl, ?_, ⟨_, rfl⟩, hW, hsame.mono (by decide) (by decide)⟩
              show Q_own_ssC Z p1 h0 n0 _ T_lp.heap _
              rw [e_lp]
              exact ⟨own_ss_leaf 5 sg 10000 100000 hs ⟨by decide, by decide⟩ rfl rfl (Or.inr (own_nlt hc4 rfl)) (Or.inr (own_plt hc5 rfl)) (own_ss_r hd hsg1 rfl (by decide)), N_lp, rfl⟩
            · refine og (XS.icmpYes X_lp.here hx rfl (pc0 := 24) (pc' := 31) rfl (hb hby own_d293) rfl (flt hc5).2.2.2 (by decide) (by decide)) ?_
              show OG m T_lp 31 #[sI zi, sI dd, sI (-100000 : Int32), sI (5 : Int32)] []
              refine og (XS.bipush X_lp.here hx rfl (hb hby own_d298)) ?_
              refine og (XS.iloadN X_lp.here hx rfl (hb hby own_d299) rfl) ?_
              show OG m T_lp 34 #[sI zi, sI dd, sI (-100000 : Int32), sI (5 : Int32)] [(.int (-100000 : Int32)), (.int (10 : Int32))]
              refine og (XS.imul X_lp.here hx rfl (hb hby own_d300) rfl) ?_
              show OG m T_lp 35 #[sI zi, sI dd, sI (-100000 : Int32), sI (5 : Int32)] [(.int ((10 : Int32) * (-100000 : Int32)))]
              rw [show ((10 : Int32) * (-100000 : Int32)) = (-1000000 : Int32) from by decide]
              show OG m T_lp 35 #[sI zi, sI dd, sI (-100000 : Int32), sI (5 : Int32)] [(.int (-1000000 : Int32))]
              refine og (XS.istoreN X_lp.here hx rfl (hb hby own_d301) rfl (l' := #[sI zi, sI dd, sI (-1000000 : Int32), sI (5 : Int32)]) rfl) ?_
              show OG m T_lp 36 #[sI zi, sI dd, sI (-1000000 : Int32), sI (5 : Int32)] []
              refine og (XS.iinc X_lp.here hx rfl (hb hby own_d302) rfl (l' := #[sI zi, sI dd, sI (-1000000 : Int32), sI ((5 : Int32) + (1 : Int32))]) rfl) ?_
              rw [show ((5 : Int32) + (1 : Int32)) = (6 : Int32) from by decide]
              show OG m T_lp 39 #[sI zi, sI dd, sI (-1000000 : Int32), sI (6 : Int32)] []
              refine og (XS.goto X_lp.here hx rfl (pc0 := 39) (pc' := 16) rfl (hb hby own_d303) (by decide) (by decide)) ?_
              refine og (XS.iloadN X_lp.here hx rfl (hb hby own_d288) rfl) ?_
              show OG m T_lp 17 #[sI zi, sI dd, sI (-1000000 : Int32), sI (6 : Int32)] [(.int (6 : Int32))]
              refine og (XS.bipush X_lp.here hx rfl (hb hby own_d289)) ?_
              show OG m T_lp 19 #[sI zi, sI dd, sI (-1000000 : Int32), sI (6 : Int32)] [(.int (10 : Int32)), (.int (6 : Int32))]
              refine og (XS.icmpNo X_lp.here hx rfl (hb hby own_d290) rfl (tlt (by decide : (6 : Int32) < (10 : Int32))).2.1) ?_
              refine og (XS.iloadN X_lp.here hx rfl (hb hby own_d291) rfl) ?_
              show OG m T_lp 23 #[sI zi, sI dd, sI (-1000000 : Int32), sI (6 : Int32)] [(.int zi)]
              refine og (XS.iloadN X_lp.here hx rfl (hb hby own_d292) rfl) ?_
              show OG m T_lp 24 #[sI zi, sI dd, sI (-1000000 : Int32), sI (6 : Int32)] [(.int (-1000000 : Int32)), (.int zi)]
              by_cases hc6 : (-1000000 : Int32) < zi
              · refine og (XS.icmpNo X_lp.here hx rfl (hb hby own_d293) rfl (tlt hc6).2.2.2) ?_
                show OG m T_lp 27 #[sI zi, sI dd, sI (-1000000 : Int32), sI (6 : Int32)] []
                refine og (XS.iloadN X_lp.here hx rfl (hb hby own_d294) rfl) ?_
                refine og (XS.iloadN X_lp.here hx rfl (hb hby own_d295) rfl) ?_
                show OG m T_lp 29 #[sI zi, sI dd, sI (-1000000 : Int32), sI (6 : Int32)] [(.int dd), (.int (6 : Int32))]
                refine og (XS.iadd X_lp.here hx rfl (hb hby own_d296) rfl) ?_
                show OG m T_lp 30 #[sI zi, sI dd, sI (-1000000 : Int32), sI (6 : Int32)] [(.int ((6 : Int32) + dd))]
                rw [hR]
                obtain ⟨fs, hr, hrun, hended, hW, hsame⟩ := X_lp.leave (v := some (.int ((6 : Int32) + dd))) (fun h => by rw [Bd.returns] at h; cases h)
                refine ⟨_, _, retI X_lp hx Bd.returns (hb hby own_d297) hr, hrun, hended, _, _, rfl, ?_, ⟨_, rfl⟩, hW, hsame.mono (by decide) (by decide)⟩
                show Q_own_ssC Z p1 h0 n0 _ T_lp.heap _
                rw [e_lp]
                exact ⟨own_ss_leaf 6 sg 100000 1000000 hs ⟨by decide, by decide⟩ rfl rfl (Or.inr (own_nlt hc5 rfl)) (Or.inr (own_plt hc6 rfl)) (own_ss_r hd hsg1 rfl (by decide)), N_lp, rfl⟩
              · refine og (XS.icmpYes X_lp.here hx rfl (pc0 := 24) (pc' := 31) rfl (hb hby own_d293) rfl (flt hc6).2.2.2 (by decide) (by decide)) ?_
                show OG m T_lp 31 #[sI zi, sI dd, sI (-1000000 : Int32), sI (6 : Int32)] []
                refine og (XS.bipush X_lp.here hx rfl (hb hby own_d298)) ?_
                refine og (XS.iloadN X_lp.here hx rfl (hb hby own_d299) rfl) ?_
                show OG m T_lp 34 #[sI zi, sI dd, sI (-1000000 : Int32), sI (6 : Int32)] [(.int (-1000000 : Int32)), (.int (10 : Int32))]
                refine og (XS.imul X_lp.here hx rfl (hb hby own_d300) rfl) ?_
                show OG m T_lp 35 #[sI zi, sI dd, sI (-1000000 : Int32), sI (6 : Int32)] [(.int ((10 : Int32) * (-1000000 : Int32)))]
                rw [show ((10 : Int32) * (-1000000 : Int32)) = (-10000000 : Int32) from by decide]
                show OG m T_lp 35 #[sI zi, sI dd, sI (-1000000 : Int32), sI (6 : Int32)] [(.int (-10000000 : Int32))]
                refine og (XS.istoreN X_lp.here hx rfl (hb hby own_d301) rfl (l' := #[sI zi, sI dd, sI (-10000000 : Int32), sI (6 : Int32)]) rfl) ?_
                show OG m T_lp 36 #[sI zi, sI dd, sI (-10000000 : Int32), sI (6 : Int32)] []
                refine og (XS.iinc X_lp.here hx rfl (hb hby own_d302) rfl (l' := #[sI zi, sI dd, sI (-10000000 : Int32), sI ((6 : Int32) + (1 : Int32))]) rfl) ?_
                rw [show ((6 : Int32) + (1 : Int32)) = (7 : Int32) from by decide]
                show OG m T_lp 39 #[sI zi, sI dd, sI (-10000000 : Int32), sI (7 : Int32)] []
                refine og (XS.goto X_lp.here hx rfl (pc0 := 39) (pc' := 16) rfl (hb hby own_d303) (by decide) (by decide)) ?_
                refine og (XS.iloadN X_lp.here hx rfl (hb hby own_d288) rfl) ?_
                show OG m T_lp 17 #[sI zi, sI dd, sI (-10000000 : Int32), sI (7 : Int32)] [(.int (7 : Int32))]
                refine og (XS.bipush X_lp.here hx rfl (hb hby own_d289)) ?_
                show OG m T_lp 19 #[sI zi, sI dd, sI (-10000000 : Int32), sI (7 : Int32)] [(.int (10 : Int32)), (.int (7 : Int32))]
                refine og (XS.icmpNo X_lp.here hx rfl (hb hby own_d290) rfl (tlt (by decide : (7 : Int32) < (10 : Int32))).2.1) ?_
                refine og (XS.iloadN X_lp.here hx rfl (hb hby own_d291) rfl) ?_
                show OG m T_lp 23 #[sI zi, sI dd, sI (-10000000 : Int32), sI (7 : Int32)] [(.int zi)]
                refine og (XS.iloadN X_lp.here hx rfl (hb hby own_d292) rfl) ?_
                show OG m T_lp 24 #[sI zi, sI dd, sI (-10000000 : Int32), sI (7 : Int32)] [(.int (-10000000 : Int32)), (.int zi)]
                by_cases hc7 : (-10000000 : Int32) < zi
                · refine og (XS.icmpNo X_lp.here hx rfl (hb hby own_d293) rfl (tlt hc7).2.2.2) ?_
                  show OG m T_lp 27 #[sI zi, sI dd, sI (-10000000 : Int32), sI (7 : Int32)] []
                  refine og (XS.iloadN X_lp.here hx rfl (hb hby own_d294) rfl) ?_
                  refine og (XS.iloadN X_lp.here hx rfl (hb hby own_d295) rfl) ?_
                  show OG m T_lp 29 #[sI zi, sI dd, sI (-10000000 : Int32), sI (7 : Int32)] [(.int dd), (.int (7 : Int32))]
                  refine og (XS.iadd X_lp.here hx rfl (hb hby own_d296) rfl) ?_
                  show OG m T_lp 30 #[sI zi, sI dd, sI (-10000000 : Int32), sI (7 : Int32)] [(.int ((7 : Int32) + dd))]
                  rw [hR]
                  obtain ⟨fs, hr, hrun, hended, hW, hsame⟩ := X_lp.leave (v := some (.int ((7 : Int32) + dd))) (fun h => by rw [Bd.returns] at h; cases h)
                  refine ⟨_, _, retI X_lp hx Bd.returns (hb hby own_d297) hr, hrun, hended, _, _, rfl, ?_, ⟨_, rfl⟩, hW, hsame.mono (by decide) (by decide)⟩
                  show Q_own_ssC Z p1 h0 n0 _ T_lp.heap _
                  rw [e_lp]
                  exact ⟨own_ss_leaf 7 sg 1000000 10000000 hs ⟨by decide, by decide⟩ rfl rfl (Or.inr (own_nlt hc6 rfl)) (Or.inr (own_plt hc7 rfl)) (own_ss_r hd hsg1 rfl (by decide)), N_lp, rfl⟩
                · refine og (XS.icmpYes X_lp.here hx rfl (pc0 := 24) (pc' := 31) rfl (hb hby own_d293) rfl (flt hc7).2.2.2 (by decide) (by decide)) ?_
                  show OG m T_lp 31 #[sI zi, sI dd, sI (-10000000 : Int32), sI (7 : Int32)] []
                  refine og (XS.bipush X_lp.here hx rfl (hb hby own_d298)) ?_
                  refine og (XS.iloadN X_lp.here hx rfl (hb hby own_d299) rfl) ?_
                  show OG m T_lp 34 #[sI zi, sI dd, sI (-10000000 : Int32), sI (7 : Int32)] [(.int (-10000000 : Int32)), (.int (10 : Int32))]
                  refine og (XS.imul X_lp.here hx rfl (hb hby own_d300) rfl) ?_
                  show OG m T_lp 35 #[sI zi, sI dd, sI (-10000000 : Int32), sI (7 : Int32)] [(.int ((10 : Int32) * (-10000000 : Int32)))]
                  rw [show ((10 : Int32) * (-10000000 : Int32)) = (-100000000 : Int32) from by decide]
                  show OG m T_lp 35 #[sI zi, sI dd, sI (-10000000 : Int32), sI (7 : Int32)] [(.int (-100000000 : Int32))]
                  refine og (XS.istoreN X_lp.here hx rfl (hb hby own_d301) rfl (l' := #[sI zi, sI dd, sI (-100000000 : Int32), sI (7 : Int32)]) rfl) ?_
                  show OG m T_lp 36 #[sI zi, sI dd, sI (-100000000 : Int32), sI (7 : Int32)] []
                  refine og (XS.iinc X_lp.here hx rfl (hb hby own_d302) rfl (l' := #[sI zi, sI dd, sI (-100000000 : Int32), sI ((7 : Int32) + (1 : Int32))]) rfl) ?_
                  rw [show ((7 : Int32) + (1 : Int32)) = (8 : Int32) from by decide]
                  show OG m T_lp 39 #[sI zi, sI dd, sI (-100000000 : Int32), sI (8 : Int32)] []
                  refine og (XS.goto X_lp.here hx rfl (pc0 := 39) (pc' := 16) rfl (hb hby own_d303) (by decide) (by decide)) ?_
                  refine og (XS.iloadN X_lp.here hx rfl (hb hby own_d288) rfl) ?_
                  show OG m T_lp 17 #[sI zi, sI dd, sI (-100000000 : Int32), sI (8 : Int32)] [(.int (8 : Int32))]
                  refine og (XS.bipush X_lp.here hx rfl (hb hby own_d289)) ?_
                  show OG m T_lp 19 #[sI zi, sI dd, sI (-100000000 : Int32), sI (8 : Int32)] [(.int (10 : Int32)), (.int (8 : Int32))]
                  refine og (XS.icmpNo X_lp.here hx rfl (hb hby own_d290) rfl (tlt (by decide : (8 : Int32) < (10 : Int32))).2.1) ?_
                  refine og (XS.iloadN X_lp.here hx rfl (hb hby own_d291) rfl) ?_
                  show OG m T_lp 23 #[sI zi, sI dd, sI (-100000000 : Int32), sI (8 : Int32)] [(.int zi)]
                  refine og (XS.iloadN X_lp.here hx rfl (hb hby own_d292) rfl) ?_
                  show OG m T_lp 24 #[sI zi, sI dd, sI (-100000000 : Int32), sI (8 : Int32)] [(.int (-100000000 : Int32)), (.int zi)]
                  by_cases hc8 : (-100000000 : Int32) < zi
                  · refine og (XS.icmpNo X_lp.here hx rfl (hb hby own_d293) rfl (tlt hc8).2.2.2) ?_
                    show OG m T_lp 27 #[sI zi, sI dd, sI (-100000000 : Int32), sI (8 : Int32)] []
                    refine og (XS.iloadN X_lp.here hx rfl (hb hby own_d294) rfl) ?_
                    refine og (XS.iloadN X_lp.here hx rfl (hb hby own_d295) rfl) ?_
                    show OG m T_lp 29 #[sI zi, sI dd, sI (-100000000 : Int32), sI (8 : Int32)] [(.int dd), (.int (8 : Int32))]
                    refine og (XS.iadd X_lp.here hx rfl (hb hby own_d296) rfl) ?_
                    show OG m T_lp 30 #[sI zi, sI dd, sI (-100000000 : Int32), sI (8 : Int32)] [(.int ((8 : Int32) + dd))]
                    rw [hR]
                    obtain ⟨fs, hr, hrun, hended, hW, hsame⟩ := X_lp.leave (v := some (.int ((8 : Int32) + dd))) (fun h => by rw [Bd.returns] at h; cases h)
                    refine ⟨_, _, retI X_lp hx Bd.returns (hb hby own_d297) hr, hrun, hended, _, _, rfl, ?_, ⟨_, rfl⟩, hW, hsame.mono (by decide) (by decide)⟩
                    show Q_own_ssC Z p1 h0 n0 _ T_lp.heap _
                    rw [e_lp]
                    exact ⟨own_ss_leaf 8 sg 10000000 100000000 hs ⟨by decide, by decide⟩ rfl rfl (Or.inr (own_nlt hc7 rfl)) (Or.inr (own_plt hc8 rfl)) (own_ss_r hd hsg1 rfl (by decide)), N_lp, rfl⟩
                  · refine og (XS.icmpYes X_lp.here hx rfl (pc0 := 24) (pc' := 31) rfl (hb hby own_d293) rfl (flt hc8).2.2.2 (by decide) (by decide)) ?_
                    show OG m T_lp 31 #[sI zi, sI dd, sI (-100000000 : Int32), sI (8 : Int32)] []
                    refine og (XS.bipush X_lp.here hx rfl (hb hby own_d298)) ?_
                    refine og (XS.iloadN X_lp.here hx rfl (hb hby own_d299) rfl) ?_
                    show OG m T_lp 34 #[sI zi, sI dd, sI (-100000000 : Int32), sI (8 : Int32)] [(.int (-100000000 : Int32)), (.int (10 : Int32))]
                    refine og (XS.imul X_lp.here hx rfl (hb hby own_d300) rfl) ?_
                    show OG m T_lp 35 #[sI zi, sI dd, sI (-100000000 : Int32), sI (8 : Int32)] [(.int ((10 : Int32) * (-100000000 : Int32)))]
                    rw [show ((10 : Int32) * (-100000000 : Int32)) = (-1000000000 : Int32) from by decide]
                    show OG m T_lp 35 #[sI zi, sI dd, sI (-100000000 : Int32), sI (8 : Int32)] [(.int (-1000000000 : Int32))]
                    refine og (XS.istoreN X_lp.here hx rfl (hb hby own_d301) rfl (l' := #[sI zi, sI dd, sI (-1000000000 : Int32), sI (8 : Int32)]) rfl) ?_
                    show OG m T_lp 36 #[sI zi, sI dd, sI (-1000000000 : Int32), sI (8 : Int32)] []
                    refine og (XS.iinc X_lp.here hx rfl (hb hby own_d302) rfl (l' := #[sI zi, sI dd, sI (-1000000000 : Int32), sI ((8 : Int32) + (1 : Int32))]) rfl) ?_
                    rw [show ((8 : Int32) + (1 : Int32)) = (9 : Int32) from by decide]
                    show OG m T_lp 39 #[sI zi, sI dd, sI (-1000000000 : Int32), sI (9 : Int32)] []
                    refine og (XS.goto X_lp.here hx rfl (pc0 := 39) (pc' := 16) rfl (hb hby own_d303) (by decide) (by decide)) ?_
                    refine og (XS.iloadN X_lp.here hx rfl (hb hby own_d288) rfl) ?_
                    show OG m T_lp 17 #[sI zi, sI dd, sI (-1000000000 : Int32), sI (9 : Int32)] [(.int (9 : Int32))]
                    refine og (XS.bipush X_lp.here hx rfl (hb hby own_d289)) ?_
                    show OG m T_lp 19 #[sI zi, sI dd, sI (-1000000000 : Int32), sI (9 : Int32)] [(.int (10 : Int32)), (.int (9 : Int32))]
                    refine og (XS.icmpNo X_lp.here hx rfl (hb hby own_d290) rfl (tlt (by decide : (9 : Int32) < (10 : Int32))).2.1) ?_
                    refine og (XS.iloadN X_lp.here hx rfl (hb hby own_d291) rfl) ?_
                    show OG m T_lp 23 #[sI zi, sI dd, sI (-1000000000 : Int32), sI (9 : Int32)] [(.int zi)]
                    refine og (XS.iloadN X_lp.here hx rfl (hb hby own_d292) rfl) ?_
                    show OG m T_lp 24 #[sI zi, sI dd, sI (-1000000000 : Int32), sI (9 : Int32)] [(.int (-1000000000 : Int32)), (.int zi)]
                    by_cases hc9 : (-1000000000 : Int32) < zi
                    · refine og (XS.icmpNo X_lp.here hx rfl (hb hby own_d293) rfl (tlt hc9).2.2.2) ?_
                      show OG m T_lp 27 #[sI zi, sI dd, sI (-1000000000 : Int32), sI (9 : Int32)] []
                      refine og (XS.iloadN X_lp.here hx rfl (hb hby own_d294) rfl) ?_
                      refine og (XS.iloadN X_lp.here hx rfl (hb hby own_d295) rfl) ?_
                      show OG m T_lp 29 #[sI zi, sI dd, sI (-1000000000 : Int32), sI (9 : Int32)] [(.int dd), (.int (9 : Int32))]
                      refine og (XS.iadd X_lp.here hx rfl (hb hby own_d296) rfl) ?_
                      show OG m T_lp 30 #[sI zi, sI dd, sI (-1000000000 : Int32), sI (9 : Int32)] [(.int ((9 : Int32) + dd))]
                      rw [hR]
                      obtain ⟨fs, hr, hrun, hended, hW, hsame⟩ := X_lp.leave (v := some (.int ((9 : Int32) + dd))) (fun h => by rw [Bd.returns] at h; cases h)
                      refine ⟨_, _, retI X_lp hx Bd.returns (hb hby own_d297) hr, hrun, hended, _, _, rfl, ?_, ⟨_, rfl⟩, hW, hsame.mono (by decide) (by decide)⟩
                      show Q_own_ssC Z p1 h0 n0 _ T_lp.heap _
                      rw [e_lp]
                      exact ⟨own_ss_leaf 9 sg 100000000 1000000000 hs ⟨by decide, by decide⟩ rfl rfl (Or.inr (own_nlt hc8 rfl)) (Or.inr (own_plt hc9 rfl)) (own_ss_r hd hsg1 rfl (by decide)), N_lp, rfl⟩
                    · refine og (XS.icmpYes X_lp.here hx rfl (pc0 := 24) (pc' := 31) rfl (hb hby own_d293) rfl (flt hc9).2.2.2 (by decide) (by decide)) ?_
                      show OG m T_lp 31 #[sI zi, sI dd, sI (-1000000000 : Int32), sI (9 : Int32)] []
                      refine og (XS.bipush X_lp.here hx rfl (hb hby own_d298)) ?_
                      refine og (XS.iloadN X_lp.here hx rfl (hb hby own_d299) rfl) ?_
                      show OG m T_lp 34 #[sI zi, sI dd, sI (-1000000000 : Int32), sI (9 : Int32)] [(.int (-1000000000 : Int32)), (.int (10 : Int32))]
                      refine og (XS.imul X_lp.here hx rfl (hb hby own_d300) rfl) ?_
                      show OG m T_lp 35 #[sI zi, sI dd, sI (-1000000000 : Int32), sI (9 : Int32)] [(.int ((10 : Int32) * (-1000000000 : Int32)))]
                      rw [show ((10 : Int32) * (-1000000000 : Int32)) = (-1410065408 : Int32) from by decide]
                      show OG m T_lp 35 #[sI zi, sI dd, sI (-1000000000 : Int32), sI (9 : Int32)] [(.int (-1410065408 : Int32))]
                      refine og (XS.istoreN X_lp.here hx rfl (hb hby own_d301) rfl (l' := #[sI zi, sI dd, sI (-1410065408 : Int32), sI (9 : Int32)]) rfl) ?_
                      show OG m T_lp 36 #[sI zi, sI dd, sI (-1410065408 : Int32), sI (9 : Int32)] []
                      refine og (XS.iinc X_lp.here hx rfl (hb hby own_d302) rfl (l' := #[sI zi, sI dd, sI (-1410065408 : Int32), sI ((9 : Int32) + (1 : Int32))]) rfl) ?_
                      rw [show ((9 : Int32) + (1 : Int32)) = (10 : Int32) from by decide]
                      show OG m T_lp 39 #[sI zi, sI dd, sI (-1410065408 : Int32), sI (10 : Int32)] []
                      refine og (XS.goto X_lp.here hx rfl (pc0 := 39) (pc' := 16) rfl (hb hby own_d303) (by decide) (by decide)) ?_
                      refine og (XS.iloadN X_lp.here hx rfl (hb hby own_d288) rfl) ?_
                      show OG m T_lp 17 #[sI zi, sI dd, sI (-1410065408 : Int32), sI (10 : Int32)] [(.int (10 : Int32))]
                      refine og (XS.bipush X_lp.here hx rfl (hb hby own_d289)) ?_
                      show OG m T_lp 19 #[sI zi, sI dd, sI (-1410065408 : Int32), sI (10 : Int32)] [(.int (10 : Int32)), (.int (10 : Int32))]
                      refine og (XS.icmpYes X_lp.here hx rfl (pc0 := 19) (pc' := 42) rfl (hb hby own_d290) rfl (flt (by decide : ¬ ((10 : Int32) < (10 : Int32)))).2.1 (by decide) (by decide)) ?_
                      refine og (XS.bipush X_lp.here hx rfl (hb hby own_d304)) ?_
                      show OG m T_lp 44 #[sI zi, sI dd, sI (-1410065408 : Int32), sI (10 : Int32)] [(.int (10 : Int32))]
                      refine og (XS.iloadN X_lp.here hx rfl (hb hby own_d305) rfl) ?_
                      refine og (XS.iadd X_lp.here hx rfl (hb hby own_d306) rfl) ?_
                      show OG m T_lp 46 #[sI zi, sI dd, sI (-1410065408 : Int32), sI (10 : Int32)] [(.int ((10 : Int32) + dd))]
                      rw [hR]
                      obtain ⟨fs, hr, hrun, hended, hW, hsame⟩ := X_lp.leave (v := some (.int ((10 : Int32) + dd))) (fun h => by rw [Bd.returns] at h; cases h)
                      refine ⟨_, _, retI X_lp hx Bd.returns (hb hby own_d307) hr, hrun, hended, _, _, rfl, ?_, ⟨_, rfl⟩, hW, hsame.mono (by decide) (by decide)⟩
                      show Q_own_ssC Z p1 h0 n0 _ T_lp.heap _
                      rw [e_lp]
                      exact ⟨own_ss_leaf 10 sg 1000000000 10000000000 hs ⟨by decide, by decide⟩ rfl rfl (Or.inr (own_nlt hc9 rfl)) (Or.inl rfl) (own_ss_r hd hsg1 rfl (by decide)), N_lp, rfl⟩
  refine og (XS.iconst X0.here hx rfl (hb hby own_d308)) ?_
  refine og (XS.istoreN X0.here hx rfl (hb hby own_d309) rfl (l' := #[sI p1, sI (1 : Int32), sU, sU]) rfl) ?_
  show OG m s₁ 2 #[sI p1, sI (1 : Int32), sU, sU] []
  refine og (XS.iloadN X0.here hx rfl (hb hby own_d310) rfl) ?_
  show OG m s₁ 3 #[sI p1, sI (1 : Int32), sU, sU] [(.int p1)]
  by_cases hc10 : p1 < (0 : Int32)
  · refine og (XS.ifYes X0.here hx rfl (pc0 := 3) (pc' := 11) rfl (hb hby own_d311) rfl ((if0 _ _).trans (tlt hc10).1) (by decide) (by decide)) ?_
    show OG m s₁ 11 #[sI p1, sI (1 : Int32), sU, sU] []
    exact lp 1 p1 (1 : Int32) s₁  _ X0 e0 N0 K0 Z0 (Or.inl ⟨hc10, rfl, rfl⟩) rfl
  · refine og (XS.ifNo X0.here hx rfl (hb hby own_d311) rfl ((if0 _ _).trans (flt hc10).1)) ?_
    show OG m s₁ 6 #[sI p1, sI (1 : Int32), sU, sU] []
    refine og (XS.iconst X0.here hx rfl (hb hby own_d312)) ?_
    refine og (XS.istoreN X0.here hx rfl (hb hby own_d313) rfl (l' := #[sI p1, sI (0 : Int32), sU, sU]) rfl) ?_
    show OG m s₁ 8 #[sI p1, sI (0 : Int32), sU, sU] []
    refine og (XS.iloadN X0.here hx rfl (hb hby own_d314) rfl) ?_
    show OG m s₁ 9 #[sI p1, sI (0 : Int32), sU, sU] [(.int p1)]
    refine og (XS.ineg X0.here hx rfl (hb hby own_d315) rfl) ?_
    refine og (XS.istoreN X0.here hx rfl (hb hby own_d316) rfl (l' := #[sI (-p1), sI (0 : Int32), sU, sU]) rfl) ?_
    show OG m s₁ 11 #[sI (-p1), sI (0 : Int32), sU, sU] []
    exact lp 0 (-p1) (0 : Int32) s₁  _ X0 e0 N0 K0 Z0 (Or.inr ⟨hc10, rfl, rfl⟩) rfl
theorem own_ef317 (m : MethodId) (p1 : Int32) (p2 : Int32) (d : Addr) : entryFrame m #[(.int p1), (.int p2), (.ref d)] 7 = mkF m 0 #[sI p1, sI p2, sR d, sU, sU, sU, sU] [] := by first | (simp [entryFrame, mkF, argsToLocals, Value.category]; done) | rfl
theorem own_d318 : decode jdk_33_method_12_code 0 = .ok (.iload_n 1, 1) := by decide +kernel
theorem own_d319 : decode jdk_33_method_12_code 1 = .ok (.istore 5, 2) := by decide +kernel
theorem own_d320 : decode jdk_33_method_12_code 3 = .ok (.iload_n 0, 1) := by decide +kernel
theorem own_d321 : decode jdk_33_method_12_code 4 = .ok (.ifCond .ge 7, 3) := by decide +kernel
theorem own_d322 : decode jdk_33_method_12_code 7 = .ok (.iconst 1, 1) := by decide +kernel
theorem own_d323 : decode jdk_33_method_12_code 8 = .ok (.goto 4, 3) := by decide +kernel
theorem own_d324 : decode jdk_33_method_12_code 11 = .ok (.iconst 0, 1) := by decide +kernel
theorem own_d325 : decode jdk_33_method_12_code 104 = .ok (.iload 6, 2) := by decide +kernel
theorem own_d326 : decode jdk_33_method_12_code 106 = .ok (.ifCond .eq 12, 3) := by decide +kernel
theorem own_d327 : decode jdk_33_method_12_code 118 = .ok (.iload 5, 2) := by decide +kernel
theorem own_d328 : decode jdk_33_method_12_code 120 = .ok (.ireturn, 1) := by decide +kernel
theorem own_d329 : decode jdk_33_method_12_code 109 = .ok (.aload_n 2, 1) := by decide +kernel
theorem own_d330 : decode jdk_33_method_12_code 110 = .ok (.iinc 5 (-1), 3) := by decide +kernel
theorem own_d331 : decode jdk_33_method_12_code 113 = .ok (.iload 5, 2) := by decide +kernel
theorem own_d332 : decode jdk_33_method_12_code 115 = .ok (.bipush 45, 2) := by decide +kernel
theorem own_d333 : decode jdk_33_method_12_code 117 = .ok (.bastore, 1) := by decide +kernel
theorem own_d334 : decode jdk_33_method_12_code 22 = .ok (.iload_n 0, 1) := by decide +kernel
theorem own_d335 : decode jdk_33_method_12_code 23 = .ok (.bipush (-100), 2) := by decide +kernel
theorem own_d336 : decode jdk_33_method_12_code 25 = .ok (.if_icmp .gt 47, 3) := by decide +kernel
theorem own_d337 : decode jdk_33_method_12_code 72 = .ok (.aload_n 2, 1) := by decide +kernel
theorem own_d338 : decode jdk_33_method_12_code 73 = .ok (.iinc 5 (-1), 3) := by decide +kernel
theorem own_d339 : decode jdk_33_method_12_code 76 = .ok (.iload 5, 2) := by decide +kernel
theorem own_d340 : decode jdk_33_method_12_code 78 = .ok (.getstatic 83, 3) := by decide +kernel
theorem own_d341 : decode jdk_33_method_12_code 81 = .ok (.iload_n 0, 1) := by decide +kernel
theorem own_d342 : decode jdk_33_method_12_code 82 = .ok (.ineg, 1) := by decide +kernel
theorem own_d343 : decode jdk_33_method_12_code 83 = .ok (.baload, 1) := by decide +kernel
theorem own_d344 : decode jdk_33_method_12_code 84 = .ok (.bastore, 1) := by decide +kernel
theorem own_d345 : decode jdk_33_method_12_code 85 = .ok (.iload_n 0, 1) := by decide +kernel
theorem own_d346 : decode jdk_33_method_12_code 86 = .ok (.bipush (-9), 2) := by decide +kernel
theorem own_d347 : decode jdk_33_method_12_code 88 = .ok (.if_icmp .ge 16, 3) := by decide +kernel
theorem own_d348 : decode jdk_33_method_12_code 91 = .ok (.aload_n 2, 1) := by decide +kernel
theorem own_d349 : decode jdk_33_method_12_code 92 = .ok (.iinc 5 (-1), 3) := by decide +kernel
theorem own_d350 : decode jdk_33_method_12_code 95 = .ok (.iload 5, 2) := by decide +kernel
theorem own_d351 : decode jdk_33_method_12_code 97 = .ok (.getstatic 87, 3) := by decide +kernel
theorem own_d352 : decode jdk_33_method_12_code 100 = .ok (.iload_n 0, 1) := by decide +kernel
theorem own_d353 : decode jdk_33_method_12_code 101 = .ok (.ineg, 1) := by decide +kernel
theorem own_d354 : decode jdk_33_method_12_code 102 = .ok (.baload, 1) := by decide +kernel
theorem own_d355 : decode jdk_33_method_12_code 103 = .ok (.bastore, 1) := by decide +kernel
theorem own_d356 : decode jdk_33_method_12_code 28 = .ok (.iload_n 0, 1) := by decide +kernel
theorem own_d357 : decode jdk_33_method_12_code 29 = .ok (.bipush 100, 2) := by decide +kernel
theorem own_d358 : decode jdk_33_method_12_code 31 = .ok (.idiv, 1) := by decide +kernel
theorem own_d359 : decode jdk_33_method_12_code 32 = .ok (.istore_n 3, 1) := by decide +kernel
theorem own_d360 : decode jdk_33_method_12_code 33 = .ok (.iload_n 3, 1) := by decide +kernel
theorem own_d361 : decode jdk_33_method_12_code 34 = .ok (.bipush 100, 2) := by decide +kernel
theorem own_d362 : decode jdk_33_method_12_code 36 = .ok (.imul, 1) := by decide +kernel
theorem own_d363 : decode jdk_33_method_12_code 37 = .ok (.iload_n 0, 1) := by decide +kernel
theorem own_d364 : decode jdk_33_method_12_code 38 = .ok (.isub, 1) := by decide +kernel
theorem own_d365 : decode jdk_33_method_12_code 39 = .ok (.istore 4, 2) := by decide +kernel
theorem own_d366 : decode jdk_33_method_12_code 41 = .ok (.iload_n 3, 1) := by decide +kernel
theorem own_d367 : decode jdk_33_method_12_code 42 = .ok (.istore_n 0, 1) := by decide +kernel
theorem own_d368 : decode jdk_33_method_12_code 43 = .ok (.aload_n 2, 1) := by decide +kernel
theorem own_d369 : decode jdk_33_method_12_code 44 = .ok (.iinc 5 (-1), 3) := by decide +kernel
theorem own_d370 : decode jdk_33_method_12_code 47 = .ok (.iload 5, 2) := by decide +kernel
theorem own_d371 : decode jdk_33_method_12_code 49 = .ok (.getstatic 83, 3) := by decide +kernel
theorem own_d372 : decode jdk_33_method_12_code 52 = .ok (.iload 4, 2) := by decide +kernel
theorem own_d373 : decode jdk_33_method_12_code 54 = .ok (.baload, 1) := by decide +kernel
theorem own_d374 : decode jdk_33_method_12_code 55 = .ok (.bastore, 1) := by decide +kernel
theorem own_d375 : decode jdk_33_method_12_code 56 = .ok (.aload_n 2, 1) := by decide +kernel
theorem own_d376 : decode jdk_33_method_12_code 57 = .ok (.iinc 5 (-1), 3) := by decide +kernel
theorem own_d377 : decode jdk_33_method_12_code 60 = .ok (.iload 5, 2) := by decide +kernel
theorem own_d378 : decode jdk_33_method_12_code 62 = .ok (.getstatic 87, 3) := by decide +kernel
theorem own_d379 : decode jdk_33_method_12_code 65 = .ok (.iload 4, 2) := by decide +kernel
theorem own_d380 : decode jdk_33_method_12_code 67 = .ok (.baload, 1) := by decide +kernel
theorem own_d381 : decode jdk_33_method_12_code 68 = .ok (.bastore, 1) := by decide +kernel
theorem own_d382 : decode jdk_33_method_12_code 69 = .ok (.goto (-47), 3) := by decide +kernel
theorem own_d383 : decode jdk_33_method_12_code 12 = .ok (.istore 6, 2) := by decide +kernel
theorem own_d384 : decode jdk_33_method_12_code 14 = .ok (.iload 6, 2) := by decide +kernel
theorem own_d385 : decode jdk_33_method_12_code 16 = .ok (.ifCond .ne 6, 3) := by decide +kernel
theorem own_d386 : decode jdk_33_method_12_code 19 = .ok (.iload_n 0, 1) := by decide +kernel
theorem own_d387 : decode jdk_33_method_12_code 20 = .ok (.ineg, 1) := by decide +kernel
theorem own_d388 : decode jdk_33_method_12_code 21 = .ok (.istore_n 0, 1) := by decide +kernel
def Q_own_gc (Z : State) (p1 : Int32) (p2 : Int32) (d : Addr) (k : ClassId) (cap : Int32) (bs : List Int32) (o_DigitOnes : Addr) (o_DigitTens : Addr) (kc_own_ones : ClassId) (kc_own_tens : ClassId) (h0 : Heap) (n0 : Nat) (v : Option Value) (h : Heap) (L : List Loc) : Prop := ∃ zr : Int32, v = some (.int zr) ∧ Fr n0 L ∧ Keep h0 h [d] ∧ Arv Z h d k .byte cap (own_B (bs ++ own_txt p1)) (.int (0 : Int32))
set_option maxRecDepth 65536 in
set_option maxHeartbeats 40000000 in
theorem own_gc (l : Launch) (Z : State) (a0 : Array Value) (hw : ∀ d ∈ tables_1, d.before a0 Z = true) (ws : List Jvm.Cond) (p1 : Int32) (p2 : Int32) (d : Addr) (k : ClassId) (cap : Int32) (bs : List Int32) (o_DigitOnes : Addr) (o_DigitTens : Addr) (kc_own_ones : ClassId) (kc_own_tens : ClassId) (h0 : Heap) (n0 : Nat) (Z0 : n0 ≤ h0.size) (O0 : Old Z n0 h0) (S_DigitOnes : Sta Z Z.heap "java/lang/Integer" "DigitOnes" "[B" (.ref o_DigitOnes)) (V_own_ones : Arv Z Z.heap o_DigitOnes kc_own_ones .byte (100 : Int32) (own_B own_ones) (.int (0 : Int32))) (S_DigitTens : Sta Z Z.heap "java/lang/Integer" "DigitTens" "[B" (.ref o_DigitTens)) (V_own_tens : Arv Z Z.heap o_DigitTens kc_own_tens .byte (100 : Int32) (own_B own_tens) (.int (0 : Int32))) (f0_0 : Arv Z h0 d k .byte cap (own_B bs) (.int (0 : Int32))) (g_d : n0 ≤ d) (hcap : ¬ cap < 0 ∧ cap.toInt ≤ 74) (hp2 : p2.toInt = ((bs.length + (own_nd p1.toInt.natAbs + own_sg p1) : Nat) : Int)) (hfit : p2.toInt ≤ cap.toInt) :
    MetFree l (⟨"java/lang/Integer", "getChars", "(II[B)I"⟩ : MethodName) (head1 (Jvm.Cond.code (⟨"java/lang/Integer", "getChars", "(II[B)I"⟩ : MethodName) jdk_33_method_12_code 7 (some .int) :: ws) ({ frames := 0, cells := 0, slots := 0, locals := 0 } : Room)) (fun a U => a = #[(.int p1), (.int p2), (.ref d)] ∧ Z.Warmed39 U.vm ∧ U.heap = h0) (fun _ _ _ _ _ => True) (fun _ U o U' => ∃ v L, o = .returned v ∧ Q_own_gc Z p1 p2 d k cap bs o_DigitOnes o_DigitTens kc_own_ones kc_own_tens h0 n0 v U'.heap L ∧ FrameEnd U o U' L ({ frames := 0, cells := 0, slots := 0, locals := 0 } : Room).cells ({ frames := 0, cells := 0, slots := 0, locals := 0 } : Room).slots) := by
  refine MetFree.of_bodySF (plainFor_of_name own_pn283) hisR ?_
  intro p e s m args below meth c s₁ Bd hml0 hP hK
  obtain ⟨rfl, hZ, hh⟩ := hP
  have hx := Bd.exec
  have hby := Bd.bytes
  have hml : c.maxLocals = 7 := hml0
  have hown : s.vm.findClass "java/lang/Integer" = some m.cls := findClass_of_methodNamed Bd.named
  have hnm := (name_of_methodNamed Bd.named Bd.method).1
  have X0 : Stand p l e ({ frames := 0, cells := 0, slots := 0, locals := 0 } : Room) s m #[(.int p1), (.int p2), (.ref d)] below meth c s₁ [] 0 0 := Stand.of_body Bd
  have e0 : s₁.heap = h0 := by rw [← hh, Bd.state]; rfl
  have N0 := Fr.nil n0
  have K0 := Keep.refl h0 [d]
  refine own_go (fun t k => castTop (own_ef317 m p1 p2 d) k) ?_
  show OG m s₁ 0 #[sI p1, sI p2, sR d, sU, sU, sU, sU] []
  obtain ⟨vv, hvv⟩ : ∃ z, z = p1.toInt.natAbs := ⟨_, rfl⟩
  rw [← hvv] at hp2
  have hr32 := rng32 p1
  have hvb : vv ≤ 2147483648 := by omega
  have e0i : (0 : Int32).toInt = 0 := rfl
  obtain ⟨m0, hsz0⟩ : ∃ z, own_nd vv + own_sg p1 = z + 0 := ⟨_, rfl⟩
  have F1 : Arv Z h0 d k .byte cap (own_B (bs ++ List.replicate m0 (0 : Int32) ++ own_ds vv 0)) (.int (0 : Int32)) := f0_0.pad (fun i => own_padz bs m0 i)
  have hpp : p2.toInt = ((bs.length + m0 : Nat) : Int) := by rw [hp2, hsz0, Nat.add_zero]
  have hcb : (bs.length : Int) + m0 ≤ cap.toInt := by omega
  refine og (XS.iloadN X0.here hx rfl (hb hby own_d318) rfl) ?_
  refine og (XS.istore X0.here hx rfl (hb hby own_d319) rfl (l' := #[sI p1, sI p2, sR d, sU, sU, sI p2, sU]) rfl) ?_
  show OG m s₁ 3 #[sI p1, sI p2, sR d, sU, sU, sI p2, sU] []
  refine og (XS.iloadN X0.here hx rfl (hb hby own_d320) rfl) ?_
  show OG m s₁ 4 #[sI p1, sI p2, sR d, sU, sU, sI p2, sU] [(.int p1)]
  obtain ⟨z2, hp2, hn2⟩ := own_pick (p1 < (0 : Int32)) ((1 : Int32)) ((0 : Int32))
  refine own_go (nxt := s₁.setTop (mkF m 12 #[sI p1, sI p2, sR d, sU, sU, sI p2, sU] [(.int z2)])) (fun t k => ?_) ?_
  · by_cases hq : p1 < (0 : Int32)
    · rw [hp2 hq] at k
      refine XS.ifNo X0.here hx rfl (hb hby own_d321) rfl ((if0 _ _).trans (tlt hq).2.1) ?_
      show Steps p.tables e below (s₁.setTop (mkF m 7 #[sI p1, sI p2, sR d, sU, sU, sI p2, sU] [])) _
      refine XS.iconst X0.here hx rfl (hb hby own_d322) ?_
      show Steps p.tables e below (s₁.setTop (mkF m 8 #[sI p1, sI p2, sR d, sU, sU, sI p2, sU] [(.int (1 : Int32))])) _
      refine XS.goto X0.here hx rfl (pc0 := 8) (pc' := 12) rfl (hb hby own_d323) (by decide) (by decide) ?_
      show Steps p.tables e below (s₁.setTop (mkF m 12 #[sI p1, sI p2, sR d, sU, sU, sI p2, sU] [(.int (1 : Int32))])) _
      exact k
    · rw [hn2 hq] at k
      refine XS.ifYes X0.here hx rfl (pc0 := 4) (pc' := 11) rfl (hb hby own_d321) rfl ((if0 _ _).trans (flt hq).2.1) (by decide) (by decide) ?_
      show Steps p.tables e below (s₁.setTop (mkF m 11 #[sI p1, sI p2, sR d, sU, sU, sI p2, sU] [])) _
      refine XS.iconst X0.here hx rfl (hb hby own_d324) ?_
      show Steps p.tables e below (s₁.setTop (mkF m 12 #[sI p1, sI p2, sR d, sU, sU, sI p2, sU] [(.int (0 : Int32))])) _
      exact k
  show OG m s₁ 12 #[sI p1, sI p2, sR d, sU, sU, sI p2, sU] [(.int z2)]
  refine own_named (fun R hR => ?_)
  have tl : ∀ (dt : Nat) (mm : Nat) (zi : Int32) (zp : Int32) (s3 : Slot) (s4 : Slot) (T_tl : State) (h_tl : Heap) (L_tl : List Loc), (Stand p l e ({ frames := 0, cells := 0, slots := 0, locals := 0 } : Room) s m #[(.int p1), (.int p2), (.ref d)] below meth c T_tl L_tl 0 0) → (T_tl.heap = h_tl) → (Fr n0 L_tl) → (Keep h0 h_tl [d]) → (n0 ≤ h_tl.size) → (Arv Z h_tl d k .byte cap (own_B (bs ++ List.replicate mm (0 : Int32) ++ own_ds vv dt)) (.int (0 : Int32))) → (Old Z n0 h_tl) → (zp.toInt = ((bs.length + mm : Nat) : Int)) → ((bs.length : Int) + mm ≤ cap.toInt) → (own_nd vv = dt) → (own_sg p1 = mm) → OwnG p.tables e below R (T_tl.setTop (mkF m 104 #[sI zi, sI p2, sR d, s3, s4, sI zp, sI z2] [])) := by
    intro dt mm zi zp s3 s4 T_tl h_tl L_tl X_tl e_tl N_tl K_tl Z_tl F_tl0 F_tl1 hp hbz hnd hmm
    refine og (XS.iload X_tl.here hx rfl (hb hby own_d325) rfl) ?_
    show OG m T_tl 106 #[sI zi, sI p2, sR d, s3, s4, sI zp, sI z2] [(.int z2)]
    by_cases hc3 : z2 = (0 : Int32)
    · refine og (XS.ifYes X_tl.here hx rfl (pc0 := 106) (pc' := 118) rfl (hb hby own_d326) rfl ((if0 _ _).trans (teq hc3).1) (by decide) (by decide)) ?_
      show OG m T_tl 118 #[sI zi, sI p2, sR d, s3, s4, sI zp, sI z2] []
      have hng : ¬ p1 < 0 := fun z => by rw [hp2 z] at hc3; exact absurd hc3 (by decide)
      have hsg : own_sg p1 = 0 := if_neg hng
      obtain rfl : mm = 0 := by omega
      have F4 : Arv Z h_tl d k .byte cap (own_B (bs ++ own_txt p1)) (.int (0 : Int32)) := by have e := own_txt_eq (x := p1) (t := dt) (hvv ▸ hnd); rw [if_neg hng, ← hvv] at e; rw [e]; simpa using F_tl0
      refine og (XS.iload X_tl.here hx rfl (hb hby own_d327) rfl) ?_
      show OG m T_tl 120 #[sI zi, sI p2, sR d, s3, s4, sI zp, sI z2] [(.int zp)]
      rw [hR]
      obtain ⟨fs, hr, hrun, hended, hW, hsame⟩ := X_tl.leave (v := some (.int zp)) (fun h => by rw [Bd.returns] at h; cases h)
      refine ⟨_, _, retI X_tl hx Bd.returns (hb hby own_d328) hr, hrun, hended, _, _, rfl, ?_, ⟨_, rfl⟩, hW, hsame.mono (by decide) (by decide)⟩
      show Q_own_gc Z p1 p2 d k cap bs o_DigitOnes o_DigitTens kc_own_ones kc_own_tens h0 n0 _ T_tl.heap _
      rw [e_tl]
      exact ⟨_, rfl, N_tl, K_tl, F4⟩
    · refine og (XS.ifNo X_tl.here hx rfl (hb hby own_d326) rfl ((if0 _ _).trans (feq hc3).1)) ?_
      show OG m T_tl 109 #[sI zi, sI p2, sR d, s3, s4, sI zp, sI z2] []
      have hng : p1 < 0 := Decidable.byContradiction (fun z => hc3 (hn2 z))
      have hsg : own_sg p1 = 1 := if_pos hng
      obtain ⟨m5, rfl⟩ : ∃ z, mm = z + 1 := ⟨mm - 1, by omega⟩
      refine og (XS.aloadN X_tl.here hx rfl (hb hby own_d329) rfl rfl) ?_
      show OG m T_tl 110 #[sI zi, sI p2, sR d, s3, s4, sI zp, sI z2] [(.ref d)]
      refine og (XS.iinc X_tl.here hx rfl (hb hby own_d330) rfl (l' := #[sI zi, sI p2, sR d, s3, s4, sI (zp + (-1 : Int32)), sI z2]) rfl) ?_
      show OG m T_tl 113 #[sI zi, sI p2, sR d, s3, s4, sI (zp + (-1 : Int32)), sI z2] [(.ref d)]
      obtain ⟨pp6, h_pp6⟩ : ∃ z, z = (zp + (-1 : Int32)) := ⟨_, rfl⟩
      rw [← h_pp6]
      show OG m T_tl 113 #[sI zi, sI p2, sR d, s3, s4, sI pp6, sI z2] [(.ref d)]
      have hp_pp6 : pp6.toInt = ((bs.length + m5 : Nat) : Int) := by rw [h_pp6]; exact own_pos hp (by omega)
      refine og (XS.iload X_tl.here hx rfl (hb hby own_d331) rfl) ?_
      refine og (XS.bipush X_tl.here hx rfl (hb hby own_d332)) ?_
      show OG m T_tl 117 #[sI zi, sI p2, sR d, s3, s4, sI pp6, sI z2] [(.int (45 : Int32)), (.int pp6), (.ref d)]
      have vv7 := F_tl0
      obtain ⟨cl7, Ar7, qk7, Sz7, Nn7, Hs7, Gs7⟩ := vv7
      have hin7 : ¬ (pp6 < 0 ∨ cl7.slots.size ≤ (pp6).toNatClampNeg) := inb_of Sz7 (own_lt_cap hp_pp6 (by omega))
      obtain ⟨T7, h7, X7, e7, W7, st7⟩ := stB X_tl hx hZ e_tl Ar7 (j := pp6) hin7 (g := (mkF m 117 #[sI zi, sI p2, sR d, s3, s4, sI pp6, sI z2] [(.int (45 : Int32)), (.int pp6), (.ref d)])) rfl rfl (hb hby own_d333)
      have F8 : Old Z n0 h7 := F_tl1.wr W7 g_d
      have N9 := Fr.snoc X7 N_tl g_d
      have K9 : Keep h0 h7 [d] := K_tl.wr W7 (Or.inl (List.mem_of_getElem? (i := 0) rfl))
      have Z9 : n0 ≤ h7.size := Nat.le_trans Z_tl (Keep.of_wr W7).1
      have F10 : Arv Z h7 d k .byte cap (own_B (bs ++ List.replicate m5 (0 : Int32) ++ ((45 : Int32) :: (own_ds vv dt)))) (.int (0 : Int32)) := by
        have q := Arv.set Ar7 qk7 Sz7 Nn7 Hs7 Gs7 (fits_nar_byte _) W7 (bs.length + m5) ((own_idx hp_pp6).2) (own_filllen _ _ _)
        exact own_setv q rfl (own_fillV _ _ _ _)
      refine own_go (fun t k => st7 t k) ?_
      show OG m T7 118 #[sI zi, sI p2, sR d, s3, s4, sI pp6, sI z2] []
      obtain rfl : m5 = 0 := by omega
      have F11 : Arv Z h7 d k .byte cap (own_B (bs ++ own_txt p1)) (.int (0 : Int32)) := by have e := own_txt_eq (x := p1) (t := dt) (hvv ▸ hnd); rw [if_pos hng, ← hvv] at e; rw [e]; simpa using F10
      refine og (XS.iload X7.here hx rfl (hb hby own_d327) rfl) ?_
      show OG m T7 120 #[sI zi, sI p2, sR d, s3, s4, sI pp6, sI z2] [(.int pp6)]
      rw [hR]
      obtain ⟨fs, hr, hrun, hended, hW, hsame⟩ := X7.leave (v := some (.int pp6)) (fun h => by rw [Bd.returns] at h; cases h)
      refine ⟨_, _, retI X7 hx Bd.returns (hb hby own_d328) hr, hrun, hended, _, _, rfl, ?_, ⟨_, rfl⟩, hW, hsame.mono (by decide) (by decide)⟩
      show Q_own_gc Z p1 p2 d k cap bs o_DigitOnes o_DigitTens kc_own_ones kc_own_tens h0 n0 _ T7.heap _
      rw [e7]
      exact ⟨_, rfl, N9, K9, F11⟩
  have lp : ∀ (n : Nat) (dt : Nat) (mm : Nat) (zi : Int32) (zp : Int32) (s3 : Slot) (s4 : Slot) (T_lp : State) (h_lp : Heap) (L_lp : List Loc), (Stand p l e ({ frames := 0, cells := 0, slots := 0, locals := 0 } : Room) s m #[(.int p1), (.int p2), (.ref d)] below meth c T_lp L_lp 0 0) → (T_lp.heap = h_lp) → (Fr n0 L_lp) → (Keep h0 h_lp [d]) → (n0 ≤ h_lp.size) → (Arv Z h_lp d k .byte cap (own_B (bs ++ List.replicate mm (0 : Int32) ++ own_ds vv dt)) (.int (0 : Int32))) → (Old Z n0 h_lp) → (zi.toInt = -((vv / 10 ^ dt : Nat) : Int)) → (zp.toInt = ((bs.length + mm : Nat) : Int)) → ((bs.length : Int) + mm ≤ cap.toInt) → (own_nd vv + own_sg p1 = mm + dt) → (dt = 0 ∨ 10 ^ dt ≤ vv) → (vv / 10 ^ dt < n) → (s3 = .unset ∨ ∃ z, s3 = .val (.int z)) → (s4 = .unset ∨ ∃ z, s4 = .val (.int z)) → OwnG p.tables e below R (T_lp.setTop (mkF m 22 #[sI zi, sI p2, sR d, s3, s4, sI zp, sI z2] [])) := by
    intro n
    induction n with
    | zero => intro dt mm zi zp s3 s4 T_lp h_lp L_lp X_lp e_lp N_lp K_lp Z_lp F_lp0 F_lp1 hz hp hbz hsz hlo hn hs3 hs4; exact absurd hn (Nat.not_lt_zero _)
    | succ n ih =>
      intro dt mm zi zp s3 s4 T_lp h_lp L_lp X_lp e_lp N_lp K_lp Z_lp F_lp0 F_lp1 hz hp hbz hsz hlo hn hs3 hs4
      have hvd : vv / 10 ^ dt ≤ vv := Nat.div_le_self _ _
      refine og (XS.iloadN X_lp.here hx rfl (hb hby own_d334) rfl) ?_
      refine og (XS.bipush X_lp.here hx rfl (hb hby own_d335)) ?_
      show OG m T_lp 25 #[sI zi, sI p2, sR d, s3, s4, sI zp, sI z2] [(.int (-100 : Int32)), (.int zi)]
      by_cases hc12 : (-100 : Int32) < zi
      · refine og (XS.icmpYes X_lp.here hx rfl (pc0 := 25) (pc' := 72) rfl (hb hby own_d336) rfl (tlt hc12).2.2.1 (by decide) (by decide)) ?_
        show OG m T_lp 72 #[sI zi, sI p2, sR d, s3, s4, sI zp, sI z2] []
        have hA : vv / 10 ^ dt < 100 := own_lt100 hc12 hz
        have hng : (-zi).toInt = ((vv / 10 ^ dt % 100 : Nat) : Int) := by rw [Nat.mod_eq_of_lt hA]; exact own_neg hz (by omega)
        have hlt := own_ndlt hlo hvb
        obtain ⟨m13, rfl⟩ : ∃ z, mm = z + 1 := ⟨mm - 1, by omega⟩
        refine og (XS.aloadN X_lp.here hx rfl (hb hby own_d337) rfl rfl) ?_
        show OG m T_lp 73 #[sI zi, sI p2, sR d, s3, s4, sI zp, sI z2] [(.ref d)]
        refine og (XS.iinc X_lp.here hx rfl (hb hby own_d338) rfl (l' := #[sI zi, sI p2, sR d, s3, s4, sI (zp + (-1 : Int32)), sI z2]) rfl) ?_
        show OG m T_lp 76 #[sI zi, sI p2, sR d, s3, s4, sI (zp + (-1 : Int32)), sI z2] [(.ref d)]
        obtain ⟨pp14, h_pp14⟩ : ∃ z, z = (zp + (-1 : Int32)) := ⟨_, rfl⟩
        rw [← h_pp14]
        show OG m T_lp 76 #[sI zi, sI p2, sR d, s3, s4, sI pp14, sI z2] [(.ref d)]
        have hp_pp14 : pp14.toInt = ((bs.length + m13 : Nat) : Int) := by rw [h_pp14]; exact own_pos hp (by omega)
        refine og (XS.iload X_lp.here hx rfl (hb hby own_d339) rfl) ?_
        show OG m T_lp 78 #[sI zi, sI p2, sR d, s3, s4, sI pp14, sI z2] [(.int pp14), (.ref d)]
        obtain ⟨T15, X15, e15, st15⟩ := getS2 X_lp hx hZ hown (host := "") (Or.inl (tw hw 117 rfl)) Via.refl e_lp (S_DigitOnes.ext F_lp1.2) (g := (mkF m 78 #[sI zi, sI p2, sR d, s3, s4, sI pp14, sI z2] [(.int pp14), (.ref d)])) rfl (hb hby own_d340)
        refine own_go (fun t k => st15 t k) ?_
        show OG m T15 81 #[sI zi, sI p2, sR d, s3, s4, sI pp14, sI z2] [(.ref o_DigitOnes), (.int pp14), (.ref d)]
        refine og (XS.iloadN X15.here hx rfl (hb hby own_d341) rfl) ?_
        show OG m T15 82 #[sI zi, sI p2, sR d, s3, s4, sI pp14, sI z2] [(.int zi), (.ref o_DigitOnes), (.int pp14), (.ref d)]
        refine og (XS.ineg X15.here hx rfl (hb hby own_d342) rfl) ?_
        show OG m T15 83 #[sI zi, sI p2, sR d, s3, s4, sI pp14, sI z2] [(.int (-zi)), (.ref o_DigitOnes), (.int pp14), (.ref d)]
        have vv16 := (V_own_ones.ext F_lp1.2)
        obtain ⟨cl16, Ar16, qk16, Sz16, Nn16, Hs16, Gs16⟩ := vv16
        have hin16 : ¬ ((-zi) < 0 ∨ cl16.slots.size ≤ ((-zi)).toNatClampNeg) := inb_of Sz16 ⟨(own_idx hng).1, by rw [Int32.lt_iff_toInt_lt, hng]; have e : (100 : Int32).toInt = 100 := rfl; omega⟩
        have hat16 : cl16.slots[((-zi)).toNatClampNeg]? = some (.int (Int32.ofNat (48 + vv / 10 ^ dt % 10))) := Hs16.at hin16 (own_one_at (own_idx hng).2 rfl)
        refine own_go (fun t k => (X15.baloadBytes hx (j := (-zi)) (v := (.int (Int32.ofNat (48 + vv / 10 ^ dt % 10)))) (by rw [e15]; exact Ar16.1) (State.isArrayOf_alike hZ.alike Ar16.2.1) Ar16.2.2 hin16 hat16 (g := (mkF m 83 #[sI zi, sI p2, sR d, s3, s4, sI pp14, sI z2] [(.int (-zi)), (.ref o_DigitOnes), (.int pp14), (.ref d)])) rfl rfl (hb hby own_d343)) t k) ?_
        show OG m T15 84 #[sI zi, sI p2, sR d, s3, s4, sI pp14, sI z2] [(.int (Int32.ofNat (48 + vv / 10 ^ dt % 10))), (.int pp14), (.ref d)]
        have vv17 := F_lp0
        obtain ⟨cl17, Ar17, qk17, Sz17, Nn17, Hs17, Gs17⟩ := vv17
        have hin17 : ¬ (pp14 < 0 ∨ cl17.slots.size ≤ (pp14).toNatClampNeg) := inb_of Sz17 (own_lt_cap hp_pp14 (by omega))
        obtain ⟨T17, h17, X17, e17, W17, st17⟩ := stB X15 hx hZ e15 Ar17 (j := pp14) hin17 (g := (mkF m 84 #[sI zi, sI p2, sR d, s3, s4, sI pp14, sI z2] [(.int (Int32.ofNat (48 + vv / 10 ^ dt % 10))), (.int pp14), (.ref d)])) rfl rfl (hb hby own_d344)
        have F18 : Old Z n0 h17 := F_lp1.wr W17 g_d
        have N19 := Fr.snoc X17 N_lp g_d
        have K19 : Keep h0 h17 [d] := K_lp.wr W17 (Or.inl (List.mem_of_getElem? (i := 0) rfl))
        have Z19 : n0 ≤ h17.size := Nat.le_trans Z_lp (Keep.of_wr W17).1
        have F20 : Arv Z h17 d k .byte cap (own_B (bs ++ List.replicate m13 (0 : Int32) ++ ((Int32.ofNat (48 + vv / 10 ^ dt % 10)) :: (own_ds vv dt)))) (.int (0 : Int32)) := by
          have q := Arv.set Ar17 qk17 Sz17 Nn17 Hs17 Gs17 (fits_nar_byte _) W17 (bs.length + m13) ((own_idx hp_pp14).2) (own_filllen _ _ _)
          exact own_setv q (own_narb _) (own_fillV _ _ _ _)
        refine own_go (fun t k => st17 t k) ?_
        show OG m T17 85 #[sI zi, sI p2, sR d, s3, s4, sI pp14, sI z2] []
        have F21 : Arv Z h17 d k .byte cap (own_B (bs ++ List.replicate m13 (0 : Int32) ++ own_ds vv (dt + 1))) (.int (0 : Int32)) := F20
        refine og (XS.iloadN X17.here hx rfl (hb hby own_d345) rfl) ?_
        refine og (XS.bipush X17.here hx rfl (hb hby own_d346)) ?_
        show OG m T17 88 #[sI zi, sI p2, sR d, s3, s4, sI pp14, sI z2] [(.int (-9 : Int32)), (.int zi)]
        by_cases hc22 : zi < (-9 : Int32)
        · refine og (XS.icmpNo X17.here hx rfl (hb hby own_d347) rfl (tlt hc22).2.1) ?_
          show OG m T17 91 #[sI zi, sI p2, sR d, s3, s4, sI pp14, sI z2] []
          have hB : 9 < vv / 10 ^ dt := own_gt9 hc22 hz
          have hnd : own_nd vv = dt + 1 + 1 := own_ndx2 hvb hB hA
          obtain ⟨m23, rfl⟩ : ∃ z, m13 = z + 1 := ⟨m13 - 1, by omega⟩
          refine og (XS.aloadN X17.here hx rfl (hb hby own_d348) rfl rfl) ?_
          show OG m T17 92 #[sI zi, sI p2, sR d, s3, s4, sI pp14, sI z2] [(.ref d)]
          refine og (XS.iinc X17.here hx rfl (hb hby own_d349) rfl (l' := #[sI zi, sI p2, sR d, s3, s4, sI (pp14 + (-1 : Int32)), sI z2]) rfl) ?_
          show OG m T17 95 #[sI zi, sI p2, sR d, s3, s4, sI (pp14 + (-1 : Int32)), sI z2] [(.ref d)]
          obtain ⟨pp24, h_pp24⟩ : ∃ z, z = (pp14 + (-1 : Int32)) := ⟨_, rfl⟩
          rw [← h_pp24]
          show OG m T17 95 #[sI zi, sI p2, sR d, s3, s4, sI pp24, sI z2] [(.ref d)]
          have hp_pp24 : pp24.toInt = ((bs.length + m23 : Nat) : Int) := by rw [h_pp24]; exact own_pos hp_pp14 (by omega)
          refine og (XS.iload X17.here hx rfl (hb hby own_d350) rfl) ?_
          show OG m T17 97 #[sI zi, sI p2, sR d, s3, s4, sI pp24, sI z2] [(.int pp24), (.ref d)]
          obtain ⟨T25, X25, e25, st25⟩ := getS2 X17 hx hZ hown (host := "") (Or.inl (tw hw 205 rfl)) Via.refl e17 (S_DigitTens.ext F18.2) (g := (mkF m 97 #[sI zi, sI p2, sR d, s3, s4, sI pp24, sI z2] [(.int pp24), (.ref d)])) rfl (hb hby own_d351)
          refine own_go (fun t k => st25 t k) ?_
          show OG m T25 100 #[sI zi, sI p2, sR d, s3, s4, sI pp24, sI z2] [(.ref o_DigitTens), (.int pp24), (.ref d)]
          refine og (XS.iloadN X25.here hx rfl (hb hby own_d352) rfl) ?_
          show OG m T25 101 #[sI zi, sI p2, sR d, s3, s4, sI pp24, sI z2] [(.int zi), (.ref o_DigitTens), (.int pp24), (.ref d)]
          refine og (XS.ineg X25.here hx rfl (hb hby own_d353) rfl) ?_
          show OG m T25 102 #[sI zi, sI p2, sR d, s3, s4, sI pp24, sI z2] [(.int (-zi)), (.ref o_DigitTens), (.int pp24), (.ref d)]
          have vv26 := (V_own_tens.ext F18.2)
          obtain ⟨cl26, Ar26, qk26, Sz26, Nn26, Hs26, Gs26⟩ := vv26
          have hin26 : ¬ ((-zi) < 0 ∨ cl26.slots.size ≤ ((-zi)).toNatClampNeg) := inb_of Sz26 ⟨(own_idx hng).1, by rw [Int32.lt_iff_toInt_lt, hng]; have e : (100 : Int32).toInt = 100 := rfl; omega⟩
          have hat26 : cl26.slots[((-zi)).toNatClampNeg]? = some (.int (Int32.ofNat (48 + vv / 10 ^ (dt + 1) % 10))) := Hs26.at hin26 (own_ten_at (t := dt) (own_idx hng).2 rfl)
          refine own_go (fun t k => (X25.baloadBytes hx (j := (-zi)) (v := (.int (Int32.ofNat (48 + vv / 10 ^ (dt + 1) % 10)))) (by rw [e25]; exact Ar26.1) (State.isArrayOf_alike hZ.alike Ar26.2.1) Ar26.2.2 hin26 hat26 (g := (mkF m 102 #[sI zi, sI p2, sR d, s3, s4, sI pp24, sI z2] [(.int (-zi)), (.ref o_DigitTens), (.int pp24), (.ref d)])) rfl rfl (hb hby own_d354)) t k) ?_
          show OG m T25 103 #[sI zi, sI p2, sR d, s3, s4, sI pp24, sI z2] [(.int (Int32.ofNat (48 + vv / 10 ^ (dt + 1) % 10))), (.int pp24), (.ref d)]
          have vv27 := F21
          obtain ⟨cl27, Ar27, qk27, Sz27, Nn27, Hs27, Gs27⟩ := vv27
          have hin27 : ¬ (pp24 < 0 ∨ cl27.slots.size ≤ (pp24).toNatClampNeg) := inb_of Sz27 (own_lt_cap hp_pp24 (by omega))
          obtain ⟨T27, h27, X27, e27, W27, st27⟩ := stB X25 hx hZ e25 Ar27 (j := pp24) hin27 (g := (mkF m 103 #[sI zi, sI p2, sR d, s3, s4, sI pp24, sI z2] [(.int (Int32.ofNat (48 + vv / 10 ^ (dt + 1) % 10))), (.int pp24), (.ref d)])) rfl rfl (hb hby own_d355)
          have F28 : Old Z n0 h27 := F18.wr W27 g_d
          have N29 := Fr.snoc X27 N19 g_d
          have K29 : Keep h0 h27 [d] := K19.wr W27 (Or.inl (List.mem_of_getElem? (i := 0) rfl))
          have Z29 : n0 ≤ h27.size := Nat.le_trans Z19 (Keep.of_wr W27).1
          have F30 : Arv Z h27 d k .byte cap (own_B (bs ++ List.replicate m23 (0 : Int32) ++ ((Int32.ofNat (48 + vv / 10 ^ (dt + 1) % 10)) :: (own_ds vv (dt + 1))))) (.int (0 : Int32)) := by
            have q := Arv.set Ar27 qk27 Sz27 Nn27 Hs27 Gs27 (fits_nar_byte _) W27 (bs.length + m23) ((own_idx hp_pp24).2) (own_filllen _ _ _)
            exact own_setv q (own_narb _) (own_fillV _ _ _ _)
          refine own_go (fun t k => st27 t k) ?_
          show OG m T27 104 #[sI zi, sI p2, sR d, s3, s4, sI pp24, sI z2] []
          have F31 : Arv Z h27 d k .byte cap (own_B (bs ++ List.replicate m23 (0 : Int32) ++ own_ds vv ((dt + 1) + 1))) (.int (0 : Int32)) := F30
          exact tl (dt + 1 + 1) m23 zi pp24 _ _ T27 h27 _ X27 e27 N29 K29 Z29 F31 F28 hp_pp24 (by omega) hnd (by omega)
        · refine og (XS.icmpYes X17.here hx rfl (pc0 := 88) (pc' := 104) rfl (hb hby own_d347) rfl (flt hc22).2.1 (by decide) (by decide)) ?_
          show OG m T17 104 #[sI zi, sI p2, sR d, s3, s4, sI pp14, sI z2] []
          have hB : vv / 10 ^ dt ≤ 9 := own_le9 hc22 hz
          have hnd : own_nd vv = dt + 1 := own_ndx1 hlo hvb hB
          exact tl (dt + 1) m13 zi pp14 _ _ T17 h17 _ X17 e17 N19 K19 Z19 F21 F18 hp_pp14 (by omega) hnd (by omega)
      · refine og (XS.icmpNo X_lp.here hx rfl (hb hby own_d336) rfl (flt hc12).2.2.1) ?_
        show OG m T_lp 28 #[sI zi, sI p2, sR d, s3, s4, sI zp, sI z2] []
        have hG : 100 ≤ vv / 10 ^ dt := own_ge100 hc12 hz
        have hl2 := own_l2 hG
        have hlt : dt + 1 + 1 < own_nd vv := own_ndlt (Or.inr hl2) hvb
        have hq : (zi / (100 : Int32)).toInt = -((vv / 10 ^ (dt + 1 + 1) : Nat) : Int) := by rw [own_div100 hz, own_q2]
        have hrr : (zi / (100 : Int32) * (100 : Int32) - zi).toInt = ((vv / 10 ^ dt % 100 : Nat) : Int) := own_rem100 hz (by omega)
        refine og (XS.iloadN X_lp.here hx rfl (hb hby own_d356) rfl) ?_
        show OG m T_lp 29 #[sI zi, sI p2, sR d, s3, s4, sI zp, sI z2] [(.int zi)]
        refine og (XS.bipush X_lp.here hx rfl (hb hby own_d357)) ?_
        show OG m T_lp 31 #[sI zi, sI p2, sR d, s3, s4, sI zp, sI z2] [(.int (100 : Int32)), (.int zi)]
        refine og (XS.idiv X_lp.here hx rfl (hb hby own_d358) rfl (by decide)) ?_
        show OG m T_lp 32 #[sI zi, sI p2, sR d, s3, s4, sI zp, sI z2] [(.int (zi / (100 : Int32)))]
        refine og (XS.istoreN X_lp.here hx rfl (hb hby own_d359) rfl (l' := #[sI zi, sI p2, sR d, sI (zi / (100 : Int32)), s4, sI zp, sI z2]) (by rcases hs3 with rfl | ⟨_, rfl⟩ <;> rcases hs4 with rfl | ⟨_, rfl⟩ <;> rfl)) ?_
        show OG m T_lp 33 #[sI zi, sI p2, sR d, sI (zi / (100 : Int32)), s4, sI zp, sI z2] []
        refine og (XS.iloadN X_lp.here hx rfl (hb hby own_d360) rfl) ?_
        show OG m T_lp 34 #[sI zi, sI p2, sR d, sI (zi / (100 : Int32)), s4, sI zp, sI z2] [(.int (zi / (100 : Int32)))]
        refine og (XS.bipush X_lp.here hx rfl (hb hby own_d361)) ?_
        show OG m T_lp 36 #[sI zi, sI p2, sR d, sI (zi / (100 : Int32)), s4, sI zp, sI z2] [(.int (100 : Int32)), (.int (zi / (100 : Int32)))]
        refine og (XS.imul X_lp.here hx rfl (hb hby own_d362) rfl) ?_
        show OG m T_lp 37 #[sI zi, sI p2, sR d, sI (zi / (100 : Int32)), s4, sI zp, sI z2] [(.int ((zi / (100 : Int32)) * (100 : Int32)))]
        refine og (XS.iloadN X_lp.here hx rfl (hb hby own_d363) rfl) ?_
        show OG m T_lp 38 #[sI zi, sI p2, sR d, sI (zi / (100 : Int32)), s4, sI zp, sI z2] [(.int zi), (.int ((zi / (100 : Int32)) * (100 : Int32)))]
        refine og (XS.isub X_lp.here hx rfl (hb hby own_d364) rfl) ?_
        show OG m T_lp 39 #[sI zi, sI p2, sR d, sI (zi / (100 : Int32)), s4, sI zp, sI z2] [(.int (((zi / (100 : Int32)) * (100 : Int32)) - zi))]
        obtain ⟨rr, h_rr⟩ : ∃ z, z = (((zi / (100 : Int32)) * (100 : Int32)) - zi) := ⟨_, rfl⟩
        rw [← h_rr]
        show OG m T_lp 39 #[sI zi, sI p2, sR d, sI (zi / (100 : Int32)), s4, sI zp, sI z2] [(.int rr)]
        rw [← h_rr] at hrr
        obtain ⟨zq, h_zq⟩ : ∃ z, z = (zi / (100 : Int32)) := ⟨_, rfl⟩
        rw [← h_zq]
        show OG m T_lp 39 #[sI zi, sI p2, sR d, sI zq, s4, sI zp, sI z2] [(.int rr)]
        rw [← h_zq] at hq
        refine og (XS.istore X_lp.here hx rfl (hb hby own_d365) rfl (l' := #[sI zi, sI p2, sR d, sI zq, sI rr, sI zp, sI z2]) (by rcases hs3 with rfl | ⟨_, rfl⟩ <;> rcases hs4 with rfl | ⟨_, rfl⟩ <;> rfl)) ?_
        show OG m T_lp 41 #[sI zi, sI p2, sR d, sI zq, sI rr, sI zp, sI z2] []
        refine og (XS.iloadN X_lp.here hx rfl (hb hby own_d366) rfl) ?_
        show OG m T_lp 42 #[sI zi, sI p2, sR d, sI zq, sI rr, sI zp, sI z2] [(.int zq)]
        refine og (XS.istoreN X_lp.here hx rfl (hb hby own_d367) rfl (l' := #[sI zq, sI p2, sR d, sI zq, sI rr, sI zp, sI z2]) rfl) ?_
        show OG m T_lp 43 #[sI zq, sI p2, sR d, sI zq, sI rr, sI zp, sI z2] []
        obtain ⟨m32, rfl⟩ : ∃ z, mm = z + 1 := ⟨mm - 1, by omega⟩
        refine og (XS.aloadN X_lp.here hx rfl (hb hby own_d368) rfl rfl) ?_
        show OG m T_lp 44 #[sI zq, sI p2, sR d, sI zq, sI rr, sI zp, sI z2] [(.ref d)]
        refine og (XS.iinc X_lp.here hx rfl (hb hby own_d369) rfl (l' := #[sI zq, sI p2, sR d, sI zq, sI rr, sI (zp + (-1 : Int32)), sI z2]) rfl) ?_
        show OG m T_lp 47 #[sI zq, sI p2, sR d, sI zq, sI rr, sI (zp + (-1 : Int32)), sI z2] [(.ref d)]
        obtain ⟨pp33, h_pp33⟩ : ∃ z, z = (zp + (-1 : Int32)) := ⟨_, rfl⟩
        rw [← h_pp33]
        show OG m T_lp 47 #[sI zq, sI p2, sR d, sI zq, sI rr, sI pp33, sI z2] [(.ref d)]
        have hp_pp33 : pp33.toInt = ((bs.length + m32 : Nat) : Int) := by rw [h_pp33]; exact own_pos hp (by omega)
        refine og (XS.iload X_lp.here hx rfl (hb hby own_d370) rfl) ?_
        show OG m T_lp 49 #[sI zq, sI p2, sR d, sI zq, sI rr, sI pp33, sI z2] [(.int pp33), (.ref d)]
        obtain ⟨T34, X34, e34, st34⟩ := getS2 X_lp hx hZ hown (host := "") (Or.inl (tw hw 117 rfl)) Via.refl e_lp (S_DigitOnes.ext F_lp1.2) (g := (mkF m 49 #[sI zq, sI p2, sR d, sI zq, sI rr, sI pp33, sI z2] [(.int pp33), (.ref d)])) rfl (hb hby own_d371)
        refine own_go (fun t k => st34 t k) ?_
        show OG m T34 52 #[sI zq, sI p2, sR d, sI zq, sI rr, sI pp33, sI z2] [(.ref o_DigitOnes), (.int pp33), (.ref d)]
        refine og (XS.iload X34.here hx rfl (hb hby own_d372) rfl) ?_
        show OG m T34 54 #[sI zq, sI p2, sR d, sI zq, sI rr, sI pp33, sI z2] [(.int rr), (.ref o_DigitOnes), (.int pp33), (.ref d)]
        have vv35 := (V_own_ones.ext F_lp1.2)
        obtain ⟨cl35, Ar35, qk35, Sz35, Nn35, Hs35, Gs35⟩ := vv35
        have hin35 : ¬ (rr < 0 ∨ cl35.slots.size ≤ (rr).toNatClampNeg) := inb_of Sz35 ⟨(own_idx hrr).1, by rw [Int32.lt_iff_toInt_lt, hrr]; have e : (100 : Int32).toInt = 100 := rfl; omega⟩
        have hat35 : cl35.slots[(rr).toNatClampNeg]? = some (.int (Int32.ofNat (48 + vv / 10 ^ dt % 10))) := Hs35.at hin35 (own_one_at (own_idx hrr).2 rfl)
        refine own_go (fun t k => (X34.baloadBytes hx (j := rr) (v := (.int (Int32.ofNat (48 + vv / 10 ^ dt % 10)))) (by rw [e34]; exact Ar35.1) (State.isArrayOf_alike hZ.alike Ar35.2.1) Ar35.2.2 hin35 hat35 (g := (mkF m 54 #[sI zq, sI p2, sR d, sI zq, sI rr, sI pp33, sI z2] [(.int rr), (.ref o_DigitOnes), (.int pp33), (.ref d)])) rfl rfl (hb hby own_d373)) t k) ?_
        show OG m T34 55 #[sI zq, sI p2, sR d, sI zq, sI rr, sI pp33, sI z2] [(.int (Int32.ofNat (48 + vv / 10 ^ dt % 10))), (.int pp33), (.ref d)]
        have vv36 := F_lp0
        obtain ⟨cl36, Ar36, qk36, Sz36, Nn36, Hs36, Gs36⟩ := vv36
        have hin36 : ¬ (pp33 < 0 ∨ cl36.slots.size ≤ (pp33).toNatClampNeg) := inb_of Sz36 (own_lt_cap hp_pp33 (by omega))
        obtain ⟨T36, h36, X36, e36, W36, st36⟩ := stB X34 hx hZ e34 Ar36 (j := pp33) hin36 (g := (mkF m 55 #[sI zq, sI p2, sR d, sI zq, sI rr, sI pp33, sI z2] [(.int (Int32.ofNat (48 + vv / 10 ^ dt % 10))), (.int pp33), (.ref d)])) rfl rfl (hb hby own_d374)
        have F37 : Old Z n0 h36 := F_lp1.wr W36 g_d
        have N38 := Fr.snoc X36 N_lp g_d
        have K38 : Keep h0 h36 [d] := K_lp.wr W36 (Or.inl (List.mem_of_getElem? (i := 0) rfl))
        have Z38 : n0 ≤ h36.size := Nat.le_trans Z_lp (Keep.of_wr W36).1
        have F39 : Arv Z h36 d k .byte cap (own_B (bs ++ List.replicate m32 (0 : Int32) ++ ((Int32.ofNat (48 + vv / 10 ^ dt % 10)) :: (own_ds vv dt)))) (.int (0 : Int32)) := by
          have q := Arv.set Ar36 qk36 Sz36 Nn36 Hs36 Gs36 (fits_nar_byte _) W36 (bs.length + m32) ((own_idx hp_pp33).2) (own_filllen _ _ _)
          exact own_setv q (own_narb _) (own_fillV _ _ _ _)
        refine own_go (fun t k => st36 t k) ?_
        show OG m T36 56 #[sI zq, sI p2, sR d, sI zq, sI rr, sI pp33, sI z2] []
        have F40 : Arv Z h36 d k .byte cap (own_B (bs ++ List.replicate m32 (0 : Int32) ++ own_ds vv (dt + 1))) (.int (0 : Int32)) := F39
        obtain ⟨m41, rfl⟩ : ∃ z, m32 = z + 1 := ⟨m32 - 1, by omega⟩
        refine og (XS.aloadN X36.here hx rfl (hb hby own_d375) rfl rfl) ?_
        show OG m T36 57 #[sI zq, sI p2, sR d, sI zq, sI rr, sI pp33, sI z2] [(.ref d)]
        refine og (XS.iinc X36.here hx rfl (hb hby own_d376) rfl (l' := #[sI zq, sI p2, sR d, sI zq, sI rr, sI (pp33 + (-1 : Int32)), sI z2]) rfl) ?_
        show OG m T36 60 #[sI zq, sI p2, sR d, sI zq, sI rr, sI (pp33 + (-1 : Int32)), sI z2] [(.ref d)]
        obtain ⟨pp42, h_pp42⟩ : ∃ z, z = (pp33 + (-1 : Int32)) := ⟨_, rfl⟩
        rw [← h_pp42]
        show OG m T36 60 #[sI zq, sI p2, sR d, sI zq, sI rr, sI pp42, sI z2] [(.ref d)]
        have hp_pp42 : pp42.toInt = ((bs.length + m41 : Nat) : Int) := by rw [h_pp42]; exact own_pos hp_pp33 (by omega)
        refine og (XS.iload X36.here hx rfl (hb hby own_d377) rfl) ?_
        show OG m T36 62 #[sI zq, sI p2, sR d, sI zq, sI rr, sI pp42, sI z2] [(.int pp42), (.ref d)]
        obtain ⟨T43, X43, e43, st43⟩ := getS2 X36 hx hZ hown (host := "") (Or.inl (tw hw 205 rfl)) Via.refl e36 (S_DigitTens.ext F37.2) (g := (mkF m 62 #[sI zq, sI p2, sR d, sI zq, sI rr, sI pp42, sI z2] [(.int pp42), (.ref d)])) rfl (hb hby own_d378)
        refine own_go (fun t k => st43 t k) ?_
        show OG m T43 65 #[sI zq, sI p2, sR d, sI zq, sI rr, sI pp42, sI z2] [(.ref o_DigitTens), (.int pp42), (.ref d)]
        refine og (XS.iload X43.here hx rfl (hb hby own_d379) rfl) ?_
        show OG m T43 67 #[sI zq, sI p2, sR d, sI zq, sI rr, sI pp42, sI z2] [(.int rr), (.ref o_DigitTens), (.int pp42), (.ref d)]
        have vv44 := (V_own_tens.ext F37.2)
        obtain ⟨cl44, Ar44, qk44, Sz44, Nn44, Hs44, Gs44⟩ := vv44
        have hin44 : ¬ (rr < 0 ∨ cl44.slots.size ≤ (rr).toNatClampNeg) := inb_of Sz44 ⟨(own_idx hrr).1, by rw [Int32.lt_iff_toInt_lt, hrr]; have e : (100 : Int32).toInt = 100 := rfl; omega⟩
        have hat44 : cl44.slots[(rr).toNatClampNeg]? = some (.int (Int32.ofNat (48 + vv / 10 ^ (dt + 1) % 10))) := Hs44.at hin44 (own_ten_at (t := dt) (own_idx hrr).2 rfl)
        refine own_go (fun t k => (X43.baloadBytes hx (j := rr) (v := (.int (Int32.ofNat (48 + vv / 10 ^ (dt + 1) % 10)))) (by rw [e43]; exact Ar44.1) (State.isArrayOf_alike hZ.alike Ar44.2.1) Ar44.2.2 hin44 hat44 (g := (mkF m 67 #[sI zq, sI p2, sR d, sI zq, sI rr, sI pp42, sI z2] [(.int rr), (.ref o_DigitTens), (.int pp42), (.ref d)])) rfl rfl (hb hby own_d380)) t k) ?_
        show OG m T43 68 #[sI zq, sI p2, sR d, sI zq, sI rr, sI pp42, sI z2] [(.int (Int32.ofNat (48 + vv / 10 ^ (dt + 1) % 10))), (.int pp42), (.ref d)]
        have vv45 := F40
        obtain ⟨cl45, Ar45, qk45, Sz45, Nn45, Hs45, Gs45⟩ := vv45
        have hin45 : ¬ (pp42 < 0 ∨ cl45.slots.size ≤ (pp42).toNatClampNeg) := inb_of Sz45 (own_lt_cap hp_pp42 (by omega))
        obtain ⟨T45, h45, X45, e45, W45, st45⟩ := stB X43 hx hZ e43 Ar45 (j := pp42) hin45 (g := (mkF m 68 #[sI zq, sI p2, sR d, sI zq, sI rr, sI pp42, sI z2] [(.int (Int32.ofNat (48 + vv / 10 ^ (dt + 1) % 10))), (.int pp42), (.ref d)])) rfl rfl (hb hby own_d381)
        have F46 : Old Z n0 h45 := F37.wr W45 g_d
        have N47 := Fr.snoc X45 N38 g_d
        have K47 : Keep h0 h45 [d] := K38.wr W45 (Or.inl (List.mem_of_getElem? (i := 0) rfl))
        have Z47 : n0 ≤ h45.size := Nat.le_trans Z38 (Keep.of_wr W45).1
        have F48 : Arv Z h45 d k .byte cap (own_B (bs ++ List.replicate m41 (0 : Int32) ++ ((Int32.ofNat (48 + vv / 10 ^ (dt + 1) % 10)) :: (own_ds vv (dt + 1))))) (.int (0 : Int32)) := by
          have q := Arv.set Ar45 qk45 Sz45 Nn45 Hs45 Gs45 (fits_nar_byte _) W45 (bs.length + m41) ((own_idx hp_pp42).2) (own_filllen _ _ _)
          exact own_setv q (own_narb _) (own_fillV _ _ _ _)
        refine own_go (fun t k => st45 t k) ?_
        show OG m T45 69 #[sI zq, sI p2, sR d, sI zq, sI rr, sI pp42, sI z2] []
        have F49 : Arv Z h45 d k .byte cap (own_B (bs ++ List.replicate m41 (0 : Int32) ++ own_ds vv ((dt + 1) + 1))) (.int (0 : Int32)) := F48
        refine og (XS.goto X45.here hx rfl (pc0 := 69) (pc' := 22) rfl (hb hby own_d382) (by decide) (by decide)) ?_
        show OG m T45 22 #[sI zq, sI p2, sR d, sI zq, sI rr, sI pp42, sI z2] []
        exact ih (dt + 1 + 1) m41 zq pp42 _ _ T45 h45 _ X45 e45 N47 K47 Z47 F49 F46 hq hp_pp42 (by omega) (by omega) (Or.inr hl2) (by rw [← own_q2]; omega) (Or.inr ⟨_, rfl⟩) (Or.inr ⟨_, rfl⟩)
  refine og (XS.istore X0.here hx rfl (hb hby own_d383) rfl (l' := #[sI p1, sI p2, sR d, sU, sU, sI p2, sI z2]) rfl) ?_
  refine og (XS.iload X0.here hx rfl (hb hby own_d384) rfl) ?_
  show OG m s₁ 16 #[sI p1, sI p2, sR d, sU, sU, sI p2, sI z2] [(.int z2)]
  by_cases hc50 : z2 = (0 : Int32)
  · refine og (XS.ifNo X0.here hx rfl (hb hby own_d385) rfl ((if0 _ _).trans (teq hc50).2)) ?_
    show OG m s₁ 19 #[sI p1, sI p2, sR d, sU, sU, sI p2, sI z2] []
    refine og (XS.iloadN X0.here hx rfl (hb hby own_d386) rfl) ?_
    show OG m s₁ 20 #[sI p1, sI p2, sR d, sU, sU, sI p2, sI z2] [(.int p1)]
    refine og (XS.ineg X0.here hx rfl (hb hby own_d387) rfl) ?_
    refine og (XS.istoreN X0.here hx rfl (hb hby own_d388) rfl (l' := #[sI (-p1), sI p2, sR d, sU, sU, sI p2, sI z2]) rfl) ?_
    show OG m s₁ 22 #[sI (-p1), sI p2, sR d, sU, sU, sI p2, sI z2] []
    have hng : ¬ p1 < 0 := fun z => by rw [hp2 z] at hc50; exact absurd hc50 (by decide)
    have hz0 : (-p1).toInt = -((vv / 10 ^ 0 : Nat) : Int) := by rw [Nat.pow_zero, Nat.div_one]; rw [Int32.lt_iff_toInt_lt] at hng; have q1 := c_ineg p1; have q2 := rng32 (-p1); omega
    exact lp (vv + 1) 0 m0 (-p1) p2 _ _ s₁ h0 _ X0 e0 N0 K0 Z0 F1 O0 hz0 hpp hcb hsz0 (Or.inl rfl) (by rw [Nat.pow_zero, Nat.div_one]; omega) (Or.inl rfl) (Or.inl rfl)
  · refine og (XS.ifYes X0.here hx rfl (pc0 := 16) (pc' := 22) rfl (hb hby own_d385) rfl ((if0 _ _).trans (feq hc50).2) (by decide) (by decide)) ?_
    show OG m s₁ 22 #[sI p1, sI p2, sR d, sU, sU, sI p2, sI z2] []
    have hng : p1 < 0 := Decidable.byContradiction (fun z => hc50 (hn2 z))
    have hz0 : p1.toInt = -((vv / 10 ^ 0 : Nat) : Int) := by rw [Nat.pow_zero, Nat.div_one]; rw [Int32.lt_iff_toInt_lt] at hng; omega
    exact lp (vv + 1) 0 m0 p1 p2 _ _ s₁ h0 _ X0 e0 N0 K0 Z0 F1 O0 hz0 hpp hcb hsz0 (Or.inl rfl) (by rw [Nat.pow_zero, Nat.div_one]; omega) (Or.inl rfl) (Or.inl rfl)
theorem own_ef389 (m : MethodId) (a1 : Addr) (p1 : Int32) : entryFrame m #[(.ref a1), (.int p1)] 4 = mkF m 0 #[sR a1, sI p1, sU, sU] [] := by first | (simp [entryFrame, mkF, argsToLocals, Value.category]; done) | rfl
theorem own_d390 : decode jdk_68_method_32_code 0 = .ok (.aload_n 0, 1) := by decide +kernel
theorem own_d391 : decode jdk_68_method_32_code 1 = .ok (.getfield 79, 3) := by decide +kernel
theorem own_d392 : decode jdk_68_method_32_code 4 = .ok (.istore_n 2, 1) := by decide +kernel
theorem own_d393 : decode jdk_68_method_32_code 5 = .ok (.iload_n 2, 1) := by decide +kernel
theorem own_d394 : decode jdk_68_method_32_code 6 = .ok (.iload_n 1, 1) := by decide +kernel
theorem own_d395 : decode jdk_68_method_32_code 7 = .ok (.invokestatic 245, 3) := by decide +kernel
theorem own_d396 : decode jdk_68_method_32_code 10 = .ok (.iadd, 1) := by decide +kernel
theorem own_d397 : decode jdk_68_method_32_code 11 = .ok (.istore_n 3, 1) := by decide +kernel
theorem own_d398 : decode jdk_68_method_32_code 12 = .ok (.aload_n 0, 1) := by decide +kernel
theorem own_d399 : decode jdk_68_method_32_code 13 = .ok (.iload_n 3, 1) := by decide +kernel
theorem own_d400 : decode jdk_68_method_32_code 14 = .ok (.invokevirtual 100, 3) := by decide +kernel
theorem own_d401 : decode jdk_68_method_32_code 17 = .ok (.aload_n 0, 1) := by decide +kernel
theorem own_d402 : decode jdk_68_method_32_code 18 = .ok (.invokevirtual 83, 3) := by decide +kernel
theorem own_d403 : decode jdk_68_method_32_code 21 = .ok (.ifCond .eq 16, 3) := by decide +kernel
theorem own_d404 : decode jdk_68_method_32_code 24 = .ok (.iload_n 1, 1) := by decide +kernel
theorem own_d405 : decode jdk_68_method_32_code 25 = .ok (.iload_n 3, 1) := by decide +kernel
theorem own_d406 : decode jdk_68_method_32_code 26 = .ok (.aload_n 0, 1) := by decide +kernel
theorem own_d407 : decode jdk_68_method_32_code 27 = .ok (.getfield 15, 3) := by decide +kernel
theorem own_d408 : decode jdk_68_method_32_code 30 = .ok (.invokestatic 248, 3) := by decide +kernel
theorem own_pd409 : parseMethodDescriptor "(II[B)I" = some ⟨[.int, .int, (.array .byte)], some .int⟩ := by decide +kernel
theorem own_d410 : decode jdk_68_method_32_code 33 = .ok (.pop, 1) := by decide +kernel
theorem own_d411 : decode jdk_68_method_32_code 34 = .ok (.goto 14, 3) := by decide +kernel
theorem own_d412 : decode jdk_68_method_32_code 48 = .ok (.aload_n 0, 1) := by decide +kernel
theorem own_d413 : decode jdk_68_method_32_code 49 = .ok (.iload_n 3, 1) := by decide +kernel
theorem own_d414 : decode jdk_68_method_32_code 50 = .ok (.putfield 79, 3) := by decide +kernel
theorem own_d415 : decode jdk_68_method_32_code 53 = .ok (.aload_n 0, 1) := by decide +kernel
theorem own_d416 : decode jdk_68_method_32_code 54 = .ok (.areturn, 1) := by decide +kernel
def Q_own_api (Z : State) (a1 : Addr) (p1 : Int32) (d : Addr) (k : ClassId) (cap : Int32) (cnt : Int32) (bs : List Int32) (i_COMPACT_STRINGS : Int32) (o_DigitOnes : Addr) (o_DigitTens : Addr) (kc_own_ones : ClassId) (kc_own_tens : ClassId) (h0 : Heap) (n0 : Nat) (v : Option Value) (h : Heap) (L : List Loc) : Prop := ∃ xd : Addr, ∃ xk : ClassId, ∃ xc : Int32, v = some (.ref a1) ∧ Fr n0 L ∧ Keep h0 h [a1, d] ∧ Exa Z h a1 "java/lang/StringBuilder" ∧ Fld Z h a1 "java/lang/AbstractStringBuilder" "value" "[B" (.ref xd) ∧ Fld Z h a1 "java/lang/AbstractStringBuilder" "coder" "B" (.int (0 : Int32)) ∧ Fld Z h a1 "java/lang/AbstractStringBuilder" "count" "I" (.int (cnt + (own_ssz p1))) ∧ Exa Z h xd "[B" ∧ Arv Z h xd xk .byte xc (own_B (bs ++ own_txt p1)) (.int (0 : Int32)) ∧ (xd = d ∨ h0.size ≤ xd) ∧ (¬ xc < 0 ∧ xc.toInt ≤ 74) ∧ (((bs ++ own_txt p1).length : Int) ≤ xc.toInt)
set_option maxRecDepth 65536 in
set_option maxHeartbeats 40000000 in
theorem own_api (l : Launch) (Z : State) (a0 : Array Value) (hw : ∀ d ∈ tables_1, d.before a0 Z = true) (ws : List Jvm.Cond) (a1 : Addr) (p1 : Int32) (d : Addr) (k : ClassId) (cap : Int32) (cnt : Int32) (bs : List Int32) (i_COMPACT_STRINGS : Int32) (o_DigitOnes : Addr) (o_DigitTens : Addr) (kc_own_ones : ClassId) (kc_own_tens : ClassId) (h0 : Heap) (n0 : Nat) (Z0 : n0 ≤ h0.size) (O0 : Old Z n0 h0) (S_COMPACT_STRINGS : Sta Z Z.heap "java/lang/String" "COMPACT_STRINGS" "Z" (.int i_COMPACT_STRINGS)) (nz_i_COMPACT_STRINGS : i_COMPACT_STRINGS ≠ (0 : Int32)) (S_DigitOnes : Sta Z Z.heap "java/lang/Integer" "DigitOnes" "[B" (.ref o_DigitOnes)) (V_own_ones : Arv Z Z.heap o_DigitOnes kc_own_ones .byte (100 : Int32) (own_B own_ones) (.int (0 : Int32))) (S_DigitTens : Sta Z Z.heap "java/lang/Integer" "DigitTens" "[B" (.ref o_DigitTens)) (V_own_tens : Arv Z Z.heap o_DigitTens kc_own_tens .byte (100 : Int32) (own_B own_tens) (.int (0 : Int32))) (f0_0 : Exa Z h0 a1 "java/lang/StringBuilder") (f0_1 : Fld Z h0 a1 "java/lang/AbstractStringBuilder" "value" "[B" (.ref d)) (f0_2 : Fld Z h0 a1 "java/lang/AbstractStringBuilder" "coder" "B" (.int (0 : Int32))) (f0_3 : Fld Z h0 a1 "java/lang/AbstractStringBuilder" "count" "I" (.int cnt)) (f0_4 : Exa Z h0 d "[B") (f0_5 : Arv Z h0 d k .byte cap (own_B bs) (.int (0 : Int32))) (g_a1 : n0 ≤ a1) (g_d : n0 ≤ d) (hcap : ¬ cap < 0 ∧ cap.toInt ≤ 74) (hlen : (bs.length : Int) ≤ cap.toInt) (hcnt : cnt.toInt = (bs.length : Int)) (hroom : (bs.length : Int) + 11 ≤ 37) (hne : a1 ≠ d) :
    MetFree l (⟨"java/lang/AbstractStringBuilder", "append", "(I)Ljava/lang/AbstractStringBuilder;"⟩ : MethodName) (head1 (Jvm.Cond.code (⟨"java/lang/AbstractStringBuilder", "append", "(I)Ljava/lang/AbstractStringBuilder;"⟩ : MethodName) jdk_68_method_32_code 4 (some (.object "java/lang/AbstractStringBuilder")) :: ws) ({ frames := 4, cells := 1, slots := 74, locals := 62 } : Room)) (fun a U => a = #[(.ref a1), (.int p1)] ∧ Z.Warmed39 U.vm ∧ U.heap = h0) (fun _ _ _ _ _ => True) (fun _ U o U' => ∃ v L, o = .returned v ∧ Q_own_api Z a1 p1 d k cap cnt bs i_COMPACT_STRINGS o_DigitOnes o_DigitTens kc_own_ones kc_own_tens h0 n0 v U'.heap L ∧ FrameEnd U o U' L ({ frames := 4, cells := 1, slots := 74, locals := 62 } : Room).cells ({ frames := 4, cells := 1, slots := 74, locals := 62 } : Room).slots) := by
  refine MetFree.of_bodySF (plainFor_of_name own_pn1) hisR ?_
  intro p e s m args below meth c s₁ Bd hml0 hP hK
  obtain ⟨rfl, hZ, hh⟩ := hP
  have hx := Bd.exec
  have hby := Bd.bytes
  have hml : c.maxLocals = 4 := hml0
  have hown : s.vm.findClass "java/lang/AbstractStringBuilder" = some m.cls := findClass_of_methodNamed Bd.named
  have hnm := (name_of_methodNamed Bd.named Bd.method).1
  have X0 : Stand p l e ({ frames := 4, cells := 1, slots := 74, locals := 62 } : Room) s m #[(.ref a1), (.int p1)] below meth c s₁ [] 0 0 := Stand.of_body Bd
  have e0 : s₁.heap = h0 := by rw [← hh, Bd.state]; rfl
  have N0 := Fr.nil n0
  have K0 := Keep.refl h0 [a1, d]
  refine own_go (fun t k => castTop (own_ef389 m a1 p1) k) ?_
  show OG m s₁ 0 #[sR a1, sI p1, sU, sU] []
  refine og (XS.aloadN X0.here hx rfl (hb hby own_d390) rfl rfl) ?_
  show OG m s₁ 1 #[sR a1, sI p1, sU, sU] [(.ref a1)]
  obtain ⟨T1, X1, e1, st1⟩ := getF X0 hx hZ hown (host := "") (Or.inl (tw hw 37 rfl)) Via.refl e0 f0_3 (g := (mkF m 1 #[sR a1, sI p1, sU, sU] [(.ref a1)])) rfl rfl (hb hby own_d391)
  refine own_go (fun t k => st1 t k) ?_
  show OG m T1 4 #[sR a1, sI p1, sU, sU] [(.int cnt)]
  refine og (XS.istoreN X1.here hx rfl (hb hby own_d392) rfl (l' := #[sR a1, sI p1, sI cnt, sU]) rfl) ?_
  refine og (XS.iloadN X1.here hx rfl (hb hby own_d393) rfl) ?_
  show OG m T1 6 #[sR a1, sI p1, sI cnt, sU] [(.int cnt)]
  refine og (XS.iloadN X1.here hx rfl (hb hby own_d394) rfl) ?_
  show OG m T1 7 #[sR a1, sI p1, sI cnt, sU] [(.int p1), (.int cnt)]
  obtain ⟨_, _, ⟨T2, L2, k2, n2⟩, -, X2, ⟨Lc2, hQ2, l2, y2, z2⟩, st2⟩ := Jvm.LawKit.callS X1 hx (y := (⟨"java/lang/Integer", "stringSize", "(I)I"⟩ : MethodName)) hown (mvT hZ (tw hw 110 rfl)) (mvT hZ (tw hw 111 rfl)) (mvT hZ (tw hw 112 rfl)) (mvT hZ (tw hw 113 rfl)) (by decide) (backOf (W := 1) (own_ssC l Z a0 hw [] p1 h0 n0 Z0) hZ (tw hw 113 rfl) (tw hw 112 rfl) (by decide) (by decide)) (g := (mkF m 7 #[sR a1, sI p1, sI cnt, sU] [(.int p1), (.int cnt)])) rfl (by rw [hml]; rfl) (argsL := [(.int p1)]) (rest := [(.int cnt)]) (lenOf own_pd126 rfl) rfl (by show 2 * 0 + _ ≤ _; exact Nat.le_of_eq rfl) (hb hby own_d395) (fun _ _ => ⟨rfl, e1, (by decide : 0 + 0 ≤ _), (by decide : 0 + 0 ≤ _)⟩)
  dsimp only [Pt.U, Pt.locs, Pt.cells, Pt.slots] at X2 l2 y2 z2 st2 hQ2
  subst l2 y2 z2
  obtain ⟨rfl, Nq2, eq2⟩ := hQ2
  have N2 := Fr.app N0 Nq2
  have e2 : T2.heap = h0 := eq2
  refine own_go (fun t k => st2 t k) ?_
  show OG m T2 10 #[sR a1, sI p1, sI cnt, sU] [(.int (own_ssz p1)), (.int cnt)]
  refine og (XS.iadd X2.here hx rfl (hb hby own_d396) rfl) ?_
  refine og (XS.istoreN X2.here hx rfl (hb hby own_d397) rfl (l' := #[sR a1, sI p1, sI cnt, sI (cnt + (own_ssz p1))]) rfl) ?_
  show OG m T2 12 #[sR a1, sI p1, sI cnt, sI (cnt + (own_ssz p1))] []
  refine og (XS.aloadN X2.here hx rfl (hb hby own_d398) rfl rfl) ?_
  refine og (XS.iloadN X2.here hx rfl (hb hby own_d399) rfl) ?_
  show OG m T2 14 #[sR a1, sI p1, sI cnt, sI (cnt + (own_ssz p1))] [(.int (cnt + (own_ssz p1))), (.ref a1)]
  have hnr := own_nd_rng p1.toInt.natAbs
  have hsr := own_sg_le p1
  have hc1 : (cnt + (own_ssz p1)).toInt = (bs.length : Int) + ((own_nd p1.toInt.natAbs + own_sg p1 : Nat) : Int) := own_cnt hcnt (own_ssz_val p1) (by omega) (by omega)
  obtain ⟨cq3, q3, q3'⟩ := f0_0.cell
  obtain ⟨_, _, ⟨T3, L3, k3, n3⟩, -, X3, ⟨Lc3, hQ3, l3, y3, z3⟩, st3⟩ := X2.privateBack hx (y := (⟨"java/lang/AbstractStringBuilder", "ensureCapacityInternal", "(I)V"⟩ : MethodName)) hown (mvT hZ (tw hw 39 rfl)) (mvT hZ (tw hw 40 rfl)) (own_selself (mvT hZ (tw hw 42 rfl)) (Cond.privateMethod_at (mvP hZ (tw hw 41 rfl) (args := #[]))) (mvT hZ (tw hw 40 rfl)) (by decide)) (Cond.privateMethod_at (mvP hZ (tw hw 41 rfl) (args := #[]))) (mvT hZ (tw hw 43 rfl)) (by decide) (backOf (W := 0) (own_ensure l Z a0 hw [] a1 (cnt + (own_ssz p1)) d k cap cnt bs h0 n0 Z0 f0_0 f0_1 f0_2 f0_3 f0_4 f0_5 g_a1 hcap hlen (by rw [hc1]; omega) hne) hZ (tw hw 43 rfl) (tw hw 15 rfl) (by decide) (by decide)) (g := (mkF m 14 #[sR a1, sI p1, sI cnt, sI (cnt + (own_ssz p1))] [(.int (cnt + (own_ssz p1))), (.ref a1)])) rfl (by rw [hml]; rfl) (Steps.refl _) (a := a1) (by rw [e2]; exact q3) q3' (argsL := [(.int (cnt + (own_ssz p1)))]) (rest := []) (lenOf own_pd20 rfl) rfl (by show 2 * 0 + _ ≤ _; exact Nat.le_of_eq rfl) (hb hby own_d400) (fun _ _ => ⟨rfl, e2, (by decide : 0 + 1 ≤ _), (by decide : 0 + 74 ≤ _)⟩)
  dsimp only [Pt.U, Pt.locs, Pt.cells, Pt.slots] at X3 l3 y3 z3 st3 hQ3
  subst l3 y3 z3
  obtain ⟨xd_3, xk_3, xc_3, rfl, Nq3, Kq3, Fq3_0, Fq3_1, Fq3_2, Fq3_3, Fq3_4, Fq3_5, mq3_mv, mq3_cb, mq3_cm⟩ := hQ3
  have N3 := Fr.app N2 Nq3
  have ne4 : a1 ≠ xd_3 := own_ne_or mq3_mv hne f0_0.lt
  have g_xd_3 : n0 ≤ xd_3 := own_ge_or mq3_mv g_d Z0
  have sz_xd_3 : xd_3 ∈ [a1, d] ∨ h0.size ≤ xd_3 := own_in_or mq3_mv (List.mem_of_getElem? (i := 1) rfl) K0.1
  have F5 : Exa Z T3.heap a1 "java/lang/StringBuilder" := f0_0.keep Kq3
  have F6 : Exa Z T3.heap d "[B" := f0_4.keep Kq3
  have F7 : Arv Z T3.heap d k .byte cap (own_B bs) (.int (0 : Int32)) := f0_5.keep Kq3 (ninS (Ne.symm hne) nin0)
  have F8 : Old Z n0 T3.heap := O0.keep Kq3 (allS g_a1 all0)
  have K3 : Keep h0 T3.heap [a1, d] := K0.trans Kq3 (allS (Or.inl (List.mem_of_getElem? (i := 0) rfl)) all0)
  have Z3 : n0 ≤ T3.heap.size := Nat.le_trans Z0 Kq3.1
  refine og (st3.trans) ?_
  show OG m T3 17 #[sR a1, sI p1, sI cnt, sI (cnt + (own_ssz p1))] []
  refine og (XS.aloadN X3.here hx rfl (hb hby own_d401) rfl rfl) ?_
  show OG m T3 18 #[sR a1, sI p1, sI cnt, sI (cnt + (own_ssz p1))] [(.ref a1)]
  obtain ⟨cq9, kq9, q9a, q9b, q9c⟩ := isOf hZ rfl Fq3_0
  obtain ⟨_, _, ⟨T9, L9, k9, n9⟩, -, X9, ⟨Lc9, hQ9, l9, y9, z9⟩, st9⟩ := X3.virtualBack hx (y := (⟨"java/lang/AbstractStringBuilder", "isLatin1", "()Z"⟩ : MethodName)) (z := (⟨"java/lang/AbstractStringBuilder", "isLatin1", "()Z"⟩ : MethodName)) hown (mvT hZ (tw hw 44 rfl)) (mvT hZ (tw hw 45 rfl)) (notFace_of_selects (args := #[]) (mvT hZ (tw hw 47 rfl))) (mvT hZ (tw hw 47 rfl)) (mvT hZ (tw hw 46 rfl)) (by decide) (backOf (W := 0) (own_il l Z a0 hw [] a1 i_COMPACT_STRINGS T3.heap n0 Z3 F8 S_COMPACT_STRINGS nz_i_COMPACT_STRINGS Fq3_2) hZ (tw hw 48 rfl) (tw hw 15 rfl) (by decide) (by decide)) q9a q9c (g := (mkF m 18 #[sR a1, sI p1, sI cnt, sI (cnt + (own_ssz p1))] [(.ref a1)])) rfl (by rw [hml]; rfl) (Steps.refl _) (argsL := []) (rest := []) (lenOf own_pd160 rfl) rfl (by show 2 * 0 + _ ≤ _; exact Nat.le_of_eq rfl) (hb hby own_d402) (fun _ _ => ⟨rfl, rfl, (by decide : 1 + 0 ≤ _), (by decide : 74 + 0 ≤ _)⟩)
  dsimp only [Pt.U, Pt.locs, Pt.cells, Pt.slots] at X9 l9 y9 z9 st9 hQ9
  subst l9 y9 z9
  obtain ⟨rfl, Nq9, eq9⟩ := hQ9
  have N9 := Fr.app N3 Nq9
  have e9 : T9.heap = T3.heap := eq9
  refine og (st9.trans) ?_
  show OG m T9 21 #[sR a1, sI p1, sI cnt, sI (cnt + (own_ssz p1))] [(.int (1 : Int32))]
  refine og (XS.ifNo X9.here hx rfl (hb hby own_d403) rfl ((if0 _ _).trans (feq (by decide : ¬ ((1 : Int32) = (0 : Int32)))).1)) ?_
  refine og (XS.iloadN X9.here hx rfl (hb hby own_d404) rfl) ?_
  show OG m T9 25 #[sR a1, sI p1, sI cnt, sI (cnt + (own_ssz p1))] [(.int p1)]
  refine og (XS.iloadN X9.here hx rfl (hb hby own_d405) rfl) ?_
  refine og (XS.aloadN X9.here hx rfl (hb hby own_d406) rfl rfl) ?_
  show OG m T9 27 #[sR a1, sI p1, sI cnt, sI (cnt + (own_ssz p1))] [(.ref a1), (.int (cnt + (own_ssz p1))), (.int p1)]
  obtain ⟨T10, X10, e10, st10⟩ := getF X9 hx hZ hown (host := "") (Or.inl (tw hw 23 rfl)) Via.refl e9 Fq3_1 (g := (mkF m 27 #[sR a1, sI p1, sI cnt, sI (cnt + (own_ssz p1))] [(.ref a1), (.int (cnt + (own_ssz p1))), (.int p1)])) rfl rfl (hb hby own_d407)
  refine own_go (fun t k => st10 t k) ?_
  show OG m T10 30 #[sR a1, sI p1, sI cnt, sI (cnt + (own_ssz p1))] [(.ref xd_3), (.int (cnt + (own_ssz p1))), (.int p1)]
  obtain ⟨_, _, ⟨T11, L11, k11, n11⟩, -, X11, ⟨Lc11, hQ11, l11, y11, z11⟩, st11⟩ := Jvm.LawKit.callS X10 hx (y := (⟨"java/lang/Integer", "getChars", "(II[B)I"⟩ : MethodName)) hown (mvT hZ (tw hw 114 rfl)) (mvT hZ (tw hw 115 rfl)) (mvT hZ (tw hw 112 rfl)) (mvT hZ (tw hw 116 rfl)) (by decide) (backOf (W := 0) (own_gc l Z a0 hw [] p1 (cnt + (own_ssz p1)) xd_3 xk_3 xc_3 bs o_DigitOnes o_DigitTens kc_own_ones kc_own_tens T3.heap n0 Z3 F8 S_DigitOnes V_own_ones S_DigitTens V_own_tens Fq3_5 g_xd_3 mq3_cb (by rw [hc1]; omega) mq3_cm) hZ (tw hw 116 rfl) (tw hw 112 rfl) (by decide) (by decide)) (g := (mkF m 30 #[sR a1, sI p1, sI cnt, sI (cnt + (own_ssz p1))] [(.ref xd_3), (.int (cnt + (own_ssz p1))), (.int p1)])) rfl (by rw [hml]; rfl) (argsL := [(.int p1), (.int (cnt + (own_ssz p1))), (.ref xd_3)]) (rest := []) (lenOf own_pd409 rfl) rfl (by show 2 * 0 + _ ≤ _; exact Nat.le_of_eq rfl) (hb hby own_d408) (fun _ _ => ⟨rfl, e10, (by decide : 1 + 0 ≤ _), (by decide : 74 + 0 ≤ _)⟩)
  dsimp only [Pt.U, Pt.locs, Pt.cells, Pt.slots] at X11 l11 y11 z11 st11 hQ11
  subst l11 y11 z11
  obtain ⟨zr_11, rfl, Nq11, Kq11, Fq11_0⟩ := hQ11
  have N11 := Fr.app N9 Nq11
  have F12 : Exa Z T11.heap a1 "java/lang/StringBuilder" := Fq3_0.keep Kq11
  have F13 : Old Z n0 T11.heap := F8.keep Kq11 (allS g_xd_3 all0)
  have F14 : Fld Z T11.heap a1 "java/lang/AbstractStringBuilder" "value" "[B" (.ref xd_3) := Fq3_1.keep Kq11 (ninS ne4 nin0)
  have F15 : Fld Z T11.heap a1 "java/lang/AbstractStringBuilder" "coder" "B" (.int (0 : Int32)) := Fq3_2.keep Kq11 (ninS ne4 nin0)
  have F16 : Fld Z T11.heap a1 "java/lang/AbstractStringBuilder" "count" "I" (.int cnt) := Fq3_3.keep Kq11 (ninS ne4 nin0)
  have F17 : Exa Z T11.heap xd_3 "[B" := Fq3_4.keep Kq11
  have K11 : Keep h0 T11.heap [a1, d] := K3.trans Kq11 (allS sz_xd_3 all0)
  have Z11 : n0 ≤ T11.heap.size := Nat.le_trans Z3 Kq11.1
  refine own_go (fun t k => st11 t k) ?_
  show OG m T11 33 #[sR a1, sI p1, sI cnt, sI (cnt + (own_ssz p1))] [(.int zr_11)]
  refine og (XS.pop X11.here hx rfl (hb hby own_d410) rfl rfl) ?_
  refine og (XS.goto X11.here hx rfl (pc0 := 34) (pc' := 48) rfl (hb hby own_d411) (by decide) (by decide)) ?_
  show OG m T11 48 #[sR a1, sI p1, sI cnt, sI (cnt + (own_ssz p1))] []
  refine og (XS.aloadN X11.here hx rfl (hb hby own_d412) rfl rfl) ?_
  refine og (XS.iloadN X11.here hx rfl (hb hby own_d413) rfl) ?_
  show OG m T11 50 #[sR a1, sI p1, sI cnt, sI (cnt + (own_ssz p1))] [(.int (cnt + (own_ssz p1))), (.ref a1)]
  obtain ⟨T18, h18, X18, e18, W18, st18⟩ := putF X11 hx hZ hown (host := "") (Or.inl (tw hw 37 rfl)) Via.refl rfl F16 F12 (Or.inl (tw hw 38 rfl)) (tw hw 6 rfl) (ty := .int) (by decide) rfl rfl (g := (mkF m 50 #[sR a1, sI p1, sI cnt, sI (cnt + (own_ssz p1))] [(.int (cnt + (own_ssz p1))), (.ref a1)])) rfl rfl (hb hby own_d414)
  have F19 : Exa Z h18 a1 "java/lang/StringBuilder" := F12.wr W18
  have F20 : Old Z n0 h18 := F13.wr W18 g_a1
  have F21 : Fld Z h18 a1 "java/lang/AbstractStringBuilder" "value" "[B" (.ref xd_3) := F14.other W18 (Or.inr (slot_ne (Or.inl (tw hw 24 rfl)) (Or.inl (tw hw 38 rfl)) (by decide) (t := (.array .byte)) (t' := .int) (by decide) (by decide)))
  have F22 : Fld Z h18 a1 "java/lang/AbstractStringBuilder" "coder" "B" (.int (0 : Int32)) := F15.other W18 (Or.inr (slot_ne (Or.inl (tw hw 26 rfl)) (Or.inl (tw hw 38 rfl)) (by decide) (t := .byte) (t' := .int) (by decide) (by decide)))
  have F23 : Fld Z h18 a1 "java/lang/AbstractStringBuilder" "count" "I" (.int (cnt + (own_ssz p1))) := F16.same W18
  have F24 : Exa Z h18 xd_3 "[B" := F17.wr W18
  have F25 : Arv Z h18 xd_3 xk_3 .byte xc_3 (own_B (bs ++ own_txt p1)) (.int (0 : Int32)) := Fq11_0.other W18 (Ne.symm ne4)
  have N26 := Fr.snoc X18 N11 g_a1
  have K26 : Keep h0 h18 [a1, d] := K11.wr W18 (Or.inl (List.mem_of_getElem? (i := 0) rfl))
  have Z26 : n0 ≤ h18.size := Nat.le_trans Z11 (Keep.of_wr W18).1
  refine own_go (fun t k => st18 t k) ?_
  show OG m T18 53 #[sR a1, sI p1, sI cnt, sI (cnt + (own_ssz p1))] []
  refine og (XS.aloadN X18.here hx rfl (hb hby own_d415) rfl rfl) ?_
  show OG m T18 54 #[sR a1, sI p1, sI cnt, sI (cnt + (own_ssz p1))] [(.ref a1)]
  obtain ⟨fs, hr, hrun, hended, hW, hsame⟩ := X18.leave (v := some (.ref a1)) (fun h => by rw [Bd.returns] at h; cases h)
  have hlast : Steps p.tables e below (T18.setTop (mkF m 54 #[sR a1, sI p1, sI cnt, sI (cnt + (own_ssz p1))] [(.ref a1)])) (T18.setFrames fs) := by
    exact retOut X18 hx (t := (.object "java/lang/AbstractStringBuilder")) Bd.returns rfl (Or.inr (Or.inr (Or.inr (Or.inr ⟨rfl, rfl, rfl⟩)))) (hb hby own_d416) hr
  refine ⟨_, _, hlast, hrun, hended, _, _, rfl, ?_, ⟨_, rfl⟩, hW, hsame.mono (by decide) (by decide)⟩
  show Q_own_api Z a1 p1 d k cap cnt bs i_COMPACT_STRINGS o_DigitOnes o_DigitTens kc_own_ones kc_own_tens h0 n0 _ T18.heap _
  rw [e18]
  exact ⟨xd_3, xk_3, xc_3, rfl, N26, K26, F19, F21, F22, F23, F24, F25, mq3_mv, mq3_cb, (by rw [List.length_append, own_txt_len]; have q := mq3_cm; rw [hc1] at q; omega)⟩
theorem own_ef417 (m : MethodId) (a1 : Addr) (p1 : Int32) : entryFrame m #[(.ref a1), (.int p1)] 2 = mkF m 0 #[sR a1, sI p1] [] := by first | (simp [entryFrame, mkF, argsToLocals, Value.category]; done) | rfl
theorem own_d418 : decode jdk_67_method_15_code 0 = .ok (.aload_n 0, 1) := by decide +kernel
theorem own_d419 : decode jdk_67_method_15_code 1 = .ok (.iload_n 1, 1) := by decide +kernel
theorem own_d420 : decode jdk_67_method_15_code 2 = .ok (.invokespecial 53, 3) := by decide +kernel
theorem own_pd421 : parseMethodDescriptor "(I)Ljava/lang/AbstractStringBuilder;" = some ⟨[.int], some (.object "java/lang/AbstractStringBuilder")⟩ := by decide +kernel
theorem own_d422 : decode jdk_67_method_15_code 5 = .ok (.pop, 1) := by decide +kernel
theorem own_d423 : decode jdk_67_method_15_code 6 = .ok (.aload_n 0, 1) := by decide +kernel
theorem own_d424 : decode jdk_67_method_15_code 7 = .ok (.areturn, 1) := by decide +kernel
def Q_own_sai (Z : State) (a1 : Addr) (p1 : Int32) (d : Addr) (k : ClassId) (cap : Int32) (cnt : Int32) (bs : List Int32) (i_COMPACT_STRINGS : Int32) (o_DigitOnes : Addr) (o_DigitTens : Addr) (kc_own_ones : ClassId) (kc_own_tens : ClassId) (h0 : Heap) (n0 : Nat) (v : Option Value) (h : Heap) (L : List Loc) : Prop := ∃ xd : Addr, ∃ xk : ClassId, ∃ xc : Int32, v = some (.ref a1) ∧ Fr n0 L ∧ Keep h0 h [a1, d] ∧ Exa Z h a1 "java/lang/StringBuilder" ∧ Fld Z h a1 "java/lang/AbstractStringBuilder" "value" "[B" (.ref xd) ∧ Fld Z h a1 "java/lang/AbstractStringBuilder" "coder" "B" (.int (0 : Int32)) ∧ Fld Z h a1 "java/lang/AbstractStringBuilder" "count" "I" (.int (cnt + (own_ssz p1))) ∧ Exa Z h xd "[B" ∧ Arv Z h xd xk .byte xc (own_B (bs ++ own_txt p1)) (.int (0 : Int32)) ∧ (xd = d ∨ h0.size ≤ xd) ∧ (¬ xc < 0 ∧ xc.toInt ≤ 74) ∧ (((bs ++ own_txt p1).length : Int) ≤ xc.toInt)
set_option maxRecDepth 65536 in
set_option maxHeartbeats 40000000 in
theorem own_sai (l : Launch) (Z : State) (a0 : Array Value) (hw : ∀ d ∈ tables_1, d.before a0 Z = true) (ws : List Jvm.Cond) (a1 : Addr) (p1 : Int32) (d : Addr) (k : ClassId) (cap : Int32) (cnt : Int32) (bs : List Int32) (i_COMPACT_STRINGS : Int32) (o_DigitOnes : Addr) (o_DigitTens : Addr) (kc_own_ones : ClassId) (kc_own_tens : ClassId) (h0 : Heap) (n0 : Nat) (Z0 : n0 ≤ h0.size) (O0 : Old Z n0 h0) (S_COMPACT_STRINGS : Sta Z Z.heap "java/lang/String" "COMPACT_STRINGS" "Z" (.int i_COMPACT_STRINGS)) (nz_i_COMPACT_STRINGS : i_COMPACT_STRINGS ≠ (0 : Int32)) (S_DigitOnes : Sta Z Z.heap "java/lang/Integer" "DigitOnes" "[B" (.ref o_DigitOnes)) (V_own_ones : Arv Z Z.heap o_DigitOnes kc_own_ones .byte (100 : Int32) (own_B own_ones) (.int (0 : Int32))) (S_DigitTens : Sta Z Z.heap "java/lang/Integer" "DigitTens" "[B" (.ref o_DigitTens)) (V_own_tens : Arv Z Z.heap o_DigitTens kc_own_tens .byte (100 : Int32) (own_B own_tens) (.int (0 : Int32))) (f0_0 : Exa Z h0 a1 "java/lang/StringBuilder") (f0_1 : Fld Z h0 a1 "java/lang/AbstractStringBuilder" "value" "[B" (.ref d)) (f0_2 : Fld Z h0 a1 "java/lang/AbstractStringBuilder" "coder" "B" (.int (0 : Int32))) (f0_3 : Fld Z h0 a1 "java/lang/AbstractStringBuilder" "count" "I" (.int cnt)) (f0_4 : Exa Z h0 d "[B") (f0_5 : Arv Z h0 d k .byte cap (own_B bs) (.int (0 : Int32))) (g_a1 : n0 ≤ a1) (g_d : n0 ≤ d) (hcap : ¬ cap < 0 ∧ cap.toInt ≤ 74) (hlen : (bs.length : Int) ≤ cap.toInt) (hcnt : cnt.toInt = (bs.length : Int)) (hroom : (bs.length : Int) + 11 ≤ 37) (hne : a1 ≠ d) :
    MetFree l (⟨"java/lang/StringBuilder", "append", "(I)Ljava/lang/StringBuilder;"⟩ : MethodName) (head1 (Jvm.Cond.code (⟨"java/lang/StringBuilder", "append", "(I)Ljava/lang/StringBuilder;"⟩ : MethodName) jdk_67_method_15_code 2 (some (.object "java/lang/StringBuilder")) :: ws) ({ frames := 5, cells := 1, slots := 74, locals := 77 } : Room)) (fun a U => a = #[(.ref a1), (.int p1)] ∧ Z.Warmed39 U.vm ∧ U.heap = h0) (fun _ _ _ _ _ => True) (fun _ U o U' => ∃ v L, o = .returned v ∧ Q_own_sai Z a1 p1 d k cap cnt bs i_COMPACT_STRINGS o_DigitOnes o_DigitTens kc_own_ones kc_own_tens h0 n0 v U'.heap L ∧ FrameEnd U o U' L ({ frames := 5, cells := 1, slots := 74, locals := 77 } : Room).cells ({ frames := 5, cells := 1, slots := 74, locals := 77 } : Room).slots) := by
  refine MetFree.of_bodySF (plainFor_of_name own_pn16) hisR ?_
  intro p e s m args below meth c s₁ Bd hml0 hP hK
  obtain ⟨rfl, hZ, hh⟩ := hP
  have hx := Bd.exec
  have hby := Bd.bytes
  have hml : c.maxLocals = 2 := hml0
  have hown : s.vm.findClass "java/lang/StringBuilder" = some m.cls := findClass_of_methodNamed Bd.named
  have hnm := (name_of_methodNamed Bd.named Bd.method).1
  have X0 : Stand p l e ({ frames := 5, cells := 1, slots := 74, locals := 77 } : Room) s m #[(.ref a1), (.int p1)] below meth c s₁ [] 0 0 := Stand.of_body Bd
  have e0 : s₁.heap = h0 := by rw [← hh, Bd.state]; rfl
  have N0 := Fr.nil n0
  have K0 := Keep.refl h0 [a1, d]
  refine own_go (fun t k => castTop (own_ef417 m a1 p1) k) ?_
  show OG m s₁ 0 #[sR a1, sI p1] []
  refine og (XS.aloadN X0.here hx rfl (hb hby own_d418) rfl rfl) ?_
  refine og (XS.iloadN X0.here hx rfl (hb hby own_d419) rfl) ?_
  show OG m s₁ 2 #[sR a1, sI p1] [(.int p1), (.ref a1)]
  obtain ⟨_, _, ⟨T1, L1, k1, n1⟩, -, X1, ⟨Lc1, hQ1, l1, y1, z1⟩, st1⟩ := superBack X0 hx hZ (y := (⟨"java/lang/AbstractStringBuilder", "append", "(I)Ljava/lang/AbstractStringBuilder;"⟩ : MethodName)) hown (tw hw 106 rfl) (own_sameself (y := (⟨"java/lang/AbstractStringBuilder", "append", "(I)Ljava/lang/AbstractStringBuilder;"⟩ : MethodName)) (z := (⟨"java/lang/AbstractStringBuilder", "ensureCapacityInternal", "(I)V"⟩ : MethodName)) rfl (tw hw 107 rfl) (tw hw 42 rfl) (by decide)) (tw hw 107 rfl) (tw hw 34 rfl) (by decide) (backOf (W := 0) (own_api l Z a0 hw [] a1 p1 d k cap cnt bs i_COMPACT_STRINGS o_DigitOnes o_DigitTens kc_own_ones kc_own_tens h0 n0 Z0 O0 S_COMPACT_STRINGS nz_i_COMPACT_STRINGS S_DigitOnes V_own_ones S_DigitTens V_own_tens f0_0 f0_1 f0_2 f0_3 f0_4 f0_5 g_a1 g_d hcap hlen hcnt hroom hne) hZ (tw hw 109 rfl) (tw hw 15 rfl) (by decide) (by decide)) e0 (Ins.self f0_0) (g := (mkF m 2 #[sR a1, sI p1] [(.int p1), (.ref a1)])) rfl (by rw [hml]; rfl) (tw hw 109 rfl) (argsL := [(.int p1)]) (rest := []) (lenOf own_pd421 rfl) rfl (by show 2 * 0 + _ ≤ _; exact Nat.le_of_eq rfl) (hb hby own_d420) (fun _ _ => ⟨rfl, e0, (by decide : 0 + 1 ≤ _), (by decide : 0 + 74 ≤ _)⟩)
  dsimp only [Pt.U, Pt.locs, Pt.cells, Pt.slots] at X1 l1 y1 z1 st1 hQ1
  subst l1 y1 z1
  obtain ⟨xd_1, xk_1, xc_1, rfl, Nq1, Kq1, Fq1_0, Fq1_1, Fq1_2, Fq1_3, Fq1_4, Fq1_5, mq1_mv, mq1_cb, mq1_cl⟩ := hQ1
  have N1 := Fr.app N0 Nq1
  have ne2 : a1 ≠ xd_1 := own_ne_or mq1_mv hne f0_0.lt
  have g_xd_1 : n0 ≤ xd_1 := own_ge_or mq1_mv g_d Z0
  have sz_xd_1 : xd_1 ∈ [a1, d] ∨ h0.size ≤ xd_1 := own_in_or mq1_mv (List.mem_of_getElem? (i := 1) rfl) K0.1
  have F3 : Exa Z T1.heap a1 "java/lang/StringBuilder" := f0_0.keep Kq1
  have F4 : Exa Z T1.heap d "[B" := f0_4.keep Kq1
  have F5 : Old Z n0 T1.heap := O0.keep Kq1 (allS g_a1 (allS g_d all0))
  have K1 : Keep h0 T1.heap [a1, d] := K0.trans Kq1 (allS (Or.inl (List.mem_of_getElem? (i := 0) rfl)) (allS (Or.inl (List.mem_of_getElem? (i := 1) rfl)) all0))
  have Z1 : n0 ≤ T1.heap.size := Nat.le_trans Z0 Kq1.1
  refine og (st1.trans) ?_
  show OG m T1 5 #[sR a1, sI p1] [(.ref a1)]
  refine og (XS.pop X1.here hx rfl (hb hby own_d422) rfl rfl) ?_
  refine og (XS.aloadN X1.here hx rfl (hb hby own_d423) rfl rfl) ?_
  show OG m T1 7 #[sR a1, sI p1] [(.ref a1)]
  obtain ⟨fs, hr, hrun, hended, hW, hsame⟩ := X1.leave (v := some (.ref a1)) (fun h => by rw [Bd.returns] at h; cases h)
  have hlast : Steps p.tables e below (T1.setTop (mkF m 7 #[sR a1, sI p1] [(.ref a1)])) (T1.setFrames fs) := by
    exact retOut X1 hx (t := (.object "java/lang/StringBuilder")) Bd.returns rfl (Or.inr (Or.inr (Or.inr (Or.inr ⟨rfl, rfl, rfl⟩)))) (hb hby own_d424) hr
  refine ⟨_, _, hlast, hrun, hended, _, _, rfl, ?_, ⟨_, rfl⟩, hW, hsame.mono (by decide) (by decide)⟩
  show Q_own_sai Z a1 p1 d k cap cnt bs i_COMPACT_STRINGS o_DigitOnes o_DigitTens kc_own_ones kc_own_tens h0 n0 _ T1.heap _
  exact ⟨xd_1, xk_1, xc_1, rfl, N1, K1, Fq1_0, Fq1_1, Fq1_2, Fq1_3, Fq1_4, Fq1_5, mq1_mv, mq1_cb, mq1_cl⟩
theorem own_ef425 (m : MethodId) (a1 : Addr) : entryFrame m #[(.ref a1)] 1 = mkF m 0 #[sR a1] [] := by first | (simp [entryFrame, mkF, argsToLocals, Value.category]; done) | rfl
theorem own_d426 : decode jdk_68_method_64_code 0 = .ok (.aload_n 0, 1) := by decide +kernel
theorem own_d427 : decode jdk_68_method_64_code 1 = .ok (.getfield 15, 3) := by decide +kernel
theorem own_d428 : decode jdk_68_method_64_code 4 = .ok (.areturn, 1) := by decide +kernel
def Q_own_gv (Z : State) (a1 : Addr) (d : Addr) (h0 : Heap) (n0 : Nat) (v : Option Value) (h : Heap) (L : List Loc) : Prop := v = some (.ref d) ∧ Fr n0 L ∧ h = h0
set_option maxRecDepth 65536 in
set_option maxHeartbeats 40000000 in
theorem own_gv (l : Launch) (Z : State) (a0 : Array Value) (hw : ∀ d ∈ tables_1, d.before a0 Z = true) (ws : List Jvm.Cond) (a1 : Addr) (d : Addr) (h0 : Heap) (n0 : Nat) (Z0 : n0 ≤ h0.size) (f0_0 : Exa Z h0 a1 "java/lang/StringBuilder") (f0_1 : Fld Z h0 a1 "java/lang/AbstractStringBuilder" "value" "[B" (.ref d)) :
    MetFree l (⟨"java/lang/AbstractStringBuilder", "getValue", "()[B"⟩ : MethodName) (head1 (Jvm.Cond.code (⟨"java/lang/AbstractStringBuilder", "getValue", "()[B"⟩ : MethodName) jdk_68_method_64_code 1 (some (.array .byte)) :: ws) ({ frames := 0, cells := 0, slots := 0, locals := 0 } : Room)) (fun a U => a = #[(.ref a1)] ∧ Z.Warmed39 U.vm ∧ U.heap = h0) (fun _ _ _ _ _ => True) (fun _ U o U' => ∃ v L, o = .returned v ∧ Q_own_gv Z a1 d h0 n0 v U'.heap L ∧ FrameEnd U o U' L ({ frames := 0, cells := 0, slots := 0, locals := 0 } : Room).cells ({ frames := 0, cells := 0, slots := 0, locals := 0 } : Room).slots) := by
  refine MetFree.of_bodySF (plainFor_of_name own_pn1) hisR ?_
  intro p e s m args below meth c s₁ Bd hml0 hP hK
  obtain ⟨rfl, hZ, hh⟩ := hP
  have hx := Bd.exec
  have hby := Bd.bytes
  have hml : c.maxLocals = 1 := hml0
  have hown : s.vm.findClass "java/lang/AbstractStringBuilder" = some m.cls := findClass_of_methodNamed Bd.named
  have hnm := (name_of_methodNamed Bd.named Bd.method).1
  have X0 : Stand p l e ({ frames := 0, cells := 0, slots := 0, locals := 0 } : Room) s m #[(.ref a1)] below meth c s₁ [] 0 0 := Stand.of_body Bd
  have e0 : s₁.heap = h0 := by rw [← hh, Bd.state]; rfl
  have N0 := Fr.nil n0
  have K0 := Keep.refl h0 []
  refine own_go (fun t k => castTop (own_ef425 m a1) k) ?_
  show OG m s₁ 0 #[sR a1] []
  refine og (XS.aloadN X0.here hx rfl (hb hby own_d426) rfl rfl) ?_
  show OG m s₁ 1 #[sR a1] [(.ref a1)]
  obtain ⟨T1, X1, e1, st1⟩ := getF X0 hx hZ hown (host := "") (Or.inl (tw hw 23 rfl)) Via.refl e0 f0_1 (g := (mkF m 1 #[sR a1] [(.ref a1)])) rfl rfl (hb hby own_d427)
  refine own_go (fun t k => st1 t k) ?_
  show OG m T1 4 #[sR a1] [(.ref d)]
  obtain ⟨fs, hr, hrun, hended, hW, hsame⟩ := X1.leave (v := some (.ref d)) (fun h => by rw [Bd.returns] at h; cases h)
  have hlast : Steps p.tables e below (T1.setTop (mkF m 4 #[sR a1] [(.ref d)])) (T1.setFrames fs) := by
    exact retOut X1 hx (t := (.array .byte)) Bd.returns rfl (Or.inr (Or.inr (Or.inr (Or.inr ⟨rfl, rfl, rfl⟩)))) (hb hby own_d428) hr
  refine ⟨_, _, hlast, hrun, hended, _, _, rfl, ?_, ⟨_, rfl⟩, hW, hsame.mono (by decide) (by decide)⟩
  show Q_own_gv Z a1 d h0 n0 _ T1.heap _
  rw [e1]
  exact ⟨rfl, N0, rfl⟩
theorem own_ef429 (m : MethodId) (a1 : Addr) : entryFrame m #[(.ref a1)] 1 = mkF m 0 #[sR a1] [] := by first | (simp [entryFrame, mkF, argsToLocals, Value.category]; done) | rfl
theorem own_d430 : decode jdk_68_method_6_code 0 = .ok (.aload_n 0, 1) := by decide +kernel
theorem own_d431 : decode jdk_68_method_6_code 1 = .ok (.getfield 79, 3) := by decide +kernel
theorem own_d432 : decode jdk_68_method_6_code 4 = .ok (.ireturn, 1) := by decide +kernel
def Q_own_al (Z : State) (a1 : Addr) (cnt : Int32) (h0 : Heap) (n0 : Nat) (v : Option Value) (h : Heap) (L : List Loc) : Prop := v = some (.int cnt) ∧ Fr n0 L ∧ h = h0
set_option maxRecDepth 65536 in
set_option maxHeartbeats 40000000 in
theorem own_al (l : Launch) (Z : State) (a0 : Array Value) (hw : ∀ d ∈ tables_1, d.before a0 Z = true) (ws : List Jvm.Cond) (a1 : Addr) (cnt : Int32) (h0 : Heap) (n0 : Nat) (Z0 : n0 ≤ h0.size) (f0_0 : Exa Z h0 a1 "java/lang/StringBuilder") (f0_1 : Fld Z h0 a1 "java/lang/AbstractStringBuilder" "count" "I" (.int cnt)) :
    MetFree l (⟨"java/lang/AbstractStringBuilder", "length", "()I"⟩ : MethodName) (head1 (Jvm.Cond.code (⟨"java/lang/AbstractStringBuilder", "length", "()I"⟩ : MethodName) jdk_68_method_6_code 1 (some .int) :: ws) ({ frames := 0, cells := 0, slots := 0, locals := 0 } : Room)) (fun a U => a = #[(.ref a1)] ∧ Z.Warmed39 U.vm ∧ U.heap = h0) (fun _ _ _ _ _ => True) (fun _ U o U' => ∃ v L, o = .returned v ∧ Q_own_al Z a1 cnt h0 n0 v U'.heap L ∧ FrameEnd U o U' L ({ frames := 0, cells := 0, slots := 0, locals := 0 } : Room).cells ({ frames := 0, cells := 0, slots := 0, locals := 0 } : Room).slots) := by
  refine MetFree.of_bodySF (plainFor_of_name own_pn1) hisR ?_
  intro p e s m args below meth c s₁ Bd hml0 hP hK
  obtain ⟨rfl, hZ, hh⟩ := hP
  have hx := Bd.exec
  have hby := Bd.bytes
  have hml : c.maxLocals = 1 := hml0
  have hown : s.vm.findClass "java/lang/AbstractStringBuilder" = some m.cls := findClass_of_methodNamed Bd.named
  have hnm := (name_of_methodNamed Bd.named Bd.method).1
  have X0 : Stand p l e ({ frames := 0, cells := 0, slots := 0, locals := 0 } : Room) s m #[(.ref a1)] below meth c s₁ [] 0 0 := Stand.of_body Bd
  have e0 : s₁.heap = h0 := by rw [← hh, Bd.state]; rfl
  have N0 := Fr.nil n0
  have K0 := Keep.refl h0 []
  refine own_go (fun t k => castTop (own_ef429 m a1) k) ?_
  show OG m s₁ 0 #[sR a1] []
  refine og (XS.aloadN X0.here hx rfl (hb hby own_d430) rfl rfl) ?_
  show OG m s₁ 1 #[sR a1] [(.ref a1)]
  obtain ⟨T1, X1, e1, st1⟩ := getF X0 hx hZ hown (host := "") (Or.inl (tw hw 37 rfl)) Via.refl e0 f0_1 (g := (mkF m 1 #[sR a1] [(.ref a1)])) rfl rfl (hb hby own_d431)
  refine own_go (fun t k => st1 t k) ?_
  show OG m T1 4 #[sR a1] [(.int cnt)]
  obtain ⟨fs, hr, hrun, hended, hW, hsame⟩ := X1.leave (v := some (.int cnt)) (fun h => by rw [Bd.returns] at h; cases h)
  refine ⟨_, _, retI X1 hx Bd.returns (hb hby own_d432) hr, hrun, hended, _, _, rfl, ?_, ⟨_, rfl⟩, hW, hsame.mono (by decide) (by decide)⟩
  show Q_own_al Z a1 cnt h0 n0 _ T1.heap _
  rw [e1]
  exact ⟨rfl, N0, rfl⟩
theorem own_ef433 (m : MethodId) (a1 : Addr) : entryFrame m #[(.ref a1)] 1 = mkF m 0 #[sR a1] [] := by first | (simp [entryFrame, mkF, argsToLocals, Value.category]; done) | rfl
theorem own_d434 : decode jdk_67_method_93_code 0 = .ok (.aload_n 0, 1) := by decide +kernel
theorem own_d435 : decode jdk_67_method_93_code 1 = .ok (.invokespecial 343, 3) := by decide +kernel
theorem own_d436 : decode jdk_67_method_93_code 4 = .ok (.ireturn, 1) := by decide +kernel
def Q_own_sbl (Z : State) (a1 : Addr) (cnt : Int32) (h0 : Heap) (n0 : Nat) (v : Option Value) (h : Heap) (L : List Loc) : Prop := v = some (.int cnt) ∧ Fr n0 L ∧ h = h0
set_option maxRecDepth 65536 in
set_option maxHeartbeats 40000000 in
theorem own_sbl (l : Launch) (Z : State) (a0 : Array Value) (hw : ∀ d ∈ tables_1, d.before a0 Z = true) (ws : List Jvm.Cond) (a1 : Addr) (cnt : Int32) (h0 : Heap) (n0 : Nat) (Z0 : n0 ≤ h0.size) (f0_0 : Exa Z h0 a1 "java/lang/StringBuilder") (f0_1 : Fld Z h0 a1 "java/lang/AbstractStringBuilder" "count" "I" (.int cnt)) :
    MetFree l (⟨"java/lang/StringBuilder", "length", "()I"⟩ : MethodName) (head1 (Jvm.Cond.code (⟨"java/lang/StringBuilder", "length", "()I"⟩ : MethodName) jdk_67_method_93_code 1 (some .int) :: ws) ({ frames := 1, cells := 0, slots := 0, locals := 12 } : Room)) (fun a U => a = #[(.ref a1)] ∧ Z.Warmed39 U.vm ∧ U.heap = h0) (fun _ _ _ _ _ => True) (fun _ U o U' => ∃ v L, o = .returned v ∧ Q_own_sbl Z a1 cnt h0 n0 v U'.heap L ∧ FrameEnd U o U' L ({ frames := 1, cells := 0, slots := 0, locals := 12 } : Room).cells ({ frames := 1, cells := 0, slots := 0, locals := 12 } : Room).slots) := by
  refine MetFree.of_bodySF (plainFor_of_name own_pn16) hisR ?_
  intro p e s m args below meth c s₁ Bd hml0 hP hK
  obtain ⟨rfl, hZ, hh⟩ := hP
  have hx := Bd.exec
  have hby := Bd.bytes
  have hml : c.maxLocals = 1 := hml0
  have hown : s.vm.findClass "java/lang/StringBuilder" = some m.cls := findClass_of_methodNamed Bd.named
  have hnm := (name_of_methodNamed Bd.named Bd.method).1
  have X0 : Stand p l e ({ frames := 1, cells := 0, slots := 0, locals := 12 } : Room) s m #[(.ref a1)] below meth c s₁ [] 0 0 := Stand.of_body Bd
  have e0 : s₁.heap = h0 := by rw [← hh, Bd.state]; rfl
  have N0 := Fr.nil n0
  have K0 := Keep.refl h0 []
  refine own_go (fun t k => castTop (own_ef433 m a1) k) ?_
  show OG m s₁ 0 #[sR a1] []
  refine og (XS.aloadN X0.here hx rfl (hb hby own_d434) rfl rfl) ?_
  show OG m s₁ 1 #[sR a1] [(.ref a1)]
  obtain ⟨_, _, ⟨T1, L1, k1, n1⟩, -, X1, ⟨Lc1, hQ1, l1, y1, z1⟩, st1⟩ := superBack X0 hx hZ (y := (⟨"java/lang/AbstractStringBuilder", "length", "()I"⟩ : MethodName)) hown (tw hw 143 rfl) (own_sameself (y := (⟨"java/lang/AbstractStringBuilder", "length", "()I"⟩ : MethodName)) (z := (⟨"java/lang/AbstractStringBuilder", "ensureCapacityInternal", "(I)V"⟩ : MethodName)) rfl (tw hw 139 rfl) (tw hw 42 rfl) (by decide)) (tw hw 139 rfl) (tw hw 34 rfl) (by decide) (backOf (W := 0) (own_al l Z a0 hw [] a1 cnt h0 n0 Z0 f0_0 f0_1) hZ (tw hw 144 rfl) (tw hw 15 rfl) (by decide) (by decide)) e0 (Ins.self f0_0) (g := (mkF m 1 #[sR a1] [(.ref a1)])) rfl (by rw [hml]; rfl) (tw hw 144 rfl) (argsL := []) (rest := []) (lenOf own_pd252 rfl) rfl (by show 2 * 0 + _ ≤ _; exact Nat.le_of_eq rfl) (hb hby own_d435) (fun _ _ => ⟨rfl, e0, (by decide : 0 + 0 ≤ _), (by decide : 0 + 0 ≤ _)⟩)
  dsimp only [Pt.U, Pt.locs, Pt.cells, Pt.slots] at X1 l1 y1 z1 st1 hQ1
  subst l1 y1 z1
  obtain ⟨rfl, Nq1, eq1⟩ := hQ1
  have N1 := Fr.app N0 Nq1
  have e1 : T1.heap = h0 := eq1
  refine og (st1.trans) ?_
  show OG m T1 4 #[sR a1] [(.int cnt)]
  obtain ⟨fs, hr, hrun, hended, hW, hsame⟩ := X1.leave (v := some (.int cnt)) (fun h => by rw [Bd.returns] at h; cases h)
  refine ⟨_, _, retI X1 hx Bd.returns (hb hby own_d436) hr, hrun, hended, _, _, rfl, ?_, ⟨_, rfl⟩, hW, hsame.mono (by decide) (by decide)⟩
  show Q_own_sbl Z a1 cnt h0 n0 _ T1.heap _
  rw [e1]
  exact ⟨rfl, N1, rfl⟩
theorem own_ef437 (m : MethodId) (p1 : Int32) (p2 : Int32) : entryFrame m #[(.int p1), (.int p2)] 2 = mkF m 0 #[sI p1, sI p2] [] := by first | (simp [entryFrame, mkF, argsToLocals, Value.category]; done) | rfl
theorem own_d438 : decode jdk_65_method_131_code 0 = .ok (.iload_n 1, 1) := by decide +kernel
theorem own_d439 : decode jdk_65_method_131_code 1 = .ok (.iload_n 0, 1) := by decide +kernel
theorem own_d440 : decode jdk_65_method_131_code 2 = .ok (.if_icmp .ge 35, 3) := by decide +kernel
theorem own_d441 : decode jdk_65_method_131_code 37 = .ok (.return_, 1) := by decide +kernel
def Q_own_chl (Z : State) (p1 : Int32) (p2 : Int32) (h0 : Heap) (n0 : Nat) (v : Option Value) (h : Heap) (L : List Loc) : Prop := v = none ∧ Fr n0 L ∧ h = h0
set_option maxRecDepth 65536 in
set_option maxHeartbeats 40000000 in
theorem own_chl (l : Launch) (Z : State) (a0 : Array Value) (hw : ∀ d ∈ tables_1, d.before a0 Z = true) (ws : List Jvm.Cond) (p1 : Int32) (p2 : Int32) (h0 : Heap) (n0 : Nat) (Z0 : n0 ≤ h0.size) (hle : ¬ p2 < p1) :
    MetFree l (⟨"java/util/Arrays", "checkLength", "(II)V"⟩ : MethodName) (head1 (Jvm.Cond.code (⟨"java/util/Arrays", "checkLength", "(II)V"⟩ : MethodName) jdk_65_method_131_code 2 none :: ws) ({ frames := 0, cells := 0, slots := 0, locals := 0 } : Room)) (fun a U => a = #[(.int p1), (.int p2)] ∧ Z.Warmed39 U.vm ∧ U.heap = h0) (fun _ _ _ _ _ => True) (fun _ U o U' => ∃ v L, o = .returned v ∧ Q_own_chl Z p1 p2 h0 n0 v U'.heap L ∧ FrameEnd U o U' L ({ frames := 0, cells := 0, slots := 0, locals := 0 } : Room).cells ({ frames := 0, cells := 0, slots := 0, locals := 0 } : Room).slots) := by
  refine MetFree.of_bodySF (plainFor_of_name own_pn89) hisR ?_
  intro p e s m args below meth c s₁ Bd hml0 hP hK
  obtain ⟨rfl, hZ, hh⟩ := hP
  have hx := Bd.exec
  have hby := Bd.bytes
  have hml : c.maxLocals = 2 := hml0
  have hown : s.vm.findClass "java/util/Arrays" = some m.cls := findClass_of_methodNamed Bd.named
  have hnm := (name_of_methodNamed Bd.named Bd.method).1
  have X0 : Stand p l e ({ frames := 0, cells := 0, slots := 0, locals := 0 } : Room) s m #[(.int p1), (.int p2)] below meth c s₁ [] 0 0 := Stand.of_body Bd
  have e0 : s₁.heap = h0 := by rw [← hh, Bd.state]; rfl
  have N0 := Fr.nil n0
  have K0 := Keep.refl h0 []
  refine own_go (fun t k => castTop (own_ef437 m p1 p2) k) ?_
  show OG m s₁ 0 #[sI p1, sI p2] []
  refine og (XS.iloadN X0.here hx rfl (hb hby own_d438) rfl) ?_
  refine og (XS.iloadN X0.here hx rfl (hb hby own_d439) rfl) ?_
  show OG m s₁ 2 #[sI p1, sI p2] [(.int p1), (.int p2)]
  refine og (XS.icmpYes X0.here hx rfl (pc0 := 2) (pc' := 37) rfl (hb hby own_d440) rfl (flt hle).2.1 (by decide) (by decide)) ?_
  show OG m s₁ 37 #[sI p1, sI p2] []
  obtain ⟨fs, hr, hrun, hended, hW, hsame⟩ := X0.leave (v := none) (fun _ => rfl)
  refine ⟨_, _, X0.returnOut hx Bd.returns (hb hby own_d441) hr, hrun, hended, _, _, rfl, ?_, ⟨_, rfl⟩, hW, hsame.mono (by decide) (by decide)⟩
  show Q_own_chl Z p1 p2 h0 n0 _ s₁.heap _
  rw [e0]
  exact ⟨rfl, N0, rfl⟩
theorem own_ef442 (m : MethodId) (d : Addr) (p2 : Int32) : entryFrame m #[(.ref d), (.int (0 : Int32)), (.int p2)] 5 = mkF m 0 #[sR d, sI (0 : Int32), sI p2, sU, sU] [] := by first | (simp [entryFrame, mkF, argsToLocals, Value.category]; done) | rfl
theorem own_d443 : decode jdk_65_method_133_code 0 = .ok (.iload_n 1, 1) := by decide +kernel
theorem own_d444 : decode jdk_65_method_133_code 1 = .ok (.iload_n 2, 1) := by decide +kernel
theorem own_d445 : decode jdk_65_method_133_code 2 = .ok (.invokestatic 343, 3) := by decide +kernel
theorem own_pd446 : parseMethodDescriptor "(II)V" = some ⟨[.int, .int], none⟩ := by decide +kernel
theorem own_d447 : decode jdk_65_method_133_code 5 = .ok (.iload_n 2, 1) := by decide +kernel
theorem own_d448 : decode jdk_65_method_133_code 6 = .ok (.iload_n 1, 1) := by decide +kernel
theorem own_d449 : decode jdk_65_method_133_code 7 = .ok (.isub, 1) := by decide +kernel
theorem own_d450 : decode jdk_65_method_133_code 8 = .ok (.istore_n 3, 1) := by decide +kernel
theorem own_d451 : decode jdk_65_method_133_code 9 = .ok (.iload_n 3, 1) := by decide +kernel
theorem own_d452 : decode jdk_65_method_133_code 10 = .ok (.newarray .byte, 2) := by decide +kernel
theorem own_d453 : decode jdk_65_method_133_code 12 = .ok (.astore 4, 2) := by decide +kernel
theorem own_d454 : decode jdk_65_method_133_code 14 = .ok (.aload_n 0, 1) := by decide +kernel
theorem own_d455 : decode jdk_65_method_133_code 15 = .ok (.iload_n 1, 1) := by decide +kernel
theorem own_d456 : decode jdk_65_method_133_code 16 = .ok (.aload 4, 2) := by decide +kernel
theorem own_d457 : decode jdk_65_method_133_code 18 = .ok (.iconst 0, 1) := by decide +kernel
theorem own_d458 : decode jdk_65_method_133_code 19 = .ok (.aload_n 0, 1) := by decide +kernel
theorem own_d459 : decode jdk_65_method_133_code 20 = .ok (.arraylength, 1) := by decide +kernel
theorem own_d460 : decode jdk_65_method_133_code 21 = .ok (.iload_n 1, 1) := by decide +kernel
theorem own_d461 : decode jdk_65_method_133_code 22 = .ok (.isub, 1) := by decide +kernel
theorem own_d462 : decode jdk_65_method_133_code 23 = .ok (.iload_n 3, 1) := by decide +kernel
theorem own_d463 : decode jdk_65_method_133_code 24 = .ok (.invokestatic 304, 3) := by decide +kernel
theorem own_d464 : decode jdk_65_method_133_code 27 = .ok (.invokestatic 150, 3) := by decide +kernel
theorem own_d465 : decode jdk_65_method_133_code 30 = .ok (.aload 4, 2) := by decide +kernel
theorem own_d466 : decode jdk_65_method_133_code 32 = .ok (.areturn, 1) := by decide +kernel
def Q_own_crb (Z : State) (d : Addr) (p2 : Int32) (k : ClassId) (cap : Int32) (bs : List Int32) (h0 : Heap) (n0 : Nat) (v : Option Value) (h : Heap) (L : List Loc) : Prop := ∃ xd : Addr, ∃ xk : ClassId, v = some (.ref xd) ∧ Fr n0 L ∧ Keep h0 h [] ∧ Exa Z h xd "[B" ∧ Arv Z h xd xk .byte p2 (own_B bs) (.int (0 : Int32)) ∧ (h0.size ≤ xd)
set_option maxRecDepth 65536 in
set_option maxHeartbeats 40000000 in
theorem own_crb (l : Launch) (Z : State) (a0 : Array Value) (hw : ∀ d ∈ tables_1, d.before a0 Z = true) (ws : List Jvm.Cond) (d : Addr) (p2 : Int32) (k : ClassId) (cap : Int32) (bs : List Int32) (h0 : Heap) (n0 : Nat) (Z0 : n0 ≤ h0.size) (f0_0 : Exa Z h0 d "[B") (f0_1 : Arv Z h0 d k .byte cap (own_B bs) (.int (0 : Int32))) (hcap : ¬ cap < 0 ∧ cap.toInt ≤ 74) (hlen : (bs.length : Int) ≤ cap.toInt) (hp : p2.toInt = (bs.length : Int)) :
    MetFree l (⟨"java/util/Arrays", "copyOfRangeByte", "([BII)[B"⟩ : MethodName) (head1 (Jvm.Cond.code (⟨"java/util/Arrays", "copyOfRangeByte", "([BII)[B"⟩ : MethodName) jdk_65_method_133_code 5 (some (.array .byte)) :: ws) ({ frames := 1, cells := 1, slots := 74, locals := 18 } : Room)) (fun a U => a = #[(.ref d), (.int (0 : Int32)), (.int p2)] ∧ Z.Warmed39 U.vm ∧ U.heap = h0) (fun _ _ _ _ _ => True) (fun _ U o U' => ∃ v L, o = .returned v ∧ Q_own_crb Z d p2 k cap bs h0 n0 v U'.heap L ∧ FrameEnd U o U' L ({ frames := 1, cells := 1, slots := 74, locals := 18 } : Room).cells ({ frames := 1, cells := 1, slots := 74, locals := 18 } : Room).slots) := by
  refine MetFree.of_bodySF (plainFor_of_name own_pn89) hisR ?_
  intro p e s m args below meth c s₁ Bd hml0 hP hK
  obtain ⟨rfl, hZ, hh⟩ := hP
  have hx := Bd.exec
  have hby := Bd.bytes
  have hml : c.maxLocals = 5 := hml0
  have hown : s.vm.findClass "java/util/Arrays" = some m.cls := findClass_of_methodNamed Bd.named
  have hnm := (name_of_methodNamed Bd.named Bd.method).1
  have X0 : Stand p l e ({ frames := 1, cells := 1, slots := 74, locals := 18 } : Room) s m #[(.ref d), (.int (0 : Int32)), (.int p2)] below meth c s₁ [] 0 0 := Stand.of_body Bd
  have e0 : s₁.heap = h0 := by rw [← hh, Bd.state]; rfl
  have N0 := Fr.nil n0
  have K0 := Keep.refl h0 []
  refine own_go (fun t k => castTop (own_ef442 m d p2) k) ?_
  show OG m s₁ 0 #[sR d, sI (0 : Int32), sI p2, sU, sU] []
  have hnp : ¬ p2 < 0 := own_nn (by omega)
  have hq1 := own_clamp hcap.1
  have hq2 := own_clamp hnp
  refine og (XS.iloadN X0.here hx rfl (hb hby own_d443) rfl) ?_
  refine og (XS.iloadN X0.here hx rfl (hb hby own_d444) rfl) ?_
  show OG m s₁ 2 #[sR d, sI (0 : Int32), sI p2, sU, sU] [(.int p2), (.int (0 : Int32))]
  obtain ⟨_, _, ⟨T1, L1, k1, n1⟩, -, X1, ⟨Lc1, hQ1, l1, y1, z1⟩, st1⟩ := Jvm.LawKit.callS X0 hx (y := (⟨"java/util/Arrays", "checkLength", "(II)V"⟩ : MethodName)) hown (mvT hZ (tw hw 153 rfl)) (mvT hZ (tw hw 154 rfl)) (mvT hZ (tw hw 148 rfl)) (mvT hZ (tw hw 155 rfl)) (by decide) (backOf (W := 0) (own_chl l Z a0 hw [] (0 : Int32) p2 h0 n0 Z0 hnp) hZ (tw hw 155 rfl) (tw hw 148 rfl) (by decide) (by decide)) (g := (mkF m 2 #[sR d, sI (0 : Int32), sI p2, sU, sU] [(.int p2), (.int (0 : Int32))])) rfl (by rw [hml]; rfl) (argsL := [(.int (0 : Int32)), (.int p2)]) (rest := []) (lenOf own_pd446 rfl) rfl (by show 2 * 0 + _ ≤ _; exact Nat.le_of_eq rfl) (hb hby own_d445) (fun _ _ => ⟨rfl, e0, (by decide : 0 + 0 ≤ _), (by decide : 0 + 0 ≤ _)⟩)
  dsimp only [Pt.U, Pt.locs, Pt.cells, Pt.slots] at X1 l1 y1 z1 st1 hQ1
  subst l1 y1 z1
  obtain ⟨rfl, Nq1, eq1⟩ := hQ1
  have N1 := Fr.app N0 Nq1
  have e1 : T1.heap = h0 := eq1
  refine own_go (fun t k => st1 t k) ?_
  show OG m T1 5 #[sR d, sI (0 : Int32), sI p2, sU, sU] []
  refine og (XS.iloadN X1.here hx rfl (hb hby own_d447) rfl) ?_
  refine og (XS.iloadN X1.here hx rfl (hb hby own_d448) rfl) ?_
  show OG m T1 7 #[sR d, sI (0 : Int32), sI p2, sU, sU] [(.int (0 : Int32)), (.int p2)]
  refine og (XS.isub X1.here hx rfl (hb hby own_d449) rfl) ?_
  show OG m T1 8 #[sR d, sI (0 : Int32), sI p2, sU, sU] [(.int (p2 - (0 : Int32)))]
  rw [own_sub0 p2]
  show OG m T1 8 #[sR d, sI (0 : Int32), sI p2, sU, sU] [(.int p2)]
  refine og (XS.istoreN X1.here hx rfl (hb hby own_d450) rfl (l' := #[sR d, sI (0 : Int32), sI p2, sI p2, sU]) rfl) ?_
  refine og (XS.iloadN X1.here hx rfl (hb hby own_d451) rfl) ?_
  show OG m T1 10 #[sR d, sI (0 : Int32), sI p2, sI p2, sU] [(.int p2)]
  obtain ⟨T2, h2, k2, X2, e2, E2, A2, B2, st2⟩ := newPE X1 hx hZ (tw hw 22 rfl) e1 (g := (mkF m 10 #[sR d, sI (0 : Int32), sI p2, sI p2, sU] [(.int p2)])) rfl (hb hby own_d452) rfl hnp (cap := 74) (by omega) (by decide) (by decide) (by decide) (ad := "[B") (by decide)
  obtain ⟨b2, g2⟩ : ∃ z, z = h0.size := ⟨_, rfl⟩
  rw [← g2] at A2 B2 st2
  have ne3 : d ≠ b2 := Nat.ne_of_lt (Nat.lt_of_lt_of_le f0_0.lt (Nat.le_of_eq g2.symm))
  have g_b2 : n0 ≤ b2 := Nat.le_trans Z0 (Nat.le_of_eq g2.symm)
  have sz_b2 : h0.size ≤ b2 := Nat.le_trans K0.1 (Nat.le_of_eq g2.symm)
  have F4 : Exa Z h2 d "[B" := f0_0.ext E2
  have F5 : Arv Z h2 d k .byte cap (own_B bs) (.int (0 : Int32)) := f0_1.ext E2
  have K6 : Keep h0 h2 [] := K0.ext E2
  have Z6 : n0 ≤ h2.size := Nat.le_trans Z0 E2.1
  have F7 : Arv Z h2 b2 k2 .byte p2 [] (.int (0 : Int32)) := Arv.new A2 hnp
  refine own_go (fun t k => st2 t k) ?_
  show OG m T2 12 #[sR d, sI (0 : Int32), sI p2, sI p2, sU] [(.ref b2)]
  refine og (XS.astore X2.here hx rfl (hb hby own_d453) rfl rfl (l' := #[sR d, sI (0 : Int32), sI p2, sI p2, sR b2]) rfl) ?_
  refine og (XS.aloadN X2.here hx rfl (hb hby own_d454) rfl rfl) ?_
  show OG m T2 15 #[sR d, sI (0 : Int32), sI p2, sI p2, sR b2] [(.ref d)]
  refine og (XS.iloadN X2.here hx rfl (hb hby own_d455) rfl) ?_
  refine og (XS.aload X2.here hx rfl (hb hby own_d456) rfl rfl) ?_
  show OG m T2 18 #[sR d, sI (0 : Int32), sI p2, sI p2, sR b2] [(.ref b2), (.int (0 : Int32)), (.ref d)]
  refine og (XS.iconst X2.here hx rfl (hb hby own_d457)) ?_
  refine og (XS.aloadN X2.here hx rfl (hb hby own_d458) rfl rfl) ?_
  show OG m T2 20 #[sR d, sI (0 : Int32), sI p2, sI p2, sR b2] [(.ref d), (.int (0 : Int32)), (.ref b2), (.int (0 : Int32)), (.ref d)]
  have vv8 := F5
  obtain ⟨cl8, Ar8, qk8, Sz8, Nn8, Hs8, Gs8⟩ := vv8
  have st8 : ∀ t, Steps p.tables e below (T2.setTop (mkF m 21 #[sR d, sI (0 : Int32), sI p2, sI p2, sR b2] [(.int cap), (.int (0 : Int32)), (.ref b2), (.int (0 : Int32)), (.ref d)])) t → Steps p.tables e below (T2.setTop (mkF m 20 #[sR d, sI (0 : Int32), sI p2, sI p2, sR b2] [(.ref d), (.int (0 : Int32)), (.ref b2), (.int (0 : Int32)), (.ref d)])) t := fun t k => by
    refine X2.arraylength hx (by rw [e2]; exact Ar8.1) (State.isArrayOf_alike hZ.alike Ar8.2.1) (g := (mkF m 20 #[sR d, sI (0 : Int32), sI p2, sI p2, sR b2] [(.ref d), (.int (0 : Int32)), (.ref b2), (.int (0 : Int32)), (.ref d)])) rfl rfl (hb hby own_d459) _ ?_
    rw [len_of Sz8 Nn8]
    exact k
  refine own_go (fun t k => st8 t k) ?_
  show OG m T2 21 #[sR d, sI (0 : Int32), sI p2, sI p2, sR b2] [(.int cap), (.int (0 : Int32)), (.ref b2), (.int (0 : Int32)), (.ref d)]
  refine og (XS.iloadN X2.here hx rfl (hb hby own_d460) rfl) ?_
  refine og (XS.isub X2.here hx rfl (hb hby own_d461) rfl) ?_
  show OG m T2 23 #[sR d, sI (0 : Int32), sI p2, sI p2, sR b2] [(.int (cap - (0 : Int32))), (.int (0 : Int32)), (.ref b2), (.int (0 : Int32)), (.ref d)]
  rw [own_sub0 cap]
  show OG m T2 23 #[sR d, sI (0 : Int32), sI p2, sI p2, sR b2] [(.int cap), (.int (0 : Int32)), (.ref b2), (.int (0 : Int32)), (.ref d)]
  refine og (XS.iloadN X2.here hx rfl (hb hby own_d462) rfl) ?_
  show OG m T2 24 #[sR d, sI (0 : Int32), sI p2, sI p2, sR b2] [(.int p2), (.int cap), (.int (0 : Int32)), (.ref b2), (.int (0 : Int32)), (.ref d)]
  obtain ⟨_, _, ⟨T9, L9, k9, n9⟩, -, X9, ⟨Lc9, hQ9, l9, y9, z9⟩, st9⟩ := Jvm.LawKit.callS X2 hx (y := (⟨"java/lang/Math", "min", "(II)I"⟩ : MethodName)) hown (mvT hZ (tw hw 156 rfl)) (mvT hZ (tw hw 157 rfl)) (mvT hZ (tw hw 158 rfl)) (mvT hZ (tw hw 159 rfl)) (by decide) (backOf (W := 4) (own_min l Z a0 hw [] cap p2 h2 n0 Z6) hZ (tw hw 159 rfl) (tw hw 158 rfl) (by decide) (by decide)) (g := (mkF m 24 #[sR d, sI (0 : Int32), sI p2, sI p2, sR b2] [(.int p2), (.int cap), (.int (0 : Int32)), (.ref b2), (.int (0 : Int32)), (.ref d)])) rfl (by rw [hml]; rfl) (argsL := [(.int cap), (.int p2)]) (rest := [(.int (0 : Int32)), (.ref b2), (.int (0 : Int32)), (.ref d)]) (lenOf own_pd44 rfl) rfl (by show 2 * 0 + _ ≤ _; exact Nat.le_of_eq rfl) (hb hby own_d463) (fun _ _ => ⟨rfl, e2, (by decide : 1 + 0 ≤ _), (by decide : 74 + 0 ≤ _)⟩)
  dsimp only [Pt.U, Pt.locs, Pt.cells, Pt.slots] at X9 l9 y9 z9 st9 hQ9
  subst l9 y9 z9
  obtain ⟨rfl, Nq9, eq9⟩ := hQ9
  have N9 := Fr.app N1 Nq9
  have e9 : T9.heap = h2 := eq9
  refine own_go (fun t k => st9 t k) ?_
  show OG m T9 27 #[sR d, sI (0 : Int32), sI p2, sI p2, sR b2] [(.int (own_mn cap p2)), (.int (0 : Int32)), (.ref b2), (.int (0 : Int32)), (.ref d)]
  rw [own_mn_ge (by omega)]
  show OG m T9 27 #[sR d, sI (0 : Int32), sI p2, sI p2, sR b2] [(.int p2), (.int (0 : Int32)), (.ref b2), (.int (0 : Int32)), (.ref d)]
  have vd10 : Arv Z h2 b2 k2 .byte p2 (List.replicate (p2.toNatClampNeg) (.int (0 : Int32))) (.int (0 : Int32)) := F7.pad (pad_rep [] (.int (0 : Int32)) (p2.toNatClampNeg))
  obtain ⟨T10, h10, L10, X10, e10, Nq10, Kq10, A10, st10⟩ := cpA X9 hx hZ hown (tw hw 160 rfl) (tw hw 100 rfl) (tw hw 98 rfl) (tw hw 99 rfl) e9 F5 vd10 (Or.inl ⟨rfl, rfl⟩) (by decide) (by decide) hnp (by show 0 + _ ≤ _; omega) (by show 0 + _ ≤ _; omega) rfl (by simp) (n0 := n0) N9 g_b2 (g := (mkF m 27 #[sR d, sI (0 : Int32), sI p2, sI p2, sR b2] [(.int p2), (.int (0 : Int32)), (.ref b2), (.int (0 : Int32)), (.ref d)])) rfl (by rw [hml]; rfl) rfl (hb hby own_d464) (by decide) (W := 0) (by show 2 * 0 + _ ≤ _; exact Nat.le_of_eq rfl) (by decide)
  have F11 : Exa Z h10 d "[B" := F4.keep Kq10
  have F12 : Arv Z h10 d k .byte cap (own_B bs) (.int (0 : Int32)) := F5.keep Kq10 (ninS ne3 nin0)
  have F13 : Exa Z h10 b2 "[B" := B2.keep Kq10
  have K10 : Keep h0 h10 [] := K6.trans Kq10 (allS (Or.inr sz_b2) all0)
  have Z10 : n0 ≤ h10.size := Nat.le_trans Z6 Kq10.1
  have F14 : Arv Z h10 b2 k2 .byte p2 (own_B bs) (.int (0 : Int32)) := A10.pad (own_copy bs p2.toNatClampNeg (by omega))
  refine own_go (fun t k => st10 t k) ?_
  show OG m T10 30 #[sR d, sI (0 : Int32), sI p2, sI p2, sR b2] []
  refine og (XS.aload X10.here hx rfl (hb hby own_d465) rfl rfl) ?_
  show OG m T10 32 #[sR d, sI (0 : Int32), sI p2, sI p2, sR b2] [(.ref b2)]
  obtain ⟨fs, hr, hrun, hended, hW, hsame⟩ := X10.leave (v := some (.ref b2)) (fun h => by rw [Bd.returns] at h; cases h)
  have hlast : Steps p.tables e below (T10.setTop (mkF m 32 #[sR d, sI (0 : Int32), sI p2, sI p2, sR b2] [(.ref b2)])) (T10.setFrames fs) := by
    exact retOut X10 hx (t := (.array .byte)) Bd.returns rfl (Or.inr (Or.inr (Or.inr (Or.inr ⟨rfl, rfl, rfl⟩)))) (hb hby own_d466) hr
  refine ⟨_, _, hlast, hrun, hended, _, _, rfl, ?_, ⟨_, rfl⟩, hW, hsame.mono (by decide) (by decide)⟩
  show Q_own_crb Z d p2 k cap bs h0 n0 _ T10.heap _
  rw [e10]
  exact ⟨b2, k2, rfl, Nq10, K10, F13, F14, sz_b2⟩
theorem own_ef467 (m : MethodId) (d : Addr) (p2 : Int32) : entryFrame m #[(.ref d), (.int (0 : Int32)), (.int p2)] 3 = mkF m 0 #[sR d, sI (0 : Int32), sI p2] [] := by first | (simp [entryFrame, mkF, argsToLocals, Value.category]; done) | rfl
theorem own_d468 : decode jdk_65_method_132_code 0 = .ok (.iload_n 1, 1) := by decide +kernel
theorem own_d469 : decode jdk_65_method_132_code 1 = .ok (.ifCond .ne 9, 3) := by decide +kernel
theorem own_d470 : decode jdk_65_method_132_code 4 = .ok (.iload_n 2, 1) := by decide +kernel
theorem own_d471 : decode jdk_65_method_132_code 5 = .ok (.aload_n 0, 1) := by decide +kernel
theorem own_d472 : decode jdk_65_method_132_code 6 = .ok (.arraylength, 1) := by decide +kernel
theorem own_d473 : decode jdk_65_method_132_code 7 = .ok (.if_icmp .eq 10, 3) := by decide +kernel
theorem own_d474 : decode jdk_65_method_132_code 17 = .ok (.aload_n 0, 1) := by decide +kernel
theorem own_d475 : decode jdk_65_method_132_code 18 = .ok (.invokevirtual 310, 3) := by decide +kernel
theorem own_d476 : decode jdk_65_method_132_code 21 = .ok (.checkcast 311, 3) := by decide +kernel
theorem own_d477 : decode jdk_65_method_132_code 24 = .ok (.areturn, 1) := by decide +kernel
theorem own_d478 : decode jdk_65_method_132_code 10 = .ok (.aload_n 0, 1) := by decide +kernel
theorem own_d479 : decode jdk_65_method_132_code 11 = .ok (.iload_n 1, 1) := by decide +kernel
theorem own_d480 : decode jdk_65_method_132_code 12 = .ok (.iload_n 2, 1) := by decide +kernel
theorem own_d481 : decode jdk_65_method_132_code 13 = .ok (.invokestatic 339, 3) := by decide +kernel
theorem own_pd482 : parseMethodDescriptor "([BII)[B" = some ⟨[(.array .byte), .int, .int], some (.array .byte)⟩ := by decide +kernel
theorem own_d483 : decode jdk_65_method_132_code 16 = .ok (.areturn, 1) := by decide +kernel
def Q_own_cor (Z : State) (d : Addr) (p2 : Int32) (k : ClassId) (cap : Int32) (bs : List Int32) (h0 : Heap) (n0 : Nat) (v : Option Value) (h : Heap) (L : List Loc) : Prop := ∃ xd : Addr, ∃ xk : ClassId, v = some (.ref xd) ∧ Fr n0 L ∧ Keep h0 h [] ∧ Exa Z h xd "[B" ∧ Arv Z h xd xk .byte p2 (own_B bs) (.int (0 : Int32)) ∧ (h0.size ≤ xd)
set_option maxRecDepth 65536 in
set_option maxHeartbeats 40000000 in
theorem own_cor (l : Launch) (Z : State) (a0 : Array Value) (hw : ∀ d ∈ tables_1, d.before a0 Z = true) (ws : List Jvm.Cond) (d : Addr) (p2 : Int32) (k : ClassId) (cap : Int32) (bs : List Int32) (h0 : Heap) (n0 : Nat) (Z0 : n0 ≤ h0.size) (f0_0 : Exa Z h0 d "[B") (f0_1 : Arv Z h0 d k .byte cap (own_B bs) (.int (0 : Int32))) (hcap : ¬ cap < 0 ∧ cap.toInt ≤ 74) (hlen : (bs.length : Int) ≤ cap.toInt) (hp : p2.toInt = (bs.length : Int)) :
    MetFree l (⟨"java/util/Arrays", "copyOfRange", "([BII)[B"⟩ : MethodName) (head1 (Jvm.Cond.code (⟨"java/util/Arrays", "copyOfRange", "([BII)[B"⟩ : MethodName) jdk_65_method_132_code 3 (some (.array .byte)) :: ws) ({ frames := 2, cells := 1, slots := 74, locals := 34 } : Room)) (fun a U => a = #[(.ref d), (.int (0 : Int32)), (.int p2)] ∧ Z.Warmed39 U.vm ∧ U.heap = h0) (fun _ _ _ _ _ => True) (fun _ U o U' => ∃ v L, o = .returned v ∧ Q_own_cor Z d p2 k cap bs h0 n0 v U'.heap L ∧ FrameEnd U o U' L ({ frames := 2, cells := 1, slots := 74, locals := 34 } : Room).cells ({ frames := 2, cells := 1, slots := 74, locals := 34 } : Room).slots) := by
  refine MetFree.of_bodySF (plainFor_of_name own_pn89) hisR ?_
  intro p e s m args below meth c s₁ Bd hml0 hP hK
  obtain ⟨rfl, hZ, hh⟩ := hP
  have hx := Bd.exec
  have hby := Bd.bytes
  have hml : c.maxLocals = 3 := hml0
  have hown : s.vm.findClass "java/util/Arrays" = some m.cls := findClass_of_methodNamed Bd.named
  have hnm := (name_of_methodNamed Bd.named Bd.method).1
  have X0 : Stand p l e ({ frames := 2, cells := 1, slots := 74, locals := 34 } : Room) s m #[(.ref d), (.int (0 : Int32)), (.int p2)] below meth c s₁ [] 0 0 := Stand.of_body Bd
  have e0 : s₁.heap = h0 := by rw [← hh, Bd.state]; rfl
  have N0 := Fr.nil n0
  have K0 := Keep.refl h0 []
  refine own_go (fun t k => castTop (own_ef467 m d p2) k) ?_
  show OG m s₁ 0 #[sR d, sI (0 : Int32), sI p2] []
  refine og (XS.iloadN X0.here hx rfl (hb hby own_d468) rfl) ?_
  show OG m s₁ 1 #[sR d, sI (0 : Int32), sI p2] [(.int (0 : Int32))]
  refine og (XS.ifNo X0.here hx rfl (hb hby own_d469) rfl ((if0 _ _).trans (teq (by decide : (0 : Int32) = (0 : Int32))).2)) ?_
  refine og (XS.iloadN X0.here hx rfl (hb hby own_d470) rfl) ?_
  show OG m s₁ 5 #[sR d, sI (0 : Int32), sI p2] [(.int p2)]
  refine og (XS.aloadN X0.here hx rfl (hb hby own_d471) rfl rfl) ?_
  show OG m s₁ 6 #[sR d, sI (0 : Int32), sI p2] [(.ref d), (.int p2)]
  have vv1 := f0_1
  obtain ⟨cl1, Ar1, qk1, Sz1, Nn1, Hs1, Gs1⟩ := vv1
  have st1 : ∀ t, Steps p.tables e below (s₁.setTop (mkF m 7 #[sR d, sI (0 : Int32), sI p2] [(.int cap), (.int p2)])) t → Steps p.tables e below (s₁.setTop (mkF m 6 #[sR d, sI (0 : Int32), sI p2] [(.ref d), (.int p2)])) t := fun t k => by
    refine X0.arraylength hx (by rw [e0]; exact Ar1.1) (State.isArrayOf_alike hZ.alike Ar1.2.1) (g := (mkF m 6 #[sR d, sI (0 : Int32), sI p2] [(.ref d), (.int p2)])) rfl rfl (hb hby own_d472) _ ?_
    rw [len_of Sz1 Nn1]
    exact k
  refine own_go (fun t k => st1 t k) ?_
  show OG m s₁ 7 #[sR d, sI (0 : Int32), sI p2] [(.int cap), (.int p2)]
  by_cases hc2 : p2 = cap
  · refine og (XS.icmpYes X0.here hx rfl (pc0 := 7) (pc' := 17) rfl (hb hby own_d473) rfl (teq hc2).1 (by decide) (by decide)) ?_
    show OG m s₁ 17 #[sR d, sI (0 : Int32), sI p2] []
    refine og (XS.aloadN X0.here hx rfl (hb hby own_d474) rfl rfl) ?_
    show OG m s₁ 18 #[sR d, sI (0 : Int32), sI p2] [(.ref d)]
    have hq1 := own_clamp hcap.1
    obtain ⟨T3, h3, X3, e3, E3, A3, B3, st3⟩ := cloneH X0 hx hZ hown (tw hw 207 rfl) (tw hw 208 rfl) (tw hw 212 rfl) (tw hw 210 rfl) (tw hw 211 rfl) (tw hw 213 rfl) e0 (Arv.arh f0_1) f0_0 (g := (mkF m 18 #[sR d, sI (0 : Int32), sI p2] [(.ref d)])) rfl (by rw [hml]; rfl) rfl (hb hby own_d475) (by decide) (W := 0) (cap := 74) (by show 2 * 0 + _ ≤ _; exact Nat.le_of_eq rfl) (by decide) (by omega) (by decide) (by decide)
    obtain ⟨b3, g3⟩ : ∃ z, z = h0.size := ⟨_, rfl⟩
    rw [← g3] at A3 B3 st3
    have ne4 : d ≠ b3 := Nat.ne_of_lt (Nat.lt_of_lt_of_le f0_0.lt (Nat.le_of_eq g3.symm))
    have g_b3 : n0 ≤ b3 := Nat.le_trans Z0 (Nat.le_of_eq g3.symm)
    have sz_b3 : h0.size ≤ b3 := Nat.le_trans K0.1 (Nat.le_of_eq g3.symm)
    have F5 : Exa Z h3 d "[B" := f0_0.ext E3
    have F6 : Arv Z h3 d k .byte cap (own_B bs) (.int (0 : Int32)) := f0_1.ext E3
    have K7 : Keep h0 h3 [] := K0.ext E3
    have Z7 : n0 ≤ h3.size := Nat.le_trans Z0 E3.1
    have F8 : Arv Z h3 b3 k .byte cap (own_B bs) (.int (0 : Int32)) := A3
    refine own_go (fun t k => st3 t k) ?_
    show OG m T3 21 #[sR d, sI (0 : Int32), sI p2] [(.ref b3)]
    obtain ⟨T9, X9, e9, st9⟩ := castY X3 hx hZ hown (tw hw 214 rfl) e3 (Ins.self B3) (g := (mkF m 21 #[sR d, sI (0 : Int32), sI p2] [(.ref b3)])) rfl rfl (hb hby own_d476)
    refine own_go (fun t k => st9 t k) ?_
    show OG m T9 24 #[sR d, sI (0 : Int32), sI p2] [(.ref b3)]
    have Fz : Arv Z h3 b3 k .byte p2 (own_B bs) (.int (0 : Int32)) := by rw [hc2]; exact F8
    obtain ⟨fs, hr, hrun, hended, hW, hsame⟩ := X9.leave (v := some (.ref b3)) (fun h => by rw [Bd.returns] at h; cases h)
    have hlast : Steps p.tables e below (T9.setTop (mkF m 24 #[sR d, sI (0 : Int32), sI p2] [(.ref b3)])) (T9.setFrames fs) := by
      exact retOut X9 hx (t := (.array .byte)) Bd.returns rfl (Or.inr (Or.inr (Or.inr (Or.inr ⟨rfl, rfl, rfl⟩)))) (hb hby own_d477) hr
    refine ⟨_, _, hlast, hrun, hended, _, _, rfl, ?_, ⟨_, rfl⟩, hW, hsame.mono (by decide) (by decide)⟩
    show Q_own_cor Z d p2 k cap bs h0 n0 _ T9.heap _
    rw [e9]
    exact ⟨b3, k, rfl, N0, K7, B3, Fz, sz_b3⟩
  · refine og (XS.icmpNo X0.here hx rfl (hb hby own_d473) rfl (feq hc2).1) ?_
    show OG m s₁ 10 #[sR d, sI (0 : Int32), sI p2] []
    refine og (XS.aloadN X0.here hx rfl (hb hby own_d478) rfl rfl) ?_
    refine og (XS.iloadN X0.here hx rfl (hb hby own_d479) rfl) ?_
    show OG m s₁ 12 #[sR d, sI (0 : Int32), sI p2] [(.int (0 : Int32)), (.ref d)]
    refine og (XS.iloadN X0.here hx rfl (hb hby own_d480) rfl) ?_
    show OG m s₁ 13 #[sR d, sI (0 : Int32), sI p2] [(.int p2), (.int (0 : Int32)), (.ref d)]
    obtain ⟨_, _, ⟨T10, L10, k10, n10⟩, -, X10, ⟨Lc10, hQ10, l10, y10, z10⟩, st10⟩ := Jvm.LawKit.callS X0 hx (y := (⟨"java/util/Arrays", "copyOfRangeByte", "([BII)[B"⟩ : MethodName)) hown (mvT hZ (tw hw 150 rfl)) (mvT hZ (tw hw 151 rfl)) (mvT hZ (tw hw 148 rfl)) (mvT hZ (tw hw 152 rfl)) (by decide) (backOf (W := 0) (own_crb l Z a0 hw [] d p2 k cap bs h0 n0 Z0 f0_0 f0_1 hcap hlen hp) hZ (tw hw 152 rfl) (tw hw 148 rfl) (by decide) (by decide)) (g := (mkF m 13 #[sR d, sI (0 : Int32), sI p2] [(.int p2), (.int (0 : Int32)), (.ref d)])) rfl (by rw [hml]; rfl) (argsL := [(.ref d), (.int (0 : Int32)), (.int p2)]) (rest := []) (lenOf own_pd482 rfl) rfl (by show 2 * 0 + _ ≤ _; exact Nat.le_of_eq rfl) (hb hby own_d481) (fun _ _ => ⟨rfl, e0, (by decide : 0 + 1 ≤ _), (by decide : 0 + 74 ≤ _)⟩)
    dsimp only [Pt.U, Pt.locs, Pt.cells, Pt.slots] at X10 l10 y10 z10 st10 hQ10
    subst l10 y10 z10
    obtain ⟨xd_10, xk_10, rfl, Nq10, Kq10, Fq10_0, Fq10_1, mq10_fd⟩ := hQ10
    have N10 := Fr.app N0 Nq10
    have ne11 : d ≠ xd_10 := Nat.ne_of_lt (Nat.lt_of_lt_of_le f0_0.lt mq10_fd)
    have g_xd_10 : n0 ≤ xd_10 := Nat.le_trans Z0 mq10_fd
    have sz_xd_10 : h0.size ≤ xd_10 := Nat.le_trans K0.1 mq10_fd
    have F12 : Exa Z T10.heap d "[B" := f0_0.keep Kq10
    have F13 : Arv Z T10.heap d k .byte cap (own_B bs) (.int (0 : Int32)) := f0_1.keep Kq10 nin0
    have K10 : Keep h0 T10.heap [] := K0.trans Kq10 all0
    have Z10 : n0 ≤ T10.heap.size := Nat.le_trans Z0 Kq10.1
    refine own_go (fun t k => st10 t k) ?_
    show OG m T10 16 #[sR d, sI (0 : Int32), sI p2] [(.ref xd_10)]
    obtain ⟨fs, hr, hrun, hended, hW, hsame⟩ := X10.leave (v := some (.ref xd_10)) (fun h => by rw [Bd.returns] at h; cases h)
    have hlast : Steps p.tables e below (T10.setTop (mkF m 16 #[sR d, sI (0 : Int32), sI p2] [(.ref xd_10)])) (T10.setFrames fs) := by
      exact retOut X10 hx (t := (.array .byte)) Bd.returns rfl (Or.inr (Or.inr (Or.inr (Or.inr ⟨rfl, rfl, rfl⟩)))) (hb hby own_d483) hr
    refine ⟨_, _, hlast, hrun, hended, _, _, rfl, ?_, ⟨_, rfl⟩, hW, hsame.mono (by decide) (by decide)⟩
    show Q_own_cor Z d p2 k cap bs h0 n0 _ T10.heap _
    exact ⟨xd_10, xk_10, rfl, N10, K10, Fq10_0, Fq10_1, sz_xd_10⟩
theorem own_ef484 (m : MethodId) (a2 : Addr) (a1 : Addr) : entryFrame m #[(.ref a2), (.ref a1), .null] 5 = mkF m 0 #[sR a2, sR a1, .val .null, sU, sU] [] := by first | (simp [entryFrame, mkF, argsToLocals, Value.category]; done) | rfl
theorem own_d485 : decode jdk_42_method_150_code 0 = .ok (.aload_n 0, 1) := by decide +kernel
theorem own_d486 : decode jdk_42_method_150_code 1 = .ok (.invokespecial 1, 3) := by decide +kernel
theorem own_d487 : decode jdk_42_method_150_code 4 = .ok (.aload_n 1, 1) := by decide +kernel
theorem own_d488 : decode jdk_42_method_150_code 5 = .ok (.invokevirtual 552, 3) := by decide +kernel
theorem own_pd489 : parseMethodDescriptor "()[B" = some ⟨[], some (.array .byte)⟩ := by decide +kernel
theorem own_d490 : decode jdk_42_method_150_code 8 = .ok (.astore_n 3, 1) := by decide +kernel
theorem own_d491 : decode jdk_42_method_150_code 9 = .ok (.aload_n 1, 1) := by decide +kernel
theorem own_d492 : decode jdk_42_method_150_code 10 = .ok (.invokevirtual 549, 3) := by decide +kernel
theorem own_d493 : decode jdk_42_method_150_code 13 = .ok (.istore 4, 2) := by decide +kernel
theorem own_d494 : decode jdk_42_method_150_code 15 = .ok (.aload_n 1, 1) := by decide +kernel
theorem own_d495 : decode jdk_42_method_150_code 16 = .ok (.invokevirtual 1047, 3) := by decide +kernel
theorem own_d496 : decode jdk_42_method_150_code 19 = .ok (.ifCond .eq 22, 3) := by decide +kernel
theorem own_d497 : decode jdk_42_method_150_code 22 = .ok (.aload_n 0, 1) := by decide +kernel
theorem own_d498 : decode jdk_42_method_150_code 23 = .ok (.iconst 0, 1) := by decide +kernel
theorem own_d499 : decode jdk_42_method_150_code 24 = .ok (.putfield 15, 3) := by decide +kernel
theorem own_d500 : decode jdk_42_method_150_code 27 = .ok (.aload_n 0, 1) := by decide +kernel
theorem own_d501 : decode jdk_42_method_150_code 28 = .ok (.aload_n 3, 1) := by decide +kernel
theorem own_d502 : decode jdk_42_method_150_code 29 = .ok (.iconst 0, 1) := by decide +kernel
theorem own_d503 : decode jdk_42_method_150_code 30 = .ok (.iload 4, 2) := by decide +kernel
theorem own_d504 : decode jdk_42_method_150_code 32 = .ok (.invokestatic 54, 3) := by decide +kernel
theorem own_d505 : decode jdk_42_method_150_code 35 = .ok (.putfield 9, 3) := by decide +kernel
theorem own_d506 : decode jdk_42_method_150_code 38 = .ok (.goto 59, 3) := by decide +kernel
theorem own_d507 : decode jdk_42_method_150_code 97 = .ok (.return_, 1) := by decide +kernel
def Q_own_sia (Z : State) (a2 : Addr) (a1 : Addr) (d : Addr) (k : ClassId) (cap : Int32) (cnt : Int32) (bs : List Int32) (i_COMPACT_STRINGS : Int32) (h0 : Heap) (n0 : Nat) (v : Option Value) (h : Heap) (L : List Loc) : Prop := ∃ xd : Addr, ∃ xk : ClassId, v = none ∧ Fr n0 L ∧ Keep h0 h [a2] ∧ Exa Z h a2 "java/lang/String" ∧ Fld Z h a2 "java/lang/String" "value" "[B" (.ref xd) ∧ Fld Z h a2 "java/lang/String" "coder" "B" (.int (0 : Int32)) ∧ Arv Z h xd xk .byte cnt (own_B bs) (.int (0 : Int32)) ∧ (h0.size ≤ xd)
set_option maxRecDepth 65536 in
set_option maxHeartbeats 40000000 in
theorem own_sia (l : Launch) (Z : State) (a0 : Array Value) (hw : ∀ d ∈ tables_1, d.before a0 Z = true) (ws : List Jvm.Cond) (a2 : Addr) (a1 : Addr) (d : Addr) (k : ClassId) (cap : Int32) (cnt : Int32) (bs : List Int32) (i_COMPACT_STRINGS : Int32) (h0 : Heap) (n0 : Nat) (Z0 : n0 ≤ h0.size) (O0 : Old Z n0 h0) (S_COMPACT_STRINGS : Sta Z Z.heap "java/lang/String" "COMPACT_STRINGS" "Z" (.int i_COMPACT_STRINGS)) (nz_i_COMPACT_STRINGS : i_COMPACT_STRINGS ≠ (0 : Int32)) (f0_0 : Exa Z h0 a2 "java/lang/String") (f0_1 : Fld Z h0 a2 "java/lang/String" "value" "[B" .null) (f0_2 : Fld Z h0 a2 "java/lang/String" "coder" "B" (.int (0 : Int32))) (f0_3 : Exa Z h0 a1 "java/lang/StringBuilder") (f0_4 : Fld Z h0 a1 "java/lang/AbstractStringBuilder" "value" "[B" (.ref d)) (f0_5 : Fld Z h0 a1 "java/lang/AbstractStringBuilder" "coder" "B" (.int (0 : Int32))) (f0_6 : Fld Z h0 a1 "java/lang/AbstractStringBuilder" "count" "I" (.int cnt)) (f0_7 : Exa Z h0 d "[B") (f0_8 : Arv Z h0 d k .byte cap (own_B bs) (.int (0 : Int32))) (g_a2 : n0 ≤ a2) (hcap : ¬ cap < 0 ∧ cap.toInt ≤ 74) (hlen : (bs.length : Int) ≤ cap.toInt) (hcnt : cnt.toInt = (bs.length : Int)) :
    MetFree l (⟨"java/lang/String", "<init>", "(Ljava/lang/AbstractStringBuilder;Ljava/lang/Void;)V"⟩ : MethodName) (head1 (Jvm.Cond.code (⟨"java/lang/String", "<init>", "(Ljava/lang/AbstractStringBuilder;Ljava/lang/Void;)V"⟩ : MethodName) jdk_42_method_150_code 5 none :: ws) ({ frames := 3, cells := 1, slots := 74, locals := 49 } : Room)) (fun a U => a = #[(.ref a2), (.ref a1), .null] ∧ Z.Warmed39 U.vm ∧ U.heap = h0) (fun _ _ _ _ _ => True) (fun _ U o U' => ∃ v L, o = .returned v ∧ Q_own_sia Z a2 a1 d k cap cnt bs i_COMPACT_STRINGS h0 n0 v U'.heap L ∧ FrameEnd U o U' L ({ frames := 3, cells := 1, slots := 74, locals := 49 } : Room).cells ({ frames := 3, cells := 1, slots := 74, locals := 49 } : Room).slots) := by
  refine MetFree.of_bodySF (plainFor_of_name own_pn190) hisR ?_
  intro p e s m args below meth c s₁ Bd hml0 hP hK
  obtain ⟨rfl, hZ, hh⟩ := hP
  have hx := Bd.exec
  have hby := Bd.bytes
  have hml : c.maxLocals = 5 := hml0
  have hown : s.vm.findClass "java/lang/String" = some m.cls := findClass_of_methodNamed Bd.named
  have hnm := (name_of_methodNamed Bd.named Bd.method).1
  have X0 : Stand p l e ({ frames := 3, cells := 1, slots := 74, locals := 49 } : Room) s m #[(.ref a2), (.ref a1), .null] below meth c s₁ [] 0 0 := Stand.of_body Bd
  have e0 : s₁.heap = h0 := by rw [← hh, Bd.state]; rfl
  have N0 := Fr.nil n0
  have K0 := Keep.refl h0 [a2]
  refine own_go (fun t k => castTop (own_ef484 m a2 a1) k) ?_
  show OG m s₁ 0 #[sR a2, sR a1, .val .null, sU, sU] []
  have nA1 : a2 ≠ a1 := Exa.ne f0_0 f0_3 (by decide)
  have nA2 : a2 ≠ d := Exa.neArv f0_0 f0_8 (tw hw 54 rfl)
  refine og (XS.aloadN X0.here hx rfl (hb hby own_d485) rfl rfl) ?_
  show OG m s₁ 1 #[sR a2, sR a1, .val .null, sU, sU] [(.ref a2)]
  obtain ⟨T1, X1, e1, st1⟩ := initO X0 hx hZ hown (tw hw 131 rfl) (tw hw 18 rfl) (tw hw 19 rfl) e0 (g := (mkF m 1 #[sR a2, sR a1, .val .null, sU, sU] [(.ref a2)])) rfl (by rw [hml]; rfl) rfl (hb hby own_d486) (by decide) (W := 0) (by show 2 * 0 + _ ≤ _; exact Nat.le_of_eq rfl) (by decide)
  refine own_go (fun t k => st1 t k) ?_
  show OG m T1 4 #[sR a2, sR a1, .val .null, sU, sU] []
  refine og (XS.aloadN X1.here hx rfl (hb hby own_d487) rfl rfl) ?_
  show OG m T1 5 #[sR a2, sR a1, .val .null, sU, sU] [(.ref a1)]
  obtain ⟨cq2, kq2, q2a, q2b, q2c⟩ := isOf hZ e1 f0_3
  obtain ⟨_, _, ⟨T2, L2, k2, n2⟩, -, X2, ⟨Lc2, hQ2, l2, y2, z2⟩, st2⟩ := X1.virtualBack hx (y := (⟨"java/lang/AbstractStringBuilder", "getValue", "()[B"⟩ : MethodName)) (z := (⟨"java/lang/AbstractStringBuilder", "getValue", "()[B"⟩ : MethodName)) hown (mvT hZ (tw hw 132 rfl)) (mvT hZ (tw hw 133 rfl)) (notFace_of_selects (args := #[]) (mvT hZ (tw hw 135 rfl))) (mvT hZ (tw hw 135 rfl)) (mvT hZ (tw hw 134 rfl)) (by decide) (backOf (W := 0) (own_gv l Z a0 hw [] a1 d h0 n0 Z0 f0_3 f0_4) hZ (tw hw 136 rfl) (tw hw 15 rfl) (by decide) (by decide)) q2a q2c (g := (mkF m 5 #[sR a2, sR a1, .val .null, sU, sU] [(.ref a1)])) rfl (by rw [hml]; rfl) (Steps.refl _) (argsL := []) (rest := []) (lenOf own_pd489 rfl) rfl (by show 2 * 0 + _ ≤ _; exact Nat.le_of_eq rfl) (hb hby own_d488) (fun _ _ => ⟨rfl, e1, (by decide : 0 + 0 ≤ _), (by decide : 0 + 0 ≤ _)⟩)
  dsimp only [Pt.U, Pt.locs, Pt.cells, Pt.slots] at X2 l2 y2 z2 st2 hQ2
  subst l2 y2 z2
  obtain ⟨rfl, Nq2, eq2⟩ := hQ2
  have N2 := Fr.app N0 Nq2
  have e2 : T2.heap = h0 := eq2
  refine og (st2.trans) ?_
  show OG m T2 8 #[sR a2, sR a1, .val .null, sU, sU] [(.ref d)]
  refine og (XS.astoreN X2.here hx rfl (hb hby own_d490) rfl rfl (l' := #[sR a2, sR a1, .val .null, sR d, sU]) rfl) ?_
  refine og (XS.aloadN X2.here hx rfl (hb hby own_d491) rfl rfl) ?_
  show OG m T2 10 #[sR a2, sR a1, .val .null, sR d, sU] [(.ref a1)]
  obtain ⟨cq3, kq3, q3a, q3b, q3c⟩ := isOf hZ e2 f0_3
  obtain ⟨_, _, ⟨T3, L3, k3, n3⟩, -, X3, ⟨Lc3, hQ3, l3, y3, z3⟩, st3⟩ := X2.virtualBack hx (y := (⟨"java/lang/AbstractStringBuilder", "length", "()I"⟩ : MethodName)) (z := (⟨"java/lang/StringBuilder", "length", "()I"⟩ : MethodName)) hown (mvT hZ (tw hw 137 rfl)) (mvT hZ (tw hw 138 rfl)) (own_notface (z := (⟨"java/lang/AbstractStringBuilder", "ensureCapacityInternal", "(I)V"⟩ : MethodName)) (a0 := #[]) rfl (mvT hZ (tw hw 42 rfl))) (mvT hZ (tw hw 140 rfl)) (mvT hZ (tw hw 141 rfl)) (by decide) (backOf (W := 0) (own_sbl l Z a0 hw [] a1 cnt h0 n0 Z0 f0_3 f0_6) hZ (tw hw 142 rfl) (tw hw 7 rfl) (by decide) (by decide)) q3a q3c (g := (mkF m 10 #[sR a2, sR a1, .val .null, sR d, sU] [(.ref a1)])) rfl (by rw [hml]; rfl) (Steps.refl _) (argsL := []) (rest := []) (lenOf own_pd252 rfl) rfl (by show 2 * 0 + _ ≤ _; exact Nat.le_of_eq rfl) (hb hby own_d492) (fun _ _ => ⟨rfl, e2, (by decide : 0 + 0 ≤ _), (by decide : 0 + 0 ≤ _)⟩)
  dsimp only [Pt.U, Pt.locs, Pt.cells, Pt.slots] at X3 l3 y3 z3 st3 hQ3
  subst l3 y3 z3
  obtain ⟨rfl, Nq3, eq3⟩ := hQ3
  have N3 := Fr.app N2 Nq3
  have e3 : T3.heap = h0 := eq3
  refine og (st3.trans) ?_
  show OG m T3 13 #[sR a2, sR a1, .val .null, sR d, sU] [(.int cnt)]
  refine og (XS.istore X3.here hx rfl (hb hby own_d493) rfl (l' := #[sR a2, sR a1, .val .null, sR d, sI cnt]) rfl) ?_
  refine og (XS.aloadN X3.here hx rfl (hb hby own_d494) rfl rfl) ?_
  show OG m T3 16 #[sR a2, sR a1, .val .null, sR d, sI cnt] [(.ref a1)]
  obtain ⟨cq4, kq4, q4a, q4b, q4c⟩ := isOf hZ e3 f0_3
  obtain ⟨_, _, ⟨T4, L4, k4, n4⟩, -, X4, ⟨Lc4, hQ4, l4, y4, z4⟩, st4⟩ := X3.virtualBack hx (y := (⟨"java/lang/AbstractStringBuilder", "isLatin1", "()Z"⟩ : MethodName)) (z := (⟨"java/lang/AbstractStringBuilder", "isLatin1", "()Z"⟩ : MethodName)) hown (mvT hZ (tw hw 145 rfl)) (mvT hZ (tw hw 45 rfl)) (notFace_of_selects (args := #[]) (mvT hZ (tw hw 47 rfl))) (mvT hZ (tw hw 47 rfl)) (mvT hZ (tw hw 46 rfl)) (by decide) (backOf (W := 0) (own_il l Z a0 hw [] a1 i_COMPACT_STRINGS h0 n0 Z0 O0 S_COMPACT_STRINGS nz_i_COMPACT_STRINGS f0_5) hZ (tw hw 48 rfl) (tw hw 15 rfl) (by decide) (by decide)) q4a q4c (g := (mkF m 16 #[sR a2, sR a1, .val .null, sR d, sI cnt] [(.ref a1)])) rfl (by rw [hml]; rfl) (Steps.refl _) (argsL := []) (rest := []) (lenOf own_pd160 rfl) rfl (by show 2 * 0 + _ ≤ _; exact Nat.le_of_eq rfl) (hb hby own_d495) (fun _ _ => ⟨rfl, e3, (by decide : 0 + 0 ≤ _), (by decide : 0 + 0 ≤ _)⟩)
  dsimp only [Pt.U, Pt.locs, Pt.cells, Pt.slots] at X4 l4 y4 z4 st4 hQ4
  subst l4 y4 z4
  obtain ⟨rfl, Nq4, eq4⟩ := hQ4
  have N4 := Fr.app N3 Nq4
  have e4 : T4.heap = h0 := eq4
  refine og (st4.trans) ?_
  show OG m T4 19 #[sR a2, sR a1, .val .null, sR d, sI cnt] [(.int (1 : Int32))]
  refine og (XS.ifNo X4.here hx rfl (hb hby own_d496) rfl ((if0 _ _).trans (feq (by decide : ¬ ((1 : Int32) = (0 : Int32)))).1)) ?_
  refine og (XS.aloadN X4.here hx rfl (hb hby own_d497) rfl rfl) ?_
  show OG m T4 23 #[sR a2, sR a1, .val .null, sR d, sI cnt] [(.ref a2)]
  refine og (XS.iconst X4.here hx rfl (hb hby own_d498)) ?_
  show OG m T4 24 #[sR a2, sR a1, .val .null, sR d, sI cnt] [(.int (0 : Int32)), (.ref a2)]
  obtain ⟨T5, h5, X5, e5, W5, st5⟩ := putF X4 hx hZ hown (host := "") (Or.inl (tw hw 80 rfl)) Via.refl e4 f0_2 f0_0 (Or.inr ⟨(tw hw 56 rfl), rfl, hnm⟩) (tw hw 54 rfl) (ty := .byte) (by decide) rfl rfl (g := (mkF m 24 #[sR a2, sR a1, .val .null, sR d, sI cnt] [(.int (0 : Int32)), (.ref a2)])) rfl rfl (hb hby own_d499)
  have F6 : Exa Z h5 a2 "java/lang/String" := f0_0.wr W5
  have F7 : Fld Z h5 a2 "java/lang/String" "value" "[B" .null := f0_1.other W5 (Or.inr (slot_ne (Or.inr (tw hw 55 rfl)) (Or.inr (tw hw 56 rfl)) (by decide) (t := (.array .byte)) (t' := .byte) (by decide) (by decide)))
  have F8 : Fld Z h5 a2 "java/lang/String" "coder" "B" (.int (0 : Int32)) := f0_2.same W5
  have F9 : Exa Z h5 a1 "java/lang/StringBuilder" := f0_3.wr W5
  have F10 : Fld Z h5 a1 "java/lang/AbstractStringBuilder" "value" "[B" (.ref d) := f0_4.other W5 (Or.inl (Ne.symm nA1))
  have F11 : Fld Z h5 a1 "java/lang/AbstractStringBuilder" "coder" "B" (.int (0 : Int32)) := f0_5.other W5 (Or.inl (Ne.symm nA1))
  have F12 : Fld Z h5 a1 "java/lang/AbstractStringBuilder" "count" "I" (.int cnt) := f0_6.other W5 (Or.inl (Ne.symm nA1))
  have F13 : Exa Z h5 d "[B" := f0_7.wr W5
  have F14 : Arv Z h5 d k .byte cap (own_B bs) (.int (0 : Int32)) := f0_8.other W5 (Ne.symm nA2)
  have F15 : Old Z n0 h5 := O0.wr W5 g_a2
  have N16 := Fr.snoc X5 N4 g_a2
  have K16 : Keep h0 h5 [a2] := K0.wr W5 (Or.inl (List.mem_of_getElem? (i := 0) rfl))
  have Z16 : n0 ≤ h5.size := Nat.le_trans Z0 (Keep.of_wr W5).1
  refine own_go (fun t k => st5 t k) ?_
  show OG m T5 27 #[sR a2, sR a1, .val .null, sR d, sI cnt] []
  refine og (XS.aloadN X5.here hx rfl (hb hby own_d500) rfl rfl) ?_
  refine og (XS.aloadN X5.here hx rfl (hb hby own_d501) rfl rfl) ?_
  show OG m T5 29 #[sR a2, sR a1, .val .null, sR d, sI cnt] [(.ref d), (.ref a2)]
  refine og (XS.iconst X5.here hx rfl (hb hby own_d502)) ?_
  refine og (XS.iload X5.here hx rfl (hb hby own_d503) rfl) ?_
  show OG m T5 32 #[sR a2, sR a1, .val .null, sR d, sI cnt] [(.int cnt), (.int (0 : Int32)), (.ref d), (.ref a2)]
  obtain ⟨_, _, ⟨T17, L17, k17, n17⟩, -, X17, ⟨Lc17, hQ17, l17, y17, z17⟩, st17⟩ := Jvm.LawKit.callS X5 hx (y := (⟨"java/util/Arrays", "copyOfRange", "([BII)[B"⟩ : MethodName)) hown (mvT hZ (tw hw 146 rfl)) (mvT hZ (tw hw 147 rfl)) (mvT hZ (tw hw 148 rfl)) (mvT hZ (tw hw 149 rfl)) (by decide) (backOf (W := 1) (own_cor l Z a0 hw [] d cnt k cap bs h5 n0 Z16 F13 F14 hcap hlen hcnt) hZ (tw hw 149 rfl) (tw hw 148 rfl) (by decide) (by decide)) (g := (mkF m 32 #[sR a2, sR a1, .val .null, sR d, sI cnt] [(.int cnt), (.int (0 : Int32)), (.ref d), (.ref a2)])) rfl (by rw [hml]; rfl) (argsL := [(.ref d), (.int (0 : Int32)), (.int cnt)]) (rest := [(.ref a2)]) (lenOf own_pd482 rfl) rfl (by show 2 * 0 + _ ≤ _; exact Nat.le_of_eq rfl) (hb hby own_d504) (fun _ _ => ⟨rfl, e5, (by decide : 0 + 1 ≤ _), (by decide : 0 + 74 ≤ _)⟩)
  dsimp only [Pt.U, Pt.locs, Pt.cells, Pt.slots] at X17 l17 y17 z17 st17 hQ17
  subst l17 y17 z17
  obtain ⟨xd_17, xk_17, rfl, Nq17, Kq17, Fq17_0, Fq17_1, mq17_fd⟩ := hQ17
  have N17 := Fr.app N16 Nq17
  have ne18 : a2 ≠ xd_17 := Nat.ne_of_lt (Nat.lt_of_lt_of_le F6.lt mq17_fd)
  have ne19 : a1 ≠ xd_17 := Nat.ne_of_lt (Nat.lt_of_lt_of_le F9.lt mq17_fd)
  have ne20 : d ≠ xd_17 := Nat.ne_of_lt (Nat.lt_of_lt_of_le F13.lt mq17_fd)
  have g_xd_17 : n0 ≤ xd_17 := Nat.le_trans Z16 mq17_fd
  have sz_xd_17 : h0.size ≤ xd_17 := Nat.le_trans K16.1 mq17_fd
  have F21 : Exa Z T17.heap a2 "java/lang/String" := F6.keep Kq17
  have F22 : Fld Z T17.heap a2 "java/lang/String" "value" "[B" .null := F7.keep Kq17 nin0
  have F23 : Fld Z T17.heap a2 "java/lang/String" "coder" "B" (.int (0 : Int32)) := F8.keep Kq17 nin0
  have F24 : Exa Z T17.heap a1 "java/lang/StringBuilder" := F9.keep Kq17
  have F25 : Fld Z T17.heap a1 "java/lang/AbstractStringBuilder" "value" "[B" (.ref d) := F10.keep Kq17 nin0
  have F26 : Fld Z T17.heap a1 "java/lang/AbstractStringBuilder" "coder" "B" (.int (0 : Int32)) := F11.keep Kq17 nin0
  have F27 : Fld Z T17.heap a1 "java/lang/AbstractStringBuilder" "count" "I" (.int cnt) := F12.keep Kq17 nin0
  have F28 : Exa Z T17.heap d "[B" := F13.keep Kq17
  have F29 : Arv Z T17.heap d k .byte cap (own_B bs) (.int (0 : Int32)) := F14.keep Kq17 nin0
  have F30 : Old Z n0 T17.heap := F15.keep Kq17 all0
  have K17 : Keep h0 T17.heap [a2] := K16.trans Kq17 all0
  have Z17 : n0 ≤ T17.heap.size := Nat.le_trans Z16 Kq17.1
  refine own_go (fun t k => st17 t k) ?_
  show OG m T17 35 #[sR a2, sR a1, .val .null, sR d, sI cnt] [(.ref xd_17), (.ref a2)]
  obtain ⟨T31, h31, X31, e31, W31, st31⟩ := putF X17 hx hZ hown (host := "") (Or.inl (tw hw 73 rfl)) Via.refl rfl F22 F21 (Or.inr ⟨(tw hw 55 rfl), rfl, hnm⟩) (tw hw 54 rfl) (ty := (.array .byte)) (by decide) rfl rfl (g := (mkF m 35 #[sR a2, sR a1, .val .null, sR d, sI cnt] [(.ref xd_17), (.ref a2)])) rfl rfl (hb hby own_d505)
  have F32 : Exa Z h31 a2 "java/lang/String" := F21.wr W31
  have F33 : Fld Z h31 a2 "java/lang/String" "value" "[B" (.ref xd_17) := F22.same W31
  have F34 : Fld Z h31 a2 "java/lang/String" "coder" "B" (.int (0 : Int32)) := F23.other W31 (Or.inr (slot_ne (Or.inr (tw hw 56 rfl)) (Or.inr (tw hw 55 rfl)) (by decide) (t := .byte) (t' := (.array .byte)) (by decide) (by decide)))
  have F35 : Exa Z h31 a1 "java/lang/StringBuilder" := F24.wr W31
  have F36 : Fld Z h31 a1 "java/lang/AbstractStringBuilder" "value" "[B" (.ref d) := F25.other W31 (Or.inl (Ne.symm nA1))
  have F37 : Fld Z h31 a1 "java/lang/AbstractStringBuilder" "coder" "B" (.int (0 : Int32)) := F26.other W31 (Or.inl (Ne.symm nA1))
  have F38 : Fld Z h31 a1 "java/lang/AbstractStringBuilder" "count" "I" (.int cnt) := F27.other W31 (Or.inl (Ne.symm nA1))
  have F39 : Exa Z h31 d "[B" := F28.wr W31
  have F40 : Arv Z h31 d k .byte cap (own_B bs) (.int (0 : Int32)) := F29.other W31 (Ne.symm nA2)
  have F41 : Old Z n0 h31 := F30.wr W31 g_a2
  have F42 : Exa Z h31 xd_17 "[B" := Fq17_0.wr W31
  have F43 : Arv Z h31 xd_17 xk_17 .byte cnt (own_B bs) (.int (0 : Int32)) := Fq17_1.other W31 (Ne.symm ne18)
  have N44 := Fr.snoc X31 N17 g_a2
  have K44 : Keep h0 h31 [a2] := K17.wr W31 (Or.inl (List.mem_of_getElem? (i := 0) rfl))
  have Z44 : n0 ≤ h31.size := Nat.le_trans Z17 (Keep.of_wr W31).1
  refine own_go (fun t k => st31 t k) ?_
  show OG m T31 38 #[sR a2, sR a1, .val .null, sR d, sI cnt] []
  refine og (XS.goto X31.here hx rfl (pc0 := 38) (pc' := 97) rfl (hb hby own_d506) (by decide) (by decide)) ?_
  show OG m T31 97 #[sR a2, sR a1, .val .null, sR d, sI cnt] []
  obtain ⟨fs, hr, hrun, hended, hW, hsame⟩ := X31.leave (v := none) (fun _ => rfl)
  refine ⟨_, _, X31.returnOut hx Bd.returns (hb hby own_d507) hr, hrun, hended, _, _, rfl, ?_, ⟨_, rfl⟩, hW, hsame.mono (by decide) (by decide)⟩
  show Q_own_sia Z a2 a1 d k cap cnt bs i_COMPACT_STRINGS h0 n0 _ T31.heap _
  rw [e31]
  exact ⟨xd_17, xk_17, rfl, N44, K44, F32, F33, F34, F43, sz_xd_17⟩
theorem own_ef508 (m : MethodId) (a2 : Addr) (a1 : Addr) : entryFrame m #[(.ref a2), (.ref a1)] 2 = mkF m 0 #[sR a2, sR a1] [] := by first | (simp [entryFrame, mkF, argsToLocals, Value.category]; done) | rfl
theorem own_d509 : decode jdk_42_method_53_code 0 = .ok (.aload_n 0, 1) := by decide +kernel
theorem own_d510 : decode jdk_42_method_53_code 1 = .ok (.aload_n 1, 1) := by decide +kernel
theorem own_d511 : decode jdk_42_method_53_code 2 = .ok (.aconst_null, 1) := by decide +kernel
theorem own_d512 : decode jdk_42_method_53_code 3 = .ok (.invokespecial 489, 3) := by decide +kernel
theorem own_pd513 : parseMethodDescriptor "(Ljava/lang/AbstractStringBuilder;Ljava/lang/Void;)V" = some ⟨[(.object "java/lang/AbstractStringBuilder"), (.object "java/lang/Void")], none⟩ := by decide +kernel
theorem own_d514 : decode jdk_42_method_53_code 6 = .ok (.return_, 1) := by decide +kernel
def Q_own_sib (Z : State) (a2 : Addr) (a1 : Addr) (d : Addr) (k : ClassId) (cap : Int32) (cnt : Int32) (bs : List Int32) (i_COMPACT_STRINGS : Int32) (h0 : Heap) (n0 : Nat) (v : Option Value) (h : Heap) (L : List Loc) : Prop := ∃ xd : Addr, ∃ xk : ClassId, v = none ∧ Fr n0 L ∧ Keep h0 h [a2] ∧ Exa Z h a2 "java/lang/String" ∧ Fld Z h a2 "java/lang/String" "value" "[B" (.ref xd) ∧ Fld Z h a2 "java/lang/String" "coder" "B" (.int (0 : Int32)) ∧ Arv Z h xd xk .byte cnt (own_B bs) (.int (0 : Int32)) ∧ (h0.size ≤ xd)
set_option maxRecDepth 65536 in
set_option maxHeartbeats 40000000 in
theorem own_sib (l : Launch) (Z : State) (a0 : Array Value) (hw : ∀ d ∈ tables_1, d.before a0 Z = true) (ws : List Jvm.Cond) (a2 : Addr) (a1 : Addr) (d : Addr) (k : ClassId) (cap : Int32) (cnt : Int32) (bs : List Int32) (i_COMPACT_STRINGS : Int32) (h0 : Heap) (n0 : Nat) (Z0 : n0 ≤ h0.size) (O0 : Old Z n0 h0) (S_COMPACT_STRINGS : Sta Z Z.heap "java/lang/String" "COMPACT_STRINGS" "Z" (.int i_COMPACT_STRINGS)) (nz_i_COMPACT_STRINGS : i_COMPACT_STRINGS ≠ (0 : Int32)) (f0_0 : Exa Z h0 a2 "java/lang/String") (f0_1 : Fld Z h0 a2 "java/lang/String" "value" "[B" .null) (f0_2 : Fld Z h0 a2 "java/lang/String" "coder" "B" (.int (0 : Int32))) (f0_3 : Exa Z h0 a1 "java/lang/StringBuilder") (f0_4 : Fld Z h0 a1 "java/lang/AbstractStringBuilder" "value" "[B" (.ref d)) (f0_5 : Fld Z h0 a1 "java/lang/AbstractStringBuilder" "coder" "B" (.int (0 : Int32))) (f0_6 : Fld Z h0 a1 "java/lang/AbstractStringBuilder" "count" "I" (.int cnt)) (f0_7 : Exa Z h0 d "[B") (f0_8 : Arv Z h0 d k .byte cap (own_B bs) (.int (0 : Int32))) (g_a2 : n0 ≤ a2) (hcap : ¬ cap < 0 ∧ cap.toInt ≤ 74) (hlen : (bs.length : Int) ≤ cap.toInt) (hcnt : cnt.toInt = (bs.length : Int)) :
    MetFree l (⟨"java/lang/String", "<init>", "(Ljava/lang/StringBuilder;)V"⟩ : MethodName) (head1 (Jvm.Cond.code (⟨"java/lang/String", "<init>", "(Ljava/lang/StringBuilder;)V"⟩ : MethodName) jdk_42_method_53_code 2 none :: ws) ({ frames := 4, cells := 1, slots := 74, locals := 65 } : Room)) (fun a U => a = #[(.ref a2), (.ref a1)] ∧ Z.Warmed39 U.vm ∧ U.heap = h0) (fun _ _ _ _ _ => True) (fun _ U o U' => ∃ v L, o = .returned v ∧ Q_own_sib Z a2 a1 d k cap cnt bs i_COMPACT_STRINGS h0 n0 v U'.heap L ∧ FrameEnd U o U' L ({ frames := 4, cells := 1, slots := 74, locals := 65 } : Room).cells ({ frames := 4, cells := 1, slots := 74, locals := 65 } : Room).slots) := by
  refine MetFree.of_bodySF (plainFor_of_name own_pn190) hisR ?_
  intro p e s m args below meth c s₁ Bd hml0 hP hK
  obtain ⟨rfl, hZ, hh⟩ := hP
  have hx := Bd.exec
  have hby := Bd.bytes
  have hml : c.maxLocals = 2 := hml0
  have hown : s.vm.findClass "java/lang/String" = some m.cls := findClass_of_methodNamed Bd.named
  have hnm := (name_of_methodNamed Bd.named Bd.method).1
  have X0 : Stand p l e ({ frames := 4, cells := 1, slots := 74, locals := 65 } : Room) s m #[(.ref a2), (.ref a1)] below meth c s₁ [] 0 0 := Stand.of_body Bd
  have e0 : s₁.heap = h0 := by rw [← hh, Bd.state]; rfl
  have N0 := Fr.nil n0
  have K0 := Keep.refl h0 [a2]
  refine own_go (fun t k => castTop (own_ef508 m a2 a1) k) ?_
  show OG m s₁ 0 #[sR a2, sR a1] []
  have nA1 : a2 ≠ a1 := Exa.ne f0_0 f0_3 (by decide)
  have nA2 : a2 ≠ d := Exa.neArv f0_0 f0_8 (tw hw 54 rfl)
  refine og (XS.aloadN X0.here hx rfl (hb hby own_d509) rfl rfl) ?_
  refine og (XS.aloadN X0.here hx rfl (hb hby own_d510) rfl rfl) ?_
  show OG m s₁ 2 #[sR a2, sR a1] [(.ref a1), (.ref a2)]
  refine og (XS.aconstNull X0.here hx rfl (hb hby own_d511)) ?_
  show OG m s₁ 3 #[sR a2, sR a1] [.null, (.ref a1), (.ref a2)]
  obtain ⟨_, _, ⟨T1, L1, k1, n1⟩, -, X1, ⟨Lc1, hQ1, l1, y1, z1⟩, st1⟩ := X0.specialBack hx (y := (⟨"java/lang/String", "<init>", "(Ljava/lang/AbstractStringBuilder;Ljava/lang/Void;)V"⟩ : MethodName)) rfl hown (mvT hZ (tw hw 128 rfl)) (mvT hZ (tw hw 129 rfl)) (mvT hZ (tw hw 130 rfl)) (by decide) (backOf (W := 0) (own_sia l Z a0 hw [] a2 a1 d k cap cnt bs i_COMPACT_STRINGS h0 n0 Z0 O0 S_COMPACT_STRINGS nz_i_COMPACT_STRINGS f0_0 f0_1 f0_2 f0_3 f0_4 f0_5 f0_6 f0_7 f0_8 g_a2 hcap hlen hcnt) hZ (tw hw 130 rfl) (tw hw 21 rfl) (by decide) (by decide)) (g := (mkF m 3 #[sR a2, sR a1] [.null, (.ref a1), (.ref a2)])) rfl (by rw [hml]; rfl) (Steps.refl _) (a := a2) (argsL := [(.ref a1), .null]) (rest := []) (lenOf own_pd513 rfl) rfl (by show 2 * 0 + _ ≤ _; exact Nat.le_of_eq rfl) (hb hby own_d512) (fun _ _ => ⟨rfl, e0, (by decide : 0 + 1 ≤ _), (by decide : 0 + 74 ≤ _)⟩)
  dsimp only [Pt.U, Pt.locs, Pt.cells, Pt.slots] at X1 l1 y1 z1 st1 hQ1
  subst l1 y1 z1
  obtain ⟨xd_1, xk_1, rfl, Nq1, Kq1, Fq1_0, Fq1_1, Fq1_2, Fq1_3, mq1_fd⟩ := hQ1
  have N1 := Fr.app N0 Nq1
  have ne2 : a2 ≠ xd_1 := Nat.ne_of_lt (Nat.lt_of_lt_of_le f0_0.lt mq1_fd)
  have ne3 : a1 ≠ xd_1 := Nat.ne_of_lt (Nat.lt_of_lt_of_le f0_3.lt mq1_fd)
  have ne4 : d ≠ xd_1 := Nat.ne_of_lt (Nat.lt_of_lt_of_le f0_7.lt mq1_fd)
  have g_xd_1 : n0 ≤ xd_1 := Nat.le_trans Z0 mq1_fd
  have sz_xd_1 : h0.size ≤ xd_1 := Nat.le_trans K0.1 mq1_fd
  have F5 : Exa Z T1.heap a2 "java/lang/String" := f0_0.keep Kq1
  have F6 : Exa Z T1.heap a1 "java/lang/StringBuilder" := f0_3.keep Kq1
  have F7 : Fld Z T1.heap a1 "java/lang/AbstractStringBuilder" "value" "[B" (.ref d) := f0_4.keep Kq1 (ninS (Ne.symm nA1) nin0)
  have F8 : Fld Z T1.heap a1 "java/lang/AbstractStringBuilder" "coder" "B" (.int (0 : Int32)) := f0_5.keep Kq1 (ninS (Ne.symm nA1) nin0)
  have F9 : Fld Z T1.heap a1 "java/lang/AbstractStringBuilder" "count" "I" (.int cnt) := f0_6.keep Kq1 (ninS (Ne.symm nA1) nin0)
  have F10 : Exa Z T1.heap d "[B" := f0_7.keep Kq1
  have F11 : Arv Z T1.heap d k .byte cap (own_B bs) (.int (0 : Int32)) := f0_8.keep Kq1 (ninS (Ne.symm nA2) nin0)
  have F12 : Old Z n0 T1.heap := O0.keep Kq1 (allS g_a2 all0)
  have K1 : Keep h0 T1.heap [a2] := K0.trans Kq1 (allS (Or.inl (List.mem_of_getElem? (i := 0) rfl)) all0)
  have Z1 : n0 ≤ T1.heap.size := Nat.le_trans Z0 Kq1.1
  refine og (st1.trans) ?_
  show OG m T1 6 #[sR a2, sR a1] []
  obtain ⟨fs, hr, hrun, hended, hW, hsame⟩ := X1.leave (v := none) (fun _ => rfl)
  refine ⟨_, _, X1.returnOut hx Bd.returns (hb hby own_d514) hr, hrun, hended, _, _, rfl, ?_, ⟨_, rfl⟩, hW, hsame.mono (by decide) (by decide)⟩
  show Q_own_sib Z a2 a1 d k cap cnt bs i_COMPACT_STRINGS h0 n0 _ T1.heap _
  exact ⟨xd_1, xk_1, rfl, N1, K1, Fq1_0, Fq1_1, Fq1_2, Fq1_3, sz_xd_1⟩
theorem own_ef515 (m : MethodId) (a1 : Addr) : entryFrame m #[(.ref a1)] 1 = mkF m 0 #[sR a1] [] := by first | (simp [entryFrame, mkF, argsToLocals, Value.category]; done) | rfl
theorem own_d516 : decode jdk_67_method_42_code 0 = .ok (.new 18, 3) := by decide +kernel
theorem own_d517 : decode jdk_67_method_42_code 3 = .ok (.dup, 1) := by decide +kernel
theorem own_d518 : decode jdk_67_method_42_code 4 = .ok (.aload_n 0, 1) := by decide +kernel
theorem own_d519 : decode jdk_67_method_42_code 5 = .ok (.invokespecial 137, 3) := by decide +kernel
theorem own_pd520 : parseMethodDescriptor "(Ljava/lang/StringBuilder;)V" = some ⟨[(.object "java/lang/StringBuilder")], none⟩ := by decide +kernel
theorem own_d521 : decode jdk_67_method_42_code 8 = .ok (.areturn, 1) := by decide +kernel
def Q_own_ts (Z : State) (a1 : Addr) (d : Addr) (k : ClassId) (cap : Int32) (cnt : Int32) (bs : List Int32) (i_COMPACT_STRINGS : Int32) (h0 : Heap) (n0 : Nat) (v : Option Value) (h : Heap) (L : List Loc) : Prop := ∃ xs : Addr, ∃ xd : Addr, ∃ xk : ClassId, v = some (.ref xs) ∧ Fr n0 L ∧ Keep h0 h [] ∧ Exa Z h xs "java/lang/String" ∧ Fld Z h xs "java/lang/String" "value" "[B" (.ref xd) ∧ Fld Z h xs "java/lang/String" "coder" "B" (.int (0 : Int32)) ∧ Arv Z h xd xk .byte cnt (own_B bs) (.int (0 : Int32)) ∧ (h0.size ≤ xs) ∧ (h0.size ≤ xd)
set_option maxRecDepth 65536 in
set_option maxHeartbeats 40000000 in
theorem own_ts (l : Launch) (Z : State) (a0 : Array Value) (hw : ∀ d ∈ tables_1, d.before a0 Z = true) (ws : List Jvm.Cond) (a1 : Addr) (d : Addr) (k : ClassId) (cap : Int32) (cnt : Int32) (bs : List Int32) (i_COMPACT_STRINGS : Int32) (h0 : Heap) (n0 : Nat) (Z0 : n0 ≤ h0.size) (O0 : Old Z n0 h0) (S_COMPACT_STRINGS : Sta Z Z.heap "java/lang/String" "COMPACT_STRINGS" "Z" (.int i_COMPACT_STRINGS)) (nz_i_COMPACT_STRINGS : i_COMPACT_STRINGS ≠ (0 : Int32)) (f0_0 : Exa Z h0 a1 "java/lang/StringBuilder") (f0_1 : Fld Z h0 a1 "java/lang/AbstractStringBuilder" "value" "[B" (.ref d)) (f0_2 : Fld Z h0 a1 "java/lang/AbstractStringBuilder" "coder" "B" (.int (0 : Int32))) (f0_3 : Fld Z h0 a1 "java/lang/AbstractStringBuilder" "count" "I" (.int cnt)) (f0_4 : Exa Z h0 d "[B") (f0_5 : Arv Z h0 d k .byte cap (own_B bs) (.int (0 : Int32))) (hcap : ¬ cap < 0 ∧ cap.toInt ≤ 74) (hlen : (bs.length : Int) ≤ cap.toInt) (hcnt : cnt.toInt = (bs.length : Int)) :
    MetFree l (⟨"java/lang/StringBuilder", "toString", "()Ljava/lang/String;"⟩ : MethodName) (head1 (Jvm.Cond.code (⟨"java/lang/StringBuilder", "toString", "()Ljava/lang/String;"⟩ : MethodName) jdk_67_method_42_code 1 (some (.object "java/lang/String")) :: ws) ({ frames := 5, cells := 2, slots := 78, locals := 79 } : Room)) (fun a U => a = #[(.ref a1)] ∧ Z.Warmed39 U.vm ∧ U.heap = h0) (fun _ _ _ _ _ => True) (fun _ U o U' => ∃ v L, o = .returned v ∧ Q_own_ts Z a1 d k cap cnt bs i_COMPACT_STRINGS h0 n0 v U'.heap L ∧ FrameEnd U o U' L ({ frames := 5, cells := 2, slots := 78, locals := 79 } : Room).cells ({ frames := 5, cells := 2, slots := 78, locals := 79 } : Room).slots) := by
  refine MetFree.of_bodySF (plainFor_of_name own_pn16) hisR ?_
  intro p e s m args below meth c s₁ Bd hml0 hP hK
  obtain ⟨rfl, hZ, hh⟩ := hP
  have hx := Bd.exec
  have hby := Bd.bytes
  have hml : c.maxLocals = 1 := hml0
  have hown : s.vm.findClass "java/lang/StringBuilder" = some m.cls := findClass_of_methodNamed Bd.named
  have hnm := (name_of_methodNamed Bd.named Bd.method).1
  have X0 : Stand p l e ({ frames := 5, cells := 2, slots := 78, locals := 79 } : Room) s m #[(.ref a1)] below meth c s₁ [] 0 0 := Stand.of_body Bd
  have e0 : s₁.heap = h0 := by rw [← hh, Bd.state]; rfl
  have N0 := Fr.nil n0
  have K0 := Keep.refl h0 []
  refine own_go (fun t k => castTop (own_ef515 m a1) k) ?_
  show OG m s₁ 0 #[sR a1] []
  obtain ⟨T1, h1, X1, e1, E1, A1, D1, -, st1⟩ := newO X0 hx hZ hown (tw hw 123 rfl) (tw hw 54 rfl) (tw hw 21 rfl) e0 (g := (mkF m 0 #[sR a1] [])) rfl (hb hby own_d516) (by decide) (by decide)
  obtain ⟨b1, g1⟩ : ∃ z, z = h0.size := ⟨_, rfl⟩
  rw [← g1] at A1 D1 st1
  have ne2 : a1 ≠ b1 := Nat.ne_of_lt (Nat.lt_of_lt_of_le f0_0.lt (Nat.le_of_eq g1.symm))
  have ne3 : d ≠ b1 := Nat.ne_of_lt (Nat.lt_of_lt_of_le f0_4.lt (Nat.le_of_eq g1.symm))
  have g_b1 : n0 ≤ b1 := Nat.le_trans Z0 (Nat.le_of_eq g1.symm)
  have sz_b1 : h0.size ≤ b1 := Nat.le_trans K0.1 (Nat.le_of_eq g1.symm)
  have F4 : Exa Z h1 a1 "java/lang/StringBuilder" := f0_0.ext E1
  have F5 : Fld Z h1 a1 "java/lang/AbstractStringBuilder" "value" "[B" (.ref d) := f0_1.ext E1
  have F6 : Fld Z h1 a1 "java/lang/AbstractStringBuilder" "coder" "B" (.int (0 : Int32)) := f0_2.ext E1
  have F7 : Fld Z h1 a1 "java/lang/AbstractStringBuilder" "count" "I" (.int cnt) := f0_3.ext E1
  have F8 : Exa Z h1 d "[B" := f0_4.ext E1
  have F9 : Arv Z h1 d k .byte cap (own_B bs) (.int (0 : Int32)) := f0_5.ext E1
  have F10 : Old Z n0 h1 := O0.ext E1
  have K11 : Keep h0 h1 [] := K0.ext E1
  have Z11 : n0 ≤ h1.size := Nat.le_trans Z0 E1.1
  have F12 : Fld Z h1 b1 "java/lang/String" "value" "[B" .null := D1 (Or.inr (tw hw 55 rfl)) (ty := (.array .byte)) (by decide)
  have F13 : Fld Z h1 b1 "java/lang/String" "coder" "B" (.int (0 : Int32)) := D1 (Or.inr (tw hw 56 rfl)) (ty := .byte) (by decide)
  refine own_go (fun t k => st1 t k) ?_
  show OG m T1 3 #[sR a1] [(.ref b1)]
  refine og (XS.dup X1.here hx rfl (hb hby own_d517) rfl rfl) ?_
  refine og (XS.aloadN X1.here hx rfl (hb hby own_d518) rfl rfl) ?_
  show OG m T1 5 #[sR a1] [(.ref a1), (.ref b1), (.ref b1)]
  obtain ⟨_, _, ⟨T14, L14, k14, n14⟩, -, X14, ⟨Lc14, hQ14, l14, y14, z14⟩, st14⟩ := X1.specialBack hx (y := (⟨"java/lang/String", "<init>", "(Ljava/lang/StringBuilder;)V"⟩ : MethodName)) rfl hown (mvT hZ (tw hw 124 rfl)) (mvT hZ (tw hw 125 rfl)) (mvT hZ (tw hw 127 rfl)) (by decide) (backOf (W := 1) (own_sib l Z a0 hw [] b1 a1 d k cap cnt bs i_COMPACT_STRINGS h1 n0 Z11 F10 S_COMPACT_STRINGS nz_i_COMPACT_STRINGS A1 F12 F13 F4 F5 F6 F7 F8 F9 g_b1 hcap hlen hcnt) hZ (tw hw 127 rfl) (tw hw 21 rfl) (by decide) (by decide)) (g := (mkF m 5 #[sR a1] [(.ref a1), (.ref b1), (.ref b1)])) rfl (by rw [hml]; rfl) (Steps.refl _) (a := b1) (argsL := [(.ref a1)]) (rest := [(.ref b1)]) (lenOf own_pd520 rfl) rfl (by show 2 * 0 + _ ≤ _; exact Nat.le_of_eq rfl) (hb hby own_d519) (fun _ _ => ⟨rfl, e1, (by decide : 1 + 1 ≤ _), (by decide : 4 + 74 ≤ _)⟩)
  dsimp only [Pt.U, Pt.locs, Pt.cells, Pt.slots] at X14 l14 y14 z14 st14 hQ14
  subst l14 y14 z14
  obtain ⟨xd_14, xk_14, rfl, Nq14, Kq14, Fq14_0, Fq14_1, Fq14_2, Fq14_3, mq14_fd⟩ := hQ14
  have N14 := Fr.app N0 Nq14
  have ne15 : a1 ≠ xd_14 := Nat.ne_of_lt (Nat.lt_of_lt_of_le F4.lt mq14_fd)
  have ne16 : d ≠ xd_14 := Nat.ne_of_lt (Nat.lt_of_lt_of_le F8.lt mq14_fd)
  have ne17 : b1 ≠ xd_14 := Nat.ne_of_lt (Nat.lt_of_lt_of_le A1.lt mq14_fd)
  have g_xd_14 : n0 ≤ xd_14 := Nat.le_trans Z11 mq14_fd
  have sz_xd_14 : h0.size ≤ xd_14 := Nat.le_trans K11.1 mq14_fd
  have F18 : Exa Z T14.heap a1 "java/lang/StringBuilder" := F4.keep Kq14
  have F19 : Fld Z T14.heap a1 "java/lang/AbstractStringBuilder" "value" "[B" (.ref d) := F5.keep Kq14 (ninS ne2 nin0)
  have F20 : Fld Z T14.heap a1 "java/lang/AbstractStringBuilder" "coder" "B" (.int (0 : Int32)) := F6.keep Kq14 (ninS ne2 nin0)
  have F21 : Fld Z T14.heap a1 "java/lang/AbstractStringBuilder" "count" "I" (.int cnt) := F7.keep Kq14 (ninS ne2 nin0)
  have F22 : Exa Z T14.heap d "[B" := F8.keep Kq14
  have F23 : Arv Z T14.heap d k .byte cap (own_B bs) (.int (0 : Int32)) := F9.keep Kq14 (ninS ne3 nin0)
  have F24 : Old Z n0 T14.heap := F10.keep Kq14 (allS g_b1 all0)
  have F25 : Exa Z T14.heap b1 "java/lang/String" := A1.keep Kq14
  have K14 : Keep h0 T14.heap [] := K11.trans Kq14 (allS (Or.inr sz_b1) all0)
  have Z14 : n0 ≤ T14.heap.size := Nat.le_trans Z11 Kq14.1
  refine og (st14.trans) ?_
  show OG m T14 8 #[sR a1] [(.ref b1)]
  obtain ⟨fs, hr, hrun, hended, hW, hsame⟩ := X14.leave (v := some (.ref b1)) (fun h => by rw [Bd.returns] at h; cases h)
  have hlast : Steps p.tables e below (T14.setTop (mkF m 8 #[sR a1] [(.ref b1)])) (T14.setFrames fs) := by
    exact retOut X14 hx (t := (.object "java/lang/String")) Bd.returns rfl (Or.inr (Or.inr (Or.inr (Or.inr ⟨rfl, rfl, rfl⟩)))) (hb hby own_d521) hr
  refine ⟨_, _, hlast, hrun, hended, _, _, rfl, ?_, ⟨_, rfl⟩, hW, hsame.mono (by decide) (by decide)⟩
  show Q_own_ts Z a1 d k cap cnt bs i_COMPACT_STRINGS h0 n0 _ T14.heap _
  exact ⟨b1, xd_14, xk_14, rfl, N14, K14, Fq14_0, Fq14_1, Fq14_2, Fq14_3, sz_b1, sz_xd_14⟩
def own_ok (ch : Int32) : Prop := nar .char ((ch &&& (255 : Int32)).toUInt32.toUInt16.toUInt32.toInt32) = ch ∧ nar .char ch = ch
theorem own_ok_dig (n : Nat) : own_ok (Int32.ofNat (48 + n % 10)) := by
  have h : ∀ i : Fin 10, nar .char ((Int32.ofNat (48 + i.val) &&& (255 : Int32)).toUInt32.toUInt16.toUInt32.toInt32) = Int32.ofNat (48 + i.val) ∧ nar .char (Int32.ofNat (48 + i.val)) = Int32.ofNat (48 + i.val) := by decide +kernel
  exact h ⟨n % 10, Nat.mod_lt _ (by decide)⟩
theorem own_ok45 : own_ok (45 : Int32) := by unfold own_ok; decide +kernel
theorem own_ok44 : own_ok (44 : Int32) := by unfold own_ok; decide +kernel
theorem own_ok123 : own_ok (123 : Int32) := by unfold own_ok; decide +kernel
theorem own_ok125 : own_ok (125 : Int32) := by unfold own_ok; decide +kernel
theorem own_B_at {cs : List Int32} {i : Nat} {ch : Int32} (h : cs[i]? = some ch) : (own_B cs).getD i (.int (0 : Int32)) = .int ch := by
  simp [List.getD_eq_getElem?_getD, h]
theorem own_in {ix sl : Int32} {n : Nat} {cs : List Int32} (hsl : ¬ sl < 0 ∧ sl.toNatClampNeg = cs.length) (hix : ix.toInt = (n : Int)) (hn : n < cs.length) : ¬ ix < 0 ∧ ix < sl := by
  have q := own_clamp hsl.1
  exact ⟨own_nn (by omega), by rw [Int32.lt_iff_toInt_lt]; omega⟩
theorem own_digv {v pow : Int64} {vn kn : Nat} (hv : v.toInt = (vn : Int)) (hp : pow.toInt = ((10 ^ kn : Nat) : Int)) : ((48 : Int32) + ((v / pow) - (v / pow) / (10 : Int64) * (10 : Int64)).toInt32).toUInt32.toUInt16.toUInt32.toInt32 = Int32.ofNat (48 + vn / 10 ^ kn % 10) := by
  have hpos : 0 < 10 ^ kn := Nat.pow_pos (by decide)
  have hpm : pow ≠ -1 := fun q => by rw [q, show (-1 : Int64).toInt = -1 from rfl] at hp; omega
  have a := (c_ldiv v pow _ hp hpm).1 (by omega)
  rw [hv, ← Int.natCast_ediv] at a
  generalize v / pow = w at a ⊢
  generalize vn / 10 ^ kn = n at a ⊢
  have b := (c_lrem w 10 10 rfl).1 (by omega)
  rw [a] at b
  generalize w - w / 10 * 10 = u at b ⊢
  have c := c_l2i u; have rc := rng32 u.toInt32
  generalize u.toInt32 = i at c rc ⊢
  have d := c_iadd 48 i; have rd := rng32 (48 + i); have e48 : (48 : Int32).toInt = 48 := rfl
  have hd : (48 + i).toInt = ((48 + n % 10 : Nat) : Int) := by omega
  have f := c_i2c (48 + i)
  apply Int32.toInt_inj.mp
  rw [own_ofNat (by omega)]
  omega
theorem own_ix {p1 p2 p4 : Int32} {q d k : Nat} (h1 : p1.toInt = (q : Int)) (h2 : p2.toInt = (d : Int)) (h4 : p4.toInt = (k : Int)) (hk : k < d) (hb : q + d ≤ 1000) : (p1 + p2 - (1 : Int32) - p4).toInt = ((q + d - 1 - k : Nat) : Int) := by
  have a := c_iadd p1 p2; have ra := rng32 (p1 + p2)
  have b := c_isub (p1 + p2) 1; have rb := rng32 (p1 + p2 - 1); have e1 : (1 : Int32).toInt = 1 := rfl
  have c := c_isub (p1 + p2 - 1) p4; have rc := rng32 (p1 + p2 - 1 - p4)
  omega
theorem own_dg_leaf {r : Int32} {v : Nat} (i : Nat) (h1 : 1 ≤ i ∧ i ≤ 10) (lo : i = 1 ∨ 10 ^ (i - 1) ≤ v) (up : i = 10 ∨ v < 10 ^ i) (hr : r = Int32.ofNat i) : some (Value.int r) = some (Value.int (Int32.ofNat (own_nd v))) := by
  rw [own_nd_eq v i h1 lo up, hr]
theorem own_jlt {p c : Int64} {v L : Nat} (h : p < c) (hp : p.toInt = (v : Int)) (hc : c.toInt = (L : Int)) : v < L := by rw [Int64.lt_iff_toInt_lt] at h; omega
theorem own_jge {p c : Int64} {v L : Nat} (h : ¬ p < c) (hp : p.toInt = (v : Int)) (hc : c.toInt = (L : Int)) : L ≤ v := by rw [Int64.lt_iff_toInt_lt] at h; omega
theorem own_abs_neg {x : Int32} (h : x.toInt64 < (0 : Int64)) : x < 0 ∧ (-(x.toInt64)).toInt = (x.toInt.natAbs : Int) := by
  rw [Int64.lt_iff_toInt_lt, c_i2l, show (0 : Int64).toInt = 0 from rfl] at h
  have a := c_lneg x.toInt64; have r := rng64 (-(x.toInt64)); rw [c_i2l] at a; have rx := rng32 x
  exact ⟨by rw [Int32.lt_iff_toInt_lt]; exact h, by omega⟩
theorem own_abs_pos {x : Int32} (h : ¬ x.toInt64 < (0 : Int64)) : ¬ x < 0 ∧ (x.toInt64).toInt = (x.toInt.natAbs : Int) := by
  rw [Int64.lt_iff_toInt_lt, c_i2l, show (0 : Int64).toInt = 0 from rfl] at h
  exact ⟨by rw [Int32.lt_iff_toInt_lt]; exact h, by rw [c_i2l]; omega⟩
theorem own_w_neg {x : Int32} (h : x < 0) : some (Value.int ((1 : Int32) + Int32.ofNat (own_nd x.toInt.natAbs))) = some (Value.int (own_ssz x)) := by
  have hr := own_nd_rng x.toInt.natAbs
  have e : (1 : Int32) + Int32.ofNat (own_nd x.toInt.natAbs) = own_ssz x := by
    apply Int32.toInt_inj.mp
    rw [own_ssz_val, show own_sg x = 1 from if_pos h]
    have a := c_iadd 1 (Int32.ofNat (own_nd x.toInt.natAbs)); rw [own_ofNat (by omega)] at a; have r := rng32 (1 + Int32.ofNat (own_nd x.toInt.natAbs)); have e1 : (1 : Int32).toInt = 1 := rfl
    omega
  rw [e]
theorem own_w_pos {x : Int32} (h : ¬ x < 0) : some (Value.int (Int32.ofNat (own_nd x.toInt.natAbs))) = some (Value.int (own_ssz x)) := by
  unfold own_ssz; rw [show own_sg x = 0 from if_neg h, Nat.add_zero]
theorem own_rd_neg {cs : List Int32} {x : Int32} {pn : Nat} (hx : x < 0) (hsub : ∀ j, j < (own_txt x).length → cs[pn + j]? = (own_txt x)[j]?) : cs[pn]? = some 45 ∧ ∀ j, j < own_nd x.toInt.natAbs → cs[(pn + 1) + own_nd x.toInt.natAbs - 1 - j]? = some (Int32.ofNat (48 + x.toInt.natAbs / 10 ^ j % 10)) := by
  have e := own_txt_eq (x := x) rfl; rw [if_pos hx] at e
  have hl : (own_txt x).length = own_nd x.toInt.natAbs + 1 := by rw [e]; simp [own_ds_len]
  refine ⟨by have q := hsub 0 (by omega); rw [e] at q; simpa using q, fun j hj => ?_⟩
  have q := hsub (1 + (own_nd x.toInt.natAbs - 1 - j)) (by omega)
  rw [show pn + (1 + (own_nd x.toInt.natAbs - 1 - j)) = (pn + 1) + own_nd x.toInt.natAbs - 1 - j by omega] at q
  rw [q, e, Nat.add_comm 1]
  show (own_ds x.toInt.natAbs (own_nd x.toInt.natAbs))[own_nd x.toInt.natAbs - 1 - j]? = _
  exact own_ds_get _ _ _ hj
theorem own_rd_pos {cs : List Int32} {x : Int32} {pn : Nat} (hx : ¬ x < 0) (hsub : ∀ j, j < (own_txt x).length → cs[pn + j]? = (own_txt x)[j]?) : ∀ j, j < own_nd x.toInt.natAbs → cs[pn + own_nd x.toInt.natAbs - 1 - j]? = some (Int32.ofNat (48 + x.toInt.natAbs / 10 ^ j % 10)) := by
  have e := own_txt_eq (x := x) rfl; rw [if_neg hx] at e
  have hl : (own_txt x).length = own_nd x.toInt.natAbs := by rw [e]; simp [own_ds_len]
  intro j hj
  have q := hsub (own_nd x.toInt.natAbs - 1 - j) (by omega)
  rw [show pn + (own_nd x.toInt.natAbs - 1 - j) = pn + own_nd x.toInt.natAbs - 1 - j by omega] at q
  rw [q, e]
  show (own_ds x.toInt.natAbs (own_nd x.toInt.natAbs))[own_nd x.toInt.natAbs - 1 - j]? = _
  exact own_ds_get _ _ _ hj

theorem own_ef522 (m : MethodId) (a2 : Addr) : entryFrame m #[(.ref a2)] 1 = mkF m 0 #[sR a2] [] := by first | (simp [entryFrame, mkF, argsToLocals, Value.category]; done) | rfl
theorem own_d523 : decode jdk_42_method_154_code 0 = .ok (.getstatic 38, 3) := by decide +kernel
theorem own_d524 : decode jdk_42_method_154_code 3 = .ok (.ifCond .eq 14, 3) := by decide +kernel
theorem own_d525 : decode jdk_42_method_154_code 6 = .ok (.aload_n 0, 1) := by decide +kernel
theorem own_d526 : decode jdk_42_method_154_code 7 = .ok (.getfield 15, 3) := by decide +kernel
theorem own_d527 : decode jdk_42_method_154_code 10 = .ok (.ifCond .ne 7, 3) := by decide +kernel
theorem own_d528 : decode jdk_42_method_154_code 13 = .ok (.iconst 1, 1) := by decide +kernel
theorem own_d529 : decode jdk_42_method_154_code 14 = .ok (.goto 4, 3) := by decide +kernel
theorem own_d530 : decode jdk_42_method_154_code 18 = .ok (.ireturn, 1) := by decide +kernel
def Q_own_sil (Z : State) (a2 : Addr) (i_COMPACT_STRINGS : Int32) (h0 : Heap) (n0 : Nat) (v : Option Value) (h : Heap) (L : List Loc) : Prop := v = some (.int (1 : Int32)) ∧ Fr n0 L ∧ h = h0
set_option maxRecDepth 65536 in
set_option maxHeartbeats 40000000 in
theorem own_sil (l : Launch) (Z : State) (a0 : Array Value) (hw : ∀ d ∈ tables_1, d.before a0 Z = true) (ws : List Jvm.Cond) (a2 : Addr) (i_COMPACT_STRINGS : Int32) (h0 : Heap) (n0 : Nat) (Z0 : n0 ≤ h0.size) (O0 : Old Z n0 h0) (S_COMPACT_STRINGS : Sta Z Z.heap "java/lang/String" "COMPACT_STRINGS" "Z" (.int i_COMPACT_STRINGS)) (nz_i_COMPACT_STRINGS : i_COMPACT_STRINGS ≠ (0 : Int32)) (f0_0 : Fld Z h0 a2 "java/lang/String" "coder" "B" (.int (0 : Int32))) :
    MetFree l (⟨"java/lang/String", "isLatin1", "()Z"⟩ : MethodName) (head1 (Jvm.Cond.code (⟨"java/lang/String", "isLatin1", "()Z"⟩ : MethodName) jdk_42_method_154_code 1 (some .boolean) :: ws) ({ frames := 0, cells := 0, slots := 0, locals := 0 } : Room)) (fun a U => a = #[(.ref a2)] ∧ Z.Warmed39 U.vm ∧ U.heap = h0) (fun _ _ _ _ _ => True) (fun _ U o U' => ∃ v L, o = .returned v ∧ Q_own_sil Z a2 i_COMPACT_STRINGS h0 n0 v U'.heap L ∧ FrameEnd U o U' L ({ frames := 0, cells := 0, slots := 0, locals := 0 } : Room).cells ({ frames := 0, cells := 0, slots := 0, locals := 0 } : Room).slots) := by
  refine MetFree.of_bodySF (plainFor_of_name own_pn190) hisR ?_
  intro p e s m args below meth c s₁ Bd hml0 hP hK
  obtain ⟨rfl, hZ, hh⟩ := hP
  have hx := Bd.exec
  have hby := Bd.bytes
  have hml : c.maxLocals = 1 := hml0
  have hown : s.vm.findClass "java/lang/String" = some m.cls := findClass_of_methodNamed Bd.named
  have hnm := (name_of_methodNamed Bd.named Bd.method).1
  have X0 : Stand p l e ({ frames := 0, cells := 0, slots := 0, locals := 0 } : Room) s m #[(.ref a2)] below meth c s₁ [] 0 0 := Stand.of_body Bd
  have e0 : s₁.heap = h0 := by rw [← hh, Bd.state]; rfl
  have N0 := Fr.nil n0
  have K0 := Keep.refl h0 []
  refine own_go (fun t k => castTop (own_ef522 m a2) k) ?_
  show OG m s₁ 0 #[sR a2] []
  obtain ⟨T1, X1, e1, st1⟩ := getS2 X0 hx hZ hown (host := "") (Or.inl (tw hw 79 rfl)) Via.refl e0 (S_COMPACT_STRINGS.ext O0.2) (g := (mkF m 0 #[sR a2] [])) rfl (hb hby own_d523)
  refine own_go (fun t k => st1 t k) ?_
  show OG m T1 3 #[sR a2] [(.int i_COMPACT_STRINGS)]
  refine og (XS.ifNo X1.here hx rfl (hb hby own_d524) rfl ((if0 _ _).trans (feq nz_i_COMPACT_STRINGS).1)) ?_
  show OG m T1 6 #[sR a2] []
  refine og (XS.aloadN X1.here hx rfl (hb hby own_d525) rfl rfl) ?_
  show OG m T1 7 #[sR a2] [(.ref a2)]
  obtain ⟨T2, X2, e2, st2⟩ := getF X1 hx hZ hown (host := "") (Or.inl (tw hw 80 rfl)) Via.refl e1 f0_0 (g := (mkF m 7 #[sR a2] [(.ref a2)])) rfl rfl (hb hby own_d526)
  refine own_go (fun t k => st2 t k) ?_
  show OG m T2 10 #[sR a2] [(.int (0 : Int32))]
  refine og (XS.ifNo X2.here hx rfl (hb hby own_d527) rfl ((if0 _ _).trans (teq (by decide : (0 : Int32) = (0 : Int32))).2)) ?_
  refine og (XS.iconst X2.here hx rfl (hb hby own_d528)) ?_
  show OG m T2 14 #[sR a2] [(.int (1 : Int32))]
  refine og (XS.goto X2.here hx rfl (pc0 := 14) (pc' := 18) rfl (hb hby own_d529) (by decide) (by decide)) ?_
  show OG m T2 18 #[sR a2] [(.int (1 : Int32))]
  obtain ⟨fs, hr, hrun, hended, hW, hsame⟩ := X2.leave (v := some (.int (1 : Int32))) (fun h => by rw [Bd.returns] at h; cases h)
  refine ⟨_, _, retN X2 hx (t := .boolean) Bd.returns (by simp) (hb hby own_d530) hr, hrun, hended, _, _, rfl, ?_, ⟨_, rfl⟩, hW, hsame.mono (by decide) (by decide)⟩
  show Q_own_sil Z a2 i_COMPACT_STRINGS h0 n0 _ T2.heap _
  rw [e2]
  exact ⟨rfl, N0, rfl⟩
theorem own_ef531 (m : MethodId) (p1 : Int32) (p2 : Int32) : entryFrame m #[(.int p1), (.int p2), .null] 3 = mkF m 0 #[sI p1, sI p2, .val .null] [] := by first | (simp [entryFrame, mkF, argsToLocals, Value.category]; done) | rfl
theorem own_pn532 : plainName "jdk/internal/util/Preconditions" = true := by first | (simp [plainName, overriddenIn]; done) | decide +kernel
theorem own_d533 : decode jdk_41_method_11_code 0 = .ok (.iload_n 0, 1) := by decide +kernel
theorem own_d534 : decode jdk_41_method_11_code 1 = .ok (.ifCond .lt 8, 3) := by decide +kernel
theorem own_d535 : decode jdk_41_method_11_code 4 = .ok (.iload_n 0, 1) := by decide +kernel
theorem own_d536 : decode jdk_41_method_11_code 5 = .ok (.iload_n 1, 1) := by decide +kernel
theorem own_d537 : decode jdk_41_method_11_code 6 = .ok (.if_icmp .lt 10, 3) := by decide +kernel
theorem own_d538 : decode jdk_41_method_11_code 16 = .ok (.iload_n 0, 1) := by decide +kernel
theorem own_d539 : decode jdk_41_method_11_code 17 = .ok (.ireturn, 1) := by decide +kernel
def Q_own_pc0 (Z : State) (p1 : Int32) (p2 : Int32) (h0 : Heap) (n0 : Nat) (v : Option Value) (h : Heap) (L : List Loc) : Prop := v = some (.int p1) ∧ Fr n0 L ∧ h = h0
set_option maxRecDepth 65536 in
set_option maxHeartbeats 40000000 in
theorem own_pc0 (l : Launch) (Z : State) (a0 : Array Value) (hw : ∀ d ∈ tables_1, d.before a0 Z = true) (ws : List Jvm.Cond) (p1 : Int32) (p2 : Int32) (h0 : Heap) (n0 : Nat) (Z0 : n0 ≤ h0.size) (hi : ¬ p1 < 0 ∧ p1 < p2) :
    MetFree l (⟨"jdk/internal/util/Preconditions", "checkIndex", "(IILjava/util/function/BiFunction;)I"⟩ : MethodName) (head1 (Jvm.Cond.code (⟨"jdk/internal/util/Preconditions", "checkIndex", "(IILjava/util/function/BiFunction;)I"⟩ : MethodName) jdk_41_method_11_code 3 (some .int) :: ws) ({ frames := 0, cells := 0, slots := 0, locals := 0 } : Room)) (fun a U => a = #[(.int p1), (.int p2), .null] ∧ Z.Warmed39 U.vm ∧ U.heap = h0) (fun _ _ _ _ _ => True) (fun _ U o U' => ∃ v L, o = .returned v ∧ Q_own_pc0 Z p1 p2 h0 n0 v U'.heap L ∧ FrameEnd U o U' L ({ frames := 0, cells := 0, slots := 0, locals := 0 } : Room).cells ({ frames := 0, cells := 0, slots := 0, locals := 0 } : Room).slots) := by
  refine MetFree.of_bodySF (plainFor_of_name own_pn532) hisR ?_
  intro p e s m args below meth c s₁ Bd hml0 hP hK
  obtain ⟨rfl, hZ, hh⟩ := hP
  have hx := Bd.exec
  have hby := Bd.bytes
  have hml : c.maxLocals = 3 := hml0
  have hown : s.vm.findClass "jdk/internal/util/Preconditions" = some m.cls := findClass_of_methodNamed Bd.named
  have hnm := (name_of_methodNamed Bd.named Bd.method).1
  have X0 : Stand p l e ({ frames := 0, cells := 0, slots := 0, locals := 0 } : Room) s m #[(.int p1), (.int p2), .null] below meth c s₁ [] 0 0 := Stand.of_body Bd
  have e0 : s₁.heap = h0 := by rw [← hh, Bd.state]; rfl
  have N0 := Fr.nil n0
  have K0 := Keep.refl h0 []
  refine own_go (fun t k => castTop (own_ef531 m p1 p2) k) ?_
  show OG m s₁ 0 #[sI p1, sI p2, .val .null] []
  refine og (XS.iloadN X0.here hx rfl (hb hby own_d533) rfl) ?_
  show OG m s₁ 1 #[sI p1, sI p2, .val .null] [(.int p1)]
  refine og (XS.ifNo X0.here hx rfl (hb hby own_d534) rfl ((if0 _ _).trans (flt hi.1).1)) ?_
  show OG m s₁ 4 #[sI p1, sI p2, .val .null] []
  refine og (XS.iloadN X0.here hx rfl (hb hby own_d535) rfl) ?_
  refine og (XS.iloadN X0.here hx rfl (hb hby own_d536) rfl) ?_
  show OG m s₁ 6 #[sI p1, sI p2, .val .null] [(.int p2), (.int p1)]
  refine og (XS.icmpYes X0.here hx rfl (pc0 := 6) (pc' := 16) rfl (hb hby own_d537) rfl (tlt hi.2).1 (by decide) (by decide)) ?_
  show OG m s₁ 16 #[sI p1, sI p2, .val .null] []
  refine og (XS.iloadN X0.here hx rfl (hb hby own_d538) rfl) ?_
  show OG m s₁ 17 #[sI p1, sI p2, .val .null] [(.int p1)]
  obtain ⟨fs, hr, hrun, hended, hW, hsame⟩ := X0.leave (v := some (.int p1)) (fun h => by rw [Bd.returns] at h; cases h)
  refine ⟨_, _, retI X0 hx Bd.returns (hb hby own_d539) hr, hrun, hended, _, _, rfl, ?_, ⟨_, rfl⟩, hW, hsame.mono (by decide) (by decide)⟩
  show Q_own_pc0 Z p1 p2 h0 n0 _ s₁.heap _
  rw [e0]
  exact ⟨rfl, N0, rfl⟩
theorem own_ef540 (m : MethodId) (p1 : Int32) (p2 : Int32) (a3 : Addr) : entryFrame m #[(.int p1), (.int p2), (.ref a3)] 3 = mkF m 0 #[sI p1, sI p2, sR a3] [] := by first | (simp [entryFrame, mkF, argsToLocals, Value.category]; done) | rfl
def Q_own_pc1 (Z : State) (p1 : Int32) (p2 : Int32) (a3 : Addr) (h0 : Heap) (n0 : Nat) (v : Option Value) (h : Heap) (L : List Loc) : Prop := v = some (.int p1) ∧ Fr n0 L ∧ h = h0
set_option maxRecDepth 65536 in
set_option maxHeartbeats 40000000 in
theorem own_pc1 (l : Launch) (Z : State) (a0 : Array Value) (hw : ∀ d ∈ tables_1, d.before a0 Z = true) (ws : List Jvm.Cond) (p1 : Int32) (p2 : Int32) (a3 : Addr) (h0 : Heap) (n0 : Nat) (Z0 : n0 ≤ h0.size) (hi : ¬ p1 < 0 ∧ p1 < p2) :
    MetFree l (⟨"jdk/internal/util/Preconditions", "checkIndex", "(IILjava/util/function/BiFunction;)I"⟩ : MethodName) (head1 (Jvm.Cond.code (⟨"jdk/internal/util/Preconditions", "checkIndex", "(IILjava/util/function/BiFunction;)I"⟩ : MethodName) jdk_41_method_11_code 3 (some .int) :: ws) ({ frames := 0, cells := 0, slots := 0, locals := 0 } : Room)) (fun a U => a = #[(.int p1), (.int p2), (.ref a3)] ∧ Z.Warmed39 U.vm ∧ U.heap = h0) (fun _ _ _ _ _ => True) (fun _ U o U' => ∃ v L, o = .returned v ∧ Q_own_pc1 Z p1 p2 a3 h0 n0 v U'.heap L ∧ FrameEnd U o U' L ({ frames := 0, cells := 0, slots := 0, locals := 0 } : Room).cells ({ frames := 0, cells := 0, slots := 0, locals := 0 } : Room).slots) := by
  refine MetFree.of_bodySF (plainFor_of_name own_pn532) hisR ?_
  intro p e s m args below meth c s₁ Bd hml0 hP hK
  obtain ⟨rfl, hZ, hh⟩ := hP
  have hx := Bd.exec
  have hby := Bd.bytes
  have hml : c.maxLocals = 3 := hml0
  have hown : s.vm.findClass "jdk/internal/util/Preconditions" = some m.cls := findClass_of_methodNamed Bd.named
  have hnm := (name_of_methodNamed Bd.named Bd.method).1
  have X0 : Stand p l e ({ frames := 0, cells := 0, slots := 0, locals := 0 } : Room) s m #[(.int p1), (.int p2), (.ref a3)] below meth c s₁ [] 0 0 := Stand.of_body Bd
  have e0 : s₁.heap = h0 := by rw [← hh, Bd.state]; rfl
  have N0 := Fr.nil n0
  have K0 := Keep.refl h0 []
  refine own_go (fun t k => castTop (own_ef540 m p1 p2 a3) k) ?_
  show OG m s₁ 0 #[sI p1, sI p2, sR a3] []
  refine og (XS.iloadN X0.here hx rfl (hb hby own_d533) rfl) ?_
  show OG m s₁ 1 #[sI p1, sI p2, sR a3] [(.int p1)]
  refine og (XS.ifNo X0.here hx rfl (hb hby own_d534) rfl ((if0 _ _).trans (flt hi.1).1)) ?_
  show OG m s₁ 4 #[sI p1, sI p2, sR a3] []
  refine og (XS.iloadN X0.here hx rfl (hb hby own_d535) rfl) ?_
  refine og (XS.iloadN X0.here hx rfl (hb hby own_d536) rfl) ?_
  show OG m s₁ 6 #[sI p1, sI p2, sR a3] [(.int p2), (.int p1)]
  refine og (XS.icmpYes X0.here hx rfl (pc0 := 6) (pc' := 16) rfl (hb hby own_d537) rfl (tlt hi.2).1 (by decide) (by decide)) ?_
  show OG m s₁ 16 #[sI p1, sI p2, sR a3] []
  refine og (XS.iloadN X0.here hx rfl (hb hby own_d538) rfl) ?_
  show OG m s₁ 17 #[sI p1, sI p2, sR a3] [(.int p1)]
  obtain ⟨fs, hr, hrun, hended, hW, hsame⟩ := X0.leave (v := some (.int p1)) (fun h => by rw [Bd.returns] at h; cases h)
  refine ⟨_, _, retI X0 hx Bd.returns (hb hby own_d539) hr, hrun, hended, _, _, rfl, ?_, ⟨_, rfl⟩, hW, hsame.mono (by decide) (by decide)⟩
  show Q_own_pc1 Z p1 p2 a3 h0 n0 _ s₁.heap _
  rw [e0]
  exact ⟨rfl, N0, rfl⟩
theorem own_ef541 (m : MethodId) (p1 : Int32) (p2 : Int32) : entryFrame m #[(.int p1), (.int p2)] 2 = mkF m 0 #[sI p1, sI p2] [] := by first | (simp [entryFrame, mkF, argsToLocals, Value.category]; done) | rfl
theorem own_d542 : decode jdk_42_method_155_code 0 = .ok (.iload_n 0, 1) := by decide +kernel
theorem own_d543 : decode jdk_42_method_155_code 1 = .ok (.iload_n 1, 1) := by decide +kernel
theorem own_d544 : decode jdk_42_method_155_code 2 = .ok (.getstatic 1053, 3) := by decide +kernel
theorem own_d545 : decode jdk_42_method_155_code 5 = .ok (.invokestatic 1059, 3) := by decide +kernel
theorem own_pd546 : parseMethodDescriptor "(IILjava/util/function/BiFunction;)I" = some ⟨[.int, .int, (.object "java/util/function/BiFunction")], some .int⟩ := by decide +kernel
theorem own_d547 : decode jdk_42_method_155_code 8 = .ok (.pop, 1) := by decide +kernel
theorem own_d548 : decode jdk_42_method_155_code 9 = .ok (.return_, 1) := by decide +kernel
def Q_own_ci (Z : State) (p1 : Int32) (p2 : Int32) (v_SIOOBE_FORMATTER : Value) (h0 : Heap) (n0 : Nat) (v : Option Value) (h : Heap) (L : List Loc) : Prop := v = none ∧ Fr n0 L ∧ h = h0
set_option maxRecDepth 65536 in
set_option maxHeartbeats 40000000 in
theorem own_ci (l : Launch) (Z : State) (a0 : Array Value) (hw : ∀ d ∈ tables_1, d.before a0 Z = true) (ws : List Jvm.Cond) (p1 : Int32) (p2 : Int32) (v_SIOOBE_FORMATTER : Value) (h0 : Heap) (n0 : Nat) (Z0 : n0 ≤ h0.size) (O0 : Old Z n0 h0) (S_SIOOBE_FORMATTER : Sta Z Z.heap "jdk/internal/util/Preconditions" "SIOOBE_FORMATTER" "Ljava/util/function/BiFunction;" v_SIOOBE_FORMATTER) (ir_v_SIOOBE_FORMATTER : v_SIOOBE_FORMATTER.isRef = true) (hi : ¬ p1 < 0 ∧ p1 < p2) :
    MetFree l (⟨"java/lang/String", "checkIndex", "(II)V"⟩ : MethodName) (head1 (Jvm.Cond.code (⟨"java/lang/String", "checkIndex", "(II)V"⟩ : MethodName) jdk_42_method_155_code 2 none :: ws) ({ frames := 1, cells := 0, slots := 0, locals := 14 } : Room)) (fun a U => a = #[(.int p1), (.int p2)] ∧ Z.Warmed39 U.vm ∧ U.heap = h0) (fun _ _ _ _ _ => True) (fun _ U o U' => ∃ v L, o = .returned v ∧ Q_own_ci Z p1 p2 v_SIOOBE_FORMATTER h0 n0 v U'.heap L ∧ FrameEnd U o U' L ({ frames := 1, cells := 0, slots := 0, locals := 14 } : Room).cells ({ frames := 1, cells := 0, slots := 0, locals := 14 } : Room).slots) := by
  refine MetFree.of_bodySF (plainFor_of_name own_pn190) hisR ?_
  intro p e s m args below meth c s₁ Bd hml0 hP hK
  obtain ⟨rfl, hZ, hh⟩ := hP
  have hx := Bd.exec
  have hby := Bd.bytes
  have hml : c.maxLocals = 2 := hml0
  have hown : s.vm.findClass "java/lang/String" = some m.cls := findClass_of_methodNamed Bd.named
  have hnm := (name_of_methodNamed Bd.named Bd.method).1
  have X0 : Stand p l e ({ frames := 1, cells := 0, slots := 0, locals := 14 } : Room) s m #[(.int p1), (.int p2)] below meth c s₁ [] 0 0 := Stand.of_body Bd
  have e0 : s₁.heap = h0 := by rw [← hh, Bd.state]; rfl
  have N0 := Fr.nil n0
  have K0 := Keep.refl h0 []
  refine own_go (fun t k => castTop (own_ef541 m p1 p2) k) ?_
  show OG m s₁ 0 #[sI p1, sI p2] []
  refine og (XS.iloadN X0.here hx rfl (hb hby own_d542) rfl) ?_
  refine og (XS.iloadN X0.here hx rfl (hb hby own_d543) rfl) ?_
  show OG m s₁ 2 #[sI p1, sI p2] [(.int p2), (.int p1)]
  obtain ⟨T1, X1, e1, st1⟩ := getS2 X0 hx hZ hown (host := "") (Or.inl (tw hw 186 rfl)) Via.refl e0 (S_SIOOBE_FORMATTER.ext O0.2) (g := (mkF m 2 #[sI p1, sI p2] [(.int p2), (.int p1)])) rfl (hb hby own_d544)
  refine own_go (fun t k => st1 t k) ?_
  show OG m T1 5 #[sI p1, sI p2] [v_SIOOBE_FORMATTER, (.int p2), (.int p1)]
  rcases ref_cases ir_v_SIOOBE_FORMATTER with hv | ⟨fa, hv⟩
  · rw [hv]
    show OG m T1 5 #[sI p1, sI p2] [.null, (.int p2), (.int p1)]
    obtain ⟨_, _, ⟨T2, L2, k2, n2⟩, -, X2, ⟨Lc2, hQ2, l2, y2, z2⟩, st2⟩ := Jvm.LawKit.callS X1 hx (y := (⟨"jdk/internal/util/Preconditions", "checkIndex", "(IILjava/util/function/BiFunction;)I"⟩ : MethodName)) hown (mvT hZ (tw hw 188 rfl)) (mvT hZ (tw hw 189 rfl)) (mvT hZ (tw hw 187 rfl)) (mvT hZ (tw hw 190 rfl)) (by decide) (backOf (W := 0) (own_pc0 l Z a0 hw [] p1 p2 h0 n0 Z0 hi) hZ (tw hw 190 rfl) (tw hw 187 rfl) (by decide) (by decide)) (g := (mkF m 5 #[sI p1, sI p2] [.null, (.int p2), (.int p1)])) rfl (by rw [hml]; rfl) (argsL := [(.int p1), (.int p2), .null]) (rest := []) (lenOf own_pd546 rfl) rfl (by show 2 * 0 + _ ≤ _; exact Nat.le_of_eq rfl) (hb hby own_d545) (fun _ _ => ⟨rfl, e1, (by decide : 0 + 0 ≤ _), (by decide : 0 + 0 ≤ _)⟩)
    dsimp only [Pt.U, Pt.locs, Pt.cells, Pt.slots] at X2 l2 y2 z2 st2 hQ2
    subst l2 y2 z2
    obtain ⟨rfl, Nq2, eq2⟩ := hQ2
    have N2 := Fr.app N0 Nq2
    have e2 : T2.heap = h0 := eq2
    refine own_go (fun t k => st2 t k) ?_
    show OG m T2 8 #[sI p1, sI p2] [(.int p1)]
    refine og (XS.pop X2.here hx rfl (hb hby own_d547) rfl rfl) ?_
    show OG m T2 9 #[sI p1, sI p2] []
    obtain ⟨fs, hr, hrun, hended, hW, hsame⟩ := X2.leave (v := none) (fun _ => rfl)
    refine ⟨_, _, X2.returnOut hx Bd.returns (hb hby own_d548) hr, hrun, hended, _, _, rfl, ?_, ⟨_, rfl⟩, hW, hsame.mono (by decide) (by decide)⟩
    show Q_own_ci Z p1 p2 v_SIOOBE_FORMATTER h0 n0 _ T2.heap _
    rw [e2]
    exact ⟨rfl, N2, rfl⟩
  · rw [hv]
    show OG m T1 5 #[sI p1, sI p2] [(.ref fa), (.int p2), (.int p1)]
    obtain ⟨_, _, ⟨T3, L3, k3, n3⟩, -, X3, ⟨Lc3, hQ3, l3, y3, z3⟩, st3⟩ := Jvm.LawKit.callS X1 hx (y := (⟨"jdk/internal/util/Preconditions", "checkIndex", "(IILjava/util/function/BiFunction;)I"⟩ : MethodName)) hown (mvT hZ (tw hw 188 rfl)) (mvT hZ (tw hw 189 rfl)) (mvT hZ (tw hw 187 rfl)) (mvT hZ (tw hw 190 rfl)) (by decide) (backOf (W := 0) (own_pc1 l Z a0 hw [] p1 p2 fa h0 n0 Z0 hi) hZ (tw hw 190 rfl) (tw hw 187 rfl) (by decide) (by decide)) (g := (mkF m 5 #[sI p1, sI p2] [(.ref fa), (.int p2), (.int p1)])) rfl (by rw [hml]; rfl) (argsL := [(.int p1), (.int p2), (.ref fa)]) (rest := []) (lenOf own_pd546 rfl) rfl (by show 2 * 0 + _ ≤ _; exact Nat.le_of_eq rfl) (hb hby own_d545) (fun _ _ => ⟨rfl, e1, (by decide : 0 + 0 ≤ _), (by decide : 0 + 0 ≤ _)⟩)
    dsimp only [Pt.U, Pt.locs, Pt.cells, Pt.slots] at X3 l3 y3 z3 st3 hQ3
    subst l3 y3 z3
    obtain ⟨rfl, Nq3, eq3⟩ := hQ3
    have N3 := Fr.app N0 Nq3
    have e3 : T3.heap = h0 := eq3
    refine own_go (fun t k => st3 t k) ?_
    show OG m T3 8 #[sI p1, sI p2] [(.int p1)]
    refine og (XS.pop X3.here hx rfl (hb hby own_d547) rfl rfl) ?_
    show OG m T3 9 #[sI p1, sI p2] []
    obtain ⟨fs, hr, hrun, hended, hW, hsame⟩ := X3.leave (v := none) (fun _ => rfl)
    refine ⟨_, _, X3.returnOut hx Bd.returns (hb hby own_d548) hr, hrun, hended, _, _, rfl, ?_, ⟨_, rfl⟩, hW, hsame.mono (by decide) (by decide)⟩
    show Q_own_ci Z p1 p2 v_SIOOBE_FORMATTER h0 n0 _ T3.heap _
    rw [e3]
    exact ⟨rfl, N3, rfl⟩
theorem own_ef549 (m : MethodId) (sv : Addr) (p1 : Int32) : entryFrame m #[(.ref sv), (.int p1)] 2 = mkF m 0 #[sR sv, sI p1] [] := by first | (simp [entryFrame, mkF, argsToLocals, Value.category]; done) | rfl
theorem own_d550 : decode jdk_43_method_2_code 0 = .ok (.iload_n 1, 1) := by decide +kernel
theorem own_d551 : decode jdk_43_method_2_code 1 = .ok (.aload_n 0, 1) := by decide +kernel
theorem own_d552 : decode jdk_43_method_2_code 2 = .ok (.arraylength, 1) := by decide +kernel
theorem own_d553 : decode jdk_43_method_2_code 3 = .ok (.invokestatic 9, 3) := by decide +kernel
theorem own_d554 : decode jdk_43_method_2_code 6 = .ok (.aload_n 0, 1) := by decide +kernel
theorem own_d555 : decode jdk_43_method_2_code 7 = .ok (.iload_n 1, 1) := by decide +kernel
theorem own_d556 : decode jdk_43_method_2_code 8 = .ok (.baload, 1) := by decide +kernel
theorem own_d557 : decode jdk_43_method_2_code 9 = .ok (.sipush 255, 3) := by decide +kernel
theorem own_d558 : decode jdk_43_method_2_code 12 = .ok (.iand, 1) := by decide +kernel
theorem own_d559 : decode jdk_43_method_2_code 13 = .ok (.i2c, 1) := by decide +kernel
theorem own_d560 : decode jdk_43_method_2_code 14 = .ok (.ireturn, 1) := by decide +kernel
def Q_own_lc (Z : State) (sv : Addr) (p1 : Int32) (sk : ClassId) (sl : Int32) (cs : List Int32) (ch : Int32) (v_SIOOBE_FORMATTER : Value) (h0 : Heap) (n0 : Nat) (v : Option Value) (h : Heap) (L : List Loc) : Prop := v = some (.int ch) ∧ Fr n0 L ∧ h = h0
set_option maxRecDepth 65536 in
set_option maxHeartbeats 40000000 in
theorem own_lc (l : Launch) (Z : State) (a0 : Array Value) (hw : ∀ d ∈ tables_1, d.before a0 Z = true) (ws : List Jvm.Cond) (sv : Addr) (p1 : Int32) (sk : ClassId) (sl : Int32) (cs : List Int32) (ch : Int32) (v_SIOOBE_FORMATTER : Value) (h0 : Heap) (n0 : Nat) (Z0 : n0 ≤ h0.size) (O0 : Old Z n0 h0) (S_SIOOBE_FORMATTER : Sta Z Z.heap "jdk/internal/util/Preconditions" "SIOOBE_FORMATTER" "Ljava/util/function/BiFunction;" v_SIOOBE_FORMATTER) (ir_v_SIOOBE_FORMATTER : v_SIOOBE_FORMATTER.isRef = true) (f0_0 : Arv Z h0 sv sk .byte sl (own_B cs) (.int (0 : Int32))) (hi : ¬ p1 < 0 ∧ p1 < sl) (hat : cs[p1.toNatClampNeg]? = some ch) (hok : own_ok ch) :
    MetFree l (⟨"java/lang/StringLatin1", "charAt", "([BI)C"⟩ : MethodName) (head1 (Jvm.Cond.code (⟨"java/lang/StringLatin1", "charAt", "([BI)C"⟩ : MethodName) jdk_43_method_2_code 2 (some .char) :: ws) ({ frames := 2, cells := 0, slots := 0, locals := 27 } : Room)) (fun a U => a = #[(.ref sv), (.int p1)] ∧ Z.Warmed39 U.vm ∧ U.heap = h0) (fun _ _ _ _ _ => True) (fun _ U o U' => ∃ v L, o = .returned v ∧ Q_own_lc Z sv p1 sk sl cs ch v_SIOOBE_FORMATTER h0 n0 v U'.heap L ∧ FrameEnd U o U' L ({ frames := 2, cells := 0, slots := 0, locals := 27 } : Room).cells ({ frames := 2, cells := 0, slots := 0, locals := 27 } : Room).slots) := by
  refine MetFree.of_bodySF (plainFor_of_name own_pn144) hisR ?_
  intro p e s m args below meth c s₁ Bd hml0 hP hK
  obtain ⟨rfl, hZ, hh⟩ := hP
  have hx := Bd.exec
  have hby := Bd.bytes
  have hml : c.maxLocals = 2 := hml0
  have hown : s.vm.findClass "java/lang/StringLatin1" = some m.cls := findClass_of_methodNamed Bd.named
  have hnm := (name_of_methodNamed Bd.named Bd.method).1
  have X0 : Stand p l e ({ frames := 2, cells := 0, slots := 0, locals := 27 } : Room) s m #[(.ref sv), (.int p1)] below meth c s₁ [] 0 0 := Stand.of_body Bd
  have e0 : s₁.heap = h0 := by rw [← hh, Bd.state]; rfl
  have N0 := Fr.nil n0
  have K0 := Keep.refl h0 []
  refine own_go (fun t k => castTop (own_ef549 m sv p1) k) ?_
  show OG m s₁ 0 #[sR sv, sI p1] []
  refine og (XS.iloadN X0.here hx rfl (hb hby own_d550) rfl) ?_
  refine og (XS.aloadN X0.here hx rfl (hb hby own_d551) rfl rfl) ?_
  show OG m s₁ 2 #[sR sv, sI p1] [(.ref sv), (.int p1)]
  have vv1 := f0_0
  obtain ⟨cl1, Ar1, qk1, Sz1, Nn1, Hs1, Gs1⟩ := vv1
  have st1 : ∀ t, Steps p.tables e below (s₁.setTop (mkF m 3 #[sR sv, sI p1] [(.int sl), (.int p1)])) t → Steps p.tables e below (s₁.setTop (mkF m 2 #[sR sv, sI p1] [(.ref sv), (.int p1)])) t := fun t k => by
    refine X0.arraylength hx (by rw [e0]; exact Ar1.1) (State.isArrayOf_alike hZ.alike Ar1.2.1) (g := (mkF m 2 #[sR sv, sI p1] [(.ref sv), (.int p1)])) rfl rfl (hb hby own_d552) _ ?_
    rw [len_of Sz1 Nn1]
    exact k
  refine own_go (fun t k => st1 t k) ?_
  show OG m s₁ 3 #[sR sv, sI p1] [(.int sl), (.int p1)]
  obtain ⟨_, _, ⟨T2, L2, k2, n2⟩, -, X2, ⟨Lc2, hQ2, l2, y2, z2⟩, st2⟩ := Jvm.LawKit.callS X0 hx (y := (⟨"java/lang/String", "checkIndex", "(II)V"⟩ : MethodName)) hown (mvT hZ (tw hw 183 rfl)) (mvT hZ (tw hw 184 rfl)) (mvT hZ (tw hw 21 rfl)) (mvT hZ (tw hw 185 rfl)) (by decide) (backOf (W := 0) (own_ci l Z a0 hw [] p1 sl v_SIOOBE_FORMATTER h0 n0 Z0 O0 S_SIOOBE_FORMATTER ir_v_SIOOBE_FORMATTER hi) hZ (tw hw 185 rfl) (tw hw 21 rfl) (by decide) (by decide)) (g := (mkF m 3 #[sR sv, sI p1] [(.int sl), (.int p1)])) rfl (by rw [hml]; rfl) (argsL := [(.int p1), (.int sl)]) (rest := []) (lenOf own_pd446 rfl) rfl (by show 2 * 0 + _ ≤ _; exact Nat.le_of_eq rfl) (hb hby own_d553) (fun _ _ => ⟨rfl, e0, (by decide : 0 + 0 ≤ _), (by decide : 0 + 0 ≤ _)⟩)
  dsimp only [Pt.U, Pt.locs, Pt.cells, Pt.slots] at X2 l2 y2 z2 st2 hQ2
  subst l2 y2 z2
  obtain ⟨rfl, Nq2, eq2⟩ := hQ2
  have N2 := Fr.app N0 Nq2
  have e2 : T2.heap = h0 := eq2
  refine own_go (fun t k => st2 t k) ?_
  show OG m T2 6 #[sR sv, sI p1] []
  refine og (XS.aloadN X2.here hx rfl (hb hby own_d554) rfl rfl) ?_
  refine og (XS.iloadN X2.here hx rfl (hb hby own_d555) rfl) ?_
  show OG m T2 8 #[sR sv, sI p1] [(.int p1), (.ref sv)]
  have vv3 := f0_0
  obtain ⟨cl3, Ar3, qk3, Sz3, Nn3, Hs3, Gs3⟩ := vv3
  have hin3 : ¬ (p1 < 0 ∨ cl3.slots.size ≤ (p1).toNatClampNeg) := inb_of Sz3 hi
  have hat3 : cl3.slots[(p1).toNatClampNeg]? = some (.int ch) := Hs3.at hin3 (own_B_at hat)
  refine own_go (fun t k => (X2.baloadBytes hx (j := p1) (v := (.int ch)) (by rw [e2]; exact Ar3.1) (State.isArrayOf_alike hZ.alike Ar3.2.1) Ar3.2.2 hin3 hat3 (g := (mkF m 8 #[sR sv, sI p1] [(.int p1), (.ref sv)])) rfl rfl (hb hby own_d556)) t k) ?_
  show OG m T2 9 #[sR sv, sI p1] [(.int ch)]
  refine og (XS.sipush X2.here hx rfl (hb hby own_d557)) ?_
  show OG m T2 12 #[sR sv, sI p1] [(.int (255 : Int32)), (.int ch)]
  refine og (XS.iand X2.here hx rfl (hb hby own_d558) rfl) ?_
  show OG m T2 13 #[sR sv, sI p1] [(.int (ch &&& (255 : Int32)))]
  refine og (XS.i2c X2.here hx rfl (hb hby own_d559) rfl) ?_
  show OG m T2 14 #[sR sv, sI p1] [(.int ((ch &&& (255 : Int32)).toUInt32.toUInt16.toUInt32.toInt32))]
  obtain ⟨fs, hr, hrun, hended, hW, hsame⟩ := X2.leave (v := some (.int (nar .char ((ch &&& (255 : Int32)).toUInt32.toUInt16.toUInt32.toInt32)))) (fun h => by rw [Bd.returns] at h; cases h)
  refine ⟨_, _, retN X2 hx (t := .char) Bd.returns (by simp) (hb hby own_d560) hr, hrun, hended, _, _, rfl, ?_, ⟨_, rfl⟩, hW, hsame.mono (by decide) (by decide)⟩
  show Q_own_lc Z sv p1 sk sl cs ch v_SIOOBE_FORMATTER h0 n0 _ T2.heap _
  rw [e2]
  exact ⟨congrArg (fun z => some (Value.int z)) hok.1, N2, rfl⟩
theorem own_ef561 (m : MethodId) (a2 : Addr) (p1 : Int32) : entryFrame m #[(.ref a2), (.int p1)] 2 = mkF m 0 #[sR a2, sI p1] [] := by first | (simp [entryFrame, mkF, argsToLocals, Value.category]; done) | rfl
theorem own_d562 : decode jdk_42_method_56_code 0 = .ok (.aload_n 0, 1) := by decide +kernel
theorem own_d563 : decode jdk_42_method_56_code 1 = .ok (.invokevirtual 492, 3) := by decide +kernel
theorem own_d564 : decode jdk_42_method_56_code 4 = .ok (.ifCond .eq 12, 3) := by decide +kernel
theorem own_d565 : decode jdk_42_method_56_code 7 = .ok (.aload_n 0, 1) := by decide +kernel
theorem own_d566 : decode jdk_42_method_56_code 8 = .ok (.getfield 9, 3) := by decide +kernel
theorem own_d567 : decode jdk_42_method_56_code 11 = .ok (.iload_n 1, 1) := by decide +kernel
theorem own_d568 : decode jdk_42_method_56_code 12 = .ok (.invokestatic 495, 3) := by decide +kernel
theorem own_pd569 : parseMethodDescriptor "([BI)C" = some ⟨[(.array .byte), .int], some .char⟩ := by decide +kernel
theorem own_d570 : decode jdk_42_method_56_code 15 = .ok (.ireturn, 1) := by decide +kernel
def Q_own_ca (Z : State) (a2 : Addr) (p1 : Int32) (sv : Addr) (sk : ClassId) (sl : Int32) (cs : List Int32) (ch : Int32) (i_COMPACT_STRINGS : Int32) (v_SIOOBE_FORMATTER : Value) (h0 : Heap) (n0 : Nat) (v : Option Value) (h : Heap) (L : List Loc) : Prop := v = some (.int ch) ∧ Fr n0 L ∧ h = h0
set_option maxRecDepth 65536 in
set_option maxHeartbeats 40000000 in
theorem own_ca (l : Launch) (Z : State) (a0 : Array Value) (hw : ∀ d ∈ tables_1, d.before a0 Z = true) (ws : List Jvm.Cond) (a2 : Addr) (p1 : Int32) (sv : Addr) (sk : ClassId) (sl : Int32) (cs : List Int32) (ch : Int32) (i_COMPACT_STRINGS : Int32) (v_SIOOBE_FORMATTER : Value) (h0 : Heap) (n0 : Nat) (Z0 : n0 ≤ h0.size) (O0 : Old Z n0 h0) (S_COMPACT_STRINGS : Sta Z Z.heap "java/lang/String" "COMPACT_STRINGS" "Z" (.int i_COMPACT_STRINGS)) (nz_i_COMPACT_STRINGS : i_COMPACT_STRINGS ≠ (0 : Int32)) (S_SIOOBE_FORMATTER : Sta Z Z.heap "jdk/internal/util/Preconditions" "SIOOBE_FORMATTER" "Ljava/util/function/BiFunction;" v_SIOOBE_FORMATTER) (ir_v_SIOOBE_FORMATTER : v_SIOOBE_FORMATTER.isRef = true) (f0_0 : Exa Z h0 a2 "java/lang/String") (f0_1 : Fld Z h0 a2 "java/lang/String" "value" "[B" (.ref sv)) (f0_2 : Fld Z h0 a2 "java/lang/String" "coder" "B" (.int (0 : Int32))) (f0_3 : Arv Z h0 sv sk .byte sl (own_B cs) (.int (0 : Int32))) (hi : ¬ p1 < 0 ∧ p1 < sl) (hat : cs[p1.toNatClampNeg]? = some ch) (hok : own_ok ch) :
    MetFree l (⟨"java/lang/String", "charAt", "(I)C"⟩ : MethodName) (head1 (Jvm.Cond.code (⟨"java/lang/String", "charAt", "(I)C"⟩ : MethodName) jdk_42_method_56_code 2 (some .char) :: ws) ({ frames := 3, cells := 0, slots := 0, locals := 40 } : Room)) (fun a U => a = #[(.ref a2), (.int p1)] ∧ Z.Warmed39 U.vm ∧ U.heap = h0) (fun _ _ _ _ _ => True) (fun _ U o U' => ∃ v L, o = .returned v ∧ Q_own_ca Z a2 p1 sv sk sl cs ch i_COMPACT_STRINGS v_SIOOBE_FORMATTER h0 n0 v U'.heap L ∧ FrameEnd U o U' L ({ frames := 3, cells := 0, slots := 0, locals := 40 } : Room).cells ({ frames := 3, cells := 0, slots := 0, locals := 40 } : Room).slots) := by
  refine MetFree.of_bodySF (plainFor_of_name own_pn190) hisR ?_
  intro p e s m args below meth c s₁ Bd hml0 hP hK
  obtain ⟨rfl, hZ, hh⟩ := hP
  have hx := Bd.exec
  have hby := Bd.bytes
  have hml : c.maxLocals = 2 := hml0
  have hown : s.vm.findClass "java/lang/String" = some m.cls := findClass_of_methodNamed Bd.named
  have hnm := (name_of_methodNamed Bd.named Bd.method).1
  have X0 : Stand p l e ({ frames := 3, cells := 0, slots := 0, locals := 40 } : Room) s m #[(.ref a2), (.int p1)] below meth c s₁ [] 0 0 := Stand.of_body Bd
  have e0 : s₁.heap = h0 := by rw [← hh, Bd.state]; rfl
  have N0 := Fr.nil n0
  have K0 := Keep.refl h0 []
  refine own_go (fun t k => castTop (own_ef561 m a2 p1) k) ?_
  show OG m s₁ 0 #[sR a2, sI p1] []
  refine og (XS.aloadN X0.here hx rfl (hb hby own_d562) rfl rfl) ?_
  show OG m s₁ 1 #[sR a2, sI p1] [(.ref a2)]
  obtain ⟨cq1, kq1, q1a, q1b, q1c⟩ := isOf hZ e0 f0_0
  obtain ⟨_, _, ⟨T1, L1, k1, n1⟩, -, X1, ⟨Lc1, hQ1, l1, y1, z1⟩, st1⟩ := X0.virtualBack hx (y := (⟨"java/lang/String", "isLatin1", "()Z"⟩ : MethodName)) (z := (⟨"java/lang/String", "isLatin1", "()Z"⟩ : MethodName)) hown (mvT hZ (tw hw 175 rfl)) (mvT hZ (tw hw 176 rfl)) (notFace_of_selects (args := #[]) (mvT hZ (tw hw 178 rfl))) (mvT hZ (tw hw 178 rfl)) (mvT hZ (tw hw 177 rfl)) (by decide) (backOf (W := 0) (own_sil l Z a0 hw [] a2 i_COMPACT_STRINGS h0 n0 Z0 O0 S_COMPACT_STRINGS nz_i_COMPACT_STRINGS f0_2) hZ (tw hw 179 rfl) (tw hw 21 rfl) (by decide) (by decide)) q1a q1c (g := (mkF m 1 #[sR a2, sI p1] [(.ref a2)])) rfl (by rw [hml]; rfl) (Steps.refl _) (argsL := []) (rest := []) (lenOf own_pd160 rfl) rfl (by show 2 * 0 + _ ≤ _; exact Nat.le_of_eq rfl) (hb hby own_d563) (fun _ _ => ⟨rfl, e0, (by decide : 0 + 0 ≤ _), (by decide : 0 + 0 ≤ _)⟩)
  dsimp only [Pt.U, Pt.locs, Pt.cells, Pt.slots] at X1 l1 y1 z1 st1 hQ1
  subst l1 y1 z1
  obtain ⟨rfl, Nq1, eq1⟩ := hQ1
  have N1 := Fr.app N0 Nq1
  have e1 : T1.heap = h0 := eq1
  refine og (st1.trans) ?_
  show OG m T1 4 #[sR a2, sI p1] [(.int (1 : Int32))]
  refine og (XS.ifNo X1.here hx rfl (hb hby own_d564) rfl ((if0 _ _).trans (feq (by decide : ¬ ((1 : Int32) = (0 : Int32)))).1)) ?_
  refine og (XS.aloadN X1.here hx rfl (hb hby own_d565) rfl rfl) ?_
  show OG m T1 8 #[sR a2, sI p1] [(.ref a2)]
  obtain ⟨T2, X2, e2, st2⟩ := getF X1 hx hZ hown (host := "") (Or.inl (tw hw 73 rfl)) Via.refl e1 f0_1 (g := (mkF m 8 #[sR a2, sI p1] [(.ref a2)])) rfl rfl (hb hby own_d566)
  refine own_go (fun t k => st2 t k) ?_
  show OG m T2 11 #[sR a2, sI p1] [(.ref sv)]
  refine og (XS.iloadN X2.here hx rfl (hb hby own_d567) rfl) ?_
  show OG m T2 12 #[sR a2, sI p1] [(.int p1), (.ref sv)]
  obtain ⟨_, _, ⟨T3, L3, k3, n3⟩, -, X3, ⟨Lc3, hQ3, l3, y3, z3⟩, st3⟩ := Jvm.LawKit.callS X2 hx (y := (⟨"java/lang/StringLatin1", "charAt", "([BI)C"⟩ : MethodName)) hown (mvT hZ (tw hw 180 rfl)) (mvT hZ (tw hw 181 rfl)) (mvT hZ (tw hw 51 rfl)) (mvT hZ (tw hw 182 rfl)) (by decide) (backOf (W := 0) (own_lc l Z a0 hw [] sv p1 sk sl cs ch v_SIOOBE_FORMATTER h0 n0 Z0 O0 S_SIOOBE_FORMATTER ir_v_SIOOBE_FORMATTER f0_3 hi hat hok) hZ (tw hw 182 rfl) (tw hw 51 rfl) (by decide) (by decide)) (g := (mkF m 12 #[sR a2, sI p1] [(.int p1), (.ref sv)])) rfl (by rw [hml]; rfl) (argsL := [(.ref sv), (.int p1)]) (rest := []) (lenOf own_pd569 rfl) rfl (by show 2 * 0 + _ ≤ _; exact Nat.le_of_eq rfl) (hb hby own_d568) (fun _ _ => ⟨rfl, e2, (by decide : 0 + 0 ≤ _), (by decide : 0 + 0 ≤ _)⟩)
  dsimp only [Pt.U, Pt.locs, Pt.cells, Pt.slots] at X3 l3 y3 z3 st3 hQ3
  subst l3 y3 z3
  obtain ⟨rfl, Nq3, eq3⟩ := hQ3
  have N3 := Fr.app N1 Nq3
  have e3 : T3.heap = h0 := eq3
  refine own_go (fun t k => st3 t k) ?_
  show OG m T3 15 #[sR a2, sI p1] [(.int ch)]
  obtain ⟨fs, hr, hrun, hended, hW, hsame⟩ := X3.leave (v := some (.int (nar .char ch))) (fun h => by rw [Bd.returns] at h; cases h)
  refine ⟨_, _, retN X3 hx (t := .char) Bd.returns (by simp) (hb hby own_d570) hr, hrun, hended, _, _, rfl, ?_, ⟨_, rfl⟩, hW, hsame.mono (by decide) (by decide)⟩
  show Q_own_ca Z a2 p1 sv sk sl cs ch i_COMPACT_STRINGS v_SIOOBE_FORMATTER h0 n0 _ T3.heap _
  rw [e3]
  exact ⟨congrArg (fun z => some (Value.int z)) hok.2, N3, rfl⟩
theorem own_ef571 (m : MethodId) (p1 : Int64) : entryFrame m #[(.long p1)] 2 = mkF m 0 #[.val (.long p1), .second] [] := by first | (simp [entryFrame, mkF, argsToLocals, Value.category]; done) | rfl
theorem own_pn572 : plainName "standwatch/query/ArgumentsNumbersPinLaw" = true := by first | (simp [plainName, overriddenIn]; done) | decide +kernel
theorem own_d573 : decode method_3_code 0 = .ok (.lload_n 0, 1) := by decide +kernel
theorem own_d574 : decode method_3_code 1 = .ok (.ldc2_w 33, 3) := by decide +kernel
theorem own_d575 : decode method_3_code 4 = .ok (.lcmp, 1) := by decide +kernel
theorem own_d576 : decode method_3_code 5 = .ok (.ifCond .ge 5, 3) := by decide +kernel
theorem own_d577 : decode method_3_code 8 = .ok (.iconst 1, 1) := by decide +kernel
theorem own_d578 : decode method_3_code 9 = .ok (.ireturn, 1) := by decide +kernel
theorem own_d579 : decode method_3_code 10 = .ok (.lload_n 0, 1) := by decide +kernel
theorem own_d580 : decode method_3_code 11 = .ok (.ldc2_w 35, 3) := by decide +kernel
theorem own_d581 : decode method_3_code 14 = .ok (.lcmp, 1) := by decide +kernel
theorem own_d582 : decode method_3_code 15 = .ok (.ifCond .ge 5, 3) := by decide +kernel
theorem own_d583 : decode method_3_code 18 = .ok (.iconst 2, 1) := by decide +kernel
theorem own_d584 : decode method_3_code 19 = .ok (.ireturn, 1) := by decide +kernel
theorem own_d585 : decode method_3_code 20 = .ok (.lload_n 0, 1) := by decide +kernel
theorem own_d586 : decode method_3_code 21 = .ok (.ldc2_w 37, 3) := by decide +kernel
theorem own_d587 : decode method_3_code 24 = .ok (.lcmp, 1) := by decide +kernel
theorem own_d588 : decode method_3_code 25 = .ok (.ifCond .ge 5, 3) := by decide +kernel
theorem own_d589 : decode method_3_code 28 = .ok (.iconst 3, 1) := by decide +kernel
theorem own_d590 : decode method_3_code 29 = .ok (.ireturn, 1) := by decide +kernel
theorem own_d591 : decode method_3_code 30 = .ok (.lload_n 0, 1) := by decide +kernel
theorem own_d592 : decode method_3_code 31 = .ok (.ldc2_w 39, 3) := by decide +kernel
theorem own_d593 : decode method_3_code 34 = .ok (.lcmp, 1) := by decide +kernel
theorem own_d594 : decode method_3_code 35 = .ok (.ifCond .ge 5, 3) := by decide +kernel
theorem own_d595 : decode method_3_code 38 = .ok (.iconst 4, 1) := by decide +kernel
theorem own_d596 : decode method_3_code 39 = .ok (.ireturn, 1) := by decide +kernel
theorem own_d597 : decode method_3_code 40 = .ok (.lload_n 0, 1) := by decide +kernel
theorem own_d598 : decode method_3_code 41 = .ok (.ldc2_w 41, 3) := by decide +kernel
theorem own_d599 : decode method_3_code 44 = .ok (.lcmp, 1) := by decide +kernel
theorem own_d600 : decode method_3_code 45 = .ok (.ifCond .ge 5, 3) := by decide +kernel
theorem own_d601 : decode method_3_code 48 = .ok (.iconst 5, 1) := by decide +kernel
theorem own_d602 : decode method_3_code 49 = .ok (.ireturn, 1) := by decide +kernel
theorem own_d603 : decode method_3_code 50 = .ok (.lload_n 0, 1) := by decide +kernel
theorem own_d604 : decode method_3_code 51 = .ok (.ldc2_w 43, 3) := by decide +kernel
theorem own_d605 : decode method_3_code 54 = .ok (.lcmp, 1) := by decide +kernel
theorem own_d606 : decode method_3_code 55 = .ok (.ifCond .ge 6, 3) := by decide +kernel
theorem own_d607 : decode method_3_code 58 = .ok (.bipush 6, 2) := by decide +kernel
theorem own_d608 : decode method_3_code 60 = .ok (.ireturn, 1) := by decide +kernel
theorem own_d609 : decode method_3_code 61 = .ok (.lload_n 0, 1) := by decide +kernel
theorem own_d610 : decode method_3_code 62 = .ok (.ldc2_w 45, 3) := by decide +kernel
theorem own_d611 : decode method_3_code 65 = .ok (.lcmp, 1) := by decide +kernel
theorem own_d612 : decode method_3_code 66 = .ok (.ifCond .ge 6, 3) := by decide +kernel
theorem own_d613 : decode method_3_code 69 = .ok (.bipush 7, 2) := by decide +kernel
theorem own_d614 : decode method_3_code 71 = .ok (.ireturn, 1) := by decide +kernel
theorem own_d615 : decode method_3_code 72 = .ok (.lload_n 0, 1) := by decide +kernel
theorem own_d616 : decode method_3_code 73 = .ok (.ldc2_w 47, 3) := by decide +kernel
theorem own_d617 : decode method_3_code 76 = .ok (.lcmp, 1) := by decide +kernel
theorem own_d618 : decode method_3_code 77 = .ok (.ifCond .ge 6, 3) := by decide +kernel
theorem own_d619 : decode method_3_code 80 = .ok (.bipush 8, 2) := by decide +kernel
theorem own_d620 : decode method_3_code 82 = .ok (.ireturn, 1) := by decide +kernel
theorem own_d621 : decode method_3_code 83 = .ok (.lload_n 0, 1) := by decide +kernel
theorem own_d622 : decode method_3_code 84 = .ok (.ldc2_w 49, 3) := by decide +kernel
theorem own_d623 : decode method_3_code 87 = .ok (.lcmp, 1) := by decide +kernel
theorem own_d624 : decode method_3_code 88 = .ok (.ifCond .ge 6, 3) := by decide +kernel
theorem own_d625 : decode method_3_code 91 = .ok (.bipush 9, 2) := by decide +kernel
theorem own_d626 : decode method_3_code 93 = .ok (.ireturn, 1) := by decide +kernel
theorem own_d627 : decode method_3_code 94 = .ok (.bipush 10, 2) := by decide +kernel
theorem own_d628 : decode method_3_code 96 = .ok (.ireturn, 1) := by decide +kernel
def Q_own_dg (Z : State) (p1 : Int64) (vn : Nat) (h0 : Heap) (n0 : Nat) (v : Option Value) (h : Heap) (L : List Loc) : Prop := v = some (.int (Int32.ofNat (own_nd vn))) ∧ Fr n0 L ∧ h = h0
set_option maxRecDepth 65536 in
set_option maxHeartbeats 40000000 in
theorem own_dg (l : Launch) (Z : State) (a0 : Array Value) (hw : ∀ d ∈ tables_1, d.before a0 Z = true) (ws : List Jvm.Cond) (p1 : Int64) (vn : Nat) (h0 : Heap) (n0 : Nat) (Z0 : n0 ≤ h0.size) (hv : p1.toInt = (vn : Int)) :
    MetFree l (⟨"standwatch/query/ArgumentsNumbersPinLaw", "digits", "(J)I"⟩ : MethodName) (head1 (Jvm.Cond.code (⟨"standwatch/query/ArgumentsNumbersPinLaw", "digits", "(J)I"⟩ : MethodName) method_3_code 2 (some .int) :: ws) ({ frames := 0, cells := 0, slots := 0, locals := 0 } : Room)) (fun a U => a = #[(.long p1)] ∧ Z.Warmed39 U.vm ∧ U.heap = h0) (fun _ _ _ _ _ => True) (fun _ U o U' => ∃ v L, o = .returned v ∧ Q_own_dg Z p1 vn h0 n0 v U'.heap L ∧ FrameEnd U o U' L ({ frames := 0, cells := 0, slots := 0, locals := 0 } : Room).cells ({ frames := 0, cells := 0, slots := 0, locals := 0 } : Room).slots) := by
  refine MetFree.of_bodySF (plainFor_of_name own_pn572) hisR ?_
  intro p e s m args below meth c s₁ Bd hml0 hP hK
  obtain ⟨rfl, hZ, hh⟩ := hP
  have hx := Bd.exec
  have hby := Bd.bytes
  have hml : c.maxLocals = 2 := hml0
  have hown : s.vm.findClass "standwatch/query/ArgumentsNumbersPinLaw" = some m.cls := findClass_of_methodNamed Bd.named
  have hnm := (name_of_methodNamed Bd.named Bd.method).1
  have X0 : Stand p l e ({ frames := 0, cells := 0, slots := 0, locals := 0 } : Room) s m #[(.long p1)] below meth c s₁ [] 0 0 := Stand.of_body Bd
  have e0 : s₁.heap = h0 := by rw [← hh, Bd.state]; rfl
  have N0 := Fr.nil n0
  have K0 := Keep.refl h0 []
  refine own_go (fun t k => castTop (own_ef571 m p1) k) ?_
  show OG m s₁ 0 #[.val (.long p1), .second] []
  refine og (XS.lloadN X0.here hx rfl (hb hby own_d573) rfl) ?_
  show OG m s₁ 1 #[.val (.long p1), .second] [(.long p1)]
  refine own_go (fun t k => (X0.ldc2Long hx hown (mvT hZ (tw hw 168 rfl)) (g := (mkF m 1 #[.val (.long p1), .second] [(.long p1)])) rfl (hb hby own_d574)) t k) ?_
  show OG m s₁ 4 #[.val (.long p1), .second] [(.long (10 : Int64)), (.long p1)]
  refine og (XS.lcmp X0.here hx rfl (hb hby own_d575) rfl) ?_
  show OG m s₁ 5 #[.val (.long p1), .second] [(.int (lcmpW p1 (10 : Int64)))]
  by_cases hc1 : p1 < (10 : Int64)
  · refine og (XS.ifNo X0.here hx rfl (hb hby own_d576) rfl ((if0 _ _).trans (tlt ((lw_lt _ _).mpr hc1)).2.1)) ?_
    show OG m s₁ 8 #[.val (.long p1), .second] []
    refine og (XS.iconst X0.here hx rfl (hb hby own_d577)) ?_
    show OG m s₁ 9 #[.val (.long p1), .second] [(.int (1 : Int32))]
    obtain ⟨fs, hr, hrun, hended, hW, hsame⟩ := X0.leave (v := some (.int (1 : Int32))) (fun h => by rw [Bd.returns] at h; cases h)
    refine ⟨_, _, retI X0 hx Bd.returns (hb hby own_d578) hr, hrun, hended, _, _, rfl, ?_, ⟨_, rfl⟩, hW, hsame.mono (by decide) (by decide)⟩
    show Q_own_dg Z p1 vn h0 n0 _ s₁.heap _
    rw [e0]
    exact ⟨own_dg_leaf 1 ⟨by decide, by decide⟩ (Or.inl rfl) (Or.inr (own_jlt hc1 hv rfl)) rfl, N0, rfl⟩
  · refine og (XS.ifYes X0.here hx rfl (pc0 := 5) (pc' := 10) rfl (hb hby own_d576) rfl ((if0 _ _).trans (flt (mt (lw_lt _ _).mp hc1)).2.1) (by decide) (by decide)) ?_
    show OG m s₁ 10 #[.val (.long p1), .second] []
    refine og (XS.lloadN X0.here hx rfl (hb hby own_d579) rfl) ?_
    show OG m s₁ 11 #[.val (.long p1), .second] [(.long p1)]
    refine own_go (fun t k => (X0.ldc2Long hx hown (mvT hZ (tw hw 197 rfl)) (g := (mkF m 11 #[.val (.long p1), .second] [(.long p1)])) rfl (hb hby own_d580)) t k) ?_
    show OG m s₁ 14 #[.val (.long p1), .second] [(.long (100 : Int64)), (.long p1)]
    refine og (XS.lcmp X0.here hx rfl (hb hby own_d581) rfl) ?_
    show OG m s₁ 15 #[.val (.long p1), .second] [(.int (lcmpW p1 (100 : Int64)))]
    by_cases hc2 : p1 < (100 : Int64)
    · refine og (XS.ifNo X0.here hx rfl (hb hby own_d582) rfl ((if0 _ _).trans (tlt ((lw_lt _ _).mpr hc2)).2.1)) ?_
      show OG m s₁ 18 #[.val (.long p1), .second] []
      refine og (XS.iconst X0.here hx rfl (hb hby own_d583)) ?_
      show OG m s₁ 19 #[.val (.long p1), .second] [(.int (2 : Int32))]
      obtain ⟨fs, hr, hrun, hended, hW, hsame⟩ := X0.leave (v := some (.int (2 : Int32))) (fun h => by rw [Bd.returns] at h; cases h)
      refine ⟨_, _, retI X0 hx Bd.returns (hb hby own_d584) hr, hrun, hended, _, _, rfl, ?_, ⟨_, rfl⟩, hW, hsame.mono (by decide) (by decide)⟩
      show Q_own_dg Z p1 vn h0 n0 _ s₁.heap _
      rw [e0]
      exact ⟨own_dg_leaf 2 ⟨by decide, by decide⟩ (Or.inr (own_jge hc1 hv rfl)) (Or.inr (own_jlt hc2 hv rfl)) rfl, N0, rfl⟩
    · refine og (XS.ifYes X0.here hx rfl (pc0 := 15) (pc' := 20) rfl (hb hby own_d582) rfl ((if0 _ _).trans (flt (mt (lw_lt _ _).mp hc2)).2.1) (by decide) (by decide)) ?_
      show OG m s₁ 20 #[.val (.long p1), .second] []
      refine og (XS.lloadN X0.here hx rfl (hb hby own_d585) rfl) ?_
      show OG m s₁ 21 #[.val (.long p1), .second] [(.long p1)]
      refine own_go (fun t k => (X0.ldc2Long hx hown (mvT hZ (tw hw 198 rfl)) (g := (mkF m 21 #[.val (.long p1), .second] [(.long p1)])) rfl (hb hby own_d586)) t k) ?_
      show OG m s₁ 24 #[.val (.long p1), .second] [(.long (1000 : Int64)), (.long p1)]
      refine og (XS.lcmp X0.here hx rfl (hb hby own_d587) rfl) ?_
      show OG m s₁ 25 #[.val (.long p1), .second] [(.int (lcmpW p1 (1000 : Int64)))]
      by_cases hc3 : p1 < (1000 : Int64)
      · refine og (XS.ifNo X0.here hx rfl (hb hby own_d588) rfl ((if0 _ _).trans (tlt ((lw_lt _ _).mpr hc3)).2.1)) ?_
        show OG m s₁ 28 #[.val (.long p1), .second] []
        refine og (XS.iconst X0.here hx rfl (hb hby own_d589)) ?_
        show OG m s₁ 29 #[.val (.long p1), .second] [(.int (3 : Int32))]
        obtain ⟨fs, hr, hrun, hended, hW, hsame⟩ := X0.leave (v := some (.int (3 : Int32))) (fun h => by rw [Bd.returns] at h; cases h)
        refine ⟨_, _, retI X0 hx Bd.returns (hb hby own_d590) hr, hrun, hended, _, _, rfl, ?_, ⟨_, rfl⟩, hW, hsame.mono (by decide) (by decide)⟩
        show Q_own_dg Z p1 vn h0 n0 _ s₁.heap _
        rw [e0]
        exact ⟨own_dg_leaf 3 ⟨by decide, by decide⟩ (Or.inr (own_jge hc2 hv rfl)) (Or.inr (own_jlt hc3 hv rfl)) rfl, N0, rfl⟩
      · refine og (XS.ifYes X0.here hx rfl (pc0 := 25) (pc' := 30) rfl (hb hby own_d588) rfl ((if0 _ _).trans (flt (mt (lw_lt _ _).mp hc3)).2.1) (by decide) (by decide)) ?_
        show OG m s₁ 30 #[.val (.long p1), .second] []
        refine og (XS.lloadN X0.here hx rfl (hb hby own_d591) rfl) ?_
        show OG m s₁ 31 #[.val (.long p1), .second] [(.long p1)]
        refine own_go (fun t k => (X0.ldc2Long hx hown (mvT hZ (tw hw 199 rfl)) (g := (mkF m 31 #[.val (.long p1), .second] [(.long p1)])) rfl (hb hby own_d592)) t k) ?_
        show OG m s₁ 34 #[.val (.long p1), .second] [(.long (10000 : Int64)), (.long p1)]
        refine og (XS.lcmp X0.here hx rfl (hb hby own_d593) rfl) ?_
        show OG m s₁ 35 #[.val (.long p1), .second] [(.int (lcmpW p1 (10000 : Int64)))]
        by_cases hc4 : p1 < (10000 : Int64)
        · refine og (XS.ifNo X0.here hx rfl (hb hby own_d594) rfl ((if0 _ _).trans (tlt ((lw_lt _ _).mpr hc4)).2.1)) ?_
          show OG m s₁ 38 #[.val (.long p1), .second] []
          refine og (XS.iconst X0.here hx rfl (hb hby own_d595)) ?_
          show OG m s₁ 39 #[.val (.long p1), .second] [(.int (4 : Int32))]
          obtain ⟨fs, hr, hrun, hended, hW, hsame⟩ := X0.leave (v := some (.int (4 : Int32))) (fun h => by rw [Bd.returns] at h; cases h)
          refine ⟨_, _, retI X0 hx Bd.returns (hb hby own_d596) hr, hrun, hended, _, _, rfl, ?_, ⟨_, rfl⟩, hW, hsame.mono (by decide) (by decide)⟩
          show Q_own_dg Z p1 vn h0 n0 _ s₁.heap _
          rw [e0]
          exact ⟨own_dg_leaf 4 ⟨by decide, by decide⟩ (Or.inr (own_jge hc3 hv rfl)) (Or.inr (own_jlt hc4 hv rfl)) rfl, N0, rfl⟩
        · refine og (XS.ifYes X0.here hx rfl (pc0 := 35) (pc' := 40) rfl (hb hby own_d594) rfl ((if0 _ _).trans (flt (mt (lw_lt _ _).mp hc4)).2.1) (by decide) (by decide)) ?_
          show OG m s₁ 40 #[.val (.long p1), .second] []
          refine og (XS.lloadN X0.here hx rfl (hb hby own_d597) rfl) ?_
          show OG m s₁ 41 #[.val (.long p1), .second] [(.long p1)]
          refine own_go (fun t k => (X0.ldc2Long hx hown (mvT hZ (tw hw 200 rfl)) (g := (mkF m 41 #[.val (.long p1), .second] [(.long p1)])) rfl (hb hby own_d598)) t k) ?_
          show OG m s₁ 44 #[.val (.long p1), .second] [(.long (100000 : Int64)), (.long p1)]
          refine og (XS.lcmp X0.here hx rfl (hb hby own_d599) rfl) ?_
          show OG m s₁ 45 #[.val (.long p1), .second] [(.int (lcmpW p1 (100000 : Int64)))]
          by_cases hc5 : p1 < (100000 : Int64)
          · refine og (XS.ifNo X0.here hx rfl (hb hby own_d600) rfl ((if0 _ _).trans (tlt ((lw_lt _ _).mpr hc5)).2.1)) ?_
            show OG m s₁ 48 #[.val (.long p1), .second] []
            refine og (XS.iconst X0.here hx rfl (hb hby own_d601)) ?_
            show OG m s₁ 49 #[.val (.long p1), .second] [(.int (5 : Int32))]
            obtain ⟨fs, hr, hrun, hended, hW, hsame⟩ := X0.leave (v := some (.int (5 : Int32))) (fun h => by rw [Bd.returns] at h; cases h)
            refine ⟨_, _, retI X0 hx Bd.returns (hb hby own_d602) hr, hrun, hended, _, _, rfl, ?_, ⟨_, rfl⟩, hW, hsame.mono (by decide) (by decide)⟩
            show Q_own_dg Z p1 vn h0 n0 _ s₁.heap _
            rw [e0]
            exact ⟨own_dg_leaf 5 ⟨by decide, by decide⟩ (Or.inr (own_jge hc4 hv rfl)) (Or.inr (own_jlt hc5 hv rfl)) rfl, N0, rfl⟩
          · refine og (XS.ifYes X0.here hx rfl (pc0 := 45) (pc' := 50) rfl (hb hby own_d600) rfl ((if0 _ _).trans (flt (mt (lw_lt _ _).mp hc5)).2.1) (by decide) (by decide)) ?_
            show OG m s₁ 50 #[.val (.long p1), .second] []
            refine og (XS.lloadN X0.here hx rfl (hb hby own_d603) rfl) ?_
            show OG m s₁ 51 #[.val (.long p1), .second] [(.long p1)]
            refine own_go (fun t k => (X0.ldc2Long hx hown (mvT hZ (tw hw 201 rfl)) (g := (mkF m 51 #[.val (.long p1), .second] [(.long p1)])) rfl (hb hby own_d604)) t k) ?_
            show OG m s₁ 54 #[.val (.long p1), .second] [(.long (1000000 : Int64)), (.long p1)]
            refine og (XS.lcmp X0.here hx rfl (hb hby own_d605) rfl) ?_
            show OG m s₁ 55 #[.val (.long p1), .second] [(.int (lcmpW p1 (1000000 : Int64)))]
            by_cases hc6 : p1 < (1000000 : Int64)
            · refine og (XS.ifNo X0.here hx rfl (hb hby own_d606) rfl ((if0 _ _).trans (tlt ((lw_lt _ _).mpr hc6)).2.1)) ?_
              show OG m s₁ 58 #[.val (.long p1), .second] []
              refine og (XS.bipush X0.here hx rfl (hb hby own_d607)) ?_
              show OG m s₁ 60 #[.val (.long p1), .second] [(.int (6 : Int32))]
              obtain ⟨fs, hr, hrun, hended, hW, hsame⟩ := X0.leave (v := some (.int (6 : Int32))) (fun h => by rw [Bd.returns] at h; cases h)
              refine ⟨_, _, retI X0 hx Bd.returns (hb hby own_d608) hr, hrun, hended, _, _, rfl, ?_, ⟨_, rfl⟩, hW, hsame.mono (by decide) (by decide)⟩
              show Q_own_dg Z p1 vn h0 n0 _ s₁.heap _
              rw [e0]
              exact ⟨own_dg_leaf 6 ⟨by decide, by decide⟩ (Or.inr (own_jge hc5 hv rfl)) (Or.inr (own_jlt hc6 hv rfl)) rfl, N0, rfl⟩
            · refine og (XS.ifYes X0.here hx rfl (pc0 := 55) (pc' := 61) rfl (hb hby own_d606) rfl ((if0 _ _).trans (flt (mt (lw_lt _ _).mp hc6)).2.1) (by decide) (by decide)) ?_
              show OG m s₁ 61 #[.val (.long p1), .second] []
              refine og (XS.lloadN X0.here hx rfl (hb hby own_d609) rfl) ?_
              show OG m s₁ 62 #[.val (.long p1), .second] [(.long p1)]
              refine own_go (fun t k => (X0.ldc2Long hx hown (mvT hZ (tw hw 202 rfl)) (g := (mkF m 62 #[.val (.long p1), .second] [(.long p1)])) rfl (hb hby own_d610)) t k) ?_
              show OG m s₁ 65 #[.val (.long p1), .second] [(.long (10000000 : Int64)), (.long p1)]
              refine og (XS.lcmp X0.here hx rfl (hb hby own_d611) rfl) ?_
              show OG m s₁ 66 #[.val (.long p1), .second] [(.int (lcmpW p1 (10000000 : Int64)))]
              by_cases hc7 : p1 < (10000000 : Int64)
              · refine og (XS.ifNo X0.here hx rfl (hb hby own_d612) rfl ((if0 _ _).trans (tlt ((lw_lt _ _).mpr hc7)).2.1)) ?_
                show OG m s₁ 69 #[.val (.long p1), .second] []
                refine og (XS.bipush X0.here hx rfl (hb hby own_d613)) ?_
                show OG m s₁ 71 #[.val (.long p1), .second] [(.int (7 : Int32))]
                obtain ⟨fs, hr, hrun, hended, hW, hsame⟩ := X0.leave (v := some (.int (7 : Int32))) (fun h => by rw [Bd.returns] at h; cases h)
                refine ⟨_, _, retI X0 hx Bd.returns (hb hby own_d614) hr, hrun, hended, _, _, rfl, ?_, ⟨_, rfl⟩, hW, hsame.mono (by decide) (by decide)⟩
                show Q_own_dg Z p1 vn h0 n0 _ s₁.heap _
                rw [e0]
                exact ⟨own_dg_leaf 7 ⟨by decide, by decide⟩ (Or.inr (own_jge hc6 hv rfl)) (Or.inr (own_jlt hc7 hv rfl)) rfl, N0, rfl⟩
              · refine og (XS.ifYes X0.here hx rfl (pc0 := 66) (pc' := 72) rfl (hb hby own_d612) rfl ((if0 _ _).trans (flt (mt (lw_lt _ _).mp hc7)).2.1) (by decide) (by decide)) ?_
                show OG m s₁ 72 #[.val (.long p1), .second] []
                refine og (XS.lloadN X0.here hx rfl (hb hby own_d615) rfl) ?_
                show OG m s₁ 73 #[.val (.long p1), .second] [(.long p1)]
                refine own_go (fun t k => (X0.ldc2Long hx hown (mvT hZ (tw hw 203 rfl)) (g := (mkF m 73 #[.val (.long p1), .second] [(.long p1)])) rfl (hb hby own_d616)) t k) ?_
                show OG m s₁ 76 #[.val (.long p1), .second] [(.long (100000000 : Int64)), (.long p1)]
                refine og (XS.lcmp X0.here hx rfl (hb hby own_d617) rfl) ?_
                show OG m s₁ 77 #[.val (.long p1), .second] [(.int (lcmpW p1 (100000000 : Int64)))]
                by_cases hc8 : p1 < (100000000 : Int64)
                · refine og (XS.ifNo X0.here hx rfl (hb hby own_d618) rfl ((if0 _ _).trans (tlt ((lw_lt _ _).mpr hc8)).2.1)) ?_
                  show OG m s₁ 80 #[.val (.long p1), .second] []
                  refine og (XS.bipush X0.here hx rfl (hb hby own_d619)) ?_
                  show OG m s₁ 82 #[.val (.long p1), .second] [(.int (8 : Int32))]
                  obtain ⟨fs, hr, hrun, hended, hW, hsame⟩ := X0.leave (v := some (.int (8 : Int32))) (fun h => by rw [Bd.returns] at h; cases h)
                  refine ⟨_, _, retI X0 hx Bd.returns (hb hby own_d620) hr, hrun, hended, _, _, rfl, ?_, ⟨_, rfl⟩, hW, hsame.mono (by decide) (by decide)⟩
                  show Q_own_dg Z p1 vn h0 n0 _ s₁.heap _
                  rw [e0]
                  exact ⟨own_dg_leaf 8 ⟨by decide, by decide⟩ (Or.inr (own_jge hc7 hv rfl)) (Or.inr (own_jlt hc8 hv rfl)) rfl, N0, rfl⟩
                · refine og (XS.ifYes X0.here hx rfl (pc0 := 77) (pc' := 83) rfl (hb hby own_d618) rfl ((if0 _ _).trans (flt (mt (lw_lt _ _).mp hc8)).2.1) (by decide) (by decide)) ?_
                  show OG m s₁ 83 #[.val (.long p1), .second] []
                  refine og (XS.lloadN X0.here hx rfl (hb hby own_d621) rfl) ?_
                  show OG m s₁ 84 #[.val (.long p1), .second] [(.long p1)]
                  refine own_go (fun t k => (X0.ldc2Long hx hown (mvT hZ (tw hw 204 rfl)) (g := (mkF m 84 #[.val (.long p1), .second] [(.long p1)])) rfl (hb hby own_d622)) t k) ?_
                  show OG m s₁ 87 #[.val (.long p1), .second] [(.long (1000000000 : Int64)), (.long p1)]
                  refine og (XS.lcmp X0.here hx rfl (hb hby own_d623) rfl) ?_
                  show OG m s₁ 88 #[.val (.long p1), .second] [(.int (lcmpW p1 (1000000000 : Int64)))]
                  by_cases hc9 : p1 < (1000000000 : Int64)
                  · refine og (XS.ifNo X0.here hx rfl (hb hby own_d624) rfl ((if0 _ _).trans (tlt ((lw_lt _ _).mpr hc9)).2.1)) ?_
                    show OG m s₁ 91 #[.val (.long p1), .second] []
                    refine og (XS.bipush X0.here hx rfl (hb hby own_d625)) ?_
                    show OG m s₁ 93 #[.val (.long p1), .second] [(.int (9 : Int32))]
                    obtain ⟨fs, hr, hrun, hended, hW, hsame⟩ := X0.leave (v := some (.int (9 : Int32))) (fun h => by rw [Bd.returns] at h; cases h)
                    refine ⟨_, _, retI X0 hx Bd.returns (hb hby own_d626) hr, hrun, hended, _, _, rfl, ?_, ⟨_, rfl⟩, hW, hsame.mono (by decide) (by decide)⟩
                    show Q_own_dg Z p1 vn h0 n0 _ s₁.heap _
                    rw [e0]
                    exact ⟨own_dg_leaf 9 ⟨by decide, by decide⟩ (Or.inr (own_jge hc8 hv rfl)) (Or.inr (own_jlt hc9 hv rfl)) rfl, N0, rfl⟩
                  · refine og (XS.ifYes X0.here hx rfl (pc0 := 88) (pc' := 94) rfl (hb hby own_d624) rfl ((if0 _ _).trans (flt (mt (lw_lt _ _).mp hc9)).2.1) (by decide) (by decide)) ?_
                    show OG m s₁ 94 #[.val (.long p1), .second] []
                    refine og (XS.bipush X0.here hx rfl (hb hby own_d627)) ?_
                    show OG m s₁ 96 #[.val (.long p1), .second] [(.int (10 : Int32))]
                    obtain ⟨fs, hr, hrun, hended, hW, hsame⟩ := X0.leave (v := some (.int (10 : Int32))) (fun h => by rw [Bd.returns] at h; cases h)
                    refine ⟨_, _, retI X0 hx Bd.returns (hb hby own_d628) hr, hrun, hended, _, _, rfl, ?_, ⟨_, rfl⟩, hW, hsame.mono (by decide) (by decide)⟩
                    show Q_own_dg Z p1 vn h0 n0 _ s₁.heap _
                    rw [e0]
                    exact ⟨own_dg_leaf 10 ⟨by decide, by decide⟩ (Or.inr (own_jge hc9 hv rfl)) (Or.inl rfl) rfl, N0, rfl⟩
theorem own_ef629 (m : MethodId) (p1 : Int32) : entryFrame m #[(.int p1)] 3 = mkF m 0 #[sI p1, sU, sU] [] := by first | (simp [entryFrame, mkF, argsToLocals, Value.category]; done) | rfl
theorem own_d630 : decode method_4_code 0 = .ok (.iload_n 0, 1) := by decide +kernel
theorem own_d631 : decode method_4_code 1 = .ok (.i2l, 1) := by decide +kernel
theorem own_d632 : decode method_4_code 2 = .ok (.lstore_n 1, 1) := by decide +kernel
theorem own_d633 : decode method_4_code 3 = .ok (.lload_n 1, 1) := by decide +kernel
theorem own_d634 : decode method_4_code 4 = .ok (.lconst 0, 1) := by decide +kernel
theorem own_d635 : decode method_4_code 5 = .ok (.lcmp, 1) := by decide +kernel
theorem own_d636 : decode method_4_code 6 = .ok (.ifCond .ge 11, 3) := by decide +kernel
theorem own_d637 : decode method_4_code 9 = .ok (.iconst 1, 1) := by decide +kernel
theorem own_d638 : decode method_4_code 10 = .ok (.lload_n 1, 1) := by decide +kernel
theorem own_d639 : decode method_4_code 11 = .ok (.lneg, 1) := by decide +kernel
theorem own_d640 : decode method_4_code 12 = .ok (.invokestatic 51, 3) := by decide +kernel
theorem own_pd641 : parseMethodDescriptor "(J)I" = some ⟨[.long], some .int⟩ := by decide +kernel
theorem own_d642 : decode method_4_code 15 = .ok (.iadd, 1) := by decide +kernel
theorem own_d643 : decode method_4_code 16 = .ok (.ireturn, 1) := by decide +kernel
theorem own_d644 : decode method_4_code 17 = .ok (.lload_n 1, 1) := by decide +kernel
theorem own_d645 : decode method_4_code 18 = .ok (.invokestatic 51, 3) := by decide +kernel
theorem own_d646 : decode method_4_code 21 = .ok (.ireturn, 1) := by decide +kernel
def Q_own_wi (Z : State) (p1 : Int32) (h0 : Heap) (n0 : Nat) (v : Option Value) (h : Heap) (L : List Loc) : Prop := v = some (.int (own_ssz p1)) ∧ Fr n0 L ∧ h = h0
set_option maxRecDepth 65536 in
set_option maxHeartbeats 40000000 in
theorem own_wi (l : Launch) (Z : State) (a0 : Array Value) (hw : ∀ d ∈ tables_1, d.before a0 Z = true) (ws : List Jvm.Cond) (p1 : Int32) (h0 : Heap) (n0 : Nat) (Z0 : n0 ≤ h0.size) :
    MetFree l (⟨"standwatch/query/ArgumentsNumbersPinLaw", "width", "(I)I"⟩ : MethodName) (head1 (Jvm.Cond.code (⟨"standwatch/query/ArgumentsNumbersPinLaw", "width", "(I)I"⟩ : MethodName) method_4_code 3 (some .int) :: ws) ({ frames := 1, cells := 0, slots := 0, locals := 14 } : Room)) (fun a U => a = #[(.int p1)] ∧ Z.Warmed39 U.vm ∧ U.heap = h0) (fun _ _ _ _ _ => True) (fun _ U o U' => ∃ v L, o = .returned v ∧ Q_own_wi Z p1 h0 n0 v U'.heap L ∧ FrameEnd U o U' L ({ frames := 1, cells := 0, slots := 0, locals := 14 } : Room).cells ({ frames := 1, cells := 0, slots := 0, locals := 14 } : Room).slots) := by
  refine MetFree.of_bodySF (plainFor_of_name own_pn572) hisR ?_
  intro p e s m args below meth c s₁ Bd hml0 hP hK
  obtain ⟨rfl, hZ, hh⟩ := hP
  have hx := Bd.exec
  have hby := Bd.bytes
  have hml : c.maxLocals = 3 := hml0
  have hown : s.vm.findClass "standwatch/query/ArgumentsNumbersPinLaw" = some m.cls := findClass_of_methodNamed Bd.named
  have hnm := (name_of_methodNamed Bd.named Bd.method).1
  have X0 : Stand p l e ({ frames := 1, cells := 0, slots := 0, locals := 14 } : Room) s m #[(.int p1)] below meth c s₁ [] 0 0 := Stand.of_body Bd
  have e0 : s₁.heap = h0 := by rw [← hh, Bd.state]; rfl
  have N0 := Fr.nil n0
  have K0 := Keep.refl h0 []
  refine own_go (fun t k => castTop (own_ef629 m p1) k) ?_
  show OG m s₁ 0 #[sI p1, sU, sU] []
  refine og (XS.iloadN X0.here hx rfl (hb hby own_d630) rfl) ?_
  show OG m s₁ 1 #[sI p1, sU, sU] [(.int p1)]
  refine og (XS.i2l X0.here hx rfl (hb hby own_d631) rfl) ?_
  show OG m s₁ 2 #[sI p1, sU, sU] [(.long (p1.toInt64))]
  refine og (XS.lstoreN X0.here hx rfl (hb hby own_d632) rfl (l' := #[sI p1, .val (.long (p1.toInt64)), .second]) rfl) ?_
  refine og (XS.lloadN X0.here hx rfl (hb hby own_d633) rfl) ?_
  show OG m s₁ 4 #[sI p1, .val (.long (p1.toInt64)), .second] [(.long (p1.toInt64))]
  refine og (XS.lconst X0.here hx rfl (hb hby own_d634)) ?_
  show OG m s₁ 5 #[sI p1, .val (.long (p1.toInt64)), .second] [(.long (0 : Int64)), (.long (p1.toInt64))]
  refine og (XS.lcmp X0.here hx rfl (hb hby own_d635) rfl) ?_
  show OG m s₁ 6 #[sI p1, .val (.long (p1.toInt64)), .second] [(.int (lcmpW (p1.toInt64) (0 : Int64)))]
  by_cases hc1 : (p1.toInt64) < (0 : Int64)
  · refine og (XS.ifNo X0.here hx rfl (hb hby own_d636) rfl ((if0 _ _).trans (tlt ((lw_lt _ _).mpr hc1)).2.1)) ?_
    show OG m s₁ 9 #[sI p1, .val (.long (p1.toInt64)), .second] []
    refine og (XS.iconst X0.here hx rfl (hb hby own_d637)) ?_
    refine og (XS.lloadN X0.here hx rfl (hb hby own_d638) rfl) ?_
    show OG m s₁ 11 #[sI p1, .val (.long (p1.toInt64)), .second] [(.long (p1.toInt64)), (.int (1 : Int32))]
    refine og (XS.lneg X0.here hx rfl (hb hby own_d639) rfl) ?_
    show OG m s₁ 12 #[sI p1, .val (.long (p1.toInt64)), .second] [(.long (-(p1.toInt64))), (.int (1 : Int32))]
    obtain ⟨_, _, ⟨T2, L2, k2, n2⟩, -, X2, ⟨Lc2, hQ2, l2, y2, z2⟩, st2⟩ := Jvm.LawKit.callS X0 hx (y := (⟨"standwatch/query/ArgumentsNumbersPinLaw", "digits", "(J)I"⟩ : MethodName)) hown (mvT hZ (tw hw 165 rfl)) (mvT hZ (tw hw 166 rfl)) (mvT hZ (tw hw 163 rfl)) (mvT hZ (tw hw 167 rfl)) (by decide) (backOf (W := 1) (own_dg l Z a0 hw [] (-(p1.toInt64)) p1.toInt.natAbs h0 n0 Z0 ((own_abs_neg hc1).2)) hZ (tw hw 167 rfl) (tw hw 163 rfl) (by decide) (by decide)) (g := (mkF m 12 #[sI p1, .val (.long (p1.toInt64)), .second] [(.long (-(p1.toInt64))), (.int (1 : Int32))])) rfl (by rw [hml]; rfl) (argsL := [(.long (-(p1.toInt64)))]) (rest := [(.int (1 : Int32))]) (lenOf own_pd641 rfl) rfl (by show 2 * 0 + _ ≤ _; exact Nat.le_of_eq rfl) (hb hby own_d640) (fun _ _ => ⟨rfl, e0, (by decide : 0 + 0 ≤ _), (by decide : 0 + 0 ≤ _)⟩)
    dsimp only [Pt.U, Pt.locs, Pt.cells, Pt.slots] at X2 l2 y2 z2 st2 hQ2
    subst l2 y2 z2
    obtain ⟨rfl, Nq2, eq2⟩ := hQ2
    have N2 := Fr.app N0 Nq2
    have e2 : T2.heap = h0 := eq2
    refine own_go (fun t k => st2 t k) ?_
    show OG m T2 15 #[sI p1, .val (.long (p1.toInt64)), .second] [(.int (Int32.ofNat (own_nd (p1.toInt.natAbs)))), (.int (1 : Int32))]
    refine og (XS.iadd X2.here hx rfl (hb hby own_d642) rfl) ?_
    show OG m T2 16 #[sI p1, .val (.long (p1.toInt64)), .second] [(.int ((1 : Int32) + (Int32.ofNat (own_nd (p1.toInt.natAbs)))))]
    obtain ⟨fs, hr, hrun, hended, hW, hsame⟩ := X2.leave (v := some (.int ((1 : Int32) + (Int32.ofNat (own_nd (p1.toInt.natAbs)))))) (fun h => by rw [Bd.returns] at h; cases h)
    refine ⟨_, _, retI X2 hx Bd.returns (hb hby own_d643) hr, hrun, hended, _, _, rfl, ?_, ⟨_, rfl⟩, hW, hsame.mono (by decide) (by decide)⟩
    show Q_own_wi Z p1 h0 n0 _ T2.heap _
    rw [e2]
    exact ⟨own_w_neg (own_abs_neg hc1).1, N2, rfl⟩
  · refine og (XS.ifYes X0.here hx rfl (pc0 := 6) (pc' := 17) rfl (hb hby own_d636) rfl ((if0 _ _).trans (flt (mt (lw_lt _ _).mp hc1)).2.1) (by decide) (by decide)) ?_
    show OG m s₁ 17 #[sI p1, .val (.long (p1.toInt64)), .second] []
    refine og (XS.lloadN X0.here hx rfl (hb hby own_d644) rfl) ?_
    show OG m s₁ 18 #[sI p1, .val (.long (p1.toInt64)), .second] [(.long (p1.toInt64))]
    obtain ⟨_, _, ⟨T3, L3, k3, n3⟩, -, X3, ⟨Lc3, hQ3, l3, y3, z3⟩, st3⟩ := Jvm.LawKit.callS X0 hx (y := (⟨"standwatch/query/ArgumentsNumbersPinLaw", "digits", "(J)I"⟩ : MethodName)) hown (mvT hZ (tw hw 165 rfl)) (mvT hZ (tw hw 166 rfl)) (mvT hZ (tw hw 163 rfl)) (mvT hZ (tw hw 167 rfl)) (by decide) (backOf (W := 0) (own_dg l Z a0 hw [] (p1.toInt64) p1.toInt.natAbs h0 n0 Z0 ((own_abs_pos hc1).2)) hZ (tw hw 167 rfl) (tw hw 163 rfl) (by decide) (by decide)) (g := (mkF m 18 #[sI p1, .val (.long (p1.toInt64)), .second] [(.long (p1.toInt64))])) rfl (by rw [hml]; rfl) (argsL := [(.long (p1.toInt64))]) (rest := []) (lenOf own_pd641 rfl) rfl (by show 2 * 0 + _ ≤ _; exact Nat.le_of_eq rfl) (hb hby own_d645) (fun _ _ => ⟨rfl, e0, (by decide : 0 + 0 ≤ _), (by decide : 0 + 0 ≤ _)⟩)
    dsimp only [Pt.U, Pt.locs, Pt.cells, Pt.slots] at X3 l3 y3 z3 st3 hQ3
    subst l3 y3 z3
    obtain ⟨rfl, Nq3, eq3⟩ := hQ3
    have N3 := Fr.app N0 Nq3
    have e3 : T3.heap = h0 := eq3
    refine own_go (fun t k => st3 t k) ?_
    show OG m T3 21 #[sI p1, .val (.long (p1.toInt64)), .second] [(.int (Int32.ofNat (own_nd (p1.toInt.natAbs))))]
    obtain ⟨fs, hr, hrun, hended, hW, hsame⟩ := X3.leave (v := some (.int (Int32.ofNat (own_nd (p1.toInt.natAbs))))) (fun h => by rw [Bd.returns] at h; cases h)
    refine ⟨_, _, retI X3 hx Bd.returns (hb hby own_d646) hr, hrun, hended, _, _, rfl, ?_, ⟨_, rfl⟩, hW, hsame.mono (by decide) (by decide)⟩
    show Q_own_wi Z p1 h0 n0 _ T3.heap _
    rw [e3]
    exact ⟨own_w_pos (own_abs_pos hc1).1, N3, rfl⟩
theorem own_ef647 (m : MethodId) (a2 : Addr) (p1 : Int32) (p2 : Int32) (p3 : Int64) (p4 : Int32) (p5 : Int64) : entryFrame m #[(.ref a2), (.int p1), (.int p2), (.long p3), (.int p4), (.long p5)] 8 = mkF m 0 #[sR a2, sI p1, sI p2, .val (.long p3), .second, sI p4, .val (.long p5), .second] [] := by first | (simp [entryFrame, mkF, argsToLocals, Value.category]; done) | rfl
theorem own_d648 : decode method_5_code 0 = .ok (.iload 5, 2) := by decide +kernel
theorem own_d649 : decode method_5_code 2 = .ok (.iload_n 2, 1) := by decide +kernel
theorem own_d650 : decode method_5_code 3 = .ok (.if_icmp .lt 5, 3) := by decide +kernel
theorem own_d651 : decode method_5_code 8 = .ok (.aload_n 0, 1) := by decide +kernel
theorem own_d652 : decode method_5_code 9 = .ok (.iload_n 1, 1) := by decide +kernel
theorem own_d653 : decode method_5_code 10 = .ok (.iload_n 2, 1) := by decide +kernel
theorem own_d654 : decode method_5_code 11 = .ok (.iadd, 1) := by decide +kernel
theorem own_d655 : decode method_5_code 12 = .ok (.iconst 1, 1) := by decide +kernel
theorem own_d656 : decode method_5_code 13 = .ok (.isub, 1) := by decide +kernel
theorem own_d657 : decode method_5_code 14 = .ok (.iload 5, 2) := by decide +kernel
theorem own_d658 : decode method_5_code 16 = .ok (.isub, 1) := by decide +kernel
theorem own_d659 : decode method_5_code 17 = .ok (.invokevirtual 25, 3) := by decide +kernel
theorem own_pd660 : parseMethodDescriptor "(I)C" = some ⟨[.int], some .char⟩ := by decide +kernel
theorem own_d661 : decode method_5_code 20 = .ok (.bipush 48, 2) := by decide +kernel
theorem own_d662 : decode method_5_code 22 = .ok (.lload_n 3, 1) := by decide +kernel
theorem own_d663 : decode method_5_code 23 = .ok (.lload 6, 2) := by decide +kernel
theorem own_d664 : decode method_5_code 25 = .ok (.ldiv, 1) := by decide +kernel
theorem own_d665 : decode method_5_code 26 = .ok (.ldc2_w 33, 3) := by decide +kernel
theorem own_d666 : decode method_5_code 29 = .ok (.lrem, 1) := by decide +kernel
theorem own_d667 : decode method_5_code 30 = .ok (.l2i, 1) := by decide +kernel
theorem own_d668 : decode method_5_code 31 = .ok (.iadd, 1) := by decide +kernel
theorem own_d669 : decode method_5_code 32 = .ok (.i2c, 1) := by decide +kernel
theorem own_d670 : decode method_5_code 33 = .ok (.if_icmp .ne 7, 3) := by decide +kernel
theorem own_d671 : decode method_5_code 36 = .ok (.iconst 1, 1) := by decide +kernel
theorem own_d672 : decode method_5_code 37 = .ok (.goto 4, 3) := by decide +kernel
theorem own_d673 : decode method_5_code 41 = .ok (.ireturn, 1) := by decide +kernel
theorem own_d674 : decode method_5_code 6 = .ok (.iconst 1, 1) := by decide +kernel
theorem own_d675 : decode method_5_code 7 = .ok (.ireturn, 1) := by decide +kernel
def Q_own_di (Z : State) (a2 : Addr) (p1 : Int32) (p2 : Int32) (p3 : Int64) (p4 : Int32) (p5 : Int64) (sv : Addr) (sk : ClassId) (sl : Int32) (cs : List Int32) (qn : Nat) (dn : Nat) (vn : Nat) (kn : Nat) (i_COMPACT_STRINGS : Int32) (v_SIOOBE_FORMATTER : Value) (h0 : Heap) (n0 : Nat) (v : Option Value) (h : Heap) (L : List Loc) : Prop := v = some (.int (1 : Int32)) ∧ Fr n0 L ∧ h = h0
set_option maxRecDepth 65536 in
set_option maxHeartbeats 40000000 in
theorem own_di (l : Launch) (Z : State) (a0 : Array Value) (hw : ∀ d ∈ tables_1, d.before a0 Z = true) (ws : List Jvm.Cond) (a2 : Addr) (p1 : Int32) (p2 : Int32) (p3 : Int64) (p4 : Int32) (p5 : Int64) (sv : Addr) (sk : ClassId) (sl : Int32) (cs : List Int32) (qn : Nat) (dn : Nat) (vn : Nat) (kn : Nat) (i_COMPACT_STRINGS : Int32) (v_SIOOBE_FORMATTER : Value) (h0 : Heap) (n0 : Nat) (Z0 : n0 ≤ h0.size) (O0 : Old Z n0 h0) (S_COMPACT_STRINGS : Sta Z Z.heap "java/lang/String" "COMPACT_STRINGS" "Z" (.int i_COMPACT_STRINGS)) (nz_i_COMPACT_STRINGS : i_COMPACT_STRINGS ≠ (0 : Int32)) (S_SIOOBE_FORMATTER : Sta Z Z.heap "jdk/internal/util/Preconditions" "SIOOBE_FORMATTER" "Ljava/util/function/BiFunction;" v_SIOOBE_FORMATTER) (ir_v_SIOOBE_FORMATTER : v_SIOOBE_FORMATTER.isRef = true) (f0_0 : Exa Z h0 a2 "java/lang/String") (f0_1 : Fld Z h0 a2 "java/lang/String" "value" "[B" (.ref sv)) (f0_2 : Fld Z h0 a2 "java/lang/String" "coder" "B" (.int (0 : Int32))) (f0_3 : Arv Z h0 sv sk .byte sl (own_B cs) (.int (0 : Int32))) (hsl : ¬ sl < 0 ∧ sl.toNatClampNeg = cs.length) (hcl : cs.length ≤ 1000) (hq : p1.toInt = (qn : Int)) (hd : p2.toInt = (dn : Int)) (hv : p3.toInt = (vn : Int)) (hin : qn + dn ≤ cs.length) (hcs : ∀ j, j < dn → cs[qn + dn - 1 - j]? = some (Int32.ofNat (48 + vn / 10 ^ j % 10))) (hk : p4.toInt = (kn : Int)) (hp : p5.toInt = ((10 ^ kn : Nat) : Int)) :
    MetFree l (⟨"standwatch/query/ArgumentsNumbersPinLaw", "dig", "(Ljava/lang/String;IIJIJ)Z"⟩ : MethodName) (head1 (Jvm.Cond.code (⟨"standwatch/query/ArgumentsNumbersPinLaw", "dig", "(Ljava/lang/String;IIJIJ)Z"⟩ : MethodName) method_5_code 8 (some .boolean) :: ws) ({ frames := 4, cells := 0, slots := 0, locals := 53 } : Room)) (fun a U => a = #[(.ref a2), (.int p1), (.int p2), (.long p3), (.int p4), (.long p5)] ∧ Z.Warmed39 U.vm ∧ U.heap = h0) (fun _ _ _ _ _ => True) (fun _ U o U' => ∃ v L, o = .returned v ∧ Q_own_di Z a2 p1 p2 p3 p4 p5 sv sk sl cs qn dn vn kn i_COMPACT_STRINGS v_SIOOBE_FORMATTER h0 n0 v U'.heap L ∧ FrameEnd U o U' L ({ frames := 4, cells := 0, slots := 0, locals := 53 } : Room).cells ({ frames := 4, cells := 0, slots := 0, locals := 53 } : Room).slots) := by
  refine MetFree.of_bodySF (plainFor_of_name own_pn572) hisR ?_
  intro p e s m args below meth c s₁ Bd hml0 hP hK
  obtain ⟨rfl, hZ, hh⟩ := hP
  have hx := Bd.exec
  have hby := Bd.bytes
  have hml : c.maxLocals = 8 := hml0
  have hown : s.vm.findClass "standwatch/query/ArgumentsNumbersPinLaw" = some m.cls := findClass_of_methodNamed Bd.named
  have hnm := (name_of_methodNamed Bd.named Bd.method).1
  have X0 : Stand p l e ({ frames := 4, cells := 0, slots := 0, locals := 53 } : Room) s m #[(.ref a2), (.int p1), (.int p2), (.long p3), (.int p4), (.long p5)] below meth c s₁ [] 0 0 := Stand.of_body Bd
  have e0 : s₁.heap = h0 := by rw [← hh, Bd.state]; rfl
  have N0 := Fr.nil n0
  have K0 := Keep.refl h0 []
  refine own_go (fun t k => castTop (own_ef647 m a2 p1 p2 p3 p4 p5) k) ?_
  show OG m s₁ 0 #[sR a2, sI p1, sI p2, .val (.long p3), .second, sI p4, .val (.long p5), .second] []
  refine og (XS.iload X0.here hx rfl (hb hby own_d648) rfl) ?_
  refine og (XS.iloadN X0.here hx rfl (hb hby own_d649) rfl) ?_
  show OG m s₁ 3 #[sR a2, sI p1, sI p2, .val (.long p3), .second, sI p4, .val (.long p5), .second] [(.int p2), (.int p4)]
  by_cases hc1 : p4 < p2
  · refine og (XS.icmpYes X0.here hx rfl (pc0 := 3) (pc' := 8) rfl (hb hby own_d650) rfl (tlt hc1).1 (by decide) (by decide)) ?_
    show OG m s₁ 8 #[sR a2, sI p1, sI p2, .val (.long p3), .second, sI p4, .val (.long p5), .second] []
    have hkd : kn < dn := by have q := hc1; rw [Int32.lt_iff_toInt_lt] at q; omega
    have hp0 : p5 ≠ 0 := fun q => by rw [q, show (0 : Int64).toInt = 0 from rfl] at hp; have := Nat.pow_pos (n := kn) (by decide : 0 < 10); omega
    refine og (XS.aloadN X0.here hx rfl (hb hby own_d651) rfl rfl) ?_
    refine og (XS.iloadN X0.here hx rfl (hb hby own_d652) rfl) ?_
    show OG m s₁ 10 #[sR a2, sI p1, sI p2, .val (.long p3), .second, sI p4, .val (.long p5), .second] [(.int p1), (.ref a2)]
    refine og (XS.iloadN X0.here hx rfl (hb hby own_d653) rfl) ?_
    refine og (XS.iadd X0.here hx rfl (hb hby own_d654) rfl) ?_
    show OG m s₁ 12 #[sR a2, sI p1, sI p2, .val (.long p3), .second, sI p4, .val (.long p5), .second] [(.int (p1 + p2)), (.ref a2)]
    refine og (XS.iconst X0.here hx rfl (hb hby own_d655)) ?_
    refine og (XS.isub X0.here hx rfl (hb hby own_d656) rfl) ?_
    show OG m s₁ 14 #[sR a2, sI p1, sI p2, .val (.long p3), .second, sI p4, .val (.long p5), .second] [(.int ((p1 + p2) - (1 : Int32))), (.ref a2)]
    refine og (XS.iload X0.here hx rfl (hb hby own_d657) rfl) ?_
    refine og (XS.isub X0.here hx rfl (hb hby own_d658) rfl) ?_
    show OG m s₁ 17 #[sR a2, sI p1, sI p2, .val (.long p3), .second, sI p4, .val (.long p5), .second] [(.int (((p1 + p2) - (1 : Int32)) - p4)), (.ref a2)]
    obtain ⟨ix, h_ix⟩ : ∃ z, z = (((p1 + p2) - (1 : Int32)) - p4) := ⟨_, rfl⟩
    rw [← h_ix]
    show OG m s₁ 17 #[sR a2, sI p1, sI p2, .val (.long p3), .second, sI p4, .val (.long p5), .second] [(.int ix), (.ref a2)]
    have hix : ix.toInt = ((qn + dn - 1 - kn : Nat) : Int) := by rw [h_ix]; exact own_ix hq hd hk hkd (by omega)
    obtain ⟨cq2, kq2, q2a, q2b, q2c⟩ := isOf hZ e0 f0_0
    obtain ⟨_, _, ⟨T2, L2, k2, n2⟩, -, X2, ⟨Lc2, hQ2, l2, y2, z2⟩, st2⟩ := X0.virtualBack hx (y := (⟨"java/lang/String", "charAt", "(I)C"⟩ : MethodName)) (z := (⟨"java/lang/String", "charAt", "(I)C"⟩ : MethodName)) hown (mvT hZ (tw hw 170 rfl)) (mvT hZ (tw hw 171 rfl)) (notFace_of_selects (args := #[]) (mvT hZ (tw hw 173 rfl))) (mvT hZ (tw hw 173 rfl)) (mvT hZ (tw hw 172 rfl)) (by decide) (backOf (W := 0) (own_ca l Z a0 hw [] a2 ix sv sk sl cs (Int32.ofNat (48 + vn / 10 ^ kn % 10)) i_COMPACT_STRINGS v_SIOOBE_FORMATTER h0 n0 Z0 O0 S_COMPACT_STRINGS nz_i_COMPACT_STRINGS S_SIOOBE_FORMATTER ir_v_SIOOBE_FORMATTER f0_0 f0_1 f0_2 f0_3 (own_in hsl hix (by omega)) (by rw [(own_idx hix).2]; exact hcs kn hkd) (own_ok_dig _)) hZ (tw hw 174 rfl) (tw hw 21 rfl) (by decide) (by decide)) q2a q2c (g := (mkF m 17 #[sR a2, sI p1, sI p2, .val (.long p3), .second, sI p4, .val (.long p5), .second] [(.int ix), (.ref a2)])) rfl (by rw [hml]; rfl) (Steps.refl _) (argsL := [(.int ix)]) (rest := []) (lenOf own_pd660 rfl) rfl (by show 2 * 0 + _ ≤ _; exact Nat.le_of_eq rfl) (hb hby own_d659) (fun _ _ => ⟨rfl, e0, (by decide : 0 + 0 ≤ _), (by decide : 0 + 0 ≤ _)⟩)
    dsimp only [Pt.U, Pt.locs, Pt.cells, Pt.slots] at X2 l2 y2 z2 st2 hQ2
    subst l2 y2 z2
    obtain ⟨rfl, Nq2, eq2⟩ := hQ2
    have N2 := Fr.app N0 Nq2
    have e2 : T2.heap = h0 := eq2
    refine og (st2.trans) ?_
    show OG m T2 20 #[sR a2, sI p1, sI p2, .val (.long p3), .second, sI p4, .val (.long p5), .second] [(.int (Int32.ofNat (48 + vn / 10 ^ kn % 10)))]
    refine og (XS.bipush X2.here hx rfl (hb hby own_d661)) ?_
    refine og (XS.lloadN X2.here hx rfl (hb hby own_d662) rfl) ?_
    show OG m T2 23 #[sR a2, sI p1, sI p2, .val (.long p3), .second, sI p4, .val (.long p5), .second] [(.long p3), (.int (48 : Int32)), (.int (Int32.ofNat (48 + vn / 10 ^ kn % 10)))]
    refine og (XS.lload X2.here hx rfl (hb hby own_d663) rfl) ?_
    show OG m T2 25 #[sR a2, sI p1, sI p2, .val (.long p3), .second, sI p4, .val (.long p5), .second] [(.long p5), (.long p3), (.int (48 : Int32)), (.int (Int32.ofNat (48 + vn / 10 ^ kn % 10)))]
    refine og (XS.ldiv X2.here hx rfl (hb hby own_d664) rfl hp0) ?_
    show OG m T2 26 #[sR a2, sI p1, sI p2, .val (.long p3), .second, sI p4, .val (.long p5), .second] [(.long (p3 / p5)), (.int (48 : Int32)), (.int (Int32.ofNat (48 + vn / 10 ^ kn % 10)))]
    refine own_go (fun t k => (X2.ldc2Long hx hown (mvT hZ (tw hw 168 rfl)) (g := (mkF m 26 #[sR a2, sI p1, sI p2, .val (.long p3), .second, sI p4, .val (.long p5), .second] [(.long (p3 / p5)), (.int (48 : Int32)), (.int (Int32.ofNat (48 + vn / 10 ^ kn % 10)))])) rfl (hb hby own_d665)) t k) ?_
    show OG m T2 29 #[sR a2, sI p1, sI p2, .val (.long p3), .second, sI p4, .val (.long p5), .second] [(.long (10 : Int64)), (.long (p3 / p5)), (.int (48 : Int32)), (.int (Int32.ofNat (48 + vn / 10 ^ kn % 10)))]
    refine og (XS.lrem X2.here hx rfl (hb hby own_d666) rfl (by decide)) ?_
    show OG m T2 30 #[sR a2, sI p1, sI p2, .val (.long p3), .second, sI p4, .val (.long p5), .second] [(.long ((p3 / p5) - (p3 / p5) / (10 : Int64) * (10 : Int64))), (.int (48 : Int32)), (.int (Int32.ofNat (48 + vn / 10 ^ kn % 10)))]
    refine og (XS.l2i X2.here hx rfl (hb hby own_d667) rfl) ?_
    refine og (XS.iadd X2.here hx rfl (hb hby own_d668) rfl) ?_
    show OG m T2 32 #[sR a2, sI p1, sI p2, .val (.long p3), .second, sI p4, .val (.long p5), .second] [(.int ((48 : Int32) + (((p3 / p5) - (p3 / p5) / (10 : Int64) * (10 : Int64)).toInt32))), (.int (Int32.ofNat (48 + vn / 10 ^ kn % 10)))]
    refine og (XS.i2c X2.here hx rfl (hb hby own_d669) rfl) ?_
    show OG m T2 33 #[sR a2, sI p1, sI p2, .val (.long p3), .second, sI p4, .val (.long p5), .second] [(.int (((48 : Int32) + (((p3 / p5) - (p3 / p5) / (10 : Int64) * (10 : Int64)).toInt32)).toUInt32.toUInt16.toUInt32.toInt32)), (.int (Int32.ofNat (48 + vn / 10 ^ kn % 10)))]
    rw [own_digv (kn := kn) hv hp]
    show OG m T2 33 #[sR a2, sI p1, sI p2, .val (.long p3), .second, sI p4, .val (.long p5), .second] [(.int (Int32.ofNat (48 + vn / 10 ^ kn % 10))), (.int (Int32.ofNat (48 + vn / 10 ^ kn % 10)))]
    refine og (XS.icmpNo X2.here hx rfl (hb hby own_d670) rfl (teq (rfl : (Int32.ofNat (48 + vn / 10 ^ kn % 10)) = (Int32.ofNat (48 + vn / 10 ^ kn % 10)))).2) ?_
    refine og (XS.iconst X2.here hx rfl (hb hby own_d671)) ?_
    show OG m T2 37 #[sR a2, sI p1, sI p2, .val (.long p3), .second, sI p4, .val (.long p5), .second] [(.int (1 : Int32))]
    refine og (XS.goto X2.here hx rfl (pc0 := 37) (pc' := 41) rfl (hb hby own_d672) (by decide) (by decide)) ?_
    show OG m T2 41 #[sR a2, sI p1, sI p2, .val (.long p3), .second, sI p4, .val (.long p5), .second] [(.int (1 : Int32))]
    obtain ⟨fs, hr, hrun, hended, hW, hsame⟩ := X2.leave (v := some (.int (1 : Int32))) (fun h => by rw [Bd.returns] at h; cases h)
    refine ⟨_, _, retN X2 hx (t := .boolean) Bd.returns (by simp) (hb hby own_d673) hr, hrun, hended, _, _, rfl, ?_, ⟨_, rfl⟩, hW, hsame.mono (by decide) (by decide)⟩
    show Q_own_di Z a2 p1 p2 p3 p4 p5 sv sk sl cs qn dn vn kn i_COMPACT_STRINGS v_SIOOBE_FORMATTER h0 n0 _ T2.heap _
    rw [e2]
    exact ⟨rfl, N2, rfl⟩
  · refine og (XS.icmpNo X0.here hx rfl (hb hby own_d650) rfl (flt hc1).1) ?_
    show OG m s₁ 6 #[sR a2, sI p1, sI p2, .val (.long p3), .second, sI p4, .val (.long p5), .second] []
    refine og (XS.iconst X0.here hx rfl (hb hby own_d674)) ?_
    show OG m s₁ 7 #[sR a2, sI p1, sI p2, .val (.long p3), .second, sI p4, .val (.long p5), .second] [(.int (1 : Int32))]
    obtain ⟨fs, hr, hrun, hended, hW, hsame⟩ := X0.leave (v := some (.int (1 : Int32))) (fun h => by rw [Bd.returns] at h; cases h)
    refine ⟨_, _, retN X0 hx (t := .boolean) Bd.returns (by simp) (hb hby own_d675) hr, hrun, hended, _, _, rfl, ?_, ⟨_, rfl⟩, hW, hsame.mono (by decide) (by decide)⟩
    show Q_own_di Z a2 p1 p2 p3 p4 p5 sv sk sl cs qn dn vn kn i_COMPACT_STRINGS v_SIOOBE_FORMATTER h0 n0 _ s₁.heap _
    rw [e0]
    exact ⟨rfl, N0, rfl⟩
theorem own_ef676 (m : MethodId) (a2 : Addr) (p1 : Int32) (p2 : Int32) : entryFrame m #[(.ref a2), (.int p1), (.int p2)] 7 = mkF m 0 #[sR a2, sI p1, sI p2, sU, sU, sU, sU] [] := by first | (simp [entryFrame, mkF, argsToLocals, Value.category]; done) | rfl
theorem own_d677 : decode method_6_code 31 = .ok (.lload_n 3, 1) := by decide +kernel
theorem own_d678 : decode method_6_code 32 = .ok (.invokestatic 51, 3) := by decide +kernel
theorem own_d679 : decode method_6_code 35 = .ok (.istore 6, 2) := by decide +kernel
theorem own_d680 : decode method_6_code 37 = .ok (.aload_n 0, 1) := by decide +kernel
theorem own_d681 : decode method_6_code 38 = .ok (.iload 5, 2) := by decide +kernel
theorem own_d682 : decode method_6_code 40 = .ok (.iload 6, 2) := by decide +kernel
theorem own_d683 : decode method_6_code 42 = .ok (.lload_n 3, 1) := by decide +kernel
theorem own_d684 : decode method_6_code 43 = .ok (.iconst 0, 1) := by decide +kernel
theorem own_d685 : decode method_6_code 44 = .ok (.lconst 1, 1) := by decide +kernel
theorem own_d686 : decode method_6_code 45 = .ok (.invokestatic 55, 3) := by decide +kernel
theorem own_pd687 : parseMethodDescriptor "(Ljava/lang/String;IIJIJ)Z" = some ⟨[(.object "java/lang/String"), .int, .int, .long, .int, .long], some .boolean⟩ := by decide +kernel
theorem own_d688 : decode method_6_code 48 = .ok (.ifCond .eq 155, 3) := by decide +kernel
theorem own_d689 : decode method_6_code 51 = .ok (.aload_n 0, 1) := by decide +kernel
theorem own_d690 : decode method_6_code 52 = .ok (.iload 5, 2) := by decide +kernel
theorem own_d691 : decode method_6_code 54 = .ok (.iload 6, 2) := by decide +kernel
theorem own_d692 : decode method_6_code 56 = .ok (.lload_n 3, 1) := by decide +kernel
theorem own_d693 : decode method_6_code 57 = .ok (.iconst 1, 1) := by decide +kernel
theorem own_d694 : decode method_6_code 58 = .ok (.ldc2_w 33, 3) := by decide +kernel
theorem own_d695 : decode method_6_code 61 = .ok (.invokestatic 55, 3) := by decide +kernel
theorem own_d696 : decode method_6_code 64 = .ok (.ifCond .eq 139, 3) := by decide +kernel
theorem own_d697 : decode method_6_code 67 = .ok (.aload_n 0, 1) := by decide +kernel
theorem own_d698 : decode method_6_code 68 = .ok (.iload 5, 2) := by decide +kernel
theorem own_d699 : decode method_6_code 70 = .ok (.iload 6, 2) := by decide +kernel
theorem own_d700 : decode method_6_code 72 = .ok (.lload_n 3, 1) := by decide +kernel
theorem own_d701 : decode method_6_code 73 = .ok (.iconst 2, 1) := by decide +kernel
theorem own_d702 : decode method_6_code 74 = .ok (.ldc2_w 35, 3) := by decide +kernel
theorem own_d703 : decode method_6_code 77 = .ok (.invokestatic 55, 3) := by decide +kernel
theorem own_d704 : decode method_6_code 80 = .ok (.ifCond .eq 123, 3) := by decide +kernel
theorem own_d705 : decode method_6_code 83 = .ok (.aload_n 0, 1) := by decide +kernel
theorem own_d706 : decode method_6_code 84 = .ok (.iload 5, 2) := by decide +kernel
theorem own_d707 : decode method_6_code 86 = .ok (.iload 6, 2) := by decide +kernel
theorem own_d708 : decode method_6_code 88 = .ok (.lload_n 3, 1) := by decide +kernel
theorem own_d709 : decode method_6_code 89 = .ok (.iconst 3, 1) := by decide +kernel
theorem own_d710 : decode method_6_code 90 = .ok (.ldc2_w 37, 3) := by decide +kernel
theorem own_d711 : decode method_6_code 93 = .ok (.invokestatic 55, 3) := by decide +kernel
theorem own_d712 : decode method_6_code 96 = .ok (.ifCond .eq 107, 3) := by decide +kernel
theorem own_d713 : decode method_6_code 99 = .ok (.aload_n 0, 1) := by decide +kernel
theorem own_d714 : decode method_6_code 100 = .ok (.iload 5, 2) := by decide +kernel
theorem own_d715 : decode method_6_code 102 = .ok (.iload 6, 2) := by decide +kernel
theorem own_d716 : decode method_6_code 104 = .ok (.lload_n 3, 1) := by decide +kernel
theorem own_d717 : decode method_6_code 105 = .ok (.iconst 4, 1) := by decide +kernel
theorem own_d718 : decode method_6_code 106 = .ok (.ldc2_w 39, 3) := by decide +kernel
theorem own_d719 : decode method_6_code 109 = .ok (.invokestatic 55, 3) := by decide +kernel
theorem own_d720 : decode method_6_code 112 = .ok (.ifCond .eq 91, 3) := by decide +kernel
theorem own_d721 : decode method_6_code 115 = .ok (.aload_n 0, 1) := by decide +kernel
theorem own_d722 : decode method_6_code 116 = .ok (.iload 5, 2) := by decide +kernel
theorem own_d723 : decode method_6_code 118 = .ok (.iload 6, 2) := by decide +kernel
theorem own_d724 : decode method_6_code 120 = .ok (.lload_n 3, 1) := by decide +kernel
theorem own_d725 : decode method_6_code 121 = .ok (.iconst 5, 1) := by decide +kernel
theorem own_d726 : decode method_6_code 122 = .ok (.ldc2_w 41, 3) := by decide +kernel
theorem own_d727 : decode method_6_code 125 = .ok (.invokestatic 55, 3) := by decide +kernel
theorem own_d728 : decode method_6_code 128 = .ok (.ifCond .eq 75, 3) := by decide +kernel
theorem own_d729 : decode method_6_code 131 = .ok (.aload_n 0, 1) := by decide +kernel
theorem own_d730 : decode method_6_code 132 = .ok (.iload 5, 2) := by decide +kernel
theorem own_d731 : decode method_6_code 134 = .ok (.iload 6, 2) := by decide +kernel
theorem own_d732 : decode method_6_code 136 = .ok (.lload_n 3, 1) := by decide +kernel
theorem own_d733 : decode method_6_code 137 = .ok (.bipush 6, 2) := by decide +kernel
theorem own_d734 : decode method_6_code 139 = .ok (.ldc2_w 43, 3) := by decide +kernel
theorem own_d735 : decode method_6_code 142 = .ok (.invokestatic 55, 3) := by decide +kernel
theorem own_d736 : decode method_6_code 145 = .ok (.ifCond .eq 58, 3) := by decide +kernel
theorem own_d737 : decode method_6_code 148 = .ok (.aload_n 0, 1) := by decide +kernel
theorem own_d738 : decode method_6_code 149 = .ok (.iload 5, 2) := by decide +kernel
theorem own_d739 : decode method_6_code 151 = .ok (.iload 6, 2) := by decide +kernel
theorem own_d740 : decode method_6_code 153 = .ok (.lload_n 3, 1) := by decide +kernel
theorem own_d741 : decode method_6_code 154 = .ok (.bipush 7, 2) := by decide +kernel
theorem own_d742 : decode method_6_code 156 = .ok (.ldc2_w 45, 3) := by decide +kernel
theorem own_d743 : decode method_6_code 159 = .ok (.invokestatic 55, 3) := by decide +kernel
theorem own_d744 : decode method_6_code 162 = .ok (.ifCond .eq 41, 3) := by decide +kernel
theorem own_d745 : decode method_6_code 165 = .ok (.aload_n 0, 1) := by decide +kernel
theorem own_d746 : decode method_6_code 166 = .ok (.iload 5, 2) := by decide +kernel
theorem own_d747 : decode method_6_code 168 = .ok (.iload 6, 2) := by decide +kernel
theorem own_d748 : decode method_6_code 170 = .ok (.lload_n 3, 1) := by decide +kernel
theorem own_d749 : decode method_6_code 171 = .ok (.bipush 8, 2) := by decide +kernel
theorem own_d750 : decode method_6_code 173 = .ok (.ldc2_w 47, 3) := by decide +kernel
theorem own_d751 : decode method_6_code 176 = .ok (.invokestatic 55, 3) := by decide +kernel
theorem own_d752 : decode method_6_code 179 = .ok (.ifCond .eq 24, 3) := by decide +kernel
theorem own_d753 : decode method_6_code 182 = .ok (.aload_n 0, 1) := by decide +kernel
theorem own_d754 : decode method_6_code 183 = .ok (.iload 5, 2) := by decide +kernel
theorem own_d755 : decode method_6_code 185 = .ok (.iload 6, 2) := by decide +kernel
theorem own_d756 : decode method_6_code 187 = .ok (.lload_n 3, 1) := by decide +kernel
theorem own_d757 : decode method_6_code 188 = .ok (.bipush 9, 2) := by decide +kernel
theorem own_d758 : decode method_6_code 190 = .ok (.ldc2_w 49, 3) := by decide +kernel
theorem own_d759 : decode method_6_code 193 = .ok (.invokestatic 55, 3) := by decide +kernel
theorem own_d760 : decode method_6_code 196 = .ok (.ifCond .eq 7, 3) := by decide +kernel
theorem own_d761 : decode method_6_code 199 = .ok (.iconst 1, 1) := by decide +kernel
theorem own_d762 : decode method_6_code 200 = .ok (.goto 4, 3) := by decide +kernel
theorem own_d763 : decode method_6_code 204 = .ok (.ireturn, 1) := by decide +kernel
theorem own_d764 : decode method_6_code 0 = .ok (.iload_n 2, 1) := by decide +kernel
theorem own_d765 : decode method_6_code 1 = .ok (.i2l, 1) := by decide +kernel
theorem own_d766 : decode method_6_code 2 = .ok (.lstore_n 3, 1) := by decide +kernel
theorem own_d767 : decode method_6_code 3 = .ok (.iload_n 1, 1) := by decide +kernel
theorem own_d768 : decode method_6_code 4 = .ok (.istore 5, 2) := by decide +kernel
theorem own_d769 : decode method_6_code 6 = .ok (.lload_n 3, 1) := by decide +kernel
theorem own_d770 : decode method_6_code 7 = .ok (.lconst 0, 1) := by decide +kernel
theorem own_d771 : decode method_6_code 8 = .ok (.lcmp, 1) := by decide +kernel
theorem own_d772 : decode method_6_code 9 = .ok (.ifCond .ge 22, 3) := by decide +kernel
theorem own_d773 : decode method_6_code 12 = .ok (.aload_n 0, 1) := by decide +kernel
theorem own_d774 : decode method_6_code 13 = .ok (.iload 5, 2) := by decide +kernel
theorem own_d775 : decode method_6_code 15 = .ok (.invokevirtual 25, 3) := by decide +kernel
theorem own_d776 : decode method_6_code 18 = .ok (.bipush 45, 2) := by decide +kernel
theorem own_d777 : decode method_6_code 20 = .ok (.if_icmp .eq 5, 3) := by decide +kernel
theorem own_d778 : decode method_6_code 25 = .ok (.iinc 5 1, 3) := by decide +kernel
theorem own_d779 : decode method_6_code 28 = .ok (.lload_n 3, 1) := by decide +kernel
theorem own_d780 : decode method_6_code 29 = .ok (.lneg, 1) := by decide +kernel
theorem own_d781 : decode method_6_code 30 = .ok (.lstore_n 3, 1) := by decide +kernel
def Q_own_nu (Z : State) (a2 : Addr) (p1 : Int32) (p2 : Int32) (sv : Addr) (sk : ClassId) (sl : Int32) (cs : List Int32) (pn : Nat) (i_COMPACT_STRINGS : Int32) (v_SIOOBE_FORMATTER : Value) (h0 : Heap) (n0 : Nat) (v : Option Value) (h : Heap) (L : List Loc) : Prop := v = some (.int (1 : Int32)) ∧ Fr n0 L ∧ h = h0
set_option maxRecDepth 65536 in
set_option maxHeartbeats 40000000 in
theorem own_nu (l : Launch) (Z : State) (a0 : Array Value) (hw : ∀ d ∈ tables_1, d.before a0 Z = true) (ws : List Jvm.Cond) (a2 : Addr) (p1 : Int32) (p2 : Int32) (sv : Addr) (sk : ClassId) (sl : Int32) (cs : List Int32) (pn : Nat) (i_COMPACT_STRINGS : Int32) (v_SIOOBE_FORMATTER : Value) (h0 : Heap) (n0 : Nat) (Z0 : n0 ≤ h0.size) (O0 : Old Z n0 h0) (S_COMPACT_STRINGS : Sta Z Z.heap "java/lang/String" "COMPACT_STRINGS" "Z" (.int i_COMPACT_STRINGS)) (nz_i_COMPACT_STRINGS : i_COMPACT_STRINGS ≠ (0 : Int32)) (S_SIOOBE_FORMATTER : Sta Z Z.heap "jdk/internal/util/Preconditions" "SIOOBE_FORMATTER" "Ljava/util/function/BiFunction;" v_SIOOBE_FORMATTER) (ir_v_SIOOBE_FORMATTER : v_SIOOBE_FORMATTER.isRef = true) (f0_0 : Exa Z h0 a2 "java/lang/String") (f0_1 : Fld Z h0 a2 "java/lang/String" "value" "[B" (.ref sv)) (f0_2 : Fld Z h0 a2 "java/lang/String" "coder" "B" (.int (0 : Int32))) (f0_3 : Arv Z h0 sv sk .byte sl (own_B cs) (.int (0 : Int32))) (hsl : ¬ sl < 0 ∧ sl.toNatClampNeg = cs.length) (hcl : cs.length ≤ 1000) (hp : p1.toInt = (pn : Int)) (hin : pn + (own_txt p2).length ≤ cs.length) (hsub : ∀ j, j < (own_txt p2).length → cs[pn + j]? = (own_txt p2)[j]?) :
    MetFree l (⟨"standwatch/query/ArgumentsNumbersPinLaw", "number", "(Ljava/lang/String;II)Z"⟩ : MethodName) (head1 (Jvm.Cond.code (⟨"standwatch/query/ArgumentsNumbersPinLaw", "number", "(Ljava/lang/String;II)Z"⟩ : MethodName) method_6_code 7 (some .boolean) :: ws) ({ frames := 5, cells := 0, slots := 0, locals := 72 } : Room)) (fun a U => a = #[(.ref a2), (.int p1), (.int p2)] ∧ Z.Warmed39 U.vm ∧ U.heap = h0) (fun _ _ _ _ _ => True) (fun _ U o U' => ∃ v L, o = .returned v ∧ Q_own_nu Z a2 p1 p2 sv sk sl cs pn i_COMPACT_STRINGS v_SIOOBE_FORMATTER h0 n0 v U'.heap L ∧ FrameEnd U o U' L ({ frames := 5, cells := 0, slots := 0, locals := 72 } : Room).cells ({ frames := 5, cells := 0, slots := 0, locals := 72 } : Room).slots) := by
  refine MetFree.of_bodySF (plainFor_of_name own_pn572) hisR ?_
  intro p e s m args below meth c s₁ Bd hml0 hP hK
  obtain ⟨rfl, hZ, hh⟩ := hP
  have hx := Bd.exec
  have hby := Bd.bytes
  have hml : c.maxLocals = 7 := hml0
  have hown : s.vm.findClass "standwatch/query/ArgumentsNumbersPinLaw" = some m.cls := findClass_of_methodNamed Bd.named
  have hnm := (name_of_methodNamed Bd.named Bd.method).1
  have X0 : Stand p l e ({ frames := 5, cells := 0, slots := 0, locals := 72 } : Room) s m #[(.ref a2), (.int p1), (.int p2)] below meth c s₁ [] 0 0 := Stand.of_body Bd
  have e0 : s₁.heap = h0 := by rw [← hh, Bd.state]; rfl
  have N0 := Fr.nil n0
  have K0 := Keep.refl h0 []
  refine own_go (fun t k => castTop (own_ef676 m a2 p1 p2) k) ?_
  show OG m s₁ 0 #[sR a2, sI p1, sI p2, sU, sU, sU, sU] []
  have htl := own_txt_len p2
  have hnr := own_nd_rng p2.toInt.natAbs
  refine own_named (fun R hR => ?_)
  have nm : ∀ (zv : Int64) (zq : Int32) (qn : Nat) (T_nm : State) (L_nm : List Loc), (Stand p l e ({ frames := 5, cells := 0, slots := 0, locals := 72 } : Room) s m #[(.ref a2), (.int p1), (.int p2)] below meth c T_nm L_nm 0 0) → (T_nm.heap = h0) → (Fr n0 L_nm) → (Keep h0 h0 []) → (n0 ≤ h0.size) → (Exa Z h0 a2 "java/lang/String") → (Fld Z h0 a2 "java/lang/String" "value" "[B" (.ref sv)) → (Fld Z h0 a2 "java/lang/String" "coder" "B" (.int (0 : Int32))) → (Arv Z h0 sv sk .byte sl (own_B cs) (.int (0 : Int32))) → (Old Z n0 h0) → (zv.toInt = (p2.toInt.natAbs : Int)) → (zq.toInt = (qn : Int)) → (qn + (own_nd p2.toInt.natAbs) ≤ cs.length) → (∀ j, j < (own_nd p2.toInt.natAbs) → cs[qn + (own_nd p2.toInt.natAbs) - 1 - j]? = some (Int32.ofNat (48 + p2.toInt.natAbs / 10 ^ j % 10))) → OwnG p.tables e below R (T_nm.setTop (mkF m 31 #[sR a2, sI p1, sI p2, .val (.long zv), .second, sI zq, sU] [])) := by
    intro zv zq qn T_nm L_nm X_nm e_nm N_nm K_nm Z_nm F_nm0 F_nm1 F_nm2 F_nm3 F_nm4 hv hq hin2 hcs
    refine og (XS.lloadN X_nm.here hx rfl (hb hby own_d677) rfl) ?_
    show OG m T_nm 32 #[sR a2, sI p1, sI p2, .val (.long zv), .second, sI zq, sU] [(.long zv)]
    obtain ⟨_, _, ⟨T1, L1, k1, n1⟩, -, X1, ⟨Lc1, hQ1, l1, y1, z1⟩, st1⟩ := Jvm.LawKit.callS X_nm hx (y := (⟨"standwatch/query/ArgumentsNumbersPinLaw", "digits", "(J)I"⟩ : MethodName)) hown (mvT hZ (tw hw 165 rfl)) (mvT hZ (tw hw 166 rfl)) (mvT hZ (tw hw 163 rfl)) (mvT hZ (tw hw 167 rfl)) (by decide) (backOf (W := 0) (own_dg l Z a0 hw [] zv p2.toInt.natAbs h0 n0 Z_nm hv) hZ (tw hw 167 rfl) (tw hw 163 rfl) (by decide) (by decide)) (g := (mkF m 32 #[sR a2, sI p1, sI p2, .val (.long zv), .second, sI zq, sU] [(.long zv)])) rfl (by rw [hml]; rfl) (argsL := [(.long zv)]) (rest := []) (lenOf own_pd641 rfl) rfl (by show 2 * 0 + _ ≤ _; exact Nat.le_of_eq rfl) (hb hby own_d678) (fun _ _ => ⟨rfl, e_nm, (by decide : 0 + 0 ≤ _), (by decide : 0 + 0 ≤ _)⟩)
    dsimp only [Pt.U, Pt.locs, Pt.cells, Pt.slots] at X1 l1 y1 z1 st1 hQ1
    subst l1 y1 z1
    obtain ⟨rfl, Nq1, eq1⟩ := hQ1
    have N1 := Fr.app N_nm Nq1
    have e1 : T1.heap = h0 := eq1
    refine own_go (fun t k => st1 t k) ?_
    show OG m T1 35 #[sR a2, sI p1, sI p2, .val (.long zv), .second, sI zq, sU] [(.int (Int32.ofNat (own_nd (p2.toInt.natAbs))))]
    have hdn : (Int32.ofNat (own_nd p2.toInt.natAbs)).toInt = (((own_nd p2.toInt.natAbs) : Nat) : Int) := own_ofNat (by omega)
    refine og (XS.istore X1.here hx rfl (hb hby own_d679) rfl (l' := #[sR a2, sI p1, sI p2, .val (.long zv), .second, sI zq, sI (Int32.ofNat (own_nd (p2.toInt.natAbs)))]) rfl) ?_
    refine og (XS.aloadN X1.here hx rfl (hb hby own_d680) rfl rfl) ?_
    show OG m T1 38 #[sR a2, sI p1, sI p2, .val (.long zv), .second, sI zq, sI (Int32.ofNat (own_nd (p2.toInt.natAbs)))] [(.ref a2)]
    refine og (XS.iload X1.here hx rfl (hb hby own_d681) rfl) ?_
    refine og (XS.iload X1.here hx rfl (hb hby own_d682) rfl) ?_
    show OG m T1 42 #[sR a2, sI p1, sI p2, .val (.long zv), .second, sI zq, sI (Int32.ofNat (own_nd (p2.toInt.natAbs)))] [(.int (Int32.ofNat (own_nd (p2.toInt.natAbs)))), (.int zq), (.ref a2)]
    refine og (XS.lloadN X1.here hx rfl (hb hby own_d683) rfl) ?_
    refine og (XS.iconst X1.here hx rfl (hb hby own_d684)) ?_
    show OG m T1 44 #[sR a2, sI p1, sI p2, .val (.long zv), .second, sI zq, sI (Int32.ofNat (own_nd (p2.toInt.natAbs)))] [(.int (0 : Int32)), (.long zv), (.int (Int32.ofNat (own_nd (p2.toInt.natAbs)))), (.int zq), (.ref a2)]
    refine og (XS.lconst X1.here hx rfl (hb hby own_d685)) ?_
    show OG m T1 45 #[sR a2, sI p1, sI p2, .val (.long zv), .second, sI zq, sI (Int32.ofNat (own_nd (p2.toInt.natAbs)))] [(.long (1 : Int64)), (.int (0 : Int32)), (.long zv), (.int (Int32.ofNat (own_nd (p2.toInt.natAbs)))), (.int zq), (.ref a2)]
    obtain ⟨_, _, ⟨T2, L2, k2, n2⟩, -, X2, ⟨Lc2, hQ2, l2, y2, z2⟩, st2⟩ := Jvm.LawKit.callS X1 hx (y := (⟨"standwatch/query/ArgumentsNumbersPinLaw", "dig", "(Ljava/lang/String;IIJIJ)Z"⟩ : MethodName)) hown (mvT hZ (tw hw 194 rfl)) (mvT hZ (tw hw 195 rfl)) (mvT hZ (tw hw 163 rfl)) (mvT hZ (tw hw 196 rfl)) (by decide) (backOf (W := 0) (own_di l Z a0 hw [] a2 zq (Int32.ofNat (own_nd (p2.toInt.natAbs))) zv (0 : Int32) (1 : Int64) sv sk sl cs qn (own_nd p2.toInt.natAbs) p2.toInt.natAbs 0 i_COMPACT_STRINGS v_SIOOBE_FORMATTER h0 n0 Z_nm F_nm4 S_COMPACT_STRINGS nz_i_COMPACT_STRINGS S_SIOOBE_FORMATTER ir_v_SIOOBE_FORMATTER F_nm0 F_nm1 F_nm2 F_nm3 hsl hcl hq hdn hv hin2 hcs rfl rfl) hZ (tw hw 196 rfl) (tw hw 163 rfl) (by decide) (by decide)) (g := (mkF m 45 #[sR a2, sI p1, sI p2, .val (.long zv), .second, sI zq, sI (Int32.ofNat (own_nd (p2.toInt.natAbs)))] [(.long (1 : Int64)), (.int (0 : Int32)), (.long zv), (.int (Int32.ofNat (own_nd (p2.toInt.natAbs)))), (.int zq), (.ref a2)])) rfl (by rw [hml]; rfl) (argsL := [(.ref a2), (.int zq), (.int (Int32.ofNat (own_nd (p2.toInt.natAbs)))), (.long zv), (.int (0 : Int32)), (.long (1 : Int64))]) (rest := []) (lenOf own_pd687 rfl) rfl (by show 2 * 0 + _ ≤ _; exact Nat.le_of_eq rfl) (hb hby own_d686) (fun _ _ => ⟨rfl, e1, (by decide : 0 + 0 ≤ _), (by decide : 0 + 0 ≤ _)⟩)
    dsimp only [Pt.U, Pt.locs, Pt.cells, Pt.slots] at X2 l2 y2 z2 st2 hQ2
    subst l2 y2 z2
    obtain ⟨rfl, Nq2, eq2⟩ := hQ2
    have N2 := Fr.app N1 Nq2
    have e2 : T2.heap = h0 := eq2
    refine own_go (fun t k => st2 t k) ?_
    show OG m T2 48 #[sR a2, sI p1, sI p2, .val (.long zv), .second, sI zq, sI (Int32.ofNat (own_nd (p2.toInt.natAbs)))] [(.int (1 : Int32))]
    refine og (XS.ifNo X2.here hx rfl (hb hby own_d688) rfl ((if0 _ _).trans (feq (by decide : ¬ ((1 : Int32) = (0 : Int32)))).1)) ?_
    refine og (XS.aloadN X2.here hx rfl (hb hby own_d689) rfl rfl) ?_
    show OG m T2 52 #[sR a2, sI p1, sI p2, .val (.long zv), .second, sI zq, sI (Int32.ofNat (own_nd (p2.toInt.natAbs)))] [(.ref a2)]
    refine og (XS.iload X2.here hx rfl (hb hby own_d690) rfl) ?_
    refine og (XS.iload X2.here hx rfl (hb hby own_d691) rfl) ?_
    show OG m T2 56 #[sR a2, sI p1, sI p2, .val (.long zv), .second, sI zq, sI (Int32.ofNat (own_nd (p2.toInt.natAbs)))] [(.int (Int32.ofNat (own_nd (p2.toInt.natAbs)))), (.int zq), (.ref a2)]
    refine og (XS.lloadN X2.here hx rfl (hb hby own_d692) rfl) ?_
    refine og (XS.iconst X2.here hx rfl (hb hby own_d693)) ?_
    show OG m T2 58 #[sR a2, sI p1, sI p2, .val (.long zv), .second, sI zq, sI (Int32.ofNat (own_nd (p2.toInt.natAbs)))] [(.int (1 : Int32)), (.long zv), (.int (Int32.ofNat (own_nd (p2.toInt.natAbs)))), (.int zq), (.ref a2)]
    refine own_go (fun t k => (X2.ldc2Long hx hown (mvT hZ (tw hw 168 rfl)) (g := (mkF m 58 #[sR a2, sI p1, sI p2, .val (.long zv), .second, sI zq, sI (Int32.ofNat (own_nd (p2.toInt.natAbs)))] [(.int (1 : Int32)), (.long zv), (.int (Int32.ofNat (own_nd (p2.toInt.natAbs)))), (.int zq), (.ref a2)])) rfl (hb hby own_d694)) t k) ?_
    show OG m T2 61 #[sR a2, sI p1, sI p2, .val (.long zv), .second, sI zq, sI (Int32.ofNat (own_nd (p2.toInt.natAbs)))] [(.long (10 : Int64)), (.int (1 : Int32)), (.long zv), (.int (Int32.ofNat (own_nd (p2.toInt.natAbs)))), (.int zq), (.ref a2)]
    obtain ⟨_, _, ⟨T3, L3, k3, n3⟩, -, X3, ⟨Lc3, hQ3, l3, y3, z3⟩, st3⟩ := Jvm.LawKit.callS X2 hx (y := (⟨"standwatch/query/ArgumentsNumbersPinLaw", "dig", "(Ljava/lang/String;IIJIJ)Z"⟩ : MethodName)) hown (mvT hZ (tw hw 194 rfl)) (mvT hZ (tw hw 195 rfl)) (mvT hZ (tw hw 163 rfl)) (mvT hZ (tw hw 196 rfl)) (by decide) (backOf (W := 0) (own_di l Z a0 hw [] a2 zq (Int32.ofNat (own_nd (p2.toInt.natAbs))) zv (1 : Int32) (10 : Int64) sv sk sl cs qn (own_nd p2.toInt.natAbs) p2.toInt.natAbs 1 i_COMPACT_STRINGS v_SIOOBE_FORMATTER h0 n0 Z_nm F_nm4 S_COMPACT_STRINGS nz_i_COMPACT_STRINGS S_SIOOBE_FORMATTER ir_v_SIOOBE_FORMATTER F_nm0 F_nm1 F_nm2 F_nm3 hsl hcl hq hdn hv hin2 hcs rfl rfl) hZ (tw hw 196 rfl) (tw hw 163 rfl) (by decide) (by decide)) (g := (mkF m 61 #[sR a2, sI p1, sI p2, .val (.long zv), .second, sI zq, sI (Int32.ofNat (own_nd (p2.toInt.natAbs)))] [(.long (10 : Int64)), (.int (1 : Int32)), (.long zv), (.int (Int32.ofNat (own_nd (p2.toInt.natAbs)))), (.int zq), (.ref a2)])) rfl (by rw [hml]; rfl) (argsL := [(.ref a2), (.int zq), (.int (Int32.ofNat (own_nd (p2.toInt.natAbs)))), (.long zv), (.int (1 : Int32)), (.long (10 : Int64))]) (rest := []) (lenOf own_pd687 rfl) rfl (by show 2 * 0 + _ ≤ _; exact Nat.le_of_eq rfl) (hb hby own_d695) (fun _ _ => ⟨rfl, e2, (by decide : 0 + 0 ≤ _), (by decide : 0 + 0 ≤ _)⟩)
    dsimp only [Pt.U, Pt.locs, Pt.cells, Pt.slots] at X3 l3 y3 z3 st3 hQ3
    subst l3 y3 z3
    obtain ⟨rfl, Nq3, eq3⟩ := hQ3
    have N3 := Fr.app N2 Nq3
    have e3 : T3.heap = h0 := eq3
    refine own_go (fun t k => st3 t k) ?_
    show OG m T3 64 #[sR a2, sI p1, sI p2, .val (.long zv), .second, sI zq, sI (Int32.ofNat (own_nd (p2.toInt.natAbs)))] [(.int (1 : Int32))]
    refine og (XS.ifNo X3.here hx rfl (hb hby own_d696) rfl ((if0 _ _).trans (feq (by decide : ¬ ((1 : Int32) = (0 : Int32)))).1)) ?_
    refine og (XS.aloadN X3.here hx rfl (hb hby own_d697) rfl rfl) ?_
    show OG m T3 68 #[sR a2, sI p1, sI p2, .val (.long zv), .second, sI zq, sI (Int32.ofNat (own_nd (p2.toInt.natAbs)))] [(.ref a2)]
    refine og (XS.iload X3.here hx rfl (hb hby own_d698) rfl) ?_
    refine og (XS.iload X3.here hx rfl (hb hby own_d699) rfl) ?_
    show OG m T3 72 #[sR a2, sI p1, sI p2, .val (.long zv), .second, sI zq, sI (Int32.ofNat (own_nd (p2.toInt.natAbs)))] [(.int (Int32.ofNat (own_nd (p2.toInt.natAbs)))), (.int zq), (.ref a2)]
    refine og (XS.lloadN X3.here hx rfl (hb hby own_d700) rfl) ?_
    refine og (XS.iconst X3.here hx rfl (hb hby own_d701)) ?_
    show OG m T3 74 #[sR a2, sI p1, sI p2, .val (.long zv), .second, sI zq, sI (Int32.ofNat (own_nd (p2.toInt.natAbs)))] [(.int (2 : Int32)), (.long zv), (.int (Int32.ofNat (own_nd (p2.toInt.natAbs)))), (.int zq), (.ref a2)]
    refine own_go (fun t k => (X3.ldc2Long hx hown (mvT hZ (tw hw 197 rfl)) (g := (mkF m 74 #[sR a2, sI p1, sI p2, .val (.long zv), .second, sI zq, sI (Int32.ofNat (own_nd (p2.toInt.natAbs)))] [(.int (2 : Int32)), (.long zv), (.int (Int32.ofNat (own_nd (p2.toInt.natAbs)))), (.int zq), (.ref a2)])) rfl (hb hby own_d702)) t k) ?_
    show OG m T3 77 #[sR a2, sI p1, sI p2, .val (.long zv), .second, sI zq, sI (Int32.ofNat (own_nd (p2.toInt.natAbs)))] [(.long (100 : Int64)), (.int (2 : Int32)), (.long zv), (.int (Int32.ofNat (own_nd (p2.toInt.natAbs)))), (.int zq), (.ref a2)]
    obtain ⟨_, _, ⟨T4, L4, k4, n4⟩, -, X4, ⟨Lc4, hQ4, l4, y4, z4⟩, st4⟩ := Jvm.LawKit.callS X3 hx (y := (⟨"standwatch/query/ArgumentsNumbersPinLaw", "dig", "(Ljava/lang/String;IIJIJ)Z"⟩ : MethodName)) hown (mvT hZ (tw hw 194 rfl)) (mvT hZ (tw hw 195 rfl)) (mvT hZ (tw hw 163 rfl)) (mvT hZ (tw hw 196 rfl)) (by decide) (backOf (W := 0) (own_di l Z a0 hw [] a2 zq (Int32.ofNat (own_nd (p2.toInt.natAbs))) zv (2 : Int32) (100 : Int64) sv sk sl cs qn (own_nd p2.toInt.natAbs) p2.toInt.natAbs 2 i_COMPACT_STRINGS v_SIOOBE_FORMATTER h0 n0 Z_nm F_nm4 S_COMPACT_STRINGS nz_i_COMPACT_STRINGS S_SIOOBE_FORMATTER ir_v_SIOOBE_FORMATTER F_nm0 F_nm1 F_nm2 F_nm3 hsl hcl hq hdn hv hin2 hcs rfl rfl) hZ (tw hw 196 rfl) (tw hw 163 rfl) (by decide) (by decide)) (g := (mkF m 77 #[sR a2, sI p1, sI p2, .val (.long zv), .second, sI zq, sI (Int32.ofNat (own_nd (p2.toInt.natAbs)))] [(.long (100 : Int64)), (.int (2 : Int32)), (.long zv), (.int (Int32.ofNat (own_nd (p2.toInt.natAbs)))), (.int zq), (.ref a2)])) rfl (by rw [hml]; rfl) (argsL := [(.ref a2), (.int zq), (.int (Int32.ofNat (own_nd (p2.toInt.natAbs)))), (.long zv), (.int (2 : Int32)), (.long (100 : Int64))]) (rest := []) (lenOf own_pd687 rfl) rfl (by show 2 * 0 + _ ≤ _; exact Nat.le_of_eq rfl) (hb hby own_d703) (fun _ _ => ⟨rfl, e3, (by decide : 0 + 0 ≤ _), (by decide : 0 + 0 ≤ _)⟩)
    dsimp only [Pt.U, Pt.locs, Pt.cells, Pt.slots] at X4 l4 y4 z4 st4 hQ4
    subst l4 y4 z4
    obtain ⟨rfl, Nq4, eq4⟩ := hQ4
    have N4 := Fr.app N3 Nq4
    have e4 : T4.heap = h0 := eq4
    refine own_go (fun t k => st4 t k) ?_
    show OG m T4 80 #[sR a2, sI p1, sI p2, .val (.long zv), .second, sI zq, sI (Int32.ofNat (own_nd (p2.toInt.natAbs)))] [(.int (1 : Int32))]
    refine og (XS.ifNo X4.here hx rfl (hb hby own_d704) rfl ((if0 _ _).trans (feq (by decide : ¬ ((1 : Int32) = (0 : Int32)))).1)) ?_
    refine og (XS.aloadN X4.here hx rfl (hb hby own_d705) rfl rfl) ?_
    show OG m T4 84 #[sR a2, sI p1, sI p2, .val (.long zv), .second, sI zq, sI (Int32.ofNat (own_nd (p2.toInt.natAbs)))] [(.ref a2)]
    refine og (XS.iload X4.here hx rfl (hb hby own_d706) rfl) ?_
    refine og (XS.iload X4.here hx rfl (hb hby own_d707) rfl) ?_
    show OG m T4 88 #[sR a2, sI p1, sI p2, .val (.long zv), .second, sI zq, sI (Int32.ofNat (own_nd (p2.toInt.natAbs)))] [(.int (Int32.ofNat (own_nd (p2.toInt.natAbs)))), (.int zq), (.ref a2)]
    refine og (XS.lloadN X4.here hx rfl (hb hby own_d708) rfl) ?_
    refine og (XS.iconst X4.here hx rfl (hb hby own_d709)) ?_
    show OG m T4 90 #[sR a2, sI p1, sI p2, .val (.long zv), .second, sI zq, sI (Int32.ofNat (own_nd (p2.toInt.natAbs)))] [(.int (3 : Int32)), (.long zv), (.int (Int32.ofNat (own_nd (p2.toInt.natAbs)))), (.int zq), (.ref a2)]
    refine own_go (fun t k => (X4.ldc2Long hx hown (mvT hZ (tw hw 198 rfl)) (g := (mkF m 90 #[sR a2, sI p1, sI p2, .val (.long zv), .second, sI zq, sI (Int32.ofNat (own_nd (p2.toInt.natAbs)))] [(.int (3 : Int32)), (.long zv), (.int (Int32.ofNat (own_nd (p2.toInt.natAbs)))), (.int zq), (.ref a2)])) rfl (hb hby own_d710)) t k) ?_
    show OG m T4 93 #[sR a2, sI p1, sI p2, .val (.long zv), .second, sI zq, sI (Int32.ofNat (own_nd (p2.toInt.natAbs)))] [(.long (1000 : Int64)), (.int (3 : Int32)), (.long zv), (.int (Int32.ofNat (own_nd (p2.toInt.natAbs)))), (.int zq), (.ref a2)]
    obtain ⟨_, _, ⟨T5, L5, k5, n5⟩, -, X5, ⟨Lc5, hQ5, l5, y5, z5⟩, st5⟩ := Jvm.LawKit.callS X4 hx (y := (⟨"standwatch/query/ArgumentsNumbersPinLaw", "dig", "(Ljava/lang/String;IIJIJ)Z"⟩ : MethodName)) hown (mvT hZ (tw hw 194 rfl)) (mvT hZ (tw hw 195 rfl)) (mvT hZ (tw hw 163 rfl)) (mvT hZ (tw hw 196 rfl)) (by decide) (backOf (W := 0) (own_di l Z a0 hw [] a2 zq (Int32.ofNat (own_nd (p2.toInt.natAbs))) zv (3 : Int32) (1000 : Int64) sv sk sl cs qn (own_nd p2.toInt.natAbs) p2.toInt.natAbs 3 i_COMPACT_STRINGS v_SIOOBE_FORMATTER h0 n0 Z_nm F_nm4 S_COMPACT_STRINGS nz_i_COMPACT_STRINGS S_SIOOBE_FORMATTER ir_v_SIOOBE_FORMATTER F_nm0 F_nm1 F_nm2 F_nm3 hsl hcl hq hdn hv hin2 hcs rfl rfl) hZ (tw hw 196 rfl) (tw hw 163 rfl) (by decide) (by decide)) (g := (mkF m 93 #[sR a2, sI p1, sI p2, .val (.long zv), .second, sI zq, sI (Int32.ofNat (own_nd (p2.toInt.natAbs)))] [(.long (1000 : Int64)), (.int (3 : Int32)), (.long zv), (.int (Int32.ofNat (own_nd (p2.toInt.natAbs)))), (.int zq), (.ref a2)])) rfl (by rw [hml]; rfl) (argsL := [(.ref a2), (.int zq), (.int (Int32.ofNat (own_nd (p2.toInt.natAbs)))), (.long zv), (.int (3 : Int32)), (.long (1000 : Int64))]) (rest := []) (lenOf own_pd687 rfl) rfl (by show 2 * 0 + _ ≤ _; exact Nat.le_of_eq rfl) (hb hby own_d711) (fun _ _ => ⟨rfl, e4, (by decide : 0 + 0 ≤ _), (by decide : 0 + 0 ≤ _)⟩)
    dsimp only [Pt.U, Pt.locs, Pt.cells, Pt.slots] at X5 l5 y5 z5 st5 hQ5
    subst l5 y5 z5
    obtain ⟨rfl, Nq5, eq5⟩ := hQ5
    have N5 := Fr.app N4 Nq5
    have e5 : T5.heap = h0 := eq5
    refine own_go (fun t k => st5 t k) ?_
    show OG m T5 96 #[sR a2, sI p1, sI p2, .val (.long zv), .second, sI zq, sI (Int32.ofNat (own_nd (p2.toInt.natAbs)))] [(.int (1 : Int32))]
    refine og (XS.ifNo X5.here hx rfl (hb hby own_d712) rfl ((if0 _ _).trans (feq (by decide : ¬ ((1 : Int32) = (0 : Int32)))).1)) ?_
    refine og (XS.aloadN X5.here hx rfl (hb hby own_d713) rfl rfl) ?_
    show OG m T5 100 #[sR a2, sI p1, sI p2, .val (.long zv), .second, sI zq, sI (Int32.ofNat (own_nd (p2.toInt.natAbs)))] [(.ref a2)]
    refine og (XS.iload X5.here hx rfl (hb hby own_d714) rfl) ?_
    refine og (XS.iload X5.here hx rfl (hb hby own_d715) rfl) ?_
    show OG m T5 104 #[sR a2, sI p1, sI p2, .val (.long zv), .second, sI zq, sI (Int32.ofNat (own_nd (p2.toInt.natAbs)))] [(.int (Int32.ofNat (own_nd (p2.toInt.natAbs)))), (.int zq), (.ref a2)]
    refine og (XS.lloadN X5.here hx rfl (hb hby own_d716) rfl) ?_
    refine og (XS.iconst X5.here hx rfl (hb hby own_d717)) ?_
    show OG m T5 106 #[sR a2, sI p1, sI p2, .val (.long zv), .second, sI zq, sI (Int32.ofNat (own_nd (p2.toInt.natAbs)))] [(.int (4 : Int32)), (.long zv), (.int (Int32.ofNat (own_nd (p2.toInt.natAbs)))), (.int zq), (.ref a2)]
    refine own_go (fun t k => (X5.ldc2Long hx hown (mvT hZ (tw hw 199 rfl)) (g := (mkF m 106 #[sR a2, sI p1, sI p2, .val (.long zv), .second, sI zq, sI (Int32.ofNat (own_nd (p2.toInt.natAbs)))] [(.int (4 : Int32)), (.long zv), (.int (Int32.ofNat (own_nd (p2.toInt.natAbs)))), (.int zq), (.ref a2)])) rfl (hb hby own_d718)) t k) ?_
    show OG m T5 109 #[sR a2, sI p1, sI p2, .val (.long zv), .second, sI zq, sI (Int32.ofNat (own_nd (p2.toInt.natAbs)))] [(.long (10000 : Int64)), (.int (4 : Int32)), (.long zv), (.int (Int32.ofNat (own_nd (p2.toInt.natAbs)))), (.int zq), (.ref a2)]
    obtain ⟨_, _, ⟨T6, L6, k6, n6⟩, -, X6, ⟨Lc6, hQ6, l6, y6, z6⟩, st6⟩ := Jvm.LawKit.callS X5 hx (y := (⟨"standwatch/query/ArgumentsNumbersPinLaw", "dig", "(Ljava/lang/String;IIJIJ)Z"⟩ : MethodName)) hown (mvT hZ (tw hw 194 rfl)) (mvT hZ (tw hw 195 rfl)) (mvT hZ (tw hw 163 rfl)) (mvT hZ (tw hw 196 rfl)) (by decide) (backOf (W := 0) (own_di l Z a0 hw [] a2 zq (Int32.ofNat (own_nd (p2.toInt.natAbs))) zv (4 : Int32) (10000 : Int64) sv sk sl cs qn (own_nd p2.toInt.natAbs) p2.toInt.natAbs 4 i_COMPACT_STRINGS v_SIOOBE_FORMATTER h0 n0 Z_nm F_nm4 S_COMPACT_STRINGS nz_i_COMPACT_STRINGS S_SIOOBE_FORMATTER ir_v_SIOOBE_FORMATTER F_nm0 F_nm1 F_nm2 F_nm3 hsl hcl hq hdn hv hin2 hcs rfl rfl) hZ (tw hw 196 rfl) (tw hw 163 rfl) (by decide) (by decide)) (g := (mkF m 109 #[sR a2, sI p1, sI p2, .val (.long zv), .second, sI zq, sI (Int32.ofNat (own_nd (p2.toInt.natAbs)))] [(.long (10000 : Int64)), (.int (4 : Int32)), (.long zv), (.int (Int32.ofNat (own_nd (p2.toInt.natAbs)))), (.int zq), (.ref a2)])) rfl (by rw [hml]; rfl) (argsL := [(.ref a2), (.int zq), (.int (Int32.ofNat (own_nd (p2.toInt.natAbs)))), (.long zv), (.int (4 : Int32)), (.long (10000 : Int64))]) (rest := []) (lenOf own_pd687 rfl) rfl (by show 2 * 0 + _ ≤ _; exact Nat.le_of_eq rfl) (hb hby own_d719) (fun _ _ => ⟨rfl, e5, (by decide : 0 + 0 ≤ _), (by decide : 0 + 0 ≤ _)⟩)
    dsimp only [Pt.U, Pt.locs, Pt.cells, Pt.slots] at X6 l6 y6 z6 st6 hQ6
    subst l6 y6 z6
    obtain ⟨rfl, Nq6, eq6⟩ := hQ6
    have N6 := Fr.app N5 Nq6
    have e6 : T6.heap = h0 := eq6
    refine own_go (fun t k => st6 t k) ?_
    show OG m T6 112 #[sR a2, sI p1, sI p2, .val (.long zv), .second, sI zq, sI (Int32.ofNat (own_nd (p2.toInt.natAbs)))] [(.int (1 : Int32))]
    refine og (XS.ifNo X6.here hx rfl (hb hby own_d720) rfl ((if0 _ _).trans (feq (by decide : ¬ ((1 : Int32) = (0 : Int32)))).1)) ?_
    refine og (XS.aloadN X6.here hx rfl (hb hby own_d721) rfl rfl) ?_
    show OG m T6 116 #[sR a2, sI p1, sI p2, .val (.long zv), .second, sI zq, sI (Int32.ofNat (own_nd (p2.toInt.natAbs)))] [(.ref a2)]
    refine og (XS.iload X6.here hx rfl (hb hby own_d722) rfl) ?_
    refine og (XS.iload X6.here hx rfl (hb hby own_d723) rfl) ?_
    show OG m T6 120 #[sR a2, sI p1, sI p2, .val (.long zv), .second, sI zq, sI (Int32.ofNat (own_nd (p2.toInt.natAbs)))] [(.int (Int32.ofNat (own_nd (p2.toInt.natAbs)))), (.int zq), (.ref a2)]
    refine og (XS.lloadN X6.here hx rfl (hb hby own_d724) rfl) ?_
    refine og (XS.iconst X6.here hx rfl (hb hby own_d725)) ?_
    show OG m T6 122 #[sR a2, sI p1, sI p2, .val (.long zv), .second, sI zq, sI (Int32.ofNat (own_nd (p2.toInt.natAbs)))] [(.int (5 : Int32)), (.long zv), (.int (Int32.ofNat (own_nd (p2.toInt.natAbs)))), (.int zq), (.ref a2)]
    refine own_go (fun t k => (X6.ldc2Long hx hown (mvT hZ (tw hw 200 rfl)) (g := (mkF m 122 #[sR a2, sI p1, sI p2, .val (.long zv), .second, sI zq, sI (Int32.ofNat (own_nd (p2.toInt.natAbs)))] [(.int (5 : Int32)), (.long zv), (.int (Int32.ofNat (own_nd (p2.toInt.natAbs)))), (.int zq), (.ref a2)])) rfl (hb hby own_d726)) t k) ?_
    show OG m T6 125 #[sR a2, sI p1, sI p2, .val (.long zv), .second, sI zq, sI (Int32.ofNat (own_nd (p2.toInt.natAbs)))] [(.long (100000 : Int64)), (.int (5 : Int32)), (.long zv), (.int (Int32.ofNat (own_nd (p2.toInt.natAbs)))), (.int zq), (.ref a2)]
    obtain ⟨_, _, ⟨T7, L7, k7, n7⟩, -, X7, ⟨Lc7, hQ7, l7, y7, z7⟩, st7⟩ := Jvm.LawKit.callS X6 hx (y := (⟨"standwatch/query/ArgumentsNumbersPinLaw", "dig", "(Ljava/lang/String;IIJIJ)Z"⟩ : MethodName)) hown (mvT hZ (tw hw 194 rfl)) (mvT hZ (tw hw 195 rfl)) (mvT hZ (tw hw 163 rfl)) (mvT hZ (tw hw 196 rfl)) (by decide) (backOf (W := 0) (own_di l Z a0 hw [] a2 zq (Int32.ofNat (own_nd (p2.toInt.natAbs))) zv (5 : Int32) (100000 : Int64) sv sk sl cs qn (own_nd p2.toInt.natAbs) p2.toInt.natAbs 5 i_COMPACT_STRINGS v_SIOOBE_FORMATTER h0 n0 Z_nm F_nm4 S_COMPACT_STRINGS nz_i_COMPACT_STRINGS S_SIOOBE_FORMATTER ir_v_SIOOBE_FORMATTER F_nm0 F_nm1 F_nm2 F_nm3 hsl hcl hq hdn hv hin2 hcs rfl rfl) hZ (tw hw 196 rfl) (tw hw 163 rfl) (by decide) (by decide)) (g := (mkF m 125 #[sR a2, sI p1, sI p2, .val (.long zv), .second, sI zq, sI (Int32.ofNat (own_nd (p2.toInt.natAbs)))] [(.long (100000 : Int64)), (.int (5 : Int32)), (.long zv), (.int (Int32.ofNat (own_nd (p2.toInt.natAbs)))), (.int zq), (.ref a2)])) rfl (by rw [hml]; rfl) (argsL := [(.ref a2), (.int zq), (.int (Int32.ofNat (own_nd (p2.toInt.natAbs)))), (.long zv), (.int (5 : Int32)), (.long (100000 : Int64))]) (rest := []) (lenOf own_pd687 rfl) rfl (by show 2 * 0 + _ ≤ _; exact Nat.le_of_eq rfl) (hb hby own_d727) (fun _ _ => ⟨rfl, e6, (by decide : 0 + 0 ≤ _), (by decide : 0 + 0 ≤ _)⟩)
    dsimp only [Pt.U, Pt.locs, Pt.cells, Pt.slots] at X7 l7 y7 z7 st7 hQ7
    subst l7 y7 z7
    obtain ⟨rfl, Nq7, eq7⟩ := hQ7
    have N7 := Fr.app N6 Nq7
    have e7 : T7.heap = h0 := eq7
    refine own_go (fun t k => st7 t k) ?_
    show OG m T7 128 #[sR a2, sI p1, sI p2, .val (.long zv), .second, sI zq, sI (Int32.ofNat (own_nd (p2.toInt.natAbs)))] [(.int (1 : Int32))]
    refine og (XS.ifNo X7.here hx rfl (hb hby own_d728) rfl ((if0 _ _).trans (feq (by decide : ¬ ((1 : Int32) = (0 : Int32)))).1)) ?_
    refine og (XS.aloadN X7.here hx rfl (hb hby own_d729) rfl rfl) ?_
    show OG m T7 132 #[sR a2, sI p1, sI p2, .val (.long zv), .second, sI zq, sI (Int32.ofNat (own_nd (p2.toInt.natAbs)))] [(.ref a2)]
    refine og (XS.iload X7.here hx rfl (hb hby own_d730) rfl) ?_
    refine og (XS.iload X7.here hx rfl (hb hby own_d731) rfl) ?_
    show OG m T7 136 #[sR a2, sI p1, sI p2, .val (.long zv), .second, sI zq, sI (Int32.ofNat (own_nd (p2.toInt.natAbs)))] [(.int (Int32.ofNat (own_nd (p2.toInt.natAbs)))), (.int zq), (.ref a2)]
    refine og (XS.lloadN X7.here hx rfl (hb hby own_d732) rfl) ?_
    refine og (XS.bipush X7.here hx rfl (hb hby own_d733)) ?_
    show OG m T7 139 #[sR a2, sI p1, sI p2, .val (.long zv), .second, sI zq, sI (Int32.ofNat (own_nd (p2.toInt.natAbs)))] [(.int (6 : Int32)), (.long zv), (.int (Int32.ofNat (own_nd (p2.toInt.natAbs)))), (.int zq), (.ref a2)]
    refine own_go (fun t k => (X7.ldc2Long hx hown (mvT hZ (tw hw 201 rfl)) (g := (mkF m 139 #[sR a2, sI p1, sI p2, .val (.long zv), .second, sI zq, sI (Int32.ofNat (own_nd (p2.toInt.natAbs)))] [(.int (6 : Int32)), (.long zv), (.int (Int32.ofNat (own_nd (p2.toInt.natAbs)))), (.int zq), (.ref a2)])) rfl (hb hby own_d734)) t k) ?_
    show OG m T7 142 #[sR a2, sI p1, sI p2, .val (.long zv), .second, sI zq, sI (Int32.ofNat (own_nd (p2.toInt.natAbs)))] [(.long (1000000 : Int64)), (.int (6 : Int32)), (.long zv), (.int (Int32.ofNat (own_nd (p2.toInt.natAbs)))), (.int zq), (.ref a2)]
    obtain ⟨_, _, ⟨T8, L8, k8, n8⟩, -, X8, ⟨Lc8, hQ8, l8, y8, z8⟩, st8⟩ := Jvm.LawKit.callS X7 hx (y := (⟨"standwatch/query/ArgumentsNumbersPinLaw", "dig", "(Ljava/lang/String;IIJIJ)Z"⟩ : MethodName)) hown (mvT hZ (tw hw 194 rfl)) (mvT hZ (tw hw 195 rfl)) (mvT hZ (tw hw 163 rfl)) (mvT hZ (tw hw 196 rfl)) (by decide) (backOf (W := 0) (own_di l Z a0 hw [] a2 zq (Int32.ofNat (own_nd (p2.toInt.natAbs))) zv (6 : Int32) (1000000 : Int64) sv sk sl cs qn (own_nd p2.toInt.natAbs) p2.toInt.natAbs 6 i_COMPACT_STRINGS v_SIOOBE_FORMATTER h0 n0 Z_nm F_nm4 S_COMPACT_STRINGS nz_i_COMPACT_STRINGS S_SIOOBE_FORMATTER ir_v_SIOOBE_FORMATTER F_nm0 F_nm1 F_nm2 F_nm3 hsl hcl hq hdn hv hin2 hcs rfl rfl) hZ (tw hw 196 rfl) (tw hw 163 rfl) (by decide) (by decide)) (g := (mkF m 142 #[sR a2, sI p1, sI p2, .val (.long zv), .second, sI zq, sI (Int32.ofNat (own_nd (p2.toInt.natAbs)))] [(.long (1000000 : Int64)), (.int (6 : Int32)), (.long zv), (.int (Int32.ofNat (own_nd (p2.toInt.natAbs)))), (.int zq), (.ref a2)])) rfl (by rw [hml]; rfl) (argsL := [(.ref a2), (.int zq), (.int (Int32.ofNat (own_nd (p2.toInt.natAbs)))), (.long zv), (.int (6 : Int32)), (.long (1000000 : Int64))]) (rest := []) (lenOf own_pd687 rfl) rfl (by show 2 * 0 + _ ≤ _; exact Nat.le_of_eq rfl) (hb hby own_d735) (fun _ _ => ⟨rfl, e7, (by decide : 0 + 0 ≤ _), (by decide : 0 + 0 ≤ _)⟩)
    dsimp only [Pt.U, Pt.locs, Pt.cells, Pt.slots] at X8 l8 y8 z8 st8 hQ8
    subst l8 y8 z8
    obtain ⟨rfl, Nq8, eq8⟩ := hQ8
    have N8 := Fr.app N7 Nq8
    have e8 : T8.heap = h0 := eq8
    refine own_go (fun t k => st8 t k) ?_
    show OG m T8 145 #[sR a2, sI p1, sI p2, .val (.long zv), .second, sI zq, sI (Int32.ofNat (own_nd (p2.toInt.natAbs)))] [(.int (1 : Int32))]
    refine og (XS.ifNo X8.here hx rfl (hb hby own_d736) rfl ((if0 _ _).trans (feq (by decide : ¬ ((1 : Int32) = (0 : Int32)))).1)) ?_
    refine og (XS.aloadN X8.here hx rfl (hb hby own_d737) rfl rfl) ?_
    show OG m T8 149 #[sR a2, sI p1, sI p2, .val (.long zv), .second, sI zq, sI (Int32.ofNat (own_nd (p2.toInt.natAbs)))] [(.ref a2)]
    refine og (XS.iload X8.here hx rfl (hb hby own_d738) rfl) ?_
    refine og (XS.iload X8.here hx rfl (hb hby own_d739) rfl) ?_
    show OG m T8 153 #[sR a2, sI p1, sI p2, .val (.long zv), .second, sI zq, sI (Int32.ofNat (own_nd (p2.toInt.natAbs)))] [(.int (Int32.ofNat (own_nd (p2.toInt.natAbs)))), (.int zq), (.ref a2)]
    refine og (XS.lloadN X8.here hx rfl (hb hby own_d740) rfl) ?_
    refine og (XS.bipush X8.here hx rfl (hb hby own_d741)) ?_
    show OG m T8 156 #[sR a2, sI p1, sI p2, .val (.long zv), .second, sI zq, sI (Int32.ofNat (own_nd (p2.toInt.natAbs)))] [(.int (7 : Int32)), (.long zv), (.int (Int32.ofNat (own_nd (p2.toInt.natAbs)))), (.int zq), (.ref a2)]
    refine own_go (fun t k => (X8.ldc2Long hx hown (mvT hZ (tw hw 202 rfl)) (g := (mkF m 156 #[sR a2, sI p1, sI p2, .val (.long zv), .second, sI zq, sI (Int32.ofNat (own_nd (p2.toInt.natAbs)))] [(.int (7 : Int32)), (.long zv), (.int (Int32.ofNat (own_nd (p2.toInt.natAbs)))), (.int zq), (.ref a2)])) rfl (hb hby own_d742)) t k) ?_
    show OG m T8 159 #[sR a2, sI p1, sI p2, .val (.long zv), .second, sI zq, sI (Int32.ofNat (own_nd (p2.toInt.natAbs)))] [(.long (10000000 : Int64)), (.int (7 : Int32)), (.long zv), (.int (Int32.ofNat (own_nd (p2.toInt.natAbs)))), (.int zq), (.ref a2)]
    obtain ⟨_, _, ⟨T9, L9, k9, n9⟩, -, X9, ⟨Lc9, hQ9, l9, y9, z9⟩, st9⟩ := Jvm.LawKit.callS X8 hx (y := (⟨"standwatch/query/ArgumentsNumbersPinLaw", "dig", "(Ljava/lang/String;IIJIJ)Z"⟩ : MethodName)) hown (mvT hZ (tw hw 194 rfl)) (mvT hZ (tw hw 195 rfl)) (mvT hZ (tw hw 163 rfl)) (mvT hZ (tw hw 196 rfl)) (by decide) (backOf (W := 0) (own_di l Z a0 hw [] a2 zq (Int32.ofNat (own_nd (p2.toInt.natAbs))) zv (7 : Int32) (10000000 : Int64) sv sk sl cs qn (own_nd p2.toInt.natAbs) p2.toInt.natAbs 7 i_COMPACT_STRINGS v_SIOOBE_FORMATTER h0 n0 Z_nm F_nm4 S_COMPACT_STRINGS nz_i_COMPACT_STRINGS S_SIOOBE_FORMATTER ir_v_SIOOBE_FORMATTER F_nm0 F_nm1 F_nm2 F_nm3 hsl hcl hq hdn hv hin2 hcs rfl rfl) hZ (tw hw 196 rfl) (tw hw 163 rfl) (by decide) (by decide)) (g := (mkF m 159 #[sR a2, sI p1, sI p2, .val (.long zv), .second, sI zq, sI (Int32.ofNat (own_nd (p2.toInt.natAbs)))] [(.long (10000000 : Int64)), (.int (7 : Int32)), (.long zv), (.int (Int32.ofNat (own_nd (p2.toInt.natAbs)))), (.int zq), (.ref a2)])) rfl (by rw [hml]; rfl) (argsL := [(.ref a2), (.int zq), (.int (Int32.ofNat (own_nd (p2.toInt.natAbs)))), (.long zv), (.int (7 : Int32)), (.long (10000000 : Int64))]) (rest := []) (lenOf own_pd687 rfl) rfl (by show 2 * 0 + _ ≤ _; exact Nat.le_of_eq rfl) (hb hby own_d743) (fun _ _ => ⟨rfl, e8, (by decide : 0 + 0 ≤ _), (by decide : 0 + 0 ≤ _)⟩)
    dsimp only [Pt.U, Pt.locs, Pt.cells, Pt.slots] at X9 l9 y9 z9 st9 hQ9
    subst l9 y9 z9
    obtain ⟨rfl, Nq9, eq9⟩ := hQ9
    have N9 := Fr.app N8 Nq9
    have e9 : T9.heap = h0 := eq9
    refine own_go (fun t k => st9 t k) ?_
    show OG m T9 162 #[sR a2, sI p1, sI p2, .val (.long zv), .second, sI zq, sI (Int32.ofNat (own_nd (p2.toInt.natAbs)))] [(.int (1 : Int32))]
    refine og (XS.ifNo X9.here hx rfl (hb hby own_d744) rfl ((if0 _ _).trans (feq (by decide : ¬ ((1 : Int32) = (0 : Int32)))).1)) ?_
    refine og (XS.aloadN X9.here hx rfl (hb hby own_d745) rfl rfl) ?_
    show OG m T9 166 #[sR a2, sI p1, sI p2, .val (.long zv), .second, sI zq, sI (Int32.ofNat (own_nd (p2.toInt.natAbs)))] [(.ref a2)]
    refine og (XS.iload X9.here hx rfl (hb hby own_d746) rfl) ?_
    refine og (XS.iload X9.here hx rfl (hb hby own_d747) rfl) ?_
    show OG m T9 170 #[sR a2, sI p1, sI p2, .val (.long zv), .second, sI zq, sI (Int32.ofNat (own_nd (p2.toInt.natAbs)))] [(.int (Int32.ofNat (own_nd (p2.toInt.natAbs)))), (.int zq), (.ref a2)]
    refine og (XS.lloadN X9.here hx rfl (hb hby own_d748) rfl) ?_
    refine og (XS.bipush X9.here hx rfl (hb hby own_d749)) ?_
    show OG m T9 173 #[sR a2, sI p1, sI p2, .val (.long zv), .second, sI zq, sI (Int32.ofNat (own_nd (p2.toInt.natAbs)))] [(.int (8 : Int32)), (.long zv), (.int (Int32.ofNat (own_nd (p2.toInt.natAbs)))), (.int zq), (.ref a2)]
    refine own_go (fun t k => (X9.ldc2Long hx hown (mvT hZ (tw hw 203 rfl)) (g := (mkF m 173 #[sR a2, sI p1, sI p2, .val (.long zv), .second, sI zq, sI (Int32.ofNat (own_nd (p2.toInt.natAbs)))] [(.int (8 : Int32)), (.long zv), (.int (Int32.ofNat (own_nd (p2.toInt.natAbs)))), (.int zq), (.ref a2)])) rfl (hb hby own_d750)) t k) ?_
    show OG m T9 176 #[sR a2, sI p1, sI p2, .val (.long zv), .second, sI zq, sI (Int32.ofNat (own_nd (p2.toInt.natAbs)))] [(.long (100000000 : Int64)), (.int (8 : Int32)), (.long zv), (.int (Int32.ofNat (own_nd (p2.toInt.natAbs)))), (.int zq), (.ref a2)]
    obtain ⟨_, _, ⟨T10, L10, k10, n10⟩, -, X10, ⟨Lc10, hQ10, l10, y10, z10⟩, st10⟩ := Jvm.LawKit.callS X9 hx (y := (⟨"standwatch/query/ArgumentsNumbersPinLaw", "dig", "(Ljava/lang/String;IIJIJ)Z"⟩ : MethodName)) hown (mvT hZ (tw hw 194 rfl)) (mvT hZ (tw hw 195 rfl)) (mvT hZ (tw hw 163 rfl)) (mvT hZ (tw hw 196 rfl)) (by decide) (backOf (W := 0) (own_di l Z a0 hw [] a2 zq (Int32.ofNat (own_nd (p2.toInt.natAbs))) zv (8 : Int32) (100000000 : Int64) sv sk sl cs qn (own_nd p2.toInt.natAbs) p2.toInt.natAbs 8 i_COMPACT_STRINGS v_SIOOBE_FORMATTER h0 n0 Z_nm F_nm4 S_COMPACT_STRINGS nz_i_COMPACT_STRINGS S_SIOOBE_FORMATTER ir_v_SIOOBE_FORMATTER F_nm0 F_nm1 F_nm2 F_nm3 hsl hcl hq hdn hv hin2 hcs rfl rfl) hZ (tw hw 196 rfl) (tw hw 163 rfl) (by decide) (by decide)) (g := (mkF m 176 #[sR a2, sI p1, sI p2, .val (.long zv), .second, sI zq, sI (Int32.ofNat (own_nd (p2.toInt.natAbs)))] [(.long (100000000 : Int64)), (.int (8 : Int32)), (.long zv), (.int (Int32.ofNat (own_nd (p2.toInt.natAbs)))), (.int zq), (.ref a2)])) rfl (by rw [hml]; rfl) (argsL := [(.ref a2), (.int zq), (.int (Int32.ofNat (own_nd (p2.toInt.natAbs)))), (.long zv), (.int (8 : Int32)), (.long (100000000 : Int64))]) (rest := []) (lenOf own_pd687 rfl) rfl (by show 2 * 0 + _ ≤ _; exact Nat.le_of_eq rfl) (hb hby own_d751) (fun _ _ => ⟨rfl, e9, (by decide : 0 + 0 ≤ _), (by decide : 0 + 0 ≤ _)⟩)
    dsimp only [Pt.U, Pt.locs, Pt.cells, Pt.slots] at X10 l10 y10 z10 st10 hQ10
    subst l10 y10 z10
    obtain ⟨rfl, Nq10, eq10⟩ := hQ10
    have N10 := Fr.app N9 Nq10
    have e10 : T10.heap = h0 := eq10
    refine own_go (fun t k => st10 t k) ?_
    show OG m T10 179 #[sR a2, sI p1, sI p2, .val (.long zv), .second, sI zq, sI (Int32.ofNat (own_nd (p2.toInt.natAbs)))] [(.int (1 : Int32))]
    refine og (XS.ifNo X10.here hx rfl (hb hby own_d752) rfl ((if0 _ _).trans (feq (by decide : ¬ ((1 : Int32) = (0 : Int32)))).1)) ?_
    refine og (XS.aloadN X10.here hx rfl (hb hby own_d753) rfl rfl) ?_
    show OG m T10 183 #[sR a2, sI p1, sI p2, .val (.long zv), .second, sI zq, sI (Int32.ofNat (own_nd (p2.toInt.natAbs)))] [(.ref a2)]
    refine og (XS.iload X10.here hx rfl (hb hby own_d754) rfl) ?_
    refine og (XS.iload X10.here hx rfl (hb hby own_d755) rfl) ?_
    show OG m T10 187 #[sR a2, sI p1, sI p2, .val (.long zv), .second, sI zq, sI (Int32.ofNat (own_nd (p2.toInt.natAbs)))] [(.int (Int32.ofNat (own_nd (p2.toInt.natAbs)))), (.int zq), (.ref a2)]
    refine og (XS.lloadN X10.here hx rfl (hb hby own_d756) rfl) ?_
    refine og (XS.bipush X10.here hx rfl (hb hby own_d757)) ?_
    show OG m T10 190 #[sR a2, sI p1, sI p2, .val (.long zv), .second, sI zq, sI (Int32.ofNat (own_nd (p2.toInt.natAbs)))] [(.int (9 : Int32)), (.long zv), (.int (Int32.ofNat (own_nd (p2.toInt.natAbs)))), (.int zq), (.ref a2)]
    refine own_go (fun t k => (X10.ldc2Long hx hown (mvT hZ (tw hw 204 rfl)) (g := (mkF m 190 #[sR a2, sI p1, sI p2, .val (.long zv), .second, sI zq, sI (Int32.ofNat (own_nd (p2.toInt.natAbs)))] [(.int (9 : Int32)), (.long zv), (.int (Int32.ofNat (own_nd (p2.toInt.natAbs)))), (.int zq), (.ref a2)])) rfl (hb hby own_d758)) t k) ?_
    show OG m T10 193 #[sR a2, sI p1, sI p2, .val (.long zv), .second, sI zq, sI (Int32.ofNat (own_nd (p2.toInt.natAbs)))] [(.long (1000000000 : Int64)), (.int (9 : Int32)), (.long zv), (.int (Int32.ofNat (own_nd (p2.toInt.natAbs)))), (.int zq), (.ref a2)]
    obtain ⟨_, _, ⟨T11, L11, k11, n11⟩, -, X11, ⟨Lc11, hQ11, l11, y11, z11⟩, st11⟩ := Jvm.LawKit.callS X10 hx (y := (⟨"standwatch/query/ArgumentsNumbersPinLaw", "dig", "(Ljava/lang/String;IIJIJ)Z"⟩ : MethodName)) hown (mvT hZ (tw hw 194 rfl)) (mvT hZ (tw hw 195 rfl)) (mvT hZ (tw hw 163 rfl)) (mvT hZ (tw hw 196 rfl)) (by decide) (backOf (W := 0) (own_di l Z a0 hw [] a2 zq (Int32.ofNat (own_nd (p2.toInt.natAbs))) zv (9 : Int32) (1000000000 : Int64) sv sk sl cs qn (own_nd p2.toInt.natAbs) p2.toInt.natAbs 9 i_COMPACT_STRINGS v_SIOOBE_FORMATTER h0 n0 Z_nm F_nm4 S_COMPACT_STRINGS nz_i_COMPACT_STRINGS S_SIOOBE_FORMATTER ir_v_SIOOBE_FORMATTER F_nm0 F_nm1 F_nm2 F_nm3 hsl hcl hq hdn hv hin2 hcs rfl rfl) hZ (tw hw 196 rfl) (tw hw 163 rfl) (by decide) (by decide)) (g := (mkF m 193 #[sR a2, sI p1, sI p2, .val (.long zv), .second, sI zq, sI (Int32.ofNat (own_nd (p2.toInt.natAbs)))] [(.long (1000000000 : Int64)), (.int (9 : Int32)), (.long zv), (.int (Int32.ofNat (own_nd (p2.toInt.natAbs)))), (.int zq), (.ref a2)])) rfl (by rw [hml]; rfl) (argsL := [(.ref a2), (.int zq), (.int (Int32.ofNat (own_nd (p2.toInt.natAbs)))), (.long zv), (.int (9 : Int32)), (.long (1000000000 : Int64))]) (rest := []) (lenOf own_pd687 rfl) rfl (by show 2 * 0 + _ ≤ _; exact Nat.le_of_eq rfl) (hb hby own_d759) (fun _ _ => ⟨rfl, e10, (by decide : 0 + 0 ≤ _), (by decide : 0 + 0 ≤ _)⟩)
    dsimp only [Pt.U, Pt.locs, Pt.cells, Pt.slots] at X11 l11 y11 z11 st11 hQ11
    subst l11 y11 z11
    obtain ⟨rfl, Nq11, eq11⟩ := hQ11
    have N11 := Fr.app N10 Nq11
    have e11 : T11.heap = h0 := eq11
    refine own_go (fun t k => st11 t k) ?_
    show OG m T11 196 #[sR a2, sI p1, sI p2, .val (.long zv), .second, sI zq, sI (Int32.ofNat (own_nd (p2.toInt.natAbs)))] [(.int (1 : Int32))]
    refine og (XS.ifNo X11.here hx rfl (hb hby own_d760) rfl ((if0 _ _).trans (feq (by decide : ¬ ((1 : Int32) = (0 : Int32)))).1)) ?_
    refine og (XS.iconst X11.here hx rfl (hb hby own_d761)) ?_
    show OG m T11 200 #[sR a2, sI p1, sI p2, .val (.long zv), .second, sI zq, sI (Int32.ofNat (own_nd (p2.toInt.natAbs)))] [(.int (1 : Int32))]
    refine og (XS.goto X11.here hx rfl (pc0 := 200) (pc' := 204) rfl (hb hby own_d762) (by decide) (by decide)) ?_
    show OG m T11 204 #[sR a2, sI p1, sI p2, .val (.long zv), .second, sI zq, sI (Int32.ofNat (own_nd (p2.toInt.natAbs)))] [(.int (1 : Int32))]
    rw [hR]
    obtain ⟨fs, hr, hrun, hended, hW, hsame⟩ := X11.leave (v := some (.int (1 : Int32))) (fun h => by rw [Bd.returns] at h; cases h)
    refine ⟨_, _, retN X11 hx (t := .boolean) Bd.returns (by simp) (hb hby own_d763) hr, hrun, hended, _, _, rfl, ?_, ⟨_, rfl⟩, hW, hsame.mono (by decide) (by decide)⟩
    show Q_own_nu Z a2 p1 p2 sv sk sl cs pn i_COMPACT_STRINGS v_SIOOBE_FORMATTER h0 n0 _ T11.heap _
    rw [e11]
    exact ⟨rfl, N11, rfl⟩
  refine og (XS.iloadN X0.here hx rfl (hb hby own_d764) rfl) ?_
  show OG m s₁ 1 #[sR a2, sI p1, sI p2, sU, sU, sU, sU] [(.int p2)]
  refine og (XS.i2l X0.here hx rfl (hb hby own_d765) rfl) ?_
  show OG m s₁ 2 #[sR a2, sI p1, sI p2, sU, sU, sU, sU] [(.long (p2.toInt64))]
  refine og (XS.lstoreN X0.here hx rfl (hb hby own_d766) rfl (l' := #[sR a2, sI p1, sI p2, .val (.long (p2.toInt64)), .second, sU, sU]) rfl) ?_
  refine og (XS.iloadN X0.here hx rfl (hb hby own_d767) rfl) ?_
  show OG m s₁ 4 #[sR a2, sI p1, sI p2, .val (.long (p2.toInt64)), .second, sU, sU] [(.int p1)]
  refine og (XS.istore X0.here hx rfl (hb hby own_d768) rfl (l' := #[sR a2, sI p1, sI p2, .val (.long (p2.toInt64)), .second, sI p1, sU]) rfl) ?_
  refine og (XS.lloadN X0.here hx rfl (hb hby own_d769) rfl) ?_
  show OG m s₁ 7 #[sR a2, sI p1, sI p2, .val (.long (p2.toInt64)), .second, sI p1, sU] [(.long (p2.toInt64))]
  refine og (XS.lconst X0.here hx rfl (hb hby own_d770)) ?_
  show OG m s₁ 8 #[sR a2, sI p1, sI p2, .val (.long (p2.toInt64)), .second, sI p1, sU] [(.long (0 : Int64)), (.long (p2.toInt64))]
  refine og (XS.lcmp X0.here hx rfl (hb hby own_d771) rfl) ?_
  show OG m s₁ 9 #[sR a2, sI p1, sI p2, .val (.long (p2.toInt64)), .second, sI p1, sU] [(.int (lcmpW (p2.toInt64) (0 : Int64)))]
  by_cases hc12 : (p2.toInt64) < (0 : Int64)
  · refine og (XS.ifNo X0.here hx rfl (hb hby own_d772) rfl ((if0 _ _).trans (tlt ((lw_lt _ _).mpr hc12)).2.1)) ?_
    show OG m s₁ 12 #[sR a2, sI p1, sI p2, .val (.long (p2.toInt64)), .second, sI p1, sU] []
    have hng := (own_abs_neg hc12).1
    have hrd := own_rd_neg hng hsub
    have hsg : own_sg p2 = 1 := if_pos hng
    refine og (XS.aloadN X0.here hx rfl (hb hby own_d773) rfl rfl) ?_
    refine og (XS.iload X0.here hx rfl (hb hby own_d774) rfl) ?_
    show OG m s₁ 15 #[sR a2, sI p1, sI p2, .val (.long (p2.toInt64)), .second, sI p1, sU] [(.int p1), (.ref a2)]
    obtain ⟨cq13, kq13, q13a, q13b, q13c⟩ := isOf hZ e0 f0_0
    obtain ⟨_, _, ⟨T13, L13, k13, n13⟩, -, X13, ⟨Lc13, hQ13, l13, y13, z13⟩, st13⟩ := X0.virtualBack hx (y := (⟨"java/lang/String", "charAt", "(I)C"⟩ : MethodName)) (z := (⟨"java/lang/String", "charAt", "(I)C"⟩ : MethodName)) hown (mvT hZ (tw hw 170 rfl)) (mvT hZ (tw hw 171 rfl)) (notFace_of_selects (args := #[]) (mvT hZ (tw hw 173 rfl))) (mvT hZ (tw hw 173 rfl)) (mvT hZ (tw hw 172 rfl)) (by decide) (backOf (W := 0) (own_ca l Z a0 hw [] a2 p1 sv sk sl cs (45 : Int32) i_COMPACT_STRINGS v_SIOOBE_FORMATTER h0 n0 Z0 O0 S_COMPACT_STRINGS nz_i_COMPACT_STRINGS S_SIOOBE_FORMATTER ir_v_SIOOBE_FORMATTER f0_0 f0_1 f0_2 f0_3 (own_in hsl hp (by omega)) (by rw [(own_idx hp).2]; exact hrd.1) own_ok45) hZ (tw hw 174 rfl) (tw hw 21 rfl) (by decide) (by decide)) q13a q13c (g := (mkF m 15 #[sR a2, sI p1, sI p2, .val (.long (p2.toInt64)), .second, sI p1, sU] [(.int p1), (.ref a2)])) rfl (by rw [hml]; rfl) (Steps.refl _) (argsL := [(.int p1)]) (rest := []) (lenOf own_pd660 rfl) rfl (by show 2 * 0 + _ ≤ _; exact Nat.le_of_eq rfl) (hb hby own_d775) (fun _ _ => ⟨rfl, e0, (by decide : 0 + 0 ≤ _), (by decide : 0 + 0 ≤ _)⟩)
    dsimp only [Pt.U, Pt.locs, Pt.cells, Pt.slots] at X13 l13 y13 z13 st13 hQ13
    subst l13 y13 z13
    obtain ⟨rfl, Nq13, eq13⟩ := hQ13
    have N13 := Fr.app N0 Nq13
    have e13 : T13.heap = h0 := eq13
    refine og (st13.trans) ?_
    show OG m T13 18 #[sR a2, sI p1, sI p2, .val (.long (p2.toInt64)), .second, sI p1, sU] [(.int (45 : Int32))]
    refine og (XS.bipush X13.here hx rfl (hb hby own_d776)) ?_
    show OG m T13 20 #[sR a2, sI p1, sI p2, .val (.long (p2.toInt64)), .second, sI p1, sU] [(.int (45 : Int32)), (.int (45 : Int32))]
    refine og (XS.icmpYes X13.here hx rfl (pc0 := 20) (pc' := 25) rfl (hb hby own_d777) rfl (teq (by decide : (45 : Int32) = (45 : Int32))).1 (by decide) (by decide)) ?_
    show OG m T13 25 #[sR a2, sI p1, sI p2, .val (.long (p2.toInt64)), .second, sI p1, sU] []
    refine og (XS.iinc X13.here hx rfl (hb hby own_d778) rfl (l' := #[sR a2, sI p1, sI p2, .val (.long (p2.toInt64)), .second, sI (p1 + (1 : Int32)), sU]) rfl) ?_
    refine og (XS.lloadN X13.here hx rfl (hb hby own_d779) rfl) ?_
    show OG m T13 29 #[sR a2, sI p1, sI p2, .val (.long (p2.toInt64)), .second, sI (p1 + (1 : Int32)), sU] [(.long (p2.toInt64))]
    refine og (XS.lneg X13.here hx rfl (hb hby own_d780) rfl) ?_
    show OG m T13 30 #[sR a2, sI p1, sI p2, .val (.long (p2.toInt64)), .second, sI (p1 + (1 : Int32)), sU] [(.long (-(p2.toInt64)))]
    refine og (XS.lstoreN X13.here hx rfl (hb hby own_d781) rfl (l' := #[sR a2, sI p1, sI p2, .val (.long (-(p2.toInt64))), .second, sI (p1 + (1 : Int32)), sU]) rfl) ?_
    show OG m T13 31 #[sR a2, sI p1, sI p2, .val (.long (-(p2.toInt64))), .second, sI (p1 + (1 : Int32)), sU] []
    exact nm (-(p2.toInt64)) (p1 + (1 : Int32)) (pn + 1) T13  _ X13 e13 N13 K0 Z0 f0_0 f0_1 f0_2 f0_3 O0 ((own_abs_neg hc12).2) (by rw [own_cnt (j := 1) hp rfl (by omega) (by omega)]; omega) (by omega) hrd.2
  · refine og (XS.ifYes X0.here hx rfl (pc0 := 9) (pc' := 31) rfl (hb hby own_d772) rfl ((if0 _ _).trans (flt (mt (lw_lt _ _).mp hc12)).2.1) (by decide) (by decide)) ?_
    show OG m s₁ 31 #[sR a2, sI p1, sI p2, .val (.long (p2.toInt64)), .second, sI p1, sU] []
    have hng := (own_abs_pos hc12).1
    have hsg : own_sg p2 = 0 := if_neg hng
    exact nm (p2.toInt64) p1 pn s₁  _ X0 e0 N0 K0 Z0 f0_0 f0_1 f0_2 f0_3 O0 ((own_abs_pos hc12).2) hp (by omega) (own_rd_pos hng hsub)
theorem own_sa (Z : State) (a0 : Array Value) (hw : ∀ d ∈ tables_1, d.before a0 Z = true) : ∀ a ∈ Bundle.stringAtoms, a.before a0 Z = true := by
  intro d hd
  simp only [Bundle.stringAtoms, List.mem_cons, List.not_mem_nil, or_false] at hd
  rcases hd with rfl | rfl | rfl | rfl | rfl | rfl | rfl
  · exact (tw hw 21 rfl)
  · exact (tw hw 54 rfl)
  · exact (tw hw 22 rfl)
  · exact (tw hw 55 rfl)
  · exact (tw hw 56 rfl)
  · exact (tw hw 57 rfl)
  · exact (tw hw 58 rfl)
abbrev own_EL : List (String × Nat) := [("standwatch/query/Arguments", 96), ("standwatch/query/Arguments", 98)]
theorem own_EW (Z : State) (a0 : Array Value) (hw : ∀ d ∈ tables_1, d.before a0 Z = true) : EW Z a0 own_EL := EW.cons (text := "") (tw hw 53 rfl) (by decide) (EW.cons (text := ",") (tw hw 206 rfl) (by decide) EW.nil)
theorem own_safe_or {Z : State} {EL : List (String × Nat)} {vm : Vm} {h : Heap} {x d : Addr} (q : x = d ∨ h.size ≤ x) (S : Safe Z EL vm h d) : Safe Z EL vm h x := by
  rcases q with rfl | q
  · exact S
  · exact Safe.new q
theorem own_ssz_len (x : Int32) : (own_ssz x).toInt = ((own_txt x).length : Int) := by rw [own_ssz_val, own_txt_len]
theorem own_txt_rng (x : Int32) : 1 ≤ (own_txt x).length ∧ (own_txt x).length ≤ 11 := by
  have := own_txt_len x; have := own_nd_rng x.toInt.natAbs; have := own_sg_le x; omega
theorem own_ef782 (m : MethodId) (a1 : Addr) : entryFrame m #[(.ref a1)] 3 = mkF m 0 #[sR a1, sU, sU] [] := by first | (simp [entryFrame, mkF, argsToLocals, Value.category]; done) | rfl
theorem own_pn783 : plainName "standwatch/query/Arguments" = true := by first | (simp [plainName, overriddenIn]; done) | decide +kernel
theorem own_d784 : decode prog_18_method_8_code 0 = .ok (.new 58, 3) := by decide +kernel
theorem own_d785 : decode prog_18_method_8_code 3 = .ok (.dup, 1) := by decide +kernel
theorem own_d786 : decode prog_18_method_8_code 4 = .ok (.aload_n 0, 1) := by decide +kernel
theorem own_d787 : decode prog_18_method_8_code 5 = .ok (.arraylength, 1) := by decide +kernel
theorem own_d788 : decode prog_18_method_8_code 6 = .ok (.bipush 7, 2) := by decide +kernel
theorem own_d789 : decode prog_18_method_8_code 8 = .ok (.imul, 1) := by decide +kernel
theorem own_d790 : decode prog_18_method_8_code 9 = .ok (.iconst 2, 1) := by decide +kernel
theorem own_d791 : decode prog_18_method_8_code 10 = .ok (.iadd, 1) := by decide +kernel
theorem own_d792 : decode prog_18_method_8_code 11 = .ok (.invokespecial 93, 3) := by decide +kernel
theorem own_d793 : decode prog_18_method_8_code 14 = .ok (.bipush 123, 2) := by decide +kernel
theorem own_d794 : decode prog_18_method_8_code 16 = .ok (.invokevirtual 82, 3) := by decide +kernel
theorem own_pd795 : parseMethodDescriptor "(C)Ljava/lang/StringBuilder;" = some ⟨[.char], some (.object "java/lang/StringBuilder")⟩ := by decide +kernel
theorem own_d796 : decode prog_18_method_8_code 19 = .ok (.astore_n 1, 1) := by decide +kernel
theorem own_d797 : decode prog_18_method_8_code 20 = .ok (.iconst 0, 1) := by decide +kernel
theorem own_d798 : decode prog_18_method_8_code 21 = .ok (.istore_n 2, 1) := by decide +kernel
theorem own_d799 : decode prog_18_method_8_code 22 = .ok (.iload_n 2, 1) := by decide +kernel
theorem own_d800 : decode prog_18_method_8_code 23 = .ok (.aload_n 0, 1) := by decide +kernel
theorem own_d801 : decode prog_18_method_8_code 24 = .ok (.arraylength, 1) := by decide +kernel
theorem own_d802 : decode prog_18_method_8_code 25 = .ok (.if_icmp .ge 31, 3) := by decide +kernel
theorem own_d803 : decode prog_18_method_8_code 56 = .ok (.aload_n 1, 1) := by decide +kernel
theorem own_d804 : decode prog_18_method_8_code 57 = .ok (.bipush 125, 2) := by decide +kernel
theorem own_d805 : decode prog_18_method_8_code 59 = .ok (.invokevirtual 82, 3) := by decide +kernel
theorem own_d806 : decode prog_18_method_8_code 62 = .ok (.invokevirtual 89, 3) := by decide +kernel
theorem own_pd807 : parseMethodDescriptor "()Ljava/lang/String;" = some ⟨[], some (.object "java/lang/String")⟩ := by decide +kernel
theorem own_d808 : decode prog_18_method_8_code 65 = .ok (.areturn, 1) := by decide +kernel
def Q_own_num0 (Z : State) (a1 : Addr) (ka : ClassId) (i_COMPACT_STRINGS : Int32) (o_DigitOnes : Addr) (o_DigitTens : Addr) (kc_own_ones : ClassId) (kc_own_tens : ClassId) (h0 : Heap) (n0 : Nat) (v : Option Value) (h : Heap) (L : List Loc) : Prop := ∃ xs : Addr, ∃ xd : Addr, ∃ xk : ClassId, ∃ xl : Int32, v = some (.ref xs) ∧ Fr n0 L ∧ Keep h0 h [] ∧ Exa Z h xs "java/lang/String" ∧ Fld Z h xs "java/lang/String" "value" "[B" (.ref xd) ∧ Fld Z h xs "java/lang/String" "coder" "B" (.int (0 : Int32)) ∧ Arv Z h xd xk .byte xl (own_B ([(123 : Int32)] ++ [(125 : Int32)])) (.int (0 : Int32)) ∧ (xl.toInt = (([(123 : Int32)] ++ [(125 : Int32)]).length : Int))
set_option maxRecDepth 65536 in
set_option maxHeartbeats 40000000 in
theorem own_num0 (l : Launch) (Z : State) (a0 : Array Value) (hw : ∀ d ∈ tables_1, d.before a0 Z = true) (ws : List Jvm.Cond) (a1 : Addr) (ka : ClassId) (i_COMPACT_STRINGS : Int32) (o_DigitOnes : Addr) (o_DigitTens : Addr) (kc_own_ones : ClassId) (kc_own_tens : ClassId) (h0 : Heap) (n0 : Nat) (Z0 : n0 ≤ h0.size) (O0 : Old Z n0 h0) (S_COMPACT_STRINGS : Sta Z Z.heap "java/lang/String" "COMPACT_STRINGS" "Z" (.int i_COMPACT_STRINGS)) (nz_i_COMPACT_STRINGS : i_COMPACT_STRINGS ≠ (0 : Int32)) (S_DigitOnes : Sta Z Z.heap "java/lang/Integer" "DigitOnes" "[B" (.ref o_DigitOnes)) (V_own_ones : Arv Z Z.heap o_DigitOnes kc_own_ones .byte (100 : Int32) (own_B own_ones) (.int (0 : Int32))) (S_DigitTens : Sta Z Z.heap "java/lang/Integer" "DigitTens" "[B" (.ref o_DigitTens)) (V_own_tens : Arv Z Z.heap o_DigitTens kc_own_tens .byte (100 : Int32) (own_B own_tens) (.int (0 : Int32))) (f0_0 : Arv Z h0 a1 ka .int (0 : Int32) [] (.int (0 : Int32))) :
    MetFree l (⟨"standwatch/query/Arguments", "numbers", "([I)Ljava/lang/String;"⟩ : MethodName) (head1 (Jvm.Cond.code (⟨"standwatch/query/Arguments", "numbers", "([I)Ljava/lang/String;"⟩ : MethodName) prog_18_method_8_code 3 (some (.object "java/lang/String")) :: ws) ({ frames := 6, cells := 6, slots := 253, locals := 91 } : Room)) (fun a U => a = #[(.ref a1)] ∧ Z.Warmed39 U.vm ∧ U.heap = h0 ∧ CHv Z own_EL U.vm h0) (fun _ _ _ _ _ => True) (fun _ U o U' => ∃ v L, o = .returned v ∧ Q_own_num0 Z a1 ka i_COMPACT_STRINGS o_DigitOnes o_DigitTens kc_own_ones kc_own_tens h0 n0 v U'.heap L ∧ CHr Z own_EL U.vm U.heap U'.vm U'.heap ∧ ReturnedEndW U o U' L ({ frames := 6, cells := 6, slots := 253, locals := 91 } : Room).cells ({ frames := 6, cells := 6, slots := 253, locals := 91 } : Room).slots) := by
  refine MetFree.of_bodySF (plainFor_of_name own_pn783) hisR ?_
  intro p e s m args below meth c s₁ Bd hml0 hP hK
  obtain ⟨rfl, hZ, hh, hH⟩ := hP
  have hx := Bd.exec
  have hby := Bd.bytes
  have hml : c.maxLocals = 3 := hml0
  have hown : s.vm.findClass "standwatch/query/Arguments" = some m.cls := findClass_of_methodNamed Bd.named
  have hnm := (name_of_methodNamed Bd.named Bd.method).1
  have X0 : Stand p l e ({ frames := 6, cells := 6, slots := 253, locals := 91 } : Room) s m #[(.ref a1)] below meth c s₁ [] 0 0 := Stand.of_body Bd
  have e0 : s₁.heap = h0 := by rw [← hh, Bd.state]; rfl
  have N0 := Fr.nil n0
  have K0 := Keep.refl h0 []
  refine own_go (fun t k => castTop (own_ef782 m a1) k) ?_
  show OG m s₁ 0 #[sR a1, sU, sU] []
  have hS0 : s.Since s.vm 0 := (State.WarmedH.refl s).since 0
  have C0 : CHr Z own_EL s.vm h0 s.vm h0 := CHr.refl hH
  obtain ⟨T1, h1, X1, e1, E1, A1, D1, -, st1⟩ := newO X0 hx hZ hown (tw hw 5 rfl) (tw hw 6 rfl) (tw hw 7 rfl) e0 (g := (mkF m 0 #[sR a1, sU, sU] [])) rfl (hb hby own_d784) (by decide) (by decide)
  obtain ⟨b1, g1⟩ : ∃ z, z = h0.size := ⟨_, rfl⟩
  rw [← g1] at A1 D1 st1
  have ne2 : a1 ≠ b1 := Nat.ne_of_lt (Nat.lt_of_lt_of_le f0_0.lt (Nat.le_of_eq g1.symm))
  have g_b1 : n0 ≤ b1 := Nat.le_trans Z0 (Nat.le_of_eq g1.symm)
  have sz_b1 : h0.size ≤ b1 := Nat.le_trans K0.1 (Nat.le_of_eq g1.symm)
  have sf3 : Safe Z own_EL s.vm h0 b1 := Safe.new (Nat.le_of_eq g1.symm)
  have F4 : Arv Z h1 a1 ka .int (0 : Int32) [] (.int (0 : Int32)) := f0_0.ext E1
  have F5 : Old Z n0 h1 := O0.ext E1
  have K6 : Keep h0 h1 [] := K0.ext E1
  have Z6 : n0 ≤ h1.size := Nat.le_trans Z0 E1.1
  have C7 : CHr Z own_EL s.vm h0 s.vm h1 := C0.trans (CHr.ext E1 C0.1)
  have sf8 : Safe Z own_EL s.vm h1 b1 := Safe.ext E1 C0.1 sf3
  have F9 : Fld Z h1 b1 "java/lang/AbstractStringBuilder" "value" "[B" .null := D1 (Or.inl (tw hw 24 rfl)) (ty := (.array .byte)) (by decide)
  have F10 : Fld Z h1 b1 "java/lang/AbstractStringBuilder" "coder" "B" (.int (0 : Int32)) := D1 (Or.inl (tw hw 26 rfl)) (ty := .byte) (by decide)
  have F11 : Fld Z h1 b1 "java/lang/AbstractStringBuilder" "count" "I" (.int (0 : Int32)) := D1 (Or.inl (tw hw 38 rfl)) (ty := .int) (by decide)
  refine own_go (fun t k => st1 t k) ?_
  show OG m T1 3 #[sR a1, sU, sU] [(.ref b1)]
  refine og (XS.dup X1.here hx rfl (hb hby own_d785) rfl rfl) ?_
  refine og (XS.aloadN X1.here hx rfl (hb hby own_d786) rfl rfl) ?_
  show OG m T1 5 #[sR a1, sU, sU] [(.ref a1), (.ref b1), (.ref b1)]
  have vv12 := F4
  obtain ⟨cl12, Ar12, qk12, Sz12, Nn12, Hs12, Gs12⟩ := vv12
  have st12 : ∀ t, Steps p.tables e below (T1.setTop (mkF m 6 #[sR a1, sU, sU] [(.int (0 : Int32)), (.ref b1), (.ref b1)])) t → Steps p.tables e below (T1.setTop (mkF m 5 #[sR a1, sU, sU] [(.ref a1), (.ref b1), (.ref b1)])) t := fun t k => by
    refine X1.arraylength hx (by rw [e1]; exact Ar12.1) (State.isArrayOf_alike hZ.alike Ar12.2.1) (g := (mkF m 5 #[sR a1, sU, sU] [(.ref a1), (.ref b1), (.ref b1)])) rfl rfl (hb hby own_d787) _ ?_
    rw [len_of Sz12 Nn12]
    exact k
  refine own_go (fun t k => st12 t k) ?_
  show OG m T1 6 #[sR a1, sU, sU] [(.int (0 : Int32)), (.ref b1), (.ref b1)]
  refine og (XS.bipush X1.here hx rfl (hb hby own_d788)) ?_
  show OG m T1 8 #[sR a1, sU, sU] [(.int (7 : Int32)), (.int (0 : Int32)), (.ref b1), (.ref b1)]
  refine og (XS.imul X1.here hx rfl (hb hby own_d789) rfl) ?_
  refine og (XS.iconst X1.here hx rfl (hb hby own_d790)) ?_
  show OG m T1 10 #[sR a1, sU, sU] [(.int (2 : Int32)), (.int ((0 : Int32) * (7 : Int32))), (.ref b1), (.ref b1)]
  refine og (XS.iadd X1.here hx rfl (hb hby own_d791) rfl) ?_
  show OG m T1 11 #[sR a1, sU, sU] [(.int (((0 : Int32) * (7 : Int32)) + (2 : Int32))), (.ref b1), (.ref b1)]
  rw [show (((0 : Int32) * (7 : Int32)) + (2 : Int32)) = (2 : Int32) from by decide]
  show OG m T1 11 #[sR a1, sU, sU] [(.int (2 : Int32)), (.ref b1), (.ref b1)]
  obtain ⟨_, _, ⟨T13, L13, k13, n13⟩, -, X13, ⟨Lc13, hQ13, l13, y13, z13⟩, st13⟩ := X1.specialBack hx (y := (⟨"java/lang/StringBuilder", "<init>", "(I)V"⟩ : MethodName)) rfl hown (mvT hZ (tw hw 8 rfl)) (mvT hZ (tw hw 9 rfl)) (mvT hZ (tw hw 10 rfl)) (by decide) (backOf (W := 1) (own_si l Z a0 hw [] b1 (2 : Int32) i_COMPACT_STRINGS h1 n0 Z6 F5 S_COMPACT_STRINGS nz_i_COMPACT_STRINGS A1 F9 F10 F11 g_b1 (by decide) (by decide)) hZ (tw hw 10 rfl) (tw hw 7 rfl) (by decide) (by decide)) (g := (mkF m 11 #[sR a1, sU, sU] [(.int (2 : Int32)), (.ref b1), (.ref b1)])) rfl (by rw [hml]; rfl) (Steps.refl _) (a := b1) (argsL := [(.int (2 : Int32))]) (rest := [(.ref b1)]) (lenOf own_pd20 rfl) rfl (by show 2 * 0 + _ ≤ _; exact Nat.le_of_eq rfl) (hb hby own_d792) (fun _ _ => ⟨rfl, e1, (by decide : 1 + 1 ≤ _), (by decide : 4 + 23 ≤ _)⟩)
  dsimp only [Pt.U, Pt.locs, Pt.cells, Pt.slots] at X13 l13 y13 z13 st13 hQ13
  subst l13 y13 z13
  obtain ⟨xd_13, xk_13, rfl, Nq13, Kq13, Fq13_0, Fq13_1, Fq13_2, Fq13_3, Fq13_4, Fq13_5, mq13_fd⟩ := hQ13
  have N13 := Fr.app N0 Nq13
  have ne14 : a1 ≠ xd_13 := Nat.ne_of_lt (Nat.lt_of_lt_of_le F4.lt mq13_fd)
  have ne15 : b1 ≠ xd_13 := Nat.ne_of_lt (Nat.lt_of_lt_of_le A1.lt mq13_fd)
  have g_xd_13 : n0 ≤ xd_13 := Nat.le_trans Z6 mq13_fd
  have sz_xd_13 : h0.size ≤ xd_13 := Nat.le_trans K6.1 mq13_fd
  have sf16 : Safe Z own_EL s.vm h1 xd_13 := Safe.new mq13_fd
  have F17 : Arv Z T13.heap a1 ka .int (0 : Int32) [] (.int (0 : Int32)) := F4.keep Kq13 (ninS ne2 nin0)
  have F18 : Old Z n0 T13.heap := F5.keep Kq13 (allS g_b1 all0)
  have F19 : Exa Z T13.heap b1 "java/lang/StringBuilder" := A1.keep Kq13
  have C20 : CHr Z own_EL s.vm h0 s.vm T13.heap := C7.trans (CHr.keep Kq13 (sfS sf8 sf0) C7.1)
  have sf21 : Safe Z own_EL s.vm T13.heap b1 := Safe.keep Kq13 (sfS sf8 sf0) C7.1 sf8
  have sf22 : Safe Z own_EL s.vm T13.heap xd_13 := Safe.keep Kq13 (sfS sf8 sf0) C7.1 sf16
  have K13 : Keep h0 T13.heap [] := K6.trans Kq13 (allS (Or.inr sz_b1) all0)
  have Z13 : n0 ≤ T13.heap.size := Nat.le_trans Z6 Kq13.1
  refine og (st13.trans) ?_
  show OG m T13 14 #[sR a1, sU, sU] [(.ref b1)]
  refine og (XS.bipush X13.here hx rfl (hb hby own_d793)) ?_
  show OG m T13 16 #[sR a1, sU, sU] [(.int (123 : Int32)), (.ref b1)]
  obtain ⟨cq23, kq23, q23a, q23b, q23c⟩ := isOf hZ rfl Fq13_0
  obtain ⟨_, _, ⟨T23, L23, k23, n23⟩, -, X23, ⟨Lc23, hQ23, l23, y23, z23⟩, st23⟩ := X13.virtualBack hx (y := (⟨"java/lang/StringBuilder", "append", "(C)Ljava/lang/StringBuilder;"⟩ : MethodName)) (z := (⟨"java/lang/StringBuilder", "append", "(C)Ljava/lang/StringBuilder;"⟩ : MethodName)) hown (mvT hZ (tw hw 27 rfl)) (mvT hZ (tw hw 28 rfl)) (notFace_of_selects (args := #[]) (mvT hZ (tw hw 30 rfl))) (mvT hZ (tw hw 30 rfl)) (mvT hZ (tw hw 29 rfl)) (by decide) (backOf (W := 0) (own_sc l Z a0 hw [] b1 (123 : Int32) xd_13 xk_13 (2 : Int32) (0 : Int32) ([]) i_COMPACT_STRINGS T13.heap n0 Z13 F18 S_COMPACT_STRINGS nz_i_COMPACT_STRINGS Fq13_0 Fq13_1 Fq13_2 Fq13_3 Fq13_4 Fq13_5 g_b1 g_xd_13 (⟨by decide, by decide⟩) (by decide) rfl (by decide) ne15 (by decide) (by decide)) hZ (tw hw 31 rfl) (tw hw 7 rfl) (by decide) (by decide)) q23a q23c (g := (mkF m 16 #[sR a1, sU, sU] [(.int (123 : Int32)), (.ref b1)])) rfl (by rw [hml]; rfl) (Steps.refl _) (argsL := [(.int (123 : Int32))]) (rest := []) (lenOf own_pd795 rfl) rfl (by show 2 * 0 + _ ≤ _; exact Nat.le_of_eq rfl) (hb hby own_d794) (fun _ _ => ⟨rfl, rfl, (by decide : 2 + 1 ≤ _), (by decide : 27 + 74 ≤ _)⟩)
  dsimp only [Pt.U, Pt.locs, Pt.cells, Pt.slots] at X23 l23 y23 z23 st23 hQ23
  subst l23 y23 z23
  obtain ⟨xd_23, xk_23, xc_23, rfl, Nq23, Kq23, Fq23_0, Fq23_1, Fq23_2, Fq23_3, Fq23_4, Fq23_5, mq23_mv, mq23_cb, mq23_cl⟩ := hQ23
  have N23 := Fr.app N13 Nq23
  have ne24 : a1 ≠ xd_23 := own_ne_or mq23_mv ne14 F17.lt
  have ne25 : b1 ≠ xd_23 := own_ne_or mq23_mv ne15 Fq13_0.lt
  have g_xd_23 : n0 ≤ xd_23 := own_ge_or mq23_mv g_xd_13 Z13
  have sz_xd_23 : h0.size ≤ xd_23 := own_ge_or mq23_mv sz_xd_13 K13.1
  have sf26 : Safe Z own_EL s.vm T13.heap xd_23 := own_safe_or mq23_mv sf22
  have F27 : Arv Z T23.heap a1 ka .int (0 : Int32) [] (.int (0 : Int32)) := F17.keep Kq23 (ninS ne2 (ninS ne14 nin0))
  have F28 : Old Z n0 T23.heap := F18.keep Kq23 (allS g_b1 (allS g_xd_13 all0))
  have F29 : Exa Z T23.heap b1 "java/lang/StringBuilder" := Fq13_0.keep Kq23
  have F30 : Exa Z T23.heap xd_13 "[B" := Fq13_4.keep Kq23
  have C31 : CHr Z own_EL s.vm h0 s.vm T23.heap := C20.trans (CHr.keep Kq23 (sfS sf21 (sfS sf22 sf0)) C20.1)
  have sf32 : Safe Z own_EL s.vm T23.heap b1 := Safe.keep Kq23 (sfS sf21 (sfS sf22 sf0)) C20.1 sf21
  have sf33 : Safe Z own_EL s.vm T23.heap xd_23 := Safe.keep Kq23 (sfS sf21 (sfS sf22 sf0)) C20.1 sf26
  have K23 : Keep h0 T23.heap [] := K13.trans Kq23 (allS (Or.inr sz_b1) (allS (Or.inr sz_xd_13) all0))
  have Z23 : n0 ≤ T23.heap.size := Nat.le_trans Z13 Kq23.1
  refine og (st23.trans) ?_
  show OG m T23 19 #[sR a1, sU, sU] [(.ref b1)]
  obtain ⟨l1, hl1⟩ : ∃ z : List Int32, z = (([] : List Int32) ++ [(123 : Int32)]) := ⟨_, rfl⟩
  have F34 : Arv Z T23.heap xd_23 xk_23 .byte xc_23 (own_B l1) (.int (0 : Int32)) := by rw [hl1]; exact Fq23_5
  obtain ⟨c1, hc1⟩ : ∃ z : Int32, z = ((0 : Int32) + (1 : Int32)) := ⟨_, rfl⟩
  have F35 : Fld Z T23.heap b1 "java/lang/AbstractStringBuilder" "count" "I" (.int c1) := by rw [hc1]; exact Fq23_3
  have hn1 : (l1.length : Int) = 0 + 1 := by rw [hl1]; simp only [List.length_append, List.length_cons, List.length_nil]; omega
  have hq1 : c1.toInt = (l1.length : Int) := by rw [hc1, hn1]; exact own_cnt rfl rfl (by omega) (by omega)
  have hu1 : (l1.length : Int) ≤ 1 := by omega
  have hm1 : (l1.length : Int) ≤ xc_23.toInt := by rw [hl1]; exact mq23_cl
  refine og (XS.astoreN X23.here hx rfl (hb hby own_d796) rfl rfl (l' := #[sR a1, sR b1, sU]) rfl) ?_
  refine og (XS.iconst X23.here hx rfl (hb hby own_d797)) ?_
  show OG m T23 21 #[sR a1, sR b1, sU] [(.int (0 : Int32))]
  refine og (XS.istoreN X23.here hx rfl (hb hby own_d798) rfl (l' := #[sR a1, sR b1, sI (0 : Int32)]) rfl) ?_
  refine og (XS.iloadN X23.here hx rfl (hb hby own_d799) rfl) ?_
  show OG m T23 23 #[sR a1, sR b1, sI (0 : Int32)] [(.int (0 : Int32))]
  refine og (XS.aloadN X23.here hx rfl (hb hby own_d800) rfl rfl) ?_
  show OG m T23 24 #[sR a1, sR b1, sI (0 : Int32)] [(.ref a1), (.int (0 : Int32))]
  have vv36 := F27
  obtain ⟨cl36, Ar36, qk36, Sz36, Nn36, Hs36, Gs36⟩ := vv36
  have st36 : ∀ t, Steps p.tables e below (T23.setTop (mkF m 25 #[sR a1, sR b1, sI (0 : Int32)] [(.int (0 : Int32)), (.int (0 : Int32))])) t → Steps p.tables e below (T23.setTop (mkF m 24 #[sR a1, sR b1, sI (0 : Int32)] [(.ref a1), (.int (0 : Int32))])) t := fun t k => by
    refine X23.arraylength hx Ar36.1 (State.isArrayOf_alike hZ.alike Ar36.2.1) (g := (mkF m 24 #[sR a1, sR b1, sI (0 : Int32)] [(.ref a1), (.int (0 : Int32))])) rfl rfl (hb hby own_d801) _ ?_
    rw [len_of Sz36 Nn36]
    exact k
  refine own_go (fun t k => st36 t k) ?_
  show OG m T23 25 #[sR a1, sR b1, sI (0 : Int32)] [(.int (0 : Int32)), (.int (0 : Int32))]
  refine og (XS.icmpYes X23.here hx rfl (pc0 := 25) (pc' := 56) rfl (hb hby own_d802) rfl (flt (by decide : ¬ ((0 : Int32) < (0 : Int32)))).2.1 (by decide) (by decide)) ?_
  refine og (XS.aloadN X23.here hx rfl (hb hby own_d803) rfl rfl) ?_
  show OG m T23 57 #[sR a1, sR b1, sI (0 : Int32)] [(.ref b1)]
  refine og (XS.bipush X23.here hx rfl (hb hby own_d804)) ?_
  show OG m T23 59 #[sR a1, sR b1, sI (0 : Int32)] [(.int (125 : Int32)), (.ref b1)]
  obtain ⟨cq37, kq37, q37a, q37b, q37c⟩ := isOf hZ rfl Fq23_0
  obtain ⟨_, _, ⟨T37, L37, k37, n37⟩, -, X37, ⟨Lc37, hQ37, l37, y37, z37⟩, st37⟩ := X23.virtualBack hx (y := (⟨"java/lang/StringBuilder", "append", "(C)Ljava/lang/StringBuilder;"⟩ : MethodName)) (z := (⟨"java/lang/StringBuilder", "append", "(C)Ljava/lang/StringBuilder;"⟩ : MethodName)) hown (mvT hZ (tw hw 27 rfl)) (mvT hZ (tw hw 28 rfl)) (notFace_of_selects (args := #[]) (mvT hZ (tw hw 30 rfl))) (mvT hZ (tw hw 30 rfl)) (mvT hZ (tw hw 29 rfl)) (by decide) (backOf (W := 0) (own_sc l Z a0 hw [] b1 (125 : Int32) xd_23 xk_23 xc_23 c1 l1 i_COMPACT_STRINGS T23.heap n0 Z23 F28 S_COMPACT_STRINGS nz_i_COMPACT_STRINGS Fq23_0 Fq23_1 Fq23_2 F35 Fq23_4 F34 g_b1 g_xd_23 mq23_cb hm1 hq1 (by omega) ne25 (by decide) (by decide)) hZ (tw hw 31 rfl) (tw hw 7 rfl) (by decide) (by decide)) q37a q37c (g := (mkF m 59 #[sR a1, sR b1, sI (0 : Int32)] [(.int (125 : Int32)), (.ref b1)])) rfl (by rw [hml]; rfl) (Steps.refl _) (argsL := [(.int (125 : Int32))]) (rest := []) (lenOf own_pd795 rfl) rfl (by show 2 * 0 + _ ≤ _; exact Nat.le_of_eq rfl) (hb hby own_d805) (fun _ _ => ⟨rfl, rfl, (by decide : 3 + 1 ≤ _), (by decide : 101 + 74 ≤ _)⟩)
  dsimp only [Pt.U, Pt.locs, Pt.cells, Pt.slots] at X37 l37 y37 z37 st37 hQ37
  subst l37 y37 z37
  obtain ⟨xd_37, xk_37, xc_37, rfl, Nq37, Kq37, Fq37_0, Fq37_1, Fq37_2, Fq37_3, Fq37_4, Fq37_5, mq37_mv, mq37_cb, mq37_cl⟩ := hQ37
  have N37 := Fr.app N23 Nq37
  have ne38 : a1 ≠ xd_37 := own_ne_or mq37_mv ne24 F27.lt
  have ne39 : b1 ≠ xd_37 := own_ne_or mq37_mv ne25 Fq23_0.lt
  have g_xd_37 : n0 ≤ xd_37 := own_ge_or mq37_mv g_xd_23 Z23
  have sz_xd_37 : h0.size ≤ xd_37 := own_ge_or mq37_mv sz_xd_23 K23.1
  have sf40 : Safe Z own_EL s.vm T23.heap xd_37 := own_safe_or mq37_mv sf33
  have F41 : Arv Z T37.heap a1 ka .int (0 : Int32) [] (.int (0 : Int32)) := F27.keep Kq37 (ninS ne2 (ninS ne24 nin0))
  have F42 : Old Z n0 T37.heap := F28.keep Kq37 (allS g_b1 (allS g_xd_23 all0))
  have F43 : Exa Z T37.heap b1 "java/lang/StringBuilder" := Fq23_0.keep Kq37
  have F44 : Exa Z T37.heap xd_23 "[B" := Fq23_4.keep Kq37
  have C45 : CHr Z own_EL s.vm h0 s.vm T37.heap := C31.trans (CHr.keep Kq37 (sfS sf32 (sfS sf33 sf0)) C31.1)
  have sf46 : Safe Z own_EL s.vm T37.heap b1 := Safe.keep Kq37 (sfS sf32 (sfS sf33 sf0)) C31.1 sf32
  have sf47 : Safe Z own_EL s.vm T37.heap xd_37 := Safe.keep Kq37 (sfS sf32 (sfS sf33 sf0)) C31.1 sf40
  have K37 : Keep h0 T37.heap [] := K23.trans Kq37 (allS (Or.inr sz_b1) (allS (Or.inr sz_xd_23) all0))
  have Z37 : n0 ≤ T37.heap.size := Nat.le_trans Z23 Kq37.1
  refine og (st37.trans) ?_
  show OG m T37 62 #[sR a1, sR b1, sI (0 : Int32)] [(.ref b1)]
  obtain ⟨l2, hl2⟩ : ∃ z : List Int32, z = (l1 ++ [(125 : Int32)]) := ⟨_, rfl⟩
  have F48 : Arv Z T37.heap xd_37 xk_37 .byte xc_37 (own_B l2) (.int (0 : Int32)) := by rw [hl2]; exact Fq37_5
  obtain ⟨c2, hc2⟩ : ∃ z : Int32, z = (c1 + (1 : Int32)) := ⟨_, rfl⟩
  have F49 : Fld Z T37.heap b1 "java/lang/AbstractStringBuilder" "count" "I" (.int c2) := by rw [hc2]; exact Fq37_3
  have hn2 : (l2.length : Int) = (l1.length : Int) + 1 := by rw [hl2]; simp only [List.length_append, List.length_cons, List.length_nil]; omega
  have hq2 : c2.toInt = (l2.length : Int) := by rw [hc2, hn2]; exact own_cnt hq1 rfl (by omega) (by omega)
  have hu2 : (l2.length : Int) ≤ 2 := by omega
  have hm2 : (l2.length : Int) ≤ xc_37.toInt := by rw [hl2]; exact mq37_cl
  obtain ⟨cq50, kq50, q50a, q50b, q50c⟩ := isOf hZ rfl Fq37_0
  obtain ⟨_, _, ⟨T50, L50, k50, n50⟩, -, X50, ⟨Lc50, hQ50, l50, y50, z50⟩, st50⟩ := X37.virtualBack hx (y := (⟨"java/lang/StringBuilder", "toString", "()Ljava/lang/String;"⟩ : MethodName)) (z := (⟨"java/lang/StringBuilder", "toString", "()Ljava/lang/String;"⟩ : MethodName)) hown (mvT hZ (tw hw 118 rfl)) (mvT hZ (tw hw 119 rfl)) (notFace_of_selects (args := #[]) (mvT hZ (tw hw 121 rfl))) (mvT hZ (tw hw 121 rfl)) (mvT hZ (tw hw 120 rfl)) (by decide) (backOf (W := 0) (own_ts l Z a0 hw [] b1 xd_37 xk_37 xc_37 c2 l2 i_COMPACT_STRINGS T37.heap n0 Z37 F42 S_COMPACT_STRINGS nz_i_COMPACT_STRINGS Fq37_0 Fq37_1 Fq37_2 F49 Fq37_4 F48 mq37_cb hm2 hq2) hZ (tw hw 122 rfl) (tw hw 7 rfl) (by decide) (by decide)) q50a q50c (g := (mkF m 62 #[sR a1, sR b1, sI (0 : Int32)] [(.ref b1)])) rfl (by rw [hml]; rfl) (Steps.refl _) (argsL := []) (rest := []) (lenOf own_pd807 rfl) rfl (by show 2 * 0 + _ ≤ _; exact Nat.le_of_eq rfl) (hb hby own_d806) (fun _ _ => ⟨rfl, rfl, (by decide : 4 + 2 ≤ _), (by decide : 175 + 78 ≤ _)⟩)
  dsimp only [Pt.U, Pt.locs, Pt.cells, Pt.slots] at X50 l50 y50 z50 st50 hQ50
  subst l50 y50 z50
  obtain ⟨xs_50, xd_50, xk_50, rfl, Nq50, Kq50, Fq50_0, Fq50_1, Fq50_2, Fq50_3, mq50_fs, mq50_fd⟩ := hQ50
  have N50 := Fr.app N37 Nq50
  have ne51 : a1 ≠ xs_50 := Nat.ne_of_lt (Nat.lt_of_lt_of_le F41.lt mq50_fs)
  have ne52 : b1 ≠ xs_50 := Nat.ne_of_lt (Nat.lt_of_lt_of_le Fq37_0.lt mq50_fs)
  have ne53 : xd_37 ≠ xs_50 := Nat.ne_of_lt (Nat.lt_of_lt_of_le Fq37_4.lt mq50_fs)
  have g_xs_50 : n0 ≤ xs_50 := Nat.le_trans Z37 mq50_fs
  have sz_xs_50 : h0.size ≤ xs_50 := Nat.le_trans K37.1 mq50_fs
  have ne54 : a1 ≠ xd_50 := Nat.ne_of_lt (Nat.lt_of_lt_of_le F41.lt mq50_fd)
  have ne55 : b1 ≠ xd_50 := Nat.ne_of_lt (Nat.lt_of_lt_of_le Fq37_0.lt mq50_fd)
  have ne56 : xd_37 ≠ xd_50 := Nat.ne_of_lt (Nat.lt_of_lt_of_le Fq37_4.lt mq50_fd)
  have g_xd_50 : n0 ≤ xd_50 := Nat.le_trans Z37 mq50_fd
  have sz_xd_50 : h0.size ≤ xd_50 := Nat.le_trans K37.1 mq50_fd
  have sf57 : Safe Z own_EL s.vm T37.heap xs_50 := Safe.new mq50_fs
  have sf58 : Safe Z own_EL s.vm T37.heap xd_50 := Safe.new mq50_fd
  have F59 : Arv Z T50.heap a1 ka .int (0 : Int32) [] (.int (0 : Int32)) := F41.keep Kq50 nin0
  have F60 : Old Z n0 T50.heap := F42.keep Kq50 all0
  have F61 : Exa Z T50.heap b1 "java/lang/StringBuilder" := Fq37_0.keep Kq50
  have F62 : Fld Z T50.heap b1 "java/lang/AbstractStringBuilder" "value" "[B" (.ref xd_37) := Fq37_1.keep Kq50 nin0
  have F63 : Fld Z T50.heap b1 "java/lang/AbstractStringBuilder" "coder" "B" (.int (0 : Int32)) := Fq37_2.keep Kq50 nin0
  have F64 : Fld Z T50.heap b1 "java/lang/AbstractStringBuilder" "count" "I" (.int c2) := F49.keep Kq50 nin0
  have F65 : Exa Z T50.heap xd_37 "[B" := Fq37_4.keep Kq50
  have F66 : Arv Z T50.heap xd_37 xk_37 .byte xc_37 (own_B l2) (.int (0 : Int32)) := F48.keep Kq50 nin0
  have C67 : CHr Z own_EL s.vm h0 s.vm T50.heap := C45.trans (CHr.keep Kq50 sf0 C45.1)
  have sf68 : Safe Z own_EL s.vm T50.heap b1 := Safe.keep Kq50 sf0 C45.1 sf46
  have sf69 : Safe Z own_EL s.vm T50.heap xd_37 := Safe.keep Kq50 sf0 C45.1 sf47
  have sf70 : Safe Z own_EL s.vm T50.heap xs_50 := Safe.keep Kq50 sf0 C45.1 sf57
  have sf71 : Safe Z own_EL s.vm T50.heap xd_50 := Safe.keep Kq50 sf0 C45.1 sf58
  have K50 : Keep h0 T50.heap [] := K37.trans Kq50 all0
  have Z50 : n0 ≤ T50.heap.size := Nat.le_trans Z37 Kq50.1
  refine og (st50.trans) ?_
  show OG m T50 65 #[sR a1, sR b1, sI (0 : Int32)] [(.ref xs_50)]
  have hT : l2 = ([(123 : Int32)] ++ [(125 : Int32)]) := by rw [hl2, hl1]; simp only [List.nil_append, List.append_nil]
  have F72 : Arv Z T50.heap xd_50 xk_50 .byte c2 (own_B ([(123 : Int32)] ++ [(125 : Int32)])) (.int (0 : Int32)) := by rw [← hT]; exact Fq50_3
  obtain ⟨fs, hr, hrun, hended, ⟨-, hW2, hW3, hsame⟩⟩ := Jvm.Stand.leaveW (s := s) (vm₁ := s.vm) X50 hS0 (show _ ≤ T50.heap.size from (Nat.zero_le _)) (v := some (.ref xs_50)) (fun h => by rw [Bd.returns] at h; cases h)
  have hlast : Steps p.tables e below (T50.setTop (mkF m 65 #[sR a1, sR b1, sI (0 : Int32)] [(.ref xs_50)])) (T50.setFrames fs) := by
    exact retOut X50 hx (t := (.object "java/lang/String")) Bd.returns rfl (Or.inr (Or.inr (Or.inr (Or.inr ⟨rfl, rfl, rfl⟩)))) (hb hby own_d808) hr
  refine ⟨_, _, hlast, hrun, hended, _, _, rfl, ?_, by show CHr Z own_EL s.vm s.heap T50.vm T50.heap; rw [hh]; exact C67.trans (CHv.at X50 hZ (own_EW Z a0 hw) C67.1), ⟨_, rfl⟩, hW2, hW3, hsame.mono (by decide) (by decide)⟩
  show Q_own_num0 Z a1 ka i_COMPACT_STRINGS o_DigitOnes o_DigitTens kc_own_ones kc_own_tens h0 n0 _ T50.heap _
  exact ⟨xs_50, xd_50, xk_50, c2, rfl, N50, K50, Fq50_0, Fq50_1, Fq50_2, F72, by rw [← hT]; exact hq2⟩
theorem own_ef809 (m : MethodId) (a1 : Addr) : entryFrame m #[(.ref a1)] 3 = mkF m 0 #[sR a1, sU, sU] [] := by first | (simp [entryFrame, mkF, argsToLocals, Value.category]; done) | rfl
theorem own_d810 : decode prog_18_method_8_code 28 = .ok (.aload_n 1, 1) := by decide +kernel
theorem own_d811 : decode prog_18_method_8_code 29 = .ok (.iload_n 2, 1) := by decide +kernel
theorem own_d812 : decode prog_18_method_8_code 30 = .ok (.ifCond .ne 8, 3) := by decide +kernel
theorem own_d813 : decode prog_18_method_8_code 33 = .ok (.ldc 96, 2) := by decide +kernel
theorem own_d814 : decode prog_18_method_8_code 35 = .ok (.goto 5, 3) := by decide +kernel
theorem own_d815 : decode prog_18_method_8_code 40 = .ok (.invokevirtual 100, 3) := by decide +kernel
theorem own_pd816 : parseMethodDescriptor "(Ljava/lang/String;)Ljava/lang/StringBuilder;" = some ⟨[(.object "java/lang/String")], some (.object "java/lang/StringBuilder")⟩ := by decide +kernel
theorem own_d817 : decode prog_18_method_8_code 43 = .ok (.aload_n 0, 1) := by decide +kernel
theorem own_d818 : decode prog_18_method_8_code 44 = .ok (.iload_n 2, 1) := by decide +kernel
theorem own_d819 : decode prog_18_method_8_code 45 = .ok (.iaload, 1) := by decide +kernel
theorem own_d820 : decode prog_18_method_8_code 46 = .ok (.invokevirtual 103, 3) := by decide +kernel
theorem own_pd821 : parseMethodDescriptor "(I)Ljava/lang/StringBuilder;" = some ⟨[.int], some (.object "java/lang/StringBuilder")⟩ := by decide +kernel
theorem own_d822 : decode prog_18_method_8_code 49 = .ok (.pop, 1) := by decide +kernel
theorem own_d823 : decode prog_18_method_8_code 50 = .ok (.iinc 2 1, 3) := by decide +kernel
theorem own_d824 : decode prog_18_method_8_code 53 = .ok (.goto (-31), 3) := by decide +kernel
def Q_own_num1 (Z : State) (a1 : Addr) (ka : ClassId) (x0 : Int32) (i_COMPACT_STRINGS : Int32) (o_DigitOnes : Addr) (o_DigitTens : Addr) (kc_own_ones : ClassId) (kc_own_tens : ClassId) (h0 : Heap) (n0 : Nat) (v : Option Value) (h : Heap) (L : List Loc) : Prop := ∃ xs : Addr, ∃ xd : Addr, ∃ xk : ClassId, ∃ xl : Int32, v = some (.ref xs) ∧ Fr n0 L ∧ Keep h0 h [] ∧ Exa Z h xs "java/lang/String" ∧ Fld Z h xs "java/lang/String" "value" "[B" (.ref xd) ∧ Fld Z h xs "java/lang/String" "coder" "B" (.int (0 : Int32)) ∧ Arv Z h xd xk .byte xl (own_B (([(123 : Int32)] ++ own_txt x0) ++ [(125 : Int32)])) (.int (0 : Int32)) ∧ (xl.toInt = ((([(123 : Int32)] ++ own_txt x0) ++ [(125 : Int32)]).length : Int))
set_option maxRecDepth 65536 in
set_option maxHeartbeats 40000000 in
theorem own_num1 (l : Launch) (Z : State) (a0 : Array Value) (hw : ∀ d ∈ tables_1, d.before a0 Z = true) (ws : List Jvm.Cond) (a1 : Addr) (ka : ClassId) (x0 : Int32) (i_COMPACT_STRINGS : Int32) (o_DigitOnes : Addr) (o_DigitTens : Addr) (kc_own_ones : ClassId) (kc_own_tens : ClassId) (h0 : Heap) (n0 : Nat) (Z0 : n0 ≤ h0.size) (O0 : Old Z n0 h0) (S_COMPACT_STRINGS : Sta Z Z.heap "java/lang/String" "COMPACT_STRINGS" "Z" (.int i_COMPACT_STRINGS)) (nz_i_COMPACT_STRINGS : i_COMPACT_STRINGS ≠ (0 : Int32)) (S_DigitOnes : Sta Z Z.heap "java/lang/Integer" "DigitOnes" "[B" (.ref o_DigitOnes)) (V_own_ones : Arv Z Z.heap o_DigitOnes kc_own_ones .byte (100 : Int32) (own_B own_ones) (.int (0 : Int32))) (S_DigitTens : Sta Z Z.heap "java/lang/Integer" "DigitTens" "[B" (.ref o_DigitTens)) (V_own_tens : Arv Z Z.heap o_DigitTens kc_own_tens .byte (100 : Int32) (own_B own_tens) (.int (0 : Int32))) (f0_0 : Arv Z h0 a1 ka .int (1 : Int32) [(.int x0)] (.int (0 : Int32))) :
    MetFree l (⟨"standwatch/query/Arguments", "numbers", "([I)Ljava/lang/String;"⟩ : MethodName) (head1 (Jvm.Cond.code (⟨"standwatch/query/Arguments", "numbers", "([I)Ljava/lang/String;"⟩ : MethodName) prog_18_method_8_code 3 (some (.object "java/lang/String")) :: ws) ({ frames := 6, cells := 10, slots := 405, locals := 91 } : Room)) (fun a U => a = #[(.ref a1)] ∧ Z.Warmed39 U.vm ∧ U.heap = h0 ∧ CHv Z own_EL U.vm h0) (fun _ _ _ _ _ => True) (fun _ U o U' => ∃ v L, o = .returned v ∧ Q_own_num1 Z a1 ka x0 i_COMPACT_STRINGS o_DigitOnes o_DigitTens kc_own_ones kc_own_tens h0 n0 v U'.heap L ∧ CHr Z own_EL U.vm U.heap U'.vm U'.heap ∧ ReturnedEndW U o U' L ({ frames := 6, cells := 10, slots := 405, locals := 91 } : Room).cells ({ frames := 6, cells := 10, slots := 405, locals := 91 } : Room).slots) := by
  refine MetFree.of_bodySF (plainFor_of_name own_pn783) hisR ?_
  intro p e s m args below meth c s₁ Bd hml0 hP hK
  obtain ⟨rfl, hZ, hh, hH⟩ := hP
  have hx := Bd.exec
  have hby := Bd.bytes
  have hml : c.maxLocals = 3 := hml0
  have hown : s.vm.findClass "standwatch/query/Arguments" = some m.cls := findClass_of_methodNamed Bd.named
  have hnm := (name_of_methodNamed Bd.named Bd.method).1
  have X0 : Stand p l e ({ frames := 6, cells := 10, slots := 405, locals := 91 } : Room) s m #[(.ref a1)] below meth c s₁ [] 0 0 := Stand.of_body Bd
  have e0 : s₁.heap = h0 := by rw [← hh, Bd.state]; rfl
  have N0 := Fr.nil n0
  have K0 := Keep.refl h0 []
  refine own_go (fun t k => castTop (own_ef809 m a1) k) ?_
  show OG m s₁ 0 #[sR a1, sU, sU] []
  have hS0 : s.Since s.vm 0 := (State.WarmedH.refl s).since 0
  have C0 : CHr Z own_EL s.vm h0 s.vm h0 := CHr.refl hH
  obtain ⟨T1, h1, X1, e1, E1, A1, D1, -, st1⟩ := newO X0 hx hZ hown (tw hw 5 rfl) (tw hw 6 rfl) (tw hw 7 rfl) e0 (g := (mkF m 0 #[sR a1, sU, sU] [])) rfl (hb hby own_d784) (by decide) (by decide)
  obtain ⟨b1, g1⟩ : ∃ z, z = h0.size := ⟨_, rfl⟩
  rw [← g1] at A1 D1 st1
  have ne2 : a1 ≠ b1 := Nat.ne_of_lt (Nat.lt_of_lt_of_le f0_0.lt (Nat.le_of_eq g1.symm))
  have g_b1 : n0 ≤ b1 := Nat.le_trans Z0 (Nat.le_of_eq g1.symm)
  have sz_b1 : h0.size ≤ b1 := Nat.le_trans K0.1 (Nat.le_of_eq g1.symm)
  have sf3 : Safe Z own_EL s.vm h0 b1 := Safe.new (Nat.le_of_eq g1.symm)
  have F4 : Arv Z h1 a1 ka .int (1 : Int32) [(.int x0)] (.int (0 : Int32)) := f0_0.ext E1
  have F5 : Old Z n0 h1 := O0.ext E1
  have K6 : Keep h0 h1 [] := K0.ext E1
  have Z6 : n0 ≤ h1.size := Nat.le_trans Z0 E1.1
  have C7 : CHr Z own_EL s.vm h0 s.vm h1 := C0.trans (CHr.ext E1 C0.1)
  have sf8 : Safe Z own_EL s.vm h1 b1 := Safe.ext E1 C0.1 sf3
  have F9 : Fld Z h1 b1 "java/lang/AbstractStringBuilder" "value" "[B" .null := D1 (Or.inl (tw hw 24 rfl)) (ty := (.array .byte)) (by decide)
  have F10 : Fld Z h1 b1 "java/lang/AbstractStringBuilder" "coder" "B" (.int (0 : Int32)) := D1 (Or.inl (tw hw 26 rfl)) (ty := .byte) (by decide)
  have F11 : Fld Z h1 b1 "java/lang/AbstractStringBuilder" "count" "I" (.int (0 : Int32)) := D1 (Or.inl (tw hw 38 rfl)) (ty := .int) (by decide)
  refine own_go (fun t k => st1 t k) ?_
  show OG m T1 3 #[sR a1, sU, sU] [(.ref b1)]
  refine og (XS.dup X1.here hx rfl (hb hby own_d785) rfl rfl) ?_
  refine og (XS.aloadN X1.here hx rfl (hb hby own_d786) rfl rfl) ?_
  show OG m T1 5 #[sR a1, sU, sU] [(.ref a1), (.ref b1), (.ref b1)]
  have vv12 := F4
  obtain ⟨cl12, Ar12, qk12, Sz12, Nn12, Hs12, Gs12⟩ := vv12
  have st12 : ∀ t, Steps p.tables e below (T1.setTop (mkF m 6 #[sR a1, sU, sU] [(.int (1 : Int32)), (.ref b1), (.ref b1)])) t → Steps p.tables e below (T1.setTop (mkF m 5 #[sR a1, sU, sU] [(.ref a1), (.ref b1), (.ref b1)])) t := fun t k => by
    refine X1.arraylength hx (by rw [e1]; exact Ar12.1) (State.isArrayOf_alike hZ.alike Ar12.2.1) (g := (mkF m 5 #[sR a1, sU, sU] [(.ref a1), (.ref b1), (.ref b1)])) rfl rfl (hb hby own_d787) _ ?_
    rw [len_of Sz12 Nn12]
    exact k
  refine own_go (fun t k => st12 t k) ?_
  show OG m T1 6 #[sR a1, sU, sU] [(.int (1 : Int32)), (.ref b1), (.ref b1)]
  refine og (XS.bipush X1.here hx rfl (hb hby own_d788)) ?_
  show OG m T1 8 #[sR a1, sU, sU] [(.int (7 : Int32)), (.int (1 : Int32)), (.ref b1), (.ref b1)]
  refine og (XS.imul X1.here hx rfl (hb hby own_d789) rfl) ?_
  refine og (XS.iconst X1.here hx rfl (hb hby own_d790)) ?_
  show OG m T1 10 #[sR a1, sU, sU] [(.int (2 : Int32)), (.int ((1 : Int32) * (7 : Int32))), (.ref b1), (.ref b1)]
  refine og (XS.iadd X1.here hx rfl (hb hby own_d791) rfl) ?_
  show OG m T1 11 #[sR a1, sU, sU] [(.int (((1 : Int32) * (7 : Int32)) + (2 : Int32))), (.ref b1), (.ref b1)]
  rw [show (((1 : Int32) * (7 : Int32)) + (2 : Int32)) = (9 : Int32) from by decide]
  show OG m T1 11 #[sR a1, sU, sU] [(.int (9 : Int32)), (.ref b1), (.ref b1)]
  obtain ⟨_, _, ⟨T13, L13, k13, n13⟩, -, X13, ⟨Lc13, hQ13, l13, y13, z13⟩, st13⟩ := X1.specialBack hx (y := (⟨"java/lang/StringBuilder", "<init>", "(I)V"⟩ : MethodName)) rfl hown (mvT hZ (tw hw 8 rfl)) (mvT hZ (tw hw 9 rfl)) (mvT hZ (tw hw 10 rfl)) (by decide) (backOf (W := 1) (own_si l Z a0 hw [] b1 (9 : Int32) i_COMPACT_STRINGS h1 n0 Z6 F5 S_COMPACT_STRINGS nz_i_COMPACT_STRINGS A1 F9 F10 F11 g_b1 (by decide) (by decide)) hZ (tw hw 10 rfl) (tw hw 7 rfl) (by decide) (by decide)) (g := (mkF m 11 #[sR a1, sU, sU] [(.int (9 : Int32)), (.ref b1), (.ref b1)])) rfl (by rw [hml]; rfl) (Steps.refl _) (a := b1) (argsL := [(.int (9 : Int32))]) (rest := [(.ref b1)]) (lenOf own_pd20 rfl) rfl (by show 2 * 0 + _ ≤ _; exact Nat.le_of_eq rfl) (hb hby own_d792) (fun _ _ => ⟨rfl, e1, (by decide : 1 + 1 ≤ _), (by decide : 4 + 23 ≤ _)⟩)
  dsimp only [Pt.U, Pt.locs, Pt.cells, Pt.slots] at X13 l13 y13 z13 st13 hQ13
  subst l13 y13 z13
  obtain ⟨xd_13, xk_13, rfl, Nq13, Kq13, Fq13_0, Fq13_1, Fq13_2, Fq13_3, Fq13_4, Fq13_5, mq13_fd⟩ := hQ13
  have N13 := Fr.app N0 Nq13
  have ne14 : a1 ≠ xd_13 := Nat.ne_of_lt (Nat.lt_of_lt_of_le F4.lt mq13_fd)
  have ne15 : b1 ≠ xd_13 := Nat.ne_of_lt (Nat.lt_of_lt_of_le A1.lt mq13_fd)
  have g_xd_13 : n0 ≤ xd_13 := Nat.le_trans Z6 mq13_fd
  have sz_xd_13 : h0.size ≤ xd_13 := Nat.le_trans K6.1 mq13_fd
  have sf16 : Safe Z own_EL s.vm h1 xd_13 := Safe.new mq13_fd
  have F17 : Arv Z T13.heap a1 ka .int (1 : Int32) [(.int x0)] (.int (0 : Int32)) := F4.keep Kq13 (ninS ne2 nin0)
  have F18 : Old Z n0 T13.heap := F5.keep Kq13 (allS g_b1 all0)
  have F19 : Exa Z T13.heap b1 "java/lang/StringBuilder" := A1.keep Kq13
  have C20 : CHr Z own_EL s.vm h0 s.vm T13.heap := C7.trans (CHr.keep Kq13 (sfS sf8 sf0) C7.1)
  have sf21 : Safe Z own_EL s.vm T13.heap b1 := Safe.keep Kq13 (sfS sf8 sf0) C7.1 sf8
  have sf22 : Safe Z own_EL s.vm T13.heap xd_13 := Safe.keep Kq13 (sfS sf8 sf0) C7.1 sf16
  have K13 : Keep h0 T13.heap [] := K6.trans Kq13 (allS (Or.inr sz_b1) all0)
  have Z13 : n0 ≤ T13.heap.size := Nat.le_trans Z6 Kq13.1
  refine og (st13.trans) ?_
  show OG m T13 14 #[sR a1, sU, sU] [(.ref b1)]
  have hx0 := own_txt_rng x0
  refine og (XS.bipush X13.here hx rfl (hb hby own_d793)) ?_
  show OG m T13 16 #[sR a1, sU, sU] [(.int (123 : Int32)), (.ref b1)]
  obtain ⟨cq23, kq23, q23a, q23b, q23c⟩ := isOf hZ rfl Fq13_0
  obtain ⟨_, _, ⟨T23, L23, k23, n23⟩, -, X23, ⟨Lc23, hQ23, l23, y23, z23⟩, st23⟩ := X13.virtualBack hx (y := (⟨"java/lang/StringBuilder", "append", "(C)Ljava/lang/StringBuilder;"⟩ : MethodName)) (z := (⟨"java/lang/StringBuilder", "append", "(C)Ljava/lang/StringBuilder;"⟩ : MethodName)) hown (mvT hZ (tw hw 27 rfl)) (mvT hZ (tw hw 28 rfl)) (notFace_of_selects (args := #[]) (mvT hZ (tw hw 30 rfl))) (mvT hZ (tw hw 30 rfl)) (mvT hZ (tw hw 29 rfl)) (by decide) (backOf (W := 0) (own_sc l Z a0 hw [] b1 (123 : Int32) xd_13 xk_13 (9 : Int32) (0 : Int32) ([]) i_COMPACT_STRINGS T13.heap n0 Z13 F18 S_COMPACT_STRINGS nz_i_COMPACT_STRINGS Fq13_0 Fq13_1 Fq13_2 Fq13_3 Fq13_4 Fq13_5 g_b1 g_xd_13 (⟨by decide, by decide⟩) (by decide) rfl (by decide) ne15 (by decide) (by decide)) hZ (tw hw 31 rfl) (tw hw 7 rfl) (by decide) (by decide)) q23a q23c (g := (mkF m 16 #[sR a1, sU, sU] [(.int (123 : Int32)), (.ref b1)])) rfl (by rw [hml]; rfl) (Steps.refl _) (argsL := [(.int (123 : Int32))]) (rest := []) (lenOf own_pd795 rfl) rfl (by show 2 * 0 + _ ≤ _; exact Nat.le_of_eq rfl) (hb hby own_d794) (fun _ _ => ⟨rfl, rfl, (by decide : 2 + 1 ≤ _), (by decide : 27 + 74 ≤ _)⟩)
  dsimp only [Pt.U, Pt.locs, Pt.cells, Pt.slots] at X23 l23 y23 z23 st23 hQ23
  subst l23 y23 z23
  obtain ⟨xd_23, xk_23, xc_23, rfl, Nq23, Kq23, Fq23_0, Fq23_1, Fq23_2, Fq23_3, Fq23_4, Fq23_5, mq23_mv, mq23_cb, mq23_cl⟩ := hQ23
  have N23 := Fr.app N13 Nq23
  have ne24 : a1 ≠ xd_23 := own_ne_or mq23_mv ne14 F17.lt
  have ne25 : b1 ≠ xd_23 := own_ne_or mq23_mv ne15 Fq13_0.lt
  have g_xd_23 : n0 ≤ xd_23 := own_ge_or mq23_mv g_xd_13 Z13
  have sz_xd_23 : h0.size ≤ xd_23 := own_ge_or mq23_mv sz_xd_13 K13.1
  have sf26 : Safe Z own_EL s.vm T13.heap xd_23 := own_safe_or mq23_mv sf22
  have F27 : Arv Z T23.heap a1 ka .int (1 : Int32) [(.int x0)] (.int (0 : Int32)) := F17.keep Kq23 (ninS ne2 (ninS ne14 nin0))
  have F28 : Old Z n0 T23.heap := F18.keep Kq23 (allS g_b1 (allS g_xd_13 all0))
  have F29 : Exa Z T23.heap b1 "java/lang/StringBuilder" := Fq13_0.keep Kq23
  have F30 : Exa Z T23.heap xd_13 "[B" := Fq13_4.keep Kq23
  have C31 : CHr Z own_EL s.vm h0 s.vm T23.heap := C20.trans (CHr.keep Kq23 (sfS sf21 (sfS sf22 sf0)) C20.1)
  have sf32 : Safe Z own_EL s.vm T23.heap b1 := Safe.keep Kq23 (sfS sf21 (sfS sf22 sf0)) C20.1 sf21
  have sf33 : Safe Z own_EL s.vm T23.heap xd_23 := Safe.keep Kq23 (sfS sf21 (sfS sf22 sf0)) C20.1 sf26
  have K23 : Keep h0 T23.heap [] := K13.trans Kq23 (allS (Or.inr sz_b1) (allS (Or.inr sz_xd_13) all0))
  have Z23 : n0 ≤ T23.heap.size := Nat.le_trans Z13 Kq23.1
  refine og (st23.trans) ?_
  show OG m T23 19 #[sR a1, sU, sU] [(.ref b1)]
  obtain ⟨l1, hl1⟩ : ∃ z : List Int32, z = (([] : List Int32) ++ [(123 : Int32)]) := ⟨_, rfl⟩
  have F34 : Arv Z T23.heap xd_23 xk_23 .byte xc_23 (own_B l1) (.int (0 : Int32)) := by rw [hl1]; exact Fq23_5
  obtain ⟨c1, hc1⟩ : ∃ z : Int32, z = ((0 : Int32) + (1 : Int32)) := ⟨_, rfl⟩
  have F35 : Fld Z T23.heap b1 "java/lang/AbstractStringBuilder" "count" "I" (.int c1) := by rw [hc1]; exact Fq23_3
  have hn1 : (l1.length : Int) = 0 + 1 := by rw [hl1]; simp only [List.length_append, List.length_cons, List.length_nil]; omega
  have hq1 : c1.toInt = (l1.length : Int) := by rw [hc1, hn1]; exact own_cnt rfl rfl (by omega) (by omega)
  have hu1 : (l1.length : Int) ≤ 1 := by omega
  have hm1 : (l1.length : Int) ≤ xc_23.toInt := by rw [hl1]; exact mq23_cl
  refine og (XS.astoreN X23.here hx rfl (hb hby own_d796) rfl rfl (l' := #[sR a1, sR b1, sU]) rfl) ?_
  refine og (XS.iconst X23.here hx rfl (hb hby own_d797)) ?_
  show OG m T23 21 #[sR a1, sR b1, sU] [(.int (0 : Int32))]
  refine og (XS.istoreN X23.here hx rfl (hb hby own_d798) rfl (l' := #[sR a1, sR b1, sI (0 : Int32)]) rfl) ?_
  refine og (XS.iloadN X23.here hx rfl (hb hby own_d799) rfl) ?_
  show OG m T23 23 #[sR a1, sR b1, sI (0 : Int32)] [(.int (0 : Int32))]
  refine og (XS.aloadN X23.here hx rfl (hb hby own_d800) rfl rfl) ?_
  show OG m T23 24 #[sR a1, sR b1, sI (0 : Int32)] [(.ref a1), (.int (0 : Int32))]
  have vv36 := F27
  obtain ⟨cl36, Ar36, qk36, Sz36, Nn36, Hs36, Gs36⟩ := vv36
  have st36 : ∀ t, Steps p.tables e below (T23.setTop (mkF m 25 #[sR a1, sR b1, sI (0 : Int32)] [(.int (1 : Int32)), (.int (0 : Int32))])) t → Steps p.tables e below (T23.setTop (mkF m 24 #[sR a1, sR b1, sI (0 : Int32)] [(.ref a1), (.int (0 : Int32))])) t := fun t k => by
    refine X23.arraylength hx Ar36.1 (State.isArrayOf_alike hZ.alike Ar36.2.1) (g := (mkF m 24 #[sR a1, sR b1, sI (0 : Int32)] [(.ref a1), (.int (0 : Int32))])) rfl rfl (hb hby own_d801) _ ?_
    rw [len_of Sz36 Nn36]
    exact k
  refine own_go (fun t k => st36 t k) ?_
  show OG m T23 25 #[sR a1, sR b1, sI (0 : Int32)] [(.int (1 : Int32)), (.int (0 : Int32))]
  refine og (XS.icmpNo X23.here hx rfl (hb hby own_d802) rfl (tlt (by decide : (0 : Int32) < (1 : Int32))).2.1) ?_
  refine og (XS.aloadN X23.here hx rfl (hb hby own_d810) rfl rfl) ?_
  show OG m T23 29 #[sR a1, sR b1, sI (0 : Int32)] [(.ref b1)]
  refine og (XS.iloadN X23.here hx rfl (hb hby own_d811) rfl) ?_
  show OG m T23 30 #[sR a1, sR b1, sI (0 : Int32)] [(.int (0 : Int32)), (.ref b1)]
  refine og (XS.ifNo X23.here hx rfl (hb hby own_d812) rfl ((if0 _ _).trans (teq (by decide : (0 : Int32) = (0 : Int32))).2)) ?_
  show OG m T23 33 #[sR a1, sR b1, sI (0 : Int32)] [(.ref b1)]
  obtain ⟨a37, T37, h37, kk37, b37, kb37, X37, e37, E37, S37, hk37, hZ37, hO37, A37, Fc37, Fv37, Av37, -, -, hC37, -, hne37, st37⟩ := ldcCH (s := s) (vm0 := s.vm) X23 hx hZ hown (tw hw 53 rfl) (own_sa Z a0 hw) rfl hS0 (Nat.zero_le _) (own_EW Z a0 hw) (List.mem_of_getElem? (i := 0) rfl) C31.1 (vs := []) (z := (0 : Int32)) ⟨by decide, by decide⟩ (by decide) rfl (g := (mkF m 33 #[sR a1, sR b1, sI (0 : Int32)] [(.ref b1)])) rfl (hb hby own_d813) (n := 0) (by decide) (by decide) (by decide) (by decide)
  have F38 : Arv Z h37 a1 ka .int (1 : Int32) [(.int x0)] (.int (0 : Int32)) := F27.ext E37
  have F39 : Old Z n0 h37 := F28.ext E37
  have F40 : Exa Z h37 b1 "java/lang/StringBuilder" := Fq23_0.ext E37
  have F41 : Fld Z h37 b1 "java/lang/AbstractStringBuilder" "value" "[B" (.ref xd_23) := Fq23_1.ext E37
  have F42 : Fld Z h37 b1 "java/lang/AbstractStringBuilder" "coder" "B" (.int (0 : Int32)) := Fq23_2.ext E37
  have F43 : Fld Z h37 b1 "java/lang/AbstractStringBuilder" "count" "I" (.int c1) := F35.ext E37
  have F44 : Exa Z h37 xd_23 "[B" := Fq23_4.ext E37
  have F45 : Arv Z h37 xd_23 xk_23 .byte xc_23 (own_B l1) (.int (0 : Int32)) := F34.ext E37
  have K46 : Keep h0 h37 [] := K23.ext E37
  have Z46 : n0 ≤ h37.size := Nat.le_trans Z23 E37.1
  have C47 : CHr Z own_EL s.vm h0 T37.vm h37 := C31.trans hC37
  have sf48 : Safe Z own_EL T37.vm h37 b1 := hC37.safe Fq23_0.lt sf32
  have sf49 : Safe Z own_EL T37.vm h37 xd_23 := hC37.safe Fq23_4.lt sf33
  refine own_go (fun t k => st37 t k) ?_
  show OG m T37 35 #[sR a1, sR b1, sI (0 : Int32)] [(.ref a37), (.ref b1)]
  refine og (XS.goto X37.here hx rfl (pc0 := 35) (pc' := 40) rfl (hb hby own_d814) (by decide) (by decide)) ?_
  show OG m T37 40 #[sR a1, sR b1, sI (0 : Int32)] [(.ref a37), (.ref b1)]
  obtain ⟨cq50, kq50, q50a, q50b, q50c⟩ := isOf hZ37 e37 F40
  obtain ⟨_, _, ⟨T50, L50, k50, n50⟩, -, X50, ⟨Lc50, hQ50, l50, y50, z50⟩, st50⟩ := X37.virtualBack hx (y := (⟨"java/lang/StringBuilder", "append", "(Ljava/lang/String;)Ljava/lang/StringBuilder;"⟩ : MethodName)) (z := (⟨"java/lang/StringBuilder", "append", "(Ljava/lang/String;)Ljava/lang/StringBuilder;"⟩ : MethodName)) hO37 (mvT hZ37 (tw hw 59 rfl)) (mvT hZ37 (tw hw 60 rfl)) (notFace_of_selects (args := #[]) (mvT hZ37 (tw hw 62 rfl))) (mvT hZ37 (tw hw 62 rfl)) (mvT hZ37 (tw hw 61 rfl)) (by decide) (backOf (W := 0) (own_sst l Z a0 hw [] b1 a37 xd_23 xk_23 xc_23 c1 l1 b37 kb37 (0 : Int32) ([] : List Int32) i_COMPACT_STRINGS h37 n0 Z46 F39 S_COMPACT_STRINGS nz_i_COMPACT_STRINGS F40 F41 F42 F43 F44 F45 A37 Fv37 Fc37 Av37 g_b1 g_xd_23 mq23_cb hm1 hq1 (by simp only [List.length_cons, List.length_nil]; omega) ne25 (⟨by decide, by decide⟩) (Ne.symm ((hne37 _ sf49).2))) hZ37 (tw hw 63 rfl) (tw hw 7 rfl) (by decide) (by decide)) q50a q50c (g := (mkF m 40 #[sR a1, sR b1, sI (0 : Int32)] [(.ref a37), (.ref b1)])) rfl (by rw [hml]; rfl) (Steps.refl _) (argsL := [(.ref a37)]) (rest := []) (lenOf own_pd816 rfl) rfl (by show 2 * 0 + _ ≤ _; exact Nat.le_of_eq rfl) (hb hby own_d815) (fun _ _ => ⟨rfl, e37, (by decide : 5 + 1 ≤ _), (by decide : 105 + 74 ≤ _)⟩)
  dsimp only [Pt.U, Pt.locs, Pt.cells, Pt.slots] at X50 l50 y50 z50 st50 hQ50
  subst l50 y50 z50
  obtain ⟨xd_50, xk_50, xc_50, rfl, Nq50, Kq50, Fq50_0, Fq50_1, Fq50_2, Fq50_3, Fq50_4, Fq50_5, mq50_mv, mq50_cb, mq50_cl⟩ := hQ50
  have N50 := Fr.app N23 Nq50
  have ne51 : a1 ≠ xd_50 := own_ne_or mq50_mv ne24 F38.lt
  have ne52 : b1 ≠ xd_50 := own_ne_or mq50_mv ne25 F40.lt
  have g_xd_50 : n0 ≤ xd_50 := own_ge_or mq50_mv g_xd_23 Z46
  have sz_xd_50 : h0.size ≤ xd_50 := own_ge_or mq50_mv sz_xd_23 K46.1
  have sf53 : Safe Z own_EL T37.vm h37 xd_50 := own_safe_or mq50_mv sf49
  have F54 : Arv Z T50.heap a1 ka .int (1 : Int32) [(.int x0)] (.int (0 : Int32)) := F38.keep Kq50 (ninS ne2 (ninS ne24 nin0))
  have F55 : Old Z n0 T50.heap := F39.keep Kq50 (allS g_b1 (allS g_xd_23 all0))
  have F56 : Exa Z T50.heap b1 "java/lang/StringBuilder" := F40.keep Kq50
  have F57 : Exa Z T50.heap xd_23 "[B" := F44.keep Kq50
  have C58 : CHr Z own_EL s.vm h0 T37.vm T50.heap := C47.trans (CHr.keep Kq50 (sfS sf48 (sfS sf49 sf0)) C47.1)
  have sf59 : Safe Z own_EL T37.vm T50.heap b1 := Safe.keep Kq50 (sfS sf48 (sfS sf49 sf0)) C47.1 sf48
  have sf60 : Safe Z own_EL T37.vm T50.heap xd_50 := Safe.keep Kq50 (sfS sf48 (sfS sf49 sf0)) C47.1 sf53
  have K50 : Keep h0 T50.heap [] := K46.trans Kq50 (allS (Or.inr sz_b1) (allS (Or.inr sz_xd_23) all0))
  have Z50 : n0 ≤ T50.heap.size := Nat.le_trans Z46 Kq50.1
  have hk50 : _ ≤ T50.heap.size := Nat.le_trans hk37 Kq50.1
  refine og (st50.trans) ?_
  show OG m T50 43 #[sR a1, sR b1, sI (0 : Int32)] [(.ref b1)]
  obtain ⟨l2, hl2⟩ : ∃ z : List Int32, z = (l1 ++ ([] : List Int32)) := ⟨_, rfl⟩
  have F61 : Arv Z T50.heap xd_50 xk_50 .byte xc_50 (own_B l2) (.int (0 : Int32)) := by rw [hl2]; exact Fq50_5
  obtain ⟨c2, hc2⟩ : ∃ z : Int32, z = (c1 + (0 : Int32)) := ⟨_, rfl⟩
  have F62 : Fld Z T50.heap b1 "java/lang/AbstractStringBuilder" "count" "I" (.int c2) := by rw [hc2]; exact Fq50_3
  have hn2 : (l2.length : Int) = (l1.length : Int) + 0 := by rw [hl2]; simp only [List.length_append, List.length_cons, List.length_nil]; omega
  have hq2 : c2.toInt = (l2.length : Int) := by rw [hc2, hn2]; exact own_cnt hq1 rfl (by omega) (by omega)
  have hu2 : (l2.length : Int) ≤ 1 := by omega
  have hm2 : (l2.length : Int) ≤ xc_50.toInt := by rw [hl2]; exact mq50_cl
  refine og (XS.aloadN X50.here hx rfl (hb hby own_d817) rfl rfl) ?_
  refine og (XS.iloadN X50.here hx rfl (hb hby own_d818) rfl) ?_
  show OG m T50 45 #[sR a1, sR b1, sI (0 : Int32)] [(.int (0 : Int32)), (.ref a1), (.ref b1)]
  have vv63 := F54
  obtain ⟨cl63, Ar63, qk63, Sz63, Nn63, Hs63, Gs63⟩ := vv63
  have hin63 : ¬ ((0 : Int32) < 0 ∨ cl63.slots.size ≤ ((0 : Int32)).toNatClampNeg) := inb_of Sz63 ⟨by decide, by decide⟩
  have hat63 : cl63.slots[((0 : Int32)).toNatClampNeg]? = some (.int x0) := Hs63.at hin63 rfl
  refine own_go (fun t k => (X50.iaload hx (j := (0 : Int32)) (v := (.int x0)) Ar63.1 (State.isArrayOf_alike hZ37.alike Ar63.2.1) Ar63.2.2 hin63 hat63 (g := (mkF m 45 #[sR a1, sR b1, sI (0 : Int32)] [(.int (0 : Int32)), (.ref a1), (.ref b1)])) rfl rfl (hb hby own_d819)) t k) ?_
  show OG m T50 46 #[sR a1, sR b1, sI (0 : Int32)] [(.int x0), (.ref b1)]
  obtain ⟨cq64, kq64, q64a, q64b, q64c⟩ := isOf hZ37 rfl Fq50_0
  obtain ⟨_, _, ⟨T64, L64, k64, n64⟩, -, X64, ⟨Lc64, hQ64, l64, y64, z64⟩, st64⟩ := X50.virtualBack hx (y := (⟨"java/lang/StringBuilder", "append", "(I)Ljava/lang/StringBuilder;"⟩ : MethodName)) (z := (⟨"java/lang/StringBuilder", "append", "(I)Ljava/lang/StringBuilder;"⟩ : MethodName)) hO37 (mvT hZ37 (tw hw 101 rfl)) (mvT hZ37 (tw hw 102 rfl)) (notFace_of_selects (args := #[]) (mvT hZ37 (tw hw 104 rfl))) (mvT hZ37 (tw hw 104 rfl)) (mvT hZ37 (tw hw 103 rfl)) (by decide) (backOf (W := 0) (own_sai l Z a0 hw [] b1 x0 xd_50 xk_50 xc_50 c2 l2 i_COMPACT_STRINGS o_DigitOnes o_DigitTens kc_own_ones kc_own_tens T50.heap n0 Z50 F55 S_COMPACT_STRINGS nz_i_COMPACT_STRINGS S_DigitOnes V_own_ones S_DigitTens V_own_tens Fq50_0 Fq50_1 Fq50_2 F62 Fq50_4 F61 g_b1 g_xd_50 mq50_cb hm2 hq2 (by omega) ne52) hZ37 (tw hw 105 rfl) (tw hw 7 rfl) (by decide) (by decide)) q64a q64c (g := (mkF m 46 #[sR a1, sR b1, sI (0 : Int32)] [(.int x0), (.ref b1)])) rfl (by rw [hml]; rfl) (Steps.refl _) (argsL := [(.int x0)]) (rest := []) (lenOf own_pd821 rfl) rfl (by show 2 * 0 + _ ≤ _; exact Nat.le_of_eq rfl) (hb hby own_d820) (fun _ _ => ⟨rfl, rfl, (by decide : 6 + 1 ≤ _), (by decide : 179 + 74 ≤ _)⟩)
  dsimp only [Pt.U, Pt.locs, Pt.cells, Pt.slots] at X64 l64 y64 z64 st64 hQ64
  subst l64 y64 z64
  obtain ⟨xd_64, xk_64, xc_64, rfl, Nq64, Kq64, Fq64_0, Fq64_1, Fq64_2, Fq64_3, Fq64_4, Fq64_5, mq64_mv, mq64_cb, mq64_cl⟩ := hQ64
  have N64 := Fr.app N50 Nq64
  have ne65 : a1 ≠ xd_64 := own_ne_or mq64_mv ne51 F54.lt
  have ne66 : b1 ≠ xd_64 := own_ne_or mq64_mv ne52 Fq50_0.lt
  have g_xd_64 : n0 ≤ xd_64 := own_ge_or mq64_mv g_xd_50 Z50
  have sz_xd_64 : h0.size ≤ xd_64 := own_ge_or mq64_mv sz_xd_50 K50.1
  have sf67 : Safe Z own_EL T37.vm T50.heap xd_64 := own_safe_or mq64_mv sf60
  have F68 : Arv Z T64.heap a1 ka .int (1 : Int32) [(.int x0)] (.int (0 : Int32)) := F54.keep Kq64 (ninS ne2 (ninS ne51 nin0))
  have F69 : Old Z n0 T64.heap := F55.keep Kq64 (allS g_b1 (allS g_xd_50 all0))
  have F70 : Exa Z T64.heap b1 "java/lang/StringBuilder" := Fq50_0.keep Kq64
  have F71 : Exa Z T64.heap xd_50 "[B" := Fq50_4.keep Kq64
  have C72 : CHr Z own_EL s.vm h0 T37.vm T64.heap := C58.trans (CHr.keep Kq64 (sfS sf59 (sfS sf60 sf0)) C58.1)
  have sf73 : Safe Z own_EL T37.vm T64.heap b1 := Safe.keep Kq64 (sfS sf59 (sfS sf60 sf0)) C58.1 sf59
  have sf74 : Safe Z own_EL T37.vm T64.heap xd_64 := Safe.keep Kq64 (sfS sf59 (sfS sf60 sf0)) C58.1 sf67
  have K64 : Keep h0 T64.heap [] := K50.trans Kq64 (allS (Or.inr sz_b1) (allS (Or.inr sz_xd_50) all0))
  have Z64 : n0 ≤ T64.heap.size := Nat.le_trans Z50 Kq64.1
  have hk64 : _ ≤ T64.heap.size := Nat.le_trans hk50 Kq64.1
  refine og (st64.trans) ?_
  show OG m T64 49 #[sR a1, sR b1, sI (0 : Int32)] [(.ref b1)]
  obtain ⟨l3, hl3⟩ : ∃ z : List Int32, z = (l2 ++ own_txt x0) := ⟨_, rfl⟩
  have F75 : Arv Z T64.heap xd_64 xk_64 .byte xc_64 (own_B l3) (.int (0 : Int32)) := by rw [hl3]; exact Fq64_5
  obtain ⟨c3, hc3⟩ : ∃ z : Int32, z = (c2 + (own_ssz x0)) := ⟨_, rfl⟩
  have F76 : Fld Z T64.heap b1 "java/lang/AbstractStringBuilder" "count" "I" (.int c3) := by rw [hc3]; exact Fq64_3
  have hn3 : (l3.length : Int) = (l2.length : Int) + ((own_txt x0).length : Int) := by rw [hl3]; simp only [List.length_append, List.length_cons, List.length_nil]; omega
  have hq3 : c3.toInt = (l3.length : Int) := by rw [hc3, hn3]; exact own_cnt hq2 (own_ssz_len x0) (by omega) (by omega)
  have hu3 : (l3.length : Int) ≤ 12 := by omega
  have hm3 : (l3.length : Int) ≤ xc_64.toInt := by rw [hl3]; exact mq64_cl
  refine og (XS.pop X64.here hx rfl (hb hby own_d822) rfl rfl) ?_
  show OG m T64 50 #[sR a1, sR b1, sI (0 : Int32)] []
  refine og (XS.iinc X64.here hx rfl (hb hby own_d823) rfl (l' := #[sR a1, sR b1, sI ((0 : Int32) + (1 : Int32))]) rfl) ?_
  rw [show ((0 : Int32) + (1 : Int32)) = (1 : Int32) from by decide]
  show OG m T64 53 #[sR a1, sR b1, sI (1 : Int32)] []
  refine og (XS.goto X64.here hx rfl (pc0 := 53) (pc' := 22) rfl (hb hby own_d824) (by decide) (by decide)) ?_
  refine og (XS.iloadN X64.here hx rfl (hb hby own_d799) rfl) ?_
  show OG m T64 23 #[sR a1, sR b1, sI (1 : Int32)] [(.int (1 : Int32))]
  refine og (XS.aloadN X64.here hx rfl (hb hby own_d800) rfl rfl) ?_
  show OG m T64 24 #[sR a1, sR b1, sI (1 : Int32)] [(.ref a1), (.int (1 : Int32))]
  have vv77 := F68
  obtain ⟨cl77, Ar77, qk77, Sz77, Nn77, Hs77, Gs77⟩ := vv77
  have st77 : ∀ t, Steps p.tables e below (T64.setTop (mkF m 25 #[sR a1, sR b1, sI (1 : Int32)] [(.int (1 : Int32)), (.int (1 : Int32))])) t → Steps p.tables e below (T64.setTop (mkF m 24 #[sR a1, sR b1, sI (1 : Int32)] [(.ref a1), (.int (1 : Int32))])) t := fun t k => by
    refine X64.arraylength hx Ar77.1 (State.isArrayOf_alike hZ37.alike Ar77.2.1) (g := (mkF m 24 #[sR a1, sR b1, sI (1 : Int32)] [(.ref a1), (.int (1 : Int32))])) rfl rfl (hb hby own_d801) _ ?_
    rw [len_of Sz77 Nn77]
    exact k
  refine own_go (fun t k => st77 t k) ?_
  show OG m T64 25 #[sR a1, sR b1, sI (1 : Int32)] [(.int (1 : Int32)), (.int (1 : Int32))]
  refine og (XS.icmpYes X64.here hx rfl (pc0 := 25) (pc' := 56) rfl (hb hby own_d802) rfl (flt (by decide : ¬ ((1 : Int32) < (1 : Int32)))).2.1 (by decide) (by decide)) ?_
  refine og (XS.aloadN X64.here hx rfl (hb hby own_d803) rfl rfl) ?_
  show OG m T64 57 #[sR a1, sR b1, sI (1 : Int32)] [(.ref b1)]
  refine og (XS.bipush X64.here hx rfl (hb hby own_d804)) ?_
  show OG m T64 59 #[sR a1, sR b1, sI (1 : Int32)] [(.int (125 : Int32)), (.ref b1)]
  obtain ⟨cq78, kq78, q78a, q78b, q78c⟩ := isOf hZ37 rfl Fq64_0
  obtain ⟨_, _, ⟨T78, L78, k78, n78⟩, -, X78, ⟨Lc78, hQ78, l78, y78, z78⟩, st78⟩ := X64.virtualBack hx (y := (⟨"java/lang/StringBuilder", "append", "(C)Ljava/lang/StringBuilder;"⟩ : MethodName)) (z := (⟨"java/lang/StringBuilder", "append", "(C)Ljava/lang/StringBuilder;"⟩ : MethodName)) hO37 (mvT hZ37 (tw hw 27 rfl)) (mvT hZ37 (tw hw 28 rfl)) (notFace_of_selects (args := #[]) (mvT hZ37 (tw hw 30 rfl))) (mvT hZ37 (tw hw 30 rfl)) (mvT hZ37 (tw hw 29 rfl)) (by decide) (backOf (W := 0) (own_sc l Z a0 hw [] b1 (125 : Int32) xd_64 xk_64 xc_64 c3 l3 i_COMPACT_STRINGS T64.heap n0 Z64 F69 S_COMPACT_STRINGS nz_i_COMPACT_STRINGS Fq64_0 Fq64_1 Fq64_2 F76 Fq64_4 F75 g_b1 g_xd_64 mq64_cb hm3 hq3 (by omega) ne66 (by decide) (by decide)) hZ37 (tw hw 31 rfl) (tw hw 7 rfl) (by decide) (by decide)) q78a q78c (g := (mkF m 59 #[sR a1, sR b1, sI (1 : Int32)] [(.int (125 : Int32)), (.ref b1)])) rfl (by rw [hml]; rfl) (Steps.refl _) (argsL := [(.int (125 : Int32))]) (rest := []) (lenOf own_pd795 rfl) rfl (by show 2 * 0 + _ ≤ _; exact Nat.le_of_eq rfl) (hb hby own_d805) (fun _ _ => ⟨rfl, rfl, (by decide : 7 + 1 ≤ _), (by decide : 253 + 74 ≤ _)⟩)
  dsimp only [Pt.U, Pt.locs, Pt.cells, Pt.slots] at X78 l78 y78 z78 st78 hQ78
  subst l78 y78 z78
  obtain ⟨xd_78, xk_78, xc_78, rfl, Nq78, Kq78, Fq78_0, Fq78_1, Fq78_2, Fq78_3, Fq78_4, Fq78_5, mq78_mv, mq78_cb, mq78_cl⟩ := hQ78
  have N78 := Fr.app N64 Nq78
  have ne79 : a1 ≠ xd_78 := own_ne_or mq78_mv ne65 F68.lt
  have ne80 : b1 ≠ xd_78 := own_ne_or mq78_mv ne66 Fq64_0.lt
  have g_xd_78 : n0 ≤ xd_78 := own_ge_or mq78_mv g_xd_64 Z64
  have sz_xd_78 : h0.size ≤ xd_78 := own_ge_or mq78_mv sz_xd_64 K64.1
  have sf81 : Safe Z own_EL T37.vm T64.heap xd_78 := own_safe_or mq78_mv sf74
  have F82 : Arv Z T78.heap a1 ka .int (1 : Int32) [(.int x0)] (.int (0 : Int32)) := F68.keep Kq78 (ninS ne2 (ninS ne65 nin0))
  have F83 : Old Z n0 T78.heap := F69.keep Kq78 (allS g_b1 (allS g_xd_64 all0))
  have F84 : Exa Z T78.heap b1 "java/lang/StringBuilder" := Fq64_0.keep Kq78
  have F85 : Exa Z T78.heap xd_64 "[B" := Fq64_4.keep Kq78
  have C86 : CHr Z own_EL s.vm h0 T37.vm T78.heap := C72.trans (CHr.keep Kq78 (sfS sf73 (sfS sf74 sf0)) C72.1)
  have sf87 : Safe Z own_EL T37.vm T78.heap b1 := Safe.keep Kq78 (sfS sf73 (sfS sf74 sf0)) C72.1 sf73
  have sf88 : Safe Z own_EL T37.vm T78.heap xd_78 := Safe.keep Kq78 (sfS sf73 (sfS sf74 sf0)) C72.1 sf81
  have K78 : Keep h0 T78.heap [] := K64.trans Kq78 (allS (Or.inr sz_b1) (allS (Or.inr sz_xd_64) all0))
  have Z78 : n0 ≤ T78.heap.size := Nat.le_trans Z64 Kq78.1
  have hk78 : _ ≤ T78.heap.size := Nat.le_trans hk64 Kq78.1
  refine og (st78.trans) ?_
  show OG m T78 62 #[sR a1, sR b1, sI (1 : Int32)] [(.ref b1)]
  obtain ⟨l4, hl4⟩ : ∃ z : List Int32, z = (l3 ++ [(125 : Int32)]) := ⟨_, rfl⟩
  have F89 : Arv Z T78.heap xd_78 xk_78 .byte xc_78 (own_B l4) (.int (0 : Int32)) := by rw [hl4]; exact Fq78_5
  obtain ⟨c4, hc4⟩ : ∃ z : Int32, z = (c3 + (1 : Int32)) := ⟨_, rfl⟩
  have F90 : Fld Z T78.heap b1 "java/lang/AbstractStringBuilder" "count" "I" (.int c4) := by rw [hc4]; exact Fq78_3
  have hn4 : (l4.length : Int) = (l3.length : Int) + 1 := by rw [hl4]; simp only [List.length_append, List.length_cons, List.length_nil]; omega
  have hq4 : c4.toInt = (l4.length : Int) := by rw [hc4, hn4]; exact own_cnt hq3 rfl (by omega) (by omega)
  have hu4 : (l4.length : Int) ≤ 13 := by omega
  have hm4 : (l4.length : Int) ≤ xc_78.toInt := by rw [hl4]; exact mq78_cl
  obtain ⟨cq91, kq91, q91a, q91b, q91c⟩ := isOf hZ37 rfl Fq78_0
  obtain ⟨_, _, ⟨T91, L91, k91, n91⟩, -, X91, ⟨Lc91, hQ91, l91, y91, z91⟩, st91⟩ := X78.virtualBack hx (y := (⟨"java/lang/StringBuilder", "toString", "()Ljava/lang/String;"⟩ : MethodName)) (z := (⟨"java/lang/StringBuilder", "toString", "()Ljava/lang/String;"⟩ : MethodName)) hO37 (mvT hZ37 (tw hw 118 rfl)) (mvT hZ37 (tw hw 119 rfl)) (notFace_of_selects (args := #[]) (mvT hZ37 (tw hw 121 rfl))) (mvT hZ37 (tw hw 121 rfl)) (mvT hZ37 (tw hw 120 rfl)) (by decide) (backOf (W := 0) (own_ts l Z a0 hw [] b1 xd_78 xk_78 xc_78 c4 l4 i_COMPACT_STRINGS T78.heap n0 Z78 F83 S_COMPACT_STRINGS nz_i_COMPACT_STRINGS Fq78_0 Fq78_1 Fq78_2 F90 Fq78_4 F89 mq78_cb hm4 hq4) hZ37 (tw hw 122 rfl) (tw hw 7 rfl) (by decide) (by decide)) q91a q91c (g := (mkF m 62 #[sR a1, sR b1, sI (1 : Int32)] [(.ref b1)])) rfl (by rw [hml]; rfl) (Steps.refl _) (argsL := []) (rest := []) (lenOf own_pd807 rfl) rfl (by show 2 * 0 + _ ≤ _; exact Nat.le_of_eq rfl) (hb hby own_d806) (fun _ _ => ⟨rfl, rfl, (by decide : 8 + 2 ≤ _), (by decide : 327 + 78 ≤ _)⟩)
  dsimp only [Pt.U, Pt.locs, Pt.cells, Pt.slots] at X91 l91 y91 z91 st91 hQ91
  subst l91 y91 z91
  obtain ⟨xs_91, xd_91, xk_91, rfl, Nq91, Kq91, Fq91_0, Fq91_1, Fq91_2, Fq91_3, mq91_fs, mq91_fd⟩ := hQ91
  have N91 := Fr.app N78 Nq91
  have ne92 : a1 ≠ xs_91 := Nat.ne_of_lt (Nat.lt_of_lt_of_le F82.lt mq91_fs)
  have ne93 : b1 ≠ xs_91 := Nat.ne_of_lt (Nat.lt_of_lt_of_le Fq78_0.lt mq91_fs)
  have ne94 : xd_78 ≠ xs_91 := Nat.ne_of_lt (Nat.lt_of_lt_of_le Fq78_4.lt mq91_fs)
  have g_xs_91 : n0 ≤ xs_91 := Nat.le_trans Z78 mq91_fs
  have sz_xs_91 : h0.size ≤ xs_91 := Nat.le_trans K78.1 mq91_fs
  have ne95 : a1 ≠ xd_91 := Nat.ne_of_lt (Nat.lt_of_lt_of_le F82.lt mq91_fd)
  have ne96 : b1 ≠ xd_91 := Nat.ne_of_lt (Nat.lt_of_lt_of_le Fq78_0.lt mq91_fd)
  have ne97 : xd_78 ≠ xd_91 := Nat.ne_of_lt (Nat.lt_of_lt_of_le Fq78_4.lt mq91_fd)
  have g_xd_91 : n0 ≤ xd_91 := Nat.le_trans Z78 mq91_fd
  have sz_xd_91 : h0.size ≤ xd_91 := Nat.le_trans K78.1 mq91_fd
  have sf98 : Safe Z own_EL T37.vm T78.heap xs_91 := Safe.new mq91_fs
  have sf99 : Safe Z own_EL T37.vm T78.heap xd_91 := Safe.new mq91_fd
  have F100 : Arv Z T91.heap a1 ka .int (1 : Int32) [(.int x0)] (.int (0 : Int32)) := F82.keep Kq91 nin0
  have F101 : Old Z n0 T91.heap := F83.keep Kq91 all0
  have F102 : Exa Z T91.heap b1 "java/lang/StringBuilder" := Fq78_0.keep Kq91
  have F103 : Fld Z T91.heap b1 "java/lang/AbstractStringBuilder" "value" "[B" (.ref xd_78) := Fq78_1.keep Kq91 nin0
  have F104 : Fld Z T91.heap b1 "java/lang/AbstractStringBuilder" "coder" "B" (.int (0 : Int32)) := Fq78_2.keep Kq91 nin0
  have F105 : Fld Z T91.heap b1 "java/lang/AbstractStringBuilder" "count" "I" (.int c4) := F90.keep Kq91 nin0
  have F106 : Exa Z T91.heap xd_78 "[B" := Fq78_4.keep Kq91
  have F107 : Arv Z T91.heap xd_78 xk_78 .byte xc_78 (own_B l4) (.int (0 : Int32)) := F89.keep Kq91 nin0
  have C108 : CHr Z own_EL s.vm h0 T37.vm T91.heap := C86.trans (CHr.keep Kq91 sf0 C86.1)
  have sf109 : Safe Z own_EL T37.vm T91.heap b1 := Safe.keep Kq91 sf0 C86.1 sf87
  have sf110 : Safe Z own_EL T37.vm T91.heap xd_78 := Safe.keep Kq91 sf0 C86.1 sf88
  have sf111 : Safe Z own_EL T37.vm T91.heap xs_91 := Safe.keep Kq91 sf0 C86.1 sf98
  have sf112 : Safe Z own_EL T37.vm T91.heap xd_91 := Safe.keep Kq91 sf0 C86.1 sf99
  have K91 : Keep h0 T91.heap [] := K78.trans Kq91 all0
  have Z91 : n0 ≤ T91.heap.size := Nat.le_trans Z78 Kq91.1
  have hk91 : _ ≤ T91.heap.size := Nat.le_trans hk78 Kq91.1
  refine og (st91.trans) ?_
  show OG m T91 65 #[sR a1, sR b1, sI (1 : Int32)] [(.ref xs_91)]
  have hT : l4 = (([(123 : Int32)] ++ own_txt x0) ++ [(125 : Int32)]) := by rw [hl4, hl3, hl2, hl1]; simp only [List.nil_append, List.append_nil]
  have F113 : Arv Z T91.heap xd_91 xk_91 .byte c4 (own_B (([(123 : Int32)] ++ own_txt x0) ++ [(125 : Int32)])) (.int (0 : Int32)) := by rw [← hT]; exact Fq91_3
  obtain ⟨fs, hr, hrun, hended, ⟨-, hW2, hW3, hsame⟩⟩ := Jvm.Stand.leaveW (s := s) (vm₁ := T37.vm) X91 S37 (show _ ≤ T91.heap.size from hk91) (v := some (.ref xs_91)) (fun h => by rw [Bd.returns] at h; cases h)
  have hlast : Steps p.tables e below (T91.setTop (mkF m 65 #[sR a1, sR b1, sI (1 : Int32)] [(.ref xs_91)])) (T91.setFrames fs) := by
    exact retOut X91 hx (t := (.object "java/lang/String")) Bd.returns rfl (Or.inr (Or.inr (Or.inr (Or.inr ⟨rfl, rfl, rfl⟩)))) (hb hby own_d808) hr
  refine ⟨_, _, hlast, hrun, hended, _, _, rfl, ?_, by show CHr Z own_EL s.vm s.heap T91.vm T91.heap; rw [hh]; exact C108.trans (CHv.at X91 hZ37 (own_EW Z a0 hw) C108.1), ⟨_, rfl⟩, hW2, hW3, hsame.mono (by decide) (by decide)⟩
  show Q_own_num1 Z a1 ka x0 i_COMPACT_STRINGS o_DigitOnes o_DigitTens kc_own_ones kc_own_tens h0 n0 _ T91.heap _
  exact ⟨xs_91, xd_91, xk_91, c4, rfl, N91, K91, Fq91_0, Fq91_1, Fq91_2, F113, by rw [← hT]; exact hq4⟩
theorem own_ef825 (m : MethodId) (a1 : Addr) : entryFrame m #[(.ref a1)] 3 = mkF m 0 #[sR a1, sU, sU] [] := by first | (simp [entryFrame, mkF, argsToLocals, Value.category]; done) | rfl
theorem own_d826 : decode prog_18_method_8_code 38 = .ok (.ldc 98, 2) := by decide +kernel
def Q_own_num2 (Z : State) (a1 : Addr) (ka : ClassId) (x0 : Int32) (x1 : Int32) (i_COMPACT_STRINGS : Int32) (o_DigitOnes : Addr) (o_DigitTens : Addr) (kc_own_ones : ClassId) (kc_own_tens : ClassId) (h0 : Heap) (n0 : Nat) (v : Option Value) (h : Heap) (L : List Loc) : Prop := ∃ xs : Addr, ∃ xd : Addr, ∃ xk : ClassId, ∃ xl : Int32, v = some (.ref xs) ∧ Fr n0 L ∧ Keep h0 h [] ∧ Exa Z h xs "java/lang/String" ∧ Fld Z h xs "java/lang/String" "value" "[B" (.ref xd) ∧ Fld Z h xs "java/lang/String" "coder" "B" (.int (0 : Int32)) ∧ Arv Z h xd xk .byte xl (own_B (((([(123 : Int32)] ++ own_txt x0) ++ [(44 : Int32)]) ++ own_txt x1) ++ [(125 : Int32)])) (.int (0 : Int32)) ∧ (xl.toInt = ((((([(123 : Int32)] ++ own_txt x0) ++ [(44 : Int32)]) ++ own_txt x1) ++ [(125 : Int32)]).length : Int))
set_option maxRecDepth 65536 in
set_option maxHeartbeats 40000000 in
theorem own_num2 (l : Launch) (Z : State) (a0 : Array Value) (hw : ∀ d ∈ tables_1, d.before a0 Z = true) (ws : List Jvm.Cond) (a1 : Addr) (ka : ClassId) (x0 : Int32) (x1 : Int32) (i_COMPACT_STRINGS : Int32) (o_DigitOnes : Addr) (o_DigitTens : Addr) (kc_own_ones : ClassId) (kc_own_tens : ClassId) (h0 : Heap) (n0 : Nat) (Z0 : n0 ≤ h0.size) (O0 : Old Z n0 h0) (S_COMPACT_STRINGS : Sta Z Z.heap "java/lang/String" "COMPACT_STRINGS" "Z" (.int i_COMPACT_STRINGS)) (nz_i_COMPACT_STRINGS : i_COMPACT_STRINGS ≠ (0 : Int32)) (S_DigitOnes : Sta Z Z.heap "java/lang/Integer" "DigitOnes" "[B" (.ref o_DigitOnes)) (V_own_ones : Arv Z Z.heap o_DigitOnes kc_own_ones .byte (100 : Int32) (own_B own_ones) (.int (0 : Int32))) (S_DigitTens : Sta Z Z.heap "java/lang/Integer" "DigitTens" "[B" (.ref o_DigitTens)) (V_own_tens : Arv Z Z.heap o_DigitTens kc_own_tens .byte (100 : Int32) (own_B own_tens) (.int (0 : Int32))) (f0_0 : Arv Z h0 a1 ka .int (2 : Int32) [(.int x0), (.int x1)] (.int (0 : Int32))) :
    MetFree l (⟨"standwatch/query/Arguments", "numbers", "([I)Ljava/lang/String;"⟩ : MethodName) (head1 (Jvm.Cond.code (⟨"standwatch/query/Arguments", "numbers", "([I)Ljava/lang/String;"⟩ : MethodName) prog_18_method_8_code 3 (some (.object "java/lang/String")) :: ws) ({ frames := 6, cells := 14, slots := 561, locals := 91 } : Room)) (fun a U => a = #[(.ref a1)] ∧ Z.Warmed39 U.vm ∧ U.heap = h0 ∧ CHv Z own_EL U.vm h0) (fun _ _ _ _ _ => True) (fun _ U o U' => ∃ v L, o = .returned v ∧ Q_own_num2 Z a1 ka x0 x1 i_COMPACT_STRINGS o_DigitOnes o_DigitTens kc_own_ones kc_own_tens h0 n0 v U'.heap L ∧ CHr Z own_EL U.vm U.heap U'.vm U'.heap ∧ ReturnedEndW U o U' L ({ frames := 6, cells := 14, slots := 561, locals := 91 } : Room).cells ({ frames := 6, cells := 14, slots := 561, locals := 91 } : Room).slots) := by
  refine MetFree.of_bodySF (plainFor_of_name own_pn783) hisR ?_
  intro p e s m args below meth c s₁ Bd hml0 hP hK
  obtain ⟨rfl, hZ, hh, hH⟩ := hP
  have hx := Bd.exec
  have hby := Bd.bytes
  have hml : c.maxLocals = 3 := hml0
  have hown : s.vm.findClass "standwatch/query/Arguments" = some m.cls := findClass_of_methodNamed Bd.named
  have hnm := (name_of_methodNamed Bd.named Bd.method).1
  have X0 : Stand p l e ({ frames := 6, cells := 14, slots := 561, locals := 91 } : Room) s m #[(.ref a1)] below meth c s₁ [] 0 0 := Stand.of_body Bd
  have e0 : s₁.heap = h0 := by rw [← hh, Bd.state]; rfl
  have N0 := Fr.nil n0
  have K0 := Keep.refl h0 []
  refine own_go (fun t k => castTop (own_ef825 m a1) k) ?_
  show OG m s₁ 0 #[sR a1, sU, sU] []
  have hS0 : s.Since s.vm 0 := (State.WarmedH.refl s).since 0
  have C0 : CHr Z own_EL s.vm h0 s.vm h0 := CHr.refl hH
  obtain ⟨T1, h1, X1, e1, E1, A1, D1, -, st1⟩ := newO X0 hx hZ hown (tw hw 5 rfl) (tw hw 6 rfl) (tw hw 7 rfl) e0 (g := (mkF m 0 #[sR a1, sU, sU] [])) rfl (hb hby own_d784) (by decide) (by decide)
  obtain ⟨b1, g1⟩ : ∃ z, z = h0.size := ⟨_, rfl⟩
  rw [← g1] at A1 D1 st1
  have ne2 : a1 ≠ b1 := Nat.ne_of_lt (Nat.lt_of_lt_of_le f0_0.lt (Nat.le_of_eq g1.symm))
  have g_b1 : n0 ≤ b1 := Nat.le_trans Z0 (Nat.le_of_eq g1.symm)
  have sz_b1 : h0.size ≤ b1 := Nat.le_trans K0.1 (Nat.le_of_eq g1.symm)
  have sf3 : Safe Z own_EL s.vm h0 b1 := Safe.new (Nat.le_of_eq g1.symm)
  have F4 : Arv Z h1 a1 ka .int (2 : Int32) [(.int x0), (.int x1)] (.int (0 : Int32)) := f0_0.ext E1
  have F5 : Old Z n0 h1 := O0.ext E1
  have K6 : Keep h0 h1 [] := K0.ext E1
  have Z6 : n0 ≤ h1.size := Nat.le_trans Z0 E1.1
  have C7 : CHr Z own_EL s.vm h0 s.vm h1 := C0.trans (CHr.ext E1 C0.1)
  have sf8 : Safe Z own_EL s.vm h1 b1 := Safe.ext E1 C0.1 sf3
  have F9 : Fld Z h1 b1 "java/lang/AbstractStringBuilder" "value" "[B" .null := D1 (Or.inl (tw hw 24 rfl)) (ty := (.array .byte)) (by decide)
  have F10 : Fld Z h1 b1 "java/lang/AbstractStringBuilder" "coder" "B" (.int (0 : Int32)) := D1 (Or.inl (tw hw 26 rfl)) (ty := .byte) (by decide)
  have F11 : Fld Z h1 b1 "java/lang/AbstractStringBuilder" "count" "I" (.int (0 : Int32)) := D1 (Or.inl (tw hw 38 rfl)) (ty := .int) (by decide)
  refine own_go (fun t k => st1 t k) ?_
  show OG m T1 3 #[sR a1, sU, sU] [(.ref b1)]
  refine og (XS.dup X1.here hx rfl (hb hby own_d785) rfl rfl) ?_
  refine og (XS.aloadN X1.here hx rfl (hb hby own_d786) rfl rfl) ?_
  show OG m T1 5 #[sR a1, sU, sU] [(.ref a1), (.ref b1), (.ref b1)]
  have vv12 := F4
  obtain ⟨cl12, Ar12, qk12, Sz12, Nn12, Hs12, Gs12⟩ := vv12
  have st12 : ∀ t, Steps p.tables e below (T1.setTop (mkF m 6 #[sR a1, sU, sU] [(.int (2 : Int32)), (.ref b1), (.ref b1)])) t → Steps p.tables e below (T1.setTop (mkF m 5 #[sR a1, sU, sU] [(.ref a1), (.ref b1), (.ref b1)])) t := fun t k => by
    refine X1.arraylength hx (by rw [e1]; exact Ar12.1) (State.isArrayOf_alike hZ.alike Ar12.2.1) (g := (mkF m 5 #[sR a1, sU, sU] [(.ref a1), (.ref b1), (.ref b1)])) rfl rfl (hb hby own_d787) _ ?_
    rw [len_of Sz12 Nn12]
    exact k
  refine own_go (fun t k => st12 t k) ?_
  show OG m T1 6 #[sR a1, sU, sU] [(.int (2 : Int32)), (.ref b1), (.ref b1)]
  refine og (XS.bipush X1.here hx rfl (hb hby own_d788)) ?_
  show OG m T1 8 #[sR a1, sU, sU] [(.int (7 : Int32)), (.int (2 : Int32)), (.ref b1), (.ref b1)]
  refine og (XS.imul X1.here hx rfl (hb hby own_d789) rfl) ?_
  refine og (XS.iconst X1.here hx rfl (hb hby own_d790)) ?_
  show OG m T1 10 #[sR a1, sU, sU] [(.int (2 : Int32)), (.int ((2 : Int32) * (7 : Int32))), (.ref b1), (.ref b1)]
  refine og (XS.iadd X1.here hx rfl (hb hby own_d791) rfl) ?_
  show OG m T1 11 #[sR a1, sU, sU] [(.int (((2 : Int32) * (7 : Int32)) + (2 : Int32))), (.ref b1), (.ref b1)]
  rw [show (((2 : Int32) * (7 : Int32)) + (2 : Int32)) = (16 : Int32) from by decide]
  show OG m T1 11 #[sR a1, sU, sU] [(.int (16 : Int32)), (.ref b1), (.ref b1)]
  obtain ⟨_, _, ⟨T13, L13, k13, n13⟩, -, X13, ⟨Lc13, hQ13, l13, y13, z13⟩, st13⟩ := X1.specialBack hx (y := (⟨"java/lang/StringBuilder", "<init>", "(I)V"⟩ : MethodName)) rfl hown (mvT hZ (tw hw 8 rfl)) (mvT hZ (tw hw 9 rfl)) (mvT hZ (tw hw 10 rfl)) (by decide) (backOf (W := 1) (own_si l Z a0 hw [] b1 (16 : Int32) i_COMPACT_STRINGS h1 n0 Z6 F5 S_COMPACT_STRINGS nz_i_COMPACT_STRINGS A1 F9 F10 F11 g_b1 (by decide) (by decide)) hZ (tw hw 10 rfl) (tw hw 7 rfl) (by decide) (by decide)) (g := (mkF m 11 #[sR a1, sU, sU] [(.int (16 : Int32)), (.ref b1), (.ref b1)])) rfl (by rw [hml]; rfl) (Steps.refl _) (a := b1) (argsL := [(.int (16 : Int32))]) (rest := [(.ref b1)]) (lenOf own_pd20 rfl) rfl (by show 2 * 0 + _ ≤ _; exact Nat.le_of_eq rfl) (hb hby own_d792) (fun _ _ => ⟨rfl, e1, (by decide : 1 + 1 ≤ _), (by decide : 4 + 23 ≤ _)⟩)
  dsimp only [Pt.U, Pt.locs, Pt.cells, Pt.slots] at X13 l13 y13 z13 st13 hQ13
  subst l13 y13 z13
  obtain ⟨xd_13, xk_13, rfl, Nq13, Kq13, Fq13_0, Fq13_1, Fq13_2, Fq13_3, Fq13_4, Fq13_5, mq13_fd⟩ := hQ13
  have N13 := Fr.app N0 Nq13
  have ne14 : a1 ≠ xd_13 := Nat.ne_of_lt (Nat.lt_of_lt_of_le F4.lt mq13_fd)
  have ne15 : b1 ≠ xd_13 := Nat.ne_of_lt (Nat.lt_of_lt_of_le A1.lt mq13_fd)
  have g_xd_13 : n0 ≤ xd_13 := Nat.le_trans Z6 mq13_fd
  have sz_xd_13 : h0.size ≤ xd_13 := Nat.le_trans K6.1 mq13_fd
  have sf16 : Safe Z own_EL s.vm h1 xd_13 := Safe.new mq13_fd
  have F17 : Arv Z T13.heap a1 ka .int (2 : Int32) [(.int x0), (.int x1)] (.int (0 : Int32)) := F4.keep Kq13 (ninS ne2 nin0)
  have F18 : Old Z n0 T13.heap := F5.keep Kq13 (allS g_b1 all0)
  have F19 : Exa Z T13.heap b1 "java/lang/StringBuilder" := A1.keep Kq13
  have C20 : CHr Z own_EL s.vm h0 s.vm T13.heap := C7.trans (CHr.keep Kq13 (sfS sf8 sf0) C7.1)
  have sf21 : Safe Z own_EL s.vm T13.heap b1 := Safe.keep Kq13 (sfS sf8 sf0) C7.1 sf8
  have sf22 : Safe Z own_EL s.vm T13.heap xd_13 := Safe.keep Kq13 (sfS sf8 sf0) C7.1 sf16
  have K13 : Keep h0 T13.heap [] := K6.trans Kq13 (allS (Or.inr sz_b1) all0)
  have Z13 : n0 ≤ T13.heap.size := Nat.le_trans Z6 Kq13.1
  refine og (st13.trans) ?_
  show OG m T13 14 #[sR a1, sU, sU] [(.ref b1)]
  have hx0 := own_txt_rng x0
  have hx1 := own_txt_rng x1
  refine og (XS.bipush X13.here hx rfl (hb hby own_d793)) ?_
  show OG m T13 16 #[sR a1, sU, sU] [(.int (123 : Int32)), (.ref b1)]
  obtain ⟨cq23, kq23, q23a, q23b, q23c⟩ := isOf hZ rfl Fq13_0
  obtain ⟨_, _, ⟨T23, L23, k23, n23⟩, -, X23, ⟨Lc23, hQ23, l23, y23, z23⟩, st23⟩ := X13.virtualBack hx (y := (⟨"java/lang/StringBuilder", "append", "(C)Ljava/lang/StringBuilder;"⟩ : MethodName)) (z := (⟨"java/lang/StringBuilder", "append", "(C)Ljava/lang/StringBuilder;"⟩ : MethodName)) hown (mvT hZ (tw hw 27 rfl)) (mvT hZ (tw hw 28 rfl)) (notFace_of_selects (args := #[]) (mvT hZ (tw hw 30 rfl))) (mvT hZ (tw hw 30 rfl)) (mvT hZ (tw hw 29 rfl)) (by decide) (backOf (W := 0) (own_sc l Z a0 hw [] b1 (123 : Int32) xd_13 xk_13 (16 : Int32) (0 : Int32) ([]) i_COMPACT_STRINGS T13.heap n0 Z13 F18 S_COMPACT_STRINGS nz_i_COMPACT_STRINGS Fq13_0 Fq13_1 Fq13_2 Fq13_3 Fq13_4 Fq13_5 g_b1 g_xd_13 (⟨by decide, by decide⟩) (by decide) rfl (by decide) ne15 (by decide) (by decide)) hZ (tw hw 31 rfl) (tw hw 7 rfl) (by decide) (by decide)) q23a q23c (g := (mkF m 16 #[sR a1, sU, sU] [(.int (123 : Int32)), (.ref b1)])) rfl (by rw [hml]; rfl) (Steps.refl _) (argsL := [(.int (123 : Int32))]) (rest := []) (lenOf own_pd795 rfl) rfl (by show 2 * 0 + _ ≤ _; exact Nat.le_of_eq rfl) (hb hby own_d794) (fun _ _ => ⟨rfl, rfl, (by decide : 2 + 1 ≤ _), (by decide : 27 + 74 ≤ _)⟩)
  dsimp only [Pt.U, Pt.locs, Pt.cells, Pt.slots] at X23 l23 y23 z23 st23 hQ23
  subst l23 y23 z23
  obtain ⟨xd_23, xk_23, xc_23, rfl, Nq23, Kq23, Fq23_0, Fq23_1, Fq23_2, Fq23_3, Fq23_4, Fq23_5, mq23_mv, mq23_cb, mq23_cl⟩ := hQ23
  have N23 := Fr.app N13 Nq23
  have ne24 : a1 ≠ xd_23 := own_ne_or mq23_mv ne14 F17.lt
  have ne25 : b1 ≠ xd_23 := own_ne_or mq23_mv ne15 Fq13_0.lt
  have g_xd_23 : n0 ≤ xd_23 := own_ge_or mq23_mv g_xd_13 Z13
  have sz_xd_23 : h0.size ≤ xd_23 := own_ge_or mq23_mv sz_xd_13 K13.1
  have sf26 : Safe Z own_EL s.vm T13.heap xd_23 := own_safe_or mq23_mv sf22
  have F27 : Arv Z T23.heap a1 ka .int (2 : Int32) [(.int x0), (.int x1)] (.int (0 : Int32)) := F17.keep Kq23 (ninS ne2 (ninS ne14 nin0))
  have F28 : Old Z n0 T23.heap := F18.keep Kq23 (allS g_b1 (allS g_xd_13 all0))
  have F29 : Exa Z T23.heap b1 "java/lang/StringBuilder" := Fq13_0.keep Kq23
  have F30 : Exa Z T23.heap xd_13 "[B" := Fq13_4.keep Kq23
  have C31 : CHr Z own_EL s.vm h0 s.vm T23.heap := C20.trans (CHr.keep Kq23 (sfS sf21 (sfS sf22 sf0)) C20.1)
  have sf32 : Safe Z own_EL s.vm T23.heap b1 := Safe.keep Kq23 (sfS sf21 (sfS sf22 sf0)) C20.1 sf21
  have sf33 : Safe Z own_EL s.vm T23.heap xd_23 := Safe.keep Kq23 (sfS sf21 (sfS sf22 sf0)) C20.1 sf26
  have K23 : Keep h0 T23.heap [] := K13.trans Kq23 (allS (Or.inr sz_b1) (allS (Or.inr sz_xd_13) all0))
  have Z23 : n0 ≤ T23.heap.size := Nat.le_trans Z13 Kq23.1
  refine og (st23.trans) ?_
  show OG m T23 19 #[sR a1, sU, sU] [(.ref b1)]
  obtain ⟨l1, hl1⟩ : ∃ z : List Int32, z = (([] : List Int32) ++ [(123 : Int32)]) := ⟨_, rfl⟩
  have F34 : Arv Z T23.heap xd_23 xk_23 .byte xc_23 (own_B l1) (.int (0 : Int32)) := by rw [hl1]; exact Fq23_5
  obtain ⟨c1, hc1⟩ : ∃ z : Int32, z = ((0 : Int32) + (1 : Int32)) := ⟨_, rfl⟩
  have F35 : Fld Z T23.heap b1 "java/lang/AbstractStringBuilder" "count" "I" (.int c1) := by rw [hc1]; exact Fq23_3
  have hn1 : (l1.length : Int) = 0 + 1 := by rw [hl1]; simp only [List.length_append, List.length_cons, List.length_nil]; omega
  have hq1 : c1.toInt = (l1.length : Int) := by rw [hc1, hn1]; exact own_cnt rfl rfl (by omega) (by omega)
  have hu1 : (l1.length : Int) ≤ 1 := by omega
  have hm1 : (l1.length : Int) ≤ xc_23.toInt := by rw [hl1]; exact mq23_cl
  refine og (XS.astoreN X23.here hx rfl (hb hby own_d796) rfl rfl (l' := #[sR a1, sR b1, sU]) rfl) ?_
  refine og (XS.iconst X23.here hx rfl (hb hby own_d797)) ?_
  show OG m T23 21 #[sR a1, sR b1, sU] [(.int (0 : Int32))]
  refine og (XS.istoreN X23.here hx rfl (hb hby own_d798) rfl (l' := #[sR a1, sR b1, sI (0 : Int32)]) rfl) ?_
  refine og (XS.iloadN X23.here hx rfl (hb hby own_d799) rfl) ?_
  show OG m T23 23 #[sR a1, sR b1, sI (0 : Int32)] [(.int (0 : Int32))]
  refine og (XS.aloadN X23.here hx rfl (hb hby own_d800) rfl rfl) ?_
  show OG m T23 24 #[sR a1, sR b1, sI (0 : Int32)] [(.ref a1), (.int (0 : Int32))]
  have vv36 := F27
  obtain ⟨cl36, Ar36, qk36, Sz36, Nn36, Hs36, Gs36⟩ := vv36
  have st36 : ∀ t, Steps p.tables e below (T23.setTop (mkF m 25 #[sR a1, sR b1, sI (0 : Int32)] [(.int (2 : Int32)), (.int (0 : Int32))])) t → Steps p.tables e below (T23.setTop (mkF m 24 #[sR a1, sR b1, sI (0 : Int32)] [(.ref a1), (.int (0 : Int32))])) t := fun t k => by
    refine X23.arraylength hx Ar36.1 (State.isArrayOf_alike hZ.alike Ar36.2.1) (g := (mkF m 24 #[sR a1, sR b1, sI (0 : Int32)] [(.ref a1), (.int (0 : Int32))])) rfl rfl (hb hby own_d801) _ ?_
    rw [len_of Sz36 Nn36]
    exact k
  refine own_go (fun t k => st36 t k) ?_
  show OG m T23 25 #[sR a1, sR b1, sI (0 : Int32)] [(.int (2 : Int32)), (.int (0 : Int32))]
  refine og (XS.icmpNo X23.here hx rfl (hb hby own_d802) rfl (tlt (by decide : (0 : Int32) < (2 : Int32))).2.1) ?_
  refine og (XS.aloadN X23.here hx rfl (hb hby own_d810) rfl rfl) ?_
  show OG m T23 29 #[sR a1, sR b1, sI (0 : Int32)] [(.ref b1)]
  refine og (XS.iloadN X23.here hx rfl (hb hby own_d811) rfl) ?_
  show OG m T23 30 #[sR a1, sR b1, sI (0 : Int32)] [(.int (0 : Int32)), (.ref b1)]
  refine og (XS.ifNo X23.here hx rfl (hb hby own_d812) rfl ((if0 _ _).trans (teq (by decide : (0 : Int32) = (0 : Int32))).2)) ?_
  show OG m T23 33 #[sR a1, sR b1, sI (0 : Int32)] [(.ref b1)]
  obtain ⟨a37, T37, h37, kk37, b37, kb37, X37, e37, E37, S37, hk37, hZ37, hO37, A37, Fc37, Fv37, Av37, -, -, hC37, -, hne37, st37⟩ := ldcCH (s := s) (vm0 := s.vm) X23 hx hZ hown (tw hw 53 rfl) (own_sa Z a0 hw) rfl hS0 (Nat.zero_le _) (own_EW Z a0 hw) (List.mem_of_getElem? (i := 0) rfl) C31.1 (vs := []) (z := (0 : Int32)) ⟨by decide, by decide⟩ (by decide) rfl (g := (mkF m 33 #[sR a1, sR b1, sI (0 : Int32)] [(.ref b1)])) rfl (hb hby own_d813) (n := 0) (by decide) (by decide) (by decide) (by decide)
  have F38 : Arv Z h37 a1 ka .int (2 : Int32) [(.int x0), (.int x1)] (.int (0 : Int32)) := F27.ext E37
  have F39 : Old Z n0 h37 := F28.ext E37
  have F40 : Exa Z h37 b1 "java/lang/StringBuilder" := Fq23_0.ext E37
  have F41 : Fld Z h37 b1 "java/lang/AbstractStringBuilder" "value" "[B" (.ref xd_23) := Fq23_1.ext E37
  have F42 : Fld Z h37 b1 "java/lang/AbstractStringBuilder" "coder" "B" (.int (0 : Int32)) := Fq23_2.ext E37
  have F43 : Fld Z h37 b1 "java/lang/AbstractStringBuilder" "count" "I" (.int c1) := F35.ext E37
  have F44 : Exa Z h37 xd_23 "[B" := Fq23_4.ext E37
  have F45 : Arv Z h37 xd_23 xk_23 .byte xc_23 (own_B l1) (.int (0 : Int32)) := F34.ext E37
  have K46 : Keep h0 h37 [] := K23.ext E37
  have Z46 : n0 ≤ h37.size := Nat.le_trans Z23 E37.1
  have C47 : CHr Z own_EL s.vm h0 T37.vm h37 := C31.trans hC37
  have sf48 : Safe Z own_EL T37.vm h37 b1 := hC37.safe Fq23_0.lt sf32
  have sf49 : Safe Z own_EL T37.vm h37 xd_23 := hC37.safe Fq23_4.lt sf33
  refine own_go (fun t k => st37 t k) ?_
  show OG m T37 35 #[sR a1, sR b1, sI (0 : Int32)] [(.ref a37), (.ref b1)]
  refine og (XS.goto X37.here hx rfl (pc0 := 35) (pc' := 40) rfl (hb hby own_d814) (by decide) (by decide)) ?_
  show OG m T37 40 #[sR a1, sR b1, sI (0 : Int32)] [(.ref a37), (.ref b1)]
  obtain ⟨cq50, kq50, q50a, q50b, q50c⟩ := isOf hZ37 e37 F40
  obtain ⟨_, _, ⟨T50, L50, k50, n50⟩, -, X50, ⟨Lc50, hQ50, l50, y50, z50⟩, st50⟩ := X37.virtualBack hx (y := (⟨"java/lang/StringBuilder", "append", "(Ljava/lang/String;)Ljava/lang/StringBuilder;"⟩ : MethodName)) (z := (⟨"java/lang/StringBuilder", "append", "(Ljava/lang/String;)Ljava/lang/StringBuilder;"⟩ : MethodName)) hO37 (mvT hZ37 (tw hw 59 rfl)) (mvT hZ37 (tw hw 60 rfl)) (notFace_of_selects (args := #[]) (mvT hZ37 (tw hw 62 rfl))) (mvT hZ37 (tw hw 62 rfl)) (mvT hZ37 (tw hw 61 rfl)) (by decide) (backOf (W := 0) (own_sst l Z a0 hw [] b1 a37 xd_23 xk_23 xc_23 c1 l1 b37 kb37 (0 : Int32) ([] : List Int32) i_COMPACT_STRINGS h37 n0 Z46 F39 S_COMPACT_STRINGS nz_i_COMPACT_STRINGS F40 F41 F42 F43 F44 F45 A37 Fv37 Fc37 Av37 g_b1 g_xd_23 mq23_cb hm1 hq1 (by simp only [List.length_cons, List.length_nil]; omega) ne25 (⟨by decide, by decide⟩) (Ne.symm ((hne37 _ sf49).2))) hZ37 (tw hw 63 rfl) (tw hw 7 rfl) (by decide) (by decide)) q50a q50c (g := (mkF m 40 #[sR a1, sR b1, sI (0 : Int32)] [(.ref a37), (.ref b1)])) rfl (by rw [hml]; rfl) (Steps.refl _) (argsL := [(.ref a37)]) (rest := []) (lenOf own_pd816 rfl) rfl (by show 2 * 0 + _ ≤ _; exact Nat.le_of_eq rfl) (hb hby own_d815) (fun _ _ => ⟨rfl, e37, (by decide : 5 + 1 ≤ _), (by decide : 105 + 74 ≤ _)⟩)
  dsimp only [Pt.U, Pt.locs, Pt.cells, Pt.slots] at X50 l50 y50 z50 st50 hQ50
  subst l50 y50 z50
  obtain ⟨xd_50, xk_50, xc_50, rfl, Nq50, Kq50, Fq50_0, Fq50_1, Fq50_2, Fq50_3, Fq50_4, Fq50_5, mq50_mv, mq50_cb, mq50_cl⟩ := hQ50
  have N50 := Fr.app N23 Nq50
  have ne51 : a1 ≠ xd_50 := own_ne_or mq50_mv ne24 F38.lt
  have ne52 : b1 ≠ xd_50 := own_ne_or mq50_mv ne25 F40.lt
  have g_xd_50 : n0 ≤ xd_50 := own_ge_or mq50_mv g_xd_23 Z46
  have sz_xd_50 : h0.size ≤ xd_50 := own_ge_or mq50_mv sz_xd_23 K46.1
  have sf53 : Safe Z own_EL T37.vm h37 xd_50 := own_safe_or mq50_mv sf49
  have F54 : Arv Z T50.heap a1 ka .int (2 : Int32) [(.int x0), (.int x1)] (.int (0 : Int32)) := F38.keep Kq50 (ninS ne2 (ninS ne24 nin0))
  have F55 : Old Z n0 T50.heap := F39.keep Kq50 (allS g_b1 (allS g_xd_23 all0))
  have F56 : Exa Z T50.heap b1 "java/lang/StringBuilder" := F40.keep Kq50
  have F57 : Exa Z T50.heap xd_23 "[B" := F44.keep Kq50
  have C58 : CHr Z own_EL s.vm h0 T37.vm T50.heap := C47.trans (CHr.keep Kq50 (sfS sf48 (sfS sf49 sf0)) C47.1)
  have sf59 : Safe Z own_EL T37.vm T50.heap b1 := Safe.keep Kq50 (sfS sf48 (sfS sf49 sf0)) C47.1 sf48
  have sf60 : Safe Z own_EL T37.vm T50.heap xd_50 := Safe.keep Kq50 (sfS sf48 (sfS sf49 sf0)) C47.1 sf53
  have K50 : Keep h0 T50.heap [] := K46.trans Kq50 (allS (Or.inr sz_b1) (allS (Or.inr sz_xd_23) all0))
  have Z50 : n0 ≤ T50.heap.size := Nat.le_trans Z46 Kq50.1
  have hk50 : _ ≤ T50.heap.size := Nat.le_trans hk37 Kq50.1
  refine og (st50.trans) ?_
  show OG m T50 43 #[sR a1, sR b1, sI (0 : Int32)] [(.ref b1)]
  obtain ⟨l2, hl2⟩ : ∃ z : List Int32, z = (l1 ++ ([] : List Int32)) := ⟨_, rfl⟩
  have F61 : Arv Z T50.heap xd_50 xk_50 .byte xc_50 (own_B l2) (.int (0 : Int32)) := by rw [hl2]; exact Fq50_5
  obtain ⟨c2, hc2⟩ : ∃ z : Int32, z = (c1 + (0 : Int32)) := ⟨_, rfl⟩
  have F62 : Fld Z T50.heap b1 "java/lang/AbstractStringBuilder" "count" "I" (.int c2) := by rw [hc2]; exact Fq50_3
  have hn2 : (l2.length : Int) = (l1.length : Int) + 0 := by rw [hl2]; simp only [List.length_append, List.length_cons, List.length_nil]; omega
  have hq2 : c2.toInt = (l2.length : Int) := by rw [hc2, hn2]; exact own_cnt hq1 rfl (by omega) (by omega)
  have hu2 : (l2.length : Int) ≤ 1 := by omega
  have hm2 : (l2.length : Int) ≤ xc_50.toInt := by rw [hl2]; exact mq50_cl
  refine og (XS.aloadN X50.here hx rfl (hb hby own_d817) rfl rfl) ?_
  refine og (XS.iloadN X50.here hx rfl (hb hby own_d818) rfl) ?_
  show OG m T50 45 #[sR a1, sR b1, sI (0 : Int32)] [(.int (0 : Int32)), (.ref a1), (.ref b1)]
  have vv63 := F54
  obtain ⟨cl63, Ar63, qk63, Sz63, Nn63, Hs63, Gs63⟩ := vv63
  have hin63 : ¬ ((0 : Int32) < 0 ∨ cl63.slots.size ≤ ((0 : Int32)).toNatClampNeg) := inb_of Sz63 ⟨by decide, by decide⟩
  have hat63 : cl63.slots[((0 : Int32)).toNatClampNeg]? = some (.int x0) := Hs63.at hin63 rfl
  refine own_go (fun t k => (X50.iaload hx (j := (0 : Int32)) (v := (.int x0)) Ar63.1 (State.isArrayOf_alike hZ37.alike Ar63.2.1) Ar63.2.2 hin63 hat63 (g := (mkF m 45 #[sR a1, sR b1, sI (0 : Int32)] [(.int (0 : Int32)), (.ref a1), (.ref b1)])) rfl rfl (hb hby own_d819)) t k) ?_
  show OG m T50 46 #[sR a1, sR b1, sI (0 : Int32)] [(.int x0), (.ref b1)]
  obtain ⟨cq64, kq64, q64a, q64b, q64c⟩ := isOf hZ37 rfl Fq50_0
  obtain ⟨_, _, ⟨T64, L64, k64, n64⟩, -, X64, ⟨Lc64, hQ64, l64, y64, z64⟩, st64⟩ := X50.virtualBack hx (y := (⟨"java/lang/StringBuilder", "append", "(I)Ljava/lang/StringBuilder;"⟩ : MethodName)) (z := (⟨"java/lang/StringBuilder", "append", "(I)Ljava/lang/StringBuilder;"⟩ : MethodName)) hO37 (mvT hZ37 (tw hw 101 rfl)) (mvT hZ37 (tw hw 102 rfl)) (notFace_of_selects (args := #[]) (mvT hZ37 (tw hw 104 rfl))) (mvT hZ37 (tw hw 104 rfl)) (mvT hZ37 (tw hw 103 rfl)) (by decide) (backOf (W := 0) (own_sai l Z a0 hw [] b1 x0 xd_50 xk_50 xc_50 c2 l2 i_COMPACT_STRINGS o_DigitOnes o_DigitTens kc_own_ones kc_own_tens T50.heap n0 Z50 F55 S_COMPACT_STRINGS nz_i_COMPACT_STRINGS S_DigitOnes V_own_ones S_DigitTens V_own_tens Fq50_0 Fq50_1 Fq50_2 F62 Fq50_4 F61 g_b1 g_xd_50 mq50_cb hm2 hq2 (by omega) ne52) hZ37 (tw hw 105 rfl) (tw hw 7 rfl) (by decide) (by decide)) q64a q64c (g := (mkF m 46 #[sR a1, sR b1, sI (0 : Int32)] [(.int x0), (.ref b1)])) rfl (by rw [hml]; rfl) (Steps.refl _) (argsL := [(.int x0)]) (rest := []) (lenOf own_pd821 rfl) rfl (by show 2 * 0 + _ ≤ _; exact Nat.le_of_eq rfl) (hb hby own_d820) (fun _ _ => ⟨rfl, rfl, (by decide : 6 + 1 ≤ _), (by decide : 179 + 74 ≤ _)⟩)
  dsimp only [Pt.U, Pt.locs, Pt.cells, Pt.slots] at X64 l64 y64 z64 st64 hQ64
  subst l64 y64 z64
  obtain ⟨xd_64, xk_64, xc_64, rfl, Nq64, Kq64, Fq64_0, Fq64_1, Fq64_2, Fq64_3, Fq64_4, Fq64_5, mq64_mv, mq64_cb, mq64_cl⟩ := hQ64
  have N64 := Fr.app N50 Nq64
  have ne65 : a1 ≠ xd_64 := own_ne_or mq64_mv ne51 F54.lt
  have ne66 : b1 ≠ xd_64 := own_ne_or mq64_mv ne52 Fq50_0.lt
  have g_xd_64 : n0 ≤ xd_64 := own_ge_or mq64_mv g_xd_50 Z50
  have sz_xd_64 : h0.size ≤ xd_64 := own_ge_or mq64_mv sz_xd_50 K50.1
  have sf67 : Safe Z own_EL T37.vm T50.heap xd_64 := own_safe_or mq64_mv sf60
  have F68 : Arv Z T64.heap a1 ka .int (2 : Int32) [(.int x0), (.int x1)] (.int (0 : Int32)) := F54.keep Kq64 (ninS ne2 (ninS ne51 nin0))
  have F69 : Old Z n0 T64.heap := F55.keep Kq64 (allS g_b1 (allS g_xd_50 all0))
  have F70 : Exa Z T64.heap b1 "java/lang/StringBuilder" := Fq50_0.keep Kq64
  have F71 : Exa Z T64.heap xd_50 "[B" := Fq50_4.keep Kq64
  have C72 : CHr Z own_EL s.vm h0 T37.vm T64.heap := C58.trans (CHr.keep Kq64 (sfS sf59 (sfS sf60 sf0)) C58.1)
  have sf73 : Safe Z own_EL T37.vm T64.heap b1 := Safe.keep Kq64 (sfS sf59 (sfS sf60 sf0)) C58.1 sf59
  have sf74 : Safe Z own_EL T37.vm T64.heap xd_64 := Safe.keep Kq64 (sfS sf59 (sfS sf60 sf0)) C58.1 sf67
  have K64 : Keep h0 T64.heap [] := K50.trans Kq64 (allS (Or.inr sz_b1) (allS (Or.inr sz_xd_50) all0))
  have Z64 : n0 ≤ T64.heap.size := Nat.le_trans Z50 Kq64.1
  have hk64 : _ ≤ T64.heap.size := Nat.le_trans hk50 Kq64.1
  refine og (st64.trans) ?_
  show OG m T64 49 #[sR a1, sR b1, sI (0 : Int32)] [(.ref b1)]
  obtain ⟨l3, hl3⟩ : ∃ z : List Int32, z = (l2 ++ own_txt x0) := ⟨_, rfl⟩
  have F75 : Arv Z T64.heap xd_64 xk_64 .byte xc_64 (own_B l3) (.int (0 : Int32)) := by rw [hl3]; exact Fq64_5
  obtain ⟨c3, hc3⟩ : ∃ z : Int32, z = (c2 + (own_ssz x0)) := ⟨_, rfl⟩
  have F76 : Fld Z T64.heap b1 "java/lang/AbstractStringBuilder" "count" "I" (.int c3) := by rw [hc3]; exact Fq64_3
  have hn3 : (l3.length : Int) = (l2.length : Int) + ((own_txt x0).length : Int) := by rw [hl3]; simp only [List.length_append, List.length_cons, List.length_nil]; omega
  have hq3 : c3.toInt = (l3.length : Int) := by rw [hc3, hn3]; exact own_cnt hq2 (own_ssz_len x0) (by omega) (by omega)
  have hu3 : (l3.length : Int) ≤ 12 := by omega
  have hm3 : (l3.length : Int) ≤ xc_64.toInt := by rw [hl3]; exact mq64_cl
  refine og (XS.pop X64.here hx rfl (hb hby own_d822) rfl rfl) ?_
  show OG m T64 50 #[sR a1, sR b1, sI (0 : Int32)] []
  refine og (XS.iinc X64.here hx rfl (hb hby own_d823) rfl (l' := #[sR a1, sR b1, sI ((0 : Int32) + (1 : Int32))]) rfl) ?_
  rw [show ((0 : Int32) + (1 : Int32)) = (1 : Int32) from by decide]
  show OG m T64 53 #[sR a1, sR b1, sI (1 : Int32)] []
  refine og (XS.goto X64.here hx rfl (pc0 := 53) (pc' := 22) rfl (hb hby own_d824) (by decide) (by decide)) ?_
  refine og (XS.iloadN X64.here hx rfl (hb hby own_d799) rfl) ?_
  show OG m T64 23 #[sR a1, sR b1, sI (1 : Int32)] [(.int (1 : Int32))]
  refine og (XS.aloadN X64.here hx rfl (hb hby own_d800) rfl rfl) ?_
  show OG m T64 24 #[sR a1, sR b1, sI (1 : Int32)] [(.ref a1), (.int (1 : Int32))]
  have vv77 := F68
  obtain ⟨cl77, Ar77, qk77, Sz77, Nn77, Hs77, Gs77⟩ := vv77
  have st77 : ∀ t, Steps p.tables e below (T64.setTop (mkF m 25 #[sR a1, sR b1, sI (1 : Int32)] [(.int (2 : Int32)), (.int (1 : Int32))])) t → Steps p.tables e below (T64.setTop (mkF m 24 #[sR a1, sR b1, sI (1 : Int32)] [(.ref a1), (.int (1 : Int32))])) t := fun t k => by
    refine X64.arraylength hx Ar77.1 (State.isArrayOf_alike hZ37.alike Ar77.2.1) (g := (mkF m 24 #[sR a1, sR b1, sI (1 : Int32)] [(.ref a1), (.int (1 : Int32))])) rfl rfl (hb hby own_d801) _ ?_
    rw [len_of Sz77 Nn77]
    exact k
  refine own_go (fun t k => st77 t k) ?_
  show OG m T64 25 #[sR a1, sR b1, sI (1 : Int32)] [(.int (2 : Int32)), (.int (1 : Int32))]
  refine og (XS.icmpNo X64.here hx rfl (hb hby own_d802) rfl (tlt (by decide : (1 : Int32) < (2 : Int32))).2.1) ?_
  refine og (XS.aloadN X64.here hx rfl (hb hby own_d810) rfl rfl) ?_
  show OG m T64 29 #[sR a1, sR b1, sI (1 : Int32)] [(.ref b1)]
  refine og (XS.iloadN X64.here hx rfl (hb hby own_d811) rfl) ?_
  show OG m T64 30 #[sR a1, sR b1, sI (1 : Int32)] [(.int (1 : Int32)), (.ref b1)]
  refine og (XS.ifYes X64.here hx rfl (pc0 := 30) (pc' := 38) rfl (hb hby own_d812) rfl ((if0 _ _).trans (feq (by decide : ¬ ((1 : Int32) = (0 : Int32)))).2) (by decide) (by decide)) ?_
  show OG m T64 38 #[sR a1, sR b1, sI (1 : Int32)] [(.ref b1)]
  obtain ⟨a78, T78, h78, kk78, b78, kb78, X78, e78, E78, S78, hk78, hZ78, hO78, A78, Fc78, Fv78, Av78, -, -, hC78, -, hne78, st78⟩ := ldcCH (s := s) (vm0 := T37.vm) X64 hx hZ37 hO37 (tw hw 206 rfl) (own_sa Z a0 hw) rfl S37 hk64 (own_EW Z a0 hw) (List.mem_of_getElem? (i := 1) rfl) C72.1 (vs := [.int (44 : Int32)]) (z := (1 : Int32)) ⟨by decide, by decide⟩ (by decide) rfl (g := (mkF m 38 #[sR a1, sR b1, sI (1 : Int32)] [(.ref b1)])) rfl (hb hby own_d826) (n := 4) (by decide) (by decide) (by decide) (by decide)
  have F79 : Arv Z h78 a1 ka .int (2 : Int32) [(.int x0), (.int x1)] (.int (0 : Int32)) := F68.ext E78
  have F80 : Old Z n0 h78 := F69.ext E78
  have F81 : Exa Z h78 b1 "java/lang/StringBuilder" := Fq64_0.ext E78
  have F82 : Fld Z h78 b1 "java/lang/AbstractStringBuilder" "value" "[B" (.ref xd_64) := Fq64_1.ext E78
  have F83 : Fld Z h78 b1 "java/lang/AbstractStringBuilder" "coder" "B" (.int (0 : Int32)) := Fq64_2.ext E78
  have F84 : Fld Z h78 b1 "java/lang/AbstractStringBuilder" "count" "I" (.int c3) := F76.ext E78
  have F85 : Exa Z h78 xd_64 "[B" := Fq64_4.ext E78
  have F86 : Arv Z h78 xd_64 xk_64 .byte xc_64 (own_B l3) (.int (0 : Int32)) := F75.ext E78
  have K87 : Keep h0 h78 [] := K64.ext E78
  have Z87 : n0 ≤ h78.size := Nat.le_trans Z64 E78.1
  have C88 : CHr Z own_EL s.vm h0 T78.vm h78 := C72.trans hC78
  have sf89 : Safe Z own_EL T78.vm h78 b1 := hC78.safe Fq64_0.lt sf73
  have sf90 : Safe Z own_EL T78.vm h78 xd_64 := hC78.safe Fq64_4.lt sf74
  refine own_go (fun t k => st78 t k) ?_
  show OG m T78 40 #[sR a1, sR b1, sI (1 : Int32)] [(.ref a78), (.ref b1)]
  obtain ⟨cq91, kq91, q91a, q91b, q91c⟩ := isOf hZ78 e78 F81
  obtain ⟨_, _, ⟨T91, L91, k91, n91⟩, -, X91, ⟨Lc91, hQ91, l91, y91, z91⟩, st91⟩ := X78.virtualBack hx (y := (⟨"java/lang/StringBuilder", "append", "(Ljava/lang/String;)Ljava/lang/StringBuilder;"⟩ : MethodName)) (z := (⟨"java/lang/StringBuilder", "append", "(Ljava/lang/String;)Ljava/lang/StringBuilder;"⟩ : MethodName)) hO78 (mvT hZ78 (tw hw 59 rfl)) (mvT hZ78 (tw hw 60 rfl)) (notFace_of_selects (args := #[]) (mvT hZ78 (tw hw 62 rfl))) (mvT hZ78 (tw hw 62 rfl)) (mvT hZ78 (tw hw 61 rfl)) (by decide) (backOf (W := 0) (own_sst l Z a0 hw [] b1 a78 xd_64 xk_64 xc_64 c3 l3 b78 kb78 (1 : Int32) ([(44 : Int32)]) i_COMPACT_STRINGS h78 n0 Z87 F80 S_COMPACT_STRINGS nz_i_COMPACT_STRINGS F81 F82 F83 F84 F85 F86 A78 Fv78 Fc78 Av78 g_b1 g_xd_64 mq64_cb hm3 hq3 (by simp only [List.length_cons, List.length_nil]; omega) ne66 (⟨by decide, by decide⟩) (Ne.symm ((hne78 _ sf90).2))) hZ78 (tw hw 63 rfl) (tw hw 7 rfl) (by decide) (by decide)) q91a q91c (g := (mkF m 40 #[sR a1, sR b1, sI (1 : Int32)] [(.ref a78), (.ref b1)])) rfl (by rw [hml]; rfl) (Steps.refl _) (argsL := [(.ref a78)]) (rest := []) (lenOf own_pd816 rfl) rfl (by show 2 * 0 + _ ≤ _; exact Nat.le_of_eq rfl) (hb hby own_d815) (fun _ _ => ⟨rfl, e78, (by decide : 9 + 1 ≤ _), (by decide : 261 + 74 ≤ _)⟩)
  dsimp only [Pt.U, Pt.locs, Pt.cells, Pt.slots] at X91 l91 y91 z91 st91 hQ91
  subst l91 y91 z91
  obtain ⟨xd_91, xk_91, xc_91, rfl, Nq91, Kq91, Fq91_0, Fq91_1, Fq91_2, Fq91_3, Fq91_4, Fq91_5, mq91_mv, mq91_cb, mq91_cl⟩ := hQ91
  have N91 := Fr.app N64 Nq91
  have ne92 : a1 ≠ xd_91 := own_ne_or mq91_mv ne65 F79.lt
  have ne93 : b1 ≠ xd_91 := own_ne_or mq91_mv ne66 F81.lt
  have g_xd_91 : n0 ≤ xd_91 := own_ge_or mq91_mv g_xd_64 Z87
  have sz_xd_91 : h0.size ≤ xd_91 := own_ge_or mq91_mv sz_xd_64 K87.1
  have sf94 : Safe Z own_EL T78.vm h78 xd_91 := own_safe_or mq91_mv sf90
  have F95 : Arv Z T91.heap a1 ka .int (2 : Int32) [(.int x0), (.int x1)] (.int (0 : Int32)) := F79.keep Kq91 (ninS ne2 (ninS ne65 nin0))
  have F96 : Old Z n0 T91.heap := F80.keep Kq91 (allS g_b1 (allS g_xd_64 all0))
  have F97 : Exa Z T91.heap b1 "java/lang/StringBuilder" := F81.keep Kq91
  have F98 : Exa Z T91.heap xd_64 "[B" := F85.keep Kq91
  have C99 : CHr Z own_EL s.vm h0 T78.vm T91.heap := C88.trans (CHr.keep Kq91 (sfS sf89 (sfS sf90 sf0)) C88.1)
  have sf100 : Safe Z own_EL T78.vm T91.heap b1 := Safe.keep Kq91 (sfS sf89 (sfS sf90 sf0)) C88.1 sf89
  have sf101 : Safe Z own_EL T78.vm T91.heap xd_91 := Safe.keep Kq91 (sfS sf89 (sfS sf90 sf0)) C88.1 sf94
  have K91 : Keep h0 T91.heap [] := K87.trans Kq91 (allS (Or.inr sz_b1) (allS (Or.inr sz_xd_64) all0))
  have Z91 : n0 ≤ T91.heap.size := Nat.le_trans Z87 Kq91.1
  have hk91 : _ ≤ T91.heap.size := Nat.le_trans hk78 Kq91.1
  refine og (st91.trans) ?_
  show OG m T91 43 #[sR a1, sR b1, sI (1 : Int32)] [(.ref b1)]
  obtain ⟨l4, hl4⟩ : ∃ z : List Int32, z = (l3 ++ [(44 : Int32)]) := ⟨_, rfl⟩
  have F102 : Arv Z T91.heap xd_91 xk_91 .byte xc_91 (own_B l4) (.int (0 : Int32)) := by rw [hl4]; exact Fq91_5
  obtain ⟨c4, hc4⟩ : ∃ z : Int32, z = (c3 + (1 : Int32)) := ⟨_, rfl⟩
  have F103 : Fld Z T91.heap b1 "java/lang/AbstractStringBuilder" "count" "I" (.int c4) := by rw [hc4]; exact Fq91_3
  have hn4 : (l4.length : Int) = (l3.length : Int) + 1 := by rw [hl4]; simp only [List.length_append, List.length_cons, List.length_nil]; omega
  have hq4 : c4.toInt = (l4.length : Int) := by rw [hc4, hn4]; exact own_cnt hq3 rfl (by omega) (by omega)
  have hu4 : (l4.length : Int) ≤ 13 := by omega
  have hm4 : (l4.length : Int) ≤ xc_91.toInt := by rw [hl4]; exact mq91_cl
  refine og (XS.aloadN X91.here hx rfl (hb hby own_d817) rfl rfl) ?_
  refine og (XS.iloadN X91.here hx rfl (hb hby own_d818) rfl) ?_
  show OG m T91 45 #[sR a1, sR b1, sI (1 : Int32)] [(.int (1 : Int32)), (.ref a1), (.ref b1)]
  have vv104 := F95
  obtain ⟨cl104, Ar104, qk104, Sz104, Nn104, Hs104, Gs104⟩ := vv104
  have hin104 : ¬ ((1 : Int32) < 0 ∨ cl104.slots.size ≤ ((1 : Int32)).toNatClampNeg) := inb_of Sz104 ⟨by decide, by decide⟩
  have hat104 : cl104.slots[((1 : Int32)).toNatClampNeg]? = some (.int x1) := Hs104.at hin104 rfl
  refine own_go (fun t k => (X91.iaload hx (j := (1 : Int32)) (v := (.int x1)) Ar104.1 (State.isArrayOf_alike hZ78.alike Ar104.2.1) Ar104.2.2 hin104 hat104 (g := (mkF m 45 #[sR a1, sR b1, sI (1 : Int32)] [(.int (1 : Int32)), (.ref a1), (.ref b1)])) rfl rfl (hb hby own_d819)) t k) ?_
  show OG m T91 46 #[sR a1, sR b1, sI (1 : Int32)] [(.int x1), (.ref b1)]
  obtain ⟨cq105, kq105, q105a, q105b, q105c⟩ := isOf hZ78 rfl Fq91_0
  obtain ⟨_, _, ⟨T105, L105, k105, n105⟩, -, X105, ⟨Lc105, hQ105, l105, y105, z105⟩, st105⟩ := X91.virtualBack hx (y := (⟨"java/lang/StringBuilder", "append", "(I)Ljava/lang/StringBuilder;"⟩ : MethodName)) (z := (⟨"java/lang/StringBuilder", "append", "(I)Ljava/lang/StringBuilder;"⟩ : MethodName)) hO78 (mvT hZ78 (tw hw 101 rfl)) (mvT hZ78 (tw hw 102 rfl)) (notFace_of_selects (args := #[]) (mvT hZ78 (tw hw 104 rfl))) (mvT hZ78 (tw hw 104 rfl)) (mvT hZ78 (tw hw 103 rfl)) (by decide) (backOf (W := 0) (own_sai l Z a0 hw [] b1 x1 xd_91 xk_91 xc_91 c4 l4 i_COMPACT_STRINGS o_DigitOnes o_DigitTens kc_own_ones kc_own_tens T91.heap n0 Z91 F96 S_COMPACT_STRINGS nz_i_COMPACT_STRINGS S_DigitOnes V_own_ones S_DigitTens V_own_tens Fq91_0 Fq91_1 Fq91_2 F103 Fq91_4 F102 g_b1 g_xd_91 mq91_cb hm4 hq4 (by omega) ne93) hZ78 (tw hw 105 rfl) (tw hw 7 rfl) (by decide) (by decide)) q105a q105c (g := (mkF m 46 #[sR a1, sR b1, sI (1 : Int32)] [(.int x1), (.ref b1)])) rfl (by rw [hml]; rfl) (Steps.refl _) (argsL := [(.int x1)]) (rest := []) (lenOf own_pd821 rfl) rfl (by show 2 * 0 + _ ≤ _; exact Nat.le_of_eq rfl) (hb hby own_d820) (fun _ _ => ⟨rfl, rfl, (by decide : 10 + 1 ≤ _), (by decide : 335 + 74 ≤ _)⟩)
  dsimp only [Pt.U, Pt.locs, Pt.cells, Pt.slots] at X105 l105 y105 z105 st105 hQ105
  subst l105 y105 z105
  obtain ⟨xd_105, xk_105, xc_105, rfl, Nq105, Kq105, Fq105_0, Fq105_1, Fq105_2, Fq105_3, Fq105_4, Fq105_5, mq105_mv, mq105_cb, mq105_cl⟩ := hQ105
  have N105 := Fr.app N91 Nq105
  have ne106 : a1 ≠ xd_105 := own_ne_or mq105_mv ne92 F95.lt
  have ne107 : b1 ≠ xd_105 := own_ne_or mq105_mv ne93 Fq91_0.lt
  have g_xd_105 : n0 ≤ xd_105 := own_ge_or mq105_mv g_xd_91 Z91
  have sz_xd_105 : h0.size ≤ xd_105 := own_ge_or mq105_mv sz_xd_91 K91.1
  have sf108 : Safe Z own_EL T78.vm T91.heap xd_105 := own_safe_or mq105_mv sf101
  have F109 : Arv Z T105.heap a1 ka .int (2 : Int32) [(.int x0), (.int x1)] (.int (0 : Int32)) := F95.keep Kq105 (ninS ne2 (ninS ne92 nin0))
  have F110 : Old Z n0 T105.heap := F96.keep Kq105 (allS g_b1 (allS g_xd_91 all0))
  have F111 : Exa Z T105.heap b1 "java/lang/StringBuilder" := Fq91_0.keep Kq105
  have F112 : Exa Z T105.heap xd_91 "[B" := Fq91_4.keep Kq105
  have C113 : CHr Z own_EL s.vm h0 T78.vm T105.heap := C99.trans (CHr.keep Kq105 (sfS sf100 (sfS sf101 sf0)) C99.1)
  have sf114 : Safe Z own_EL T78.vm T105.heap b1 := Safe.keep Kq105 (sfS sf100 (sfS sf101 sf0)) C99.1 sf100
  have sf115 : Safe Z own_EL T78.vm T105.heap xd_105 := Safe.keep Kq105 (sfS sf100 (sfS sf101 sf0)) C99.1 sf108
  have K105 : Keep h0 T105.heap [] := K91.trans Kq105 (allS (Or.inr sz_b1) (allS (Or.inr sz_xd_91) all0))
  have Z105 : n0 ≤ T105.heap.size := Nat.le_trans Z91 Kq105.1
  have hk105 : _ ≤ T105.heap.size := Nat.le_trans hk91 Kq105.1
  refine og (st105.trans) ?_
  show OG m T105 49 #[sR a1, sR b1, sI (1 : Int32)] [(.ref b1)]
  obtain ⟨l5, hl5⟩ : ∃ z : List Int32, z = (l4 ++ own_txt x1) := ⟨_, rfl⟩
  have F116 : Arv Z T105.heap xd_105 xk_105 .byte xc_105 (own_B l5) (.int (0 : Int32)) := by rw [hl5]; exact Fq105_5
  obtain ⟨c5, hc5⟩ : ∃ z : Int32, z = (c4 + (own_ssz x1)) := ⟨_, rfl⟩
  have F117 : Fld Z T105.heap b1 "java/lang/AbstractStringBuilder" "count" "I" (.int c5) := by rw [hc5]; exact Fq105_3
  have hn5 : (l5.length : Int) = (l4.length : Int) + ((own_txt x1).length : Int) := by rw [hl5]; simp only [List.length_append, List.length_cons, List.length_nil]; omega
  have hq5 : c5.toInt = (l5.length : Int) := by rw [hc5, hn5]; exact own_cnt hq4 (own_ssz_len x1) (by omega) (by omega)
  have hu5 : (l5.length : Int) ≤ 24 := by omega
  have hm5 : (l5.length : Int) ≤ xc_105.toInt := by rw [hl5]; exact mq105_cl
  refine og (XS.pop X105.here hx rfl (hb hby own_d822) rfl rfl) ?_
  show OG m T105 50 #[sR a1, sR b1, sI (1 : Int32)] []
  refine og (XS.iinc X105.here hx rfl (hb hby own_d823) rfl (l' := #[sR a1, sR b1, sI ((1 : Int32) + (1 : Int32))]) rfl) ?_
  rw [show ((1 : Int32) + (1 : Int32)) = (2 : Int32) from by decide]
  show OG m T105 53 #[sR a1, sR b1, sI (2 : Int32)] []
  refine og (XS.goto X105.here hx rfl (pc0 := 53) (pc' := 22) rfl (hb hby own_d824) (by decide) (by decide)) ?_
  refine og (XS.iloadN X105.here hx rfl (hb hby own_d799) rfl) ?_
  show OG m T105 23 #[sR a1, sR b1, sI (2 : Int32)] [(.int (2 : Int32))]
  refine og (XS.aloadN X105.here hx rfl (hb hby own_d800) rfl rfl) ?_
  show OG m T105 24 #[sR a1, sR b1, sI (2 : Int32)] [(.ref a1), (.int (2 : Int32))]
  have vv118 := F109
  obtain ⟨cl118, Ar118, qk118, Sz118, Nn118, Hs118, Gs118⟩ := vv118
  have st118 : ∀ t, Steps p.tables e below (T105.setTop (mkF m 25 #[sR a1, sR b1, sI (2 : Int32)] [(.int (2 : Int32)), (.int (2 : Int32))])) t → Steps p.tables e below (T105.setTop (mkF m 24 #[sR a1, sR b1, sI (2 : Int32)] [(.ref a1), (.int (2 : Int32))])) t := fun t k => by
    refine X105.arraylength hx Ar118.1 (State.isArrayOf_alike hZ78.alike Ar118.2.1) (g := (mkF m 24 #[sR a1, sR b1, sI (2 : Int32)] [(.ref a1), (.int (2 : Int32))])) rfl rfl (hb hby own_d801) _ ?_
    rw [len_of Sz118 Nn118]
    exact k
  refine own_go (fun t k => st118 t k) ?_
  show OG m T105 25 #[sR a1, sR b1, sI (2 : Int32)] [(.int (2 : Int32)), (.int (2 : Int32))]
  refine og (XS.icmpYes X105.here hx rfl (pc0 := 25) (pc' := 56) rfl (hb hby own_d802) rfl (flt (by decide : ¬ ((2 : Int32) < (2 : Int32)))).2.1 (by decide) (by decide)) ?_
  refine og (XS.aloadN X105.here hx rfl (hb hby own_d803) rfl rfl) ?_
  show OG m T105 57 #[sR a1, sR b1, sI (2 : Int32)] [(.ref b1)]
  refine og (XS.bipush X105.here hx rfl (hb hby own_d804)) ?_
  show OG m T105 59 #[sR a1, sR b1, sI (2 : Int32)] [(.int (125 : Int32)), (.ref b1)]
  obtain ⟨cq119, kq119, q119a, q119b, q119c⟩ := isOf hZ78 rfl Fq105_0
  obtain ⟨_, _, ⟨T119, L119, k119, n119⟩, -, X119, ⟨Lc119, hQ119, l119, y119, z119⟩, st119⟩ := X105.virtualBack hx (y := (⟨"java/lang/StringBuilder", "append", "(C)Ljava/lang/StringBuilder;"⟩ : MethodName)) (z := (⟨"java/lang/StringBuilder", "append", "(C)Ljava/lang/StringBuilder;"⟩ : MethodName)) hO78 (mvT hZ78 (tw hw 27 rfl)) (mvT hZ78 (tw hw 28 rfl)) (notFace_of_selects (args := #[]) (mvT hZ78 (tw hw 30 rfl))) (mvT hZ78 (tw hw 30 rfl)) (mvT hZ78 (tw hw 29 rfl)) (by decide) (backOf (W := 0) (own_sc l Z a0 hw [] b1 (125 : Int32) xd_105 xk_105 xc_105 c5 l5 i_COMPACT_STRINGS T105.heap n0 Z105 F110 S_COMPACT_STRINGS nz_i_COMPACT_STRINGS Fq105_0 Fq105_1 Fq105_2 F117 Fq105_4 F116 g_b1 g_xd_105 mq105_cb hm5 hq5 (by omega) ne107 (by decide) (by decide)) hZ78 (tw hw 31 rfl) (tw hw 7 rfl) (by decide) (by decide)) q119a q119c (g := (mkF m 59 #[sR a1, sR b1, sI (2 : Int32)] [(.int (125 : Int32)), (.ref b1)])) rfl (by rw [hml]; rfl) (Steps.refl _) (argsL := [(.int (125 : Int32))]) (rest := []) (lenOf own_pd795 rfl) rfl (by show 2 * 0 + _ ≤ _; exact Nat.le_of_eq rfl) (hb hby own_d805) (fun _ _ => ⟨rfl, rfl, (by decide : 11 + 1 ≤ _), (by decide : 409 + 74 ≤ _)⟩)
  dsimp only [Pt.U, Pt.locs, Pt.cells, Pt.slots] at X119 l119 y119 z119 st119 hQ119
  subst l119 y119 z119
  obtain ⟨xd_119, xk_119, xc_119, rfl, Nq119, Kq119, Fq119_0, Fq119_1, Fq119_2, Fq119_3, Fq119_4, Fq119_5, mq119_mv, mq119_cb, mq119_cl⟩ := hQ119
  have N119 := Fr.app N105 Nq119
  have ne120 : a1 ≠ xd_119 := own_ne_or mq119_mv ne106 F109.lt
  have ne121 : b1 ≠ xd_119 := own_ne_or mq119_mv ne107 Fq105_0.lt
  have g_xd_119 : n0 ≤ xd_119 := own_ge_or mq119_mv g_xd_105 Z105
  have sz_xd_119 : h0.size ≤ xd_119 := own_ge_or mq119_mv sz_xd_105 K105.1
  have sf122 : Safe Z own_EL T78.vm T105.heap xd_119 := own_safe_or mq119_mv sf115
  have F123 : Arv Z T119.heap a1 ka .int (2 : Int32) [(.int x0), (.int x1)] (.int (0 : Int32)) := F109.keep Kq119 (ninS ne2 (ninS ne106 nin0))
  have F124 : Old Z n0 T119.heap := F110.keep Kq119 (allS g_b1 (allS g_xd_105 all0))
  have F125 : Exa Z T119.heap b1 "java/lang/StringBuilder" := Fq105_0.keep Kq119
  have F126 : Exa Z T119.heap xd_105 "[B" := Fq105_4.keep Kq119
  have C127 : CHr Z own_EL s.vm h0 T78.vm T119.heap := C113.trans (CHr.keep Kq119 (sfS sf114 (sfS sf115 sf0)) C113.1)
  have sf128 : Safe Z own_EL T78.vm T119.heap b1 := Safe.keep Kq119 (sfS sf114 (sfS sf115 sf0)) C113.1 sf114
  have sf129 : Safe Z own_EL T78.vm T119.heap xd_119 := Safe.keep Kq119 (sfS sf114 (sfS sf115 sf0)) C113.1 sf122
  have K119 : Keep h0 T119.heap [] := K105.trans Kq119 (allS (Or.inr sz_b1) (allS (Or.inr sz_xd_105) all0))
  have Z119 : n0 ≤ T119.heap.size := Nat.le_trans Z105 Kq119.1
  have hk119 : _ ≤ T119.heap.size := Nat.le_trans hk105 Kq119.1
  refine og (st119.trans) ?_
  show OG m T119 62 #[sR a1, sR b1, sI (2 : Int32)] [(.ref b1)]
  obtain ⟨l6, hl6⟩ : ∃ z : List Int32, z = (l5 ++ [(125 : Int32)]) := ⟨_, rfl⟩
  have F130 : Arv Z T119.heap xd_119 xk_119 .byte xc_119 (own_B l6) (.int (0 : Int32)) := by rw [hl6]; exact Fq119_5
  obtain ⟨c6, hc6⟩ : ∃ z : Int32, z = (c5 + (1 : Int32)) := ⟨_, rfl⟩
  have F131 : Fld Z T119.heap b1 "java/lang/AbstractStringBuilder" "count" "I" (.int c6) := by rw [hc6]; exact Fq119_3
  have hn6 : (l6.length : Int) = (l5.length : Int) + 1 := by rw [hl6]; simp only [List.length_append, List.length_cons, List.length_nil]; omega
  have hq6 : c6.toInt = (l6.length : Int) := by rw [hc6, hn6]; exact own_cnt hq5 rfl (by omega) (by omega)
  have hu6 : (l6.length : Int) ≤ 25 := by omega
  have hm6 : (l6.length : Int) ≤ xc_119.toInt := by rw [hl6]; exact mq119_cl
  obtain ⟨cq132, kq132, q132a, q132b, q132c⟩ := isOf hZ78 rfl Fq119_0
  obtain ⟨_, _, ⟨T132, L132, k132, n132⟩, -, X132, ⟨Lc132, hQ132, l132, y132, z132⟩, st132⟩ := X119.virtualBack hx (y := (⟨"java/lang/StringBuilder", "toString", "()Ljava/lang/String;"⟩ : MethodName)) (z := (⟨"java/lang/StringBuilder", "toString", "()Ljava/lang/String;"⟩ : MethodName)) hO78 (mvT hZ78 (tw hw 118 rfl)) (mvT hZ78 (tw hw 119 rfl)) (notFace_of_selects (args := #[]) (mvT hZ78 (tw hw 121 rfl))) (mvT hZ78 (tw hw 121 rfl)) (mvT hZ78 (tw hw 120 rfl)) (by decide) (backOf (W := 0) (own_ts l Z a0 hw [] b1 xd_119 xk_119 xc_119 c6 l6 i_COMPACT_STRINGS T119.heap n0 Z119 F124 S_COMPACT_STRINGS nz_i_COMPACT_STRINGS Fq119_0 Fq119_1 Fq119_2 F131 Fq119_4 F130 mq119_cb hm6 hq6) hZ78 (tw hw 122 rfl) (tw hw 7 rfl) (by decide) (by decide)) q132a q132c (g := (mkF m 62 #[sR a1, sR b1, sI (2 : Int32)] [(.ref b1)])) rfl (by rw [hml]; rfl) (Steps.refl _) (argsL := []) (rest := []) (lenOf own_pd807 rfl) rfl (by show 2 * 0 + _ ≤ _; exact Nat.le_of_eq rfl) (hb hby own_d806) (fun _ _ => ⟨rfl, rfl, (by decide : 12 + 2 ≤ _), (by decide : 483 + 78 ≤ _)⟩)
  dsimp only [Pt.U, Pt.locs, Pt.cells, Pt.slots] at X132 l132 y132 z132 st132 hQ132
  subst l132 y132 z132
  obtain ⟨xs_132, xd_132, xk_132, rfl, Nq132, Kq132, Fq132_0, Fq132_1, Fq132_2, Fq132_3, mq132_fs, mq132_fd⟩ := hQ132
  have N132 := Fr.app N119 Nq132
  have ne133 : a1 ≠ xs_132 := Nat.ne_of_lt (Nat.lt_of_lt_of_le F123.lt mq132_fs)
  have ne134 : b1 ≠ xs_132 := Nat.ne_of_lt (Nat.lt_of_lt_of_le Fq119_0.lt mq132_fs)
  have ne135 : xd_119 ≠ xs_132 := Nat.ne_of_lt (Nat.lt_of_lt_of_le Fq119_4.lt mq132_fs)
  have g_xs_132 : n0 ≤ xs_132 := Nat.le_trans Z119 mq132_fs
  have sz_xs_132 : h0.size ≤ xs_132 := Nat.le_trans K119.1 mq132_fs
  have ne136 : a1 ≠ xd_132 := Nat.ne_of_lt (Nat.lt_of_lt_of_le F123.lt mq132_fd)
  have ne137 : b1 ≠ xd_132 := Nat.ne_of_lt (Nat.lt_of_lt_of_le Fq119_0.lt mq132_fd)
  have ne138 : xd_119 ≠ xd_132 := Nat.ne_of_lt (Nat.lt_of_lt_of_le Fq119_4.lt mq132_fd)
  have g_xd_132 : n0 ≤ xd_132 := Nat.le_trans Z119 mq132_fd
  have sz_xd_132 : h0.size ≤ xd_132 := Nat.le_trans K119.1 mq132_fd
  have sf139 : Safe Z own_EL T78.vm T119.heap xs_132 := Safe.new mq132_fs
  have sf140 : Safe Z own_EL T78.vm T119.heap xd_132 := Safe.new mq132_fd
  have F141 : Arv Z T132.heap a1 ka .int (2 : Int32) [(.int x0), (.int x1)] (.int (0 : Int32)) := F123.keep Kq132 nin0
  have F142 : Old Z n0 T132.heap := F124.keep Kq132 all0
  have F143 : Exa Z T132.heap b1 "java/lang/StringBuilder" := Fq119_0.keep Kq132
  have F144 : Fld Z T132.heap b1 "java/lang/AbstractStringBuilder" "value" "[B" (.ref xd_119) := Fq119_1.keep Kq132 nin0
  have F145 : Fld Z T132.heap b1 "java/lang/AbstractStringBuilder" "coder" "B" (.int (0 : Int32)) := Fq119_2.keep Kq132 nin0
  have F146 : Fld Z T132.heap b1 "java/lang/AbstractStringBuilder" "count" "I" (.int c6) := F131.keep Kq132 nin0
  have F147 : Exa Z T132.heap xd_119 "[B" := Fq119_4.keep Kq132
  have F148 : Arv Z T132.heap xd_119 xk_119 .byte xc_119 (own_B l6) (.int (0 : Int32)) := F130.keep Kq132 nin0
  have C149 : CHr Z own_EL s.vm h0 T78.vm T132.heap := C127.trans (CHr.keep Kq132 sf0 C127.1)
  have sf150 : Safe Z own_EL T78.vm T132.heap b1 := Safe.keep Kq132 sf0 C127.1 sf128
  have sf151 : Safe Z own_EL T78.vm T132.heap xd_119 := Safe.keep Kq132 sf0 C127.1 sf129
  have sf152 : Safe Z own_EL T78.vm T132.heap xs_132 := Safe.keep Kq132 sf0 C127.1 sf139
  have sf153 : Safe Z own_EL T78.vm T132.heap xd_132 := Safe.keep Kq132 sf0 C127.1 sf140
  have K132 : Keep h0 T132.heap [] := K119.trans Kq132 all0
  have Z132 : n0 ≤ T132.heap.size := Nat.le_trans Z119 Kq132.1
  have hk132 : _ ≤ T132.heap.size := Nat.le_trans hk119 Kq132.1
  refine og (st132.trans) ?_
  show OG m T132 65 #[sR a1, sR b1, sI (2 : Int32)] [(.ref xs_132)]
  have hT : l6 = (((([(123 : Int32)] ++ own_txt x0) ++ [(44 : Int32)]) ++ own_txt x1) ++ [(125 : Int32)]) := by rw [hl6, hl5, hl4, hl3, hl2, hl1]; simp only [List.nil_append, List.append_nil]
  have F154 : Arv Z T132.heap xd_132 xk_132 .byte c6 (own_B (((([(123 : Int32)] ++ own_txt x0) ++ [(44 : Int32)]) ++ own_txt x1) ++ [(125 : Int32)])) (.int (0 : Int32)) := by rw [← hT]; exact Fq132_3
  obtain ⟨fs, hr, hrun, hended, ⟨-, hW2, hW3, hsame⟩⟩ := Jvm.Stand.leaveW (s := s) (vm₁ := T78.vm) X132 S78 (show _ ≤ T132.heap.size from hk132) (v := some (.ref xs_132)) (fun h => by rw [Bd.returns] at h; cases h)
  have hlast : Steps p.tables e below (T132.setTop (mkF m 65 #[sR a1, sR b1, sI (2 : Int32)] [(.ref xs_132)])) (T132.setFrames fs) := by
    exact retOut X132 hx (t := (.object "java/lang/String")) Bd.returns rfl (Or.inr (Or.inr (Or.inr (Or.inr ⟨rfl, rfl, rfl⟩)))) (hb hby own_d808) hr
  refine ⟨_, _, hlast, hrun, hended, _, _, rfl, ?_, by show CHr Z own_EL s.vm s.heap T132.vm T132.heap; rw [hh]; exact C149.trans (CHv.at X132 hZ78 (own_EW Z a0 hw) C149.1), ⟨_, rfl⟩, hW2, hW3, hsame.mono (by decide) (by decide)⟩
  show Q_own_num2 Z a1 ka x0 x1 i_COMPACT_STRINGS o_DigitOnes o_DigitTens kc_own_ones kc_own_tens h0 n0 _ T132.heap _
  exact ⟨xs_132, xd_132, xk_132, c6, rfl, N132, K132, Fq132_0, Fq132_1, Fq132_2, F154, by rw [← hT]; exact hq6⟩
theorem own_ef827 (m : MethodId) (a1 : Addr) : entryFrame m #[(.ref a1)] 3 = mkF m 0 #[sR a1, sU, sU] [] := by first | (simp [entryFrame, mkF, argsToLocals, Value.category]; done) | rfl
def Q_own_num3 (Z : State) (a1 : Addr) (ka : ClassId) (x0 : Int32) (x1 : Int32) (x2 : Int32) (i_COMPACT_STRINGS : Int32) (o_DigitOnes : Addr) (o_DigitTens : Addr) (kc_own_ones : ClassId) (kc_own_tens : ClassId) (h0 : Heap) (n0 : Nat) (v : Option Value) (h : Heap) (L : List Loc) : Prop := ∃ xs : Addr, ∃ xd : Addr, ∃ xk : ClassId, ∃ xl : Int32, v = some (.ref xs) ∧ Fr n0 L ∧ Keep h0 h [] ∧ Exa Z h xs "java/lang/String" ∧ Fld Z h xs "java/lang/String" "value" "[B" (.ref xd) ∧ Fld Z h xs "java/lang/String" "coder" "B" (.int (0 : Int32)) ∧ Arv Z h xd xk .byte xl (own_B (((((([(123 : Int32)] ++ own_txt x0) ++ [(44 : Int32)]) ++ own_txt x1) ++ [(44 : Int32)]) ++ own_txt x2) ++ [(125 : Int32)])) (.int (0 : Int32)) ∧ (xl.toInt = ((((((([(123 : Int32)] ++ own_txt x0) ++ [(44 : Int32)]) ++ own_txt x1) ++ [(44 : Int32)]) ++ own_txt x2) ++ [(125 : Int32)]).length : Int))
set_option maxRecDepth 65536 in
set_option maxHeartbeats 40000000 in
theorem own_num3 (l : Launch) (Z : State) (a0 : Array Value) (hw : ∀ d ∈ tables_1, d.before a0 Z = true) (ws : List Jvm.Cond) (a1 : Addr) (ka : ClassId) (x0 : Int32) (x1 : Int32) (x2 : Int32) (i_COMPACT_STRINGS : Int32) (o_DigitOnes : Addr) (o_DigitTens : Addr) (kc_own_ones : ClassId) (kc_own_tens : ClassId) (h0 : Heap) (n0 : Nat) (Z0 : n0 ≤ h0.size) (O0 : Old Z n0 h0) (S_COMPACT_STRINGS : Sta Z Z.heap "java/lang/String" "COMPACT_STRINGS" "Z" (.int i_COMPACT_STRINGS)) (nz_i_COMPACT_STRINGS : i_COMPACT_STRINGS ≠ (0 : Int32)) (S_DigitOnes : Sta Z Z.heap "java/lang/Integer" "DigitOnes" "[B" (.ref o_DigitOnes)) (V_own_ones : Arv Z Z.heap o_DigitOnes kc_own_ones .byte (100 : Int32) (own_B own_ones) (.int (0 : Int32))) (S_DigitTens : Sta Z Z.heap "java/lang/Integer" "DigitTens" "[B" (.ref o_DigitTens)) (V_own_tens : Arv Z Z.heap o_DigitTens kc_own_tens .byte (100 : Int32) (own_B own_tens) (.int (0 : Int32))) (f0_0 : Arv Z h0 a1 ka .int (3 : Int32) [(.int x0), (.int x1), (.int x2)] (.int (0 : Int32))) :
    MetFree l (⟨"standwatch/query/Arguments", "numbers", "([I)Ljava/lang/String;"⟩ : MethodName) (head1 (Jvm.Cond.code (⟨"standwatch/query/Arguments", "numbers", "([I)Ljava/lang/String;"⟩ : MethodName) prog_18_method_8_code 3 (some (.object "java/lang/String")) :: ws) ({ frames := 6, cells := 18, slots := 717, locals := 91 } : Room)) (fun a U => a = #[(.ref a1)] ∧ Z.Warmed39 U.vm ∧ U.heap = h0 ∧ CHv Z own_EL U.vm h0) (fun _ _ _ _ _ => True) (fun _ U o U' => ∃ v L, o = .returned v ∧ Q_own_num3 Z a1 ka x0 x1 x2 i_COMPACT_STRINGS o_DigitOnes o_DigitTens kc_own_ones kc_own_tens h0 n0 v U'.heap L ∧ CHr Z own_EL U.vm U.heap U'.vm U'.heap ∧ ReturnedEndW U o U' L ({ frames := 6, cells := 18, slots := 717, locals := 91 } : Room).cells ({ frames := 6, cells := 18, slots := 717, locals := 91 } : Room).slots) := by
  refine MetFree.of_bodySF (plainFor_of_name own_pn783) hisR ?_
  intro p e s m args below meth c s₁ Bd hml0 hP hK
  obtain ⟨rfl, hZ, hh, hH⟩ := hP
  have hx := Bd.exec
  have hby := Bd.bytes
  have hml : c.maxLocals = 3 := hml0
  have hown : s.vm.findClass "standwatch/query/Arguments" = some m.cls := findClass_of_methodNamed Bd.named
  have hnm := (name_of_methodNamed Bd.named Bd.method).1
  have X0 : Stand p l e ({ frames := 6, cells := 18, slots := 717, locals := 91 } : Room) s m #[(.ref a1)] below meth c s₁ [] 0 0 := Stand.of_body Bd
  have e0 : s₁.heap = h0 := by rw [← hh, Bd.state]; rfl
  have N0 := Fr.nil n0
  have K0 := Keep.refl h0 []
  refine own_go (fun t k => castTop (own_ef827 m a1) k) ?_
  show OG m s₁ 0 #[sR a1, sU, sU] []
  have hS0 : s.Since s.vm 0 := (State.WarmedH.refl s).since 0
  have C0 : CHr Z own_EL s.vm h0 s.vm h0 := CHr.refl hH
  obtain ⟨T1, h1, X1, e1, E1, A1, D1, -, st1⟩ := newO X0 hx hZ hown (tw hw 5 rfl) (tw hw 6 rfl) (tw hw 7 rfl) e0 (g := (mkF m 0 #[sR a1, sU, sU] [])) rfl (hb hby own_d784) (by decide) (by decide)
  obtain ⟨b1, g1⟩ : ∃ z, z = h0.size := ⟨_, rfl⟩
  rw [← g1] at A1 D1 st1
  have ne2 : a1 ≠ b1 := Nat.ne_of_lt (Nat.lt_of_lt_of_le f0_0.lt (Nat.le_of_eq g1.symm))
  have g_b1 : n0 ≤ b1 := Nat.le_trans Z0 (Nat.le_of_eq g1.symm)
  have sz_b1 : h0.size ≤ b1 := Nat.le_trans K0.1 (Nat.le_of_eq g1.symm)
  have sf3 : Safe Z own_EL s.vm h0 b1 := Safe.new (Nat.le_of_eq g1.symm)
  have F4 : Arv Z h1 a1 ka .int (3 : Int32) [(.int x0), (.int x1), (.int x2)] (.int (0 : Int32)) := f0_0.ext E1
  have F5 : Old Z n0 h1 := O0.ext E1
  have K6 : Keep h0 h1 [] := K0.ext E1
  have Z6 : n0 ≤ h1.size := Nat.le_trans Z0 E1.1
  have C7 : CHr Z own_EL s.vm h0 s.vm h1 := C0.trans (CHr.ext E1 C0.1)
  have sf8 : Safe Z own_EL s.vm h1 b1 := Safe.ext E1 C0.1 sf3
  have F9 : Fld Z h1 b1 "java/lang/AbstractStringBuilder" "value" "[B" .null := D1 (Or.inl (tw hw 24 rfl)) (ty := (.array .byte)) (by decide)
  have F10 : Fld Z h1 b1 "java/lang/AbstractStringBuilder" "coder" "B" (.int (0 : Int32)) := D1 (Or.inl (tw hw 26 rfl)) (ty := .byte) (by decide)
  have F11 : Fld Z h1 b1 "java/lang/AbstractStringBuilder" "count" "I" (.int (0 : Int32)) := D1 (Or.inl (tw hw 38 rfl)) (ty := .int) (by decide)
  refine own_go (fun t k => st1 t k) ?_
  show OG m T1 3 #[sR a1, sU, sU] [(.ref b1)]
  refine og (XS.dup X1.here hx rfl (hb hby own_d785) rfl rfl) ?_
  refine og (XS.aloadN X1.here hx rfl (hb hby own_d786) rfl rfl) ?_
  show OG m T1 5 #[sR a1, sU, sU] [(.ref a1), (.ref b1), (.ref b1)]
  have vv12 := F4
  obtain ⟨cl12, Ar12, qk12, Sz12, Nn12, Hs12, Gs12⟩ := vv12
  have st12 : ∀ t, Steps p.tables e below (T1.setTop (mkF m 6 #[sR a1, sU, sU] [(.int (3 : Int32)), (.ref b1), (.ref b1)])) t → Steps p.tables e below (T1.setTop (mkF m 5 #[sR a1, sU, sU] [(.ref a1), (.ref b1), (.ref b1)])) t := fun t k => by
    refine X1.arraylength hx (by rw [e1]; exact Ar12.1) (State.isArrayOf_alike hZ.alike Ar12.2.1) (g := (mkF m 5 #[sR a1, sU, sU] [(.ref a1), (.ref b1), (.ref b1)])) rfl rfl (hb hby own_d787) _ ?_
    rw [len_of Sz12 Nn12]
    exact k
  refine own_go (fun t k => st12 t k) ?_
  show OG m T1 6 #[sR a1, sU, sU] [(.int (3 : Int32)), (.ref b1), (.ref b1)]
  refine og (XS.bipush X1.here hx rfl (hb hby own_d788)) ?_
  show OG m T1 8 #[sR a1, sU, sU] [(.int (7 : Int32)), (.int (3 : Int32)), (.ref b1), (.ref b1)]
  refine og (XS.imul X1.here hx rfl (hb hby own_d789) rfl) ?_
  refine og (XS.iconst X1.here hx rfl (hb hby own_d790)) ?_
  show OG m T1 10 #[sR a1, sU, sU] [(.int (2 : Int32)), (.int ((3 : Int32) * (7 : Int32))), (.ref b1), (.ref b1)]
  refine og (XS.iadd X1.here hx rfl (hb hby own_d791) rfl) ?_
  show OG m T1 11 #[sR a1, sU, sU] [(.int (((3 : Int32) * (7 : Int32)) + (2 : Int32))), (.ref b1), (.ref b1)]
  rw [show (((3 : Int32) * (7 : Int32)) + (2 : Int32)) = (23 : Int32) from by decide]
  show OG m T1 11 #[sR a1, sU, sU] [(.int (23 : Int32)), (.ref b1), (.ref b1)]
  obtain ⟨_, _, ⟨T13, L13, k13, n13⟩, -, X13, ⟨Lc13, hQ13, l13, y13, z13⟩, st13⟩ := X1.specialBack hx (y := (⟨"java/lang/StringBuilder", "<init>", "(I)V"⟩ : MethodName)) rfl hown (mvT hZ (tw hw 8 rfl)) (mvT hZ (tw hw 9 rfl)) (mvT hZ (tw hw 10 rfl)) (by decide) (backOf (W := 1) (own_si l Z a0 hw [] b1 (23 : Int32) i_COMPACT_STRINGS h1 n0 Z6 F5 S_COMPACT_STRINGS nz_i_COMPACT_STRINGS A1 F9 F10 F11 g_b1 (by decide) (by decide)) hZ (tw hw 10 rfl) (tw hw 7 rfl) (by decide) (by decide)) (g := (mkF m 11 #[sR a1, sU, sU] [(.int (23 : Int32)), (.ref b1), (.ref b1)])) rfl (by rw [hml]; rfl) (Steps.refl _) (a := b1) (argsL := [(.int (23 : Int32))]) (rest := [(.ref b1)]) (lenOf own_pd20 rfl) rfl (by show 2 * 0 + _ ≤ _; exact Nat.le_of_eq rfl) (hb hby own_d792) (fun _ _ => ⟨rfl, e1, (by decide : 1 + 1 ≤ _), (by decide : 4 + 23 ≤ _)⟩)
  dsimp only [Pt.U, Pt.locs, Pt.cells, Pt.slots] at X13 l13 y13 z13 st13 hQ13
  subst l13 y13 z13
  obtain ⟨xd_13, xk_13, rfl, Nq13, Kq13, Fq13_0, Fq13_1, Fq13_2, Fq13_3, Fq13_4, Fq13_5, mq13_fd⟩ := hQ13
  have N13 := Fr.app N0 Nq13
  have ne14 : a1 ≠ xd_13 := Nat.ne_of_lt (Nat.lt_of_lt_of_le F4.lt mq13_fd)
  have ne15 : b1 ≠ xd_13 := Nat.ne_of_lt (Nat.lt_of_lt_of_le A1.lt mq13_fd)
  have g_xd_13 : n0 ≤ xd_13 := Nat.le_trans Z6 mq13_fd
  have sz_xd_13 : h0.size ≤ xd_13 := Nat.le_trans K6.1 mq13_fd
  have sf16 : Safe Z own_EL s.vm h1 xd_13 := Safe.new mq13_fd
  have F17 : Arv Z T13.heap a1 ka .int (3 : Int32) [(.int x0), (.int x1), (.int x2)] (.int (0 : Int32)) := F4.keep Kq13 (ninS ne2 nin0)
  have F18 : Old Z n0 T13.heap := F5.keep Kq13 (allS g_b1 all0)
  have F19 : Exa Z T13.heap b1 "java/lang/StringBuilder" := A1.keep Kq13
  have C20 : CHr Z own_EL s.vm h0 s.vm T13.heap := C7.trans (CHr.keep Kq13 (sfS sf8 sf0) C7.1)
  have sf21 : Safe Z own_EL s.vm T13.heap b1 := Safe.keep Kq13 (sfS sf8 sf0) C7.1 sf8
  have sf22 : Safe Z own_EL s.vm T13.heap xd_13 := Safe.keep Kq13 (sfS sf8 sf0) C7.1 sf16
  have K13 : Keep h0 T13.heap [] := K6.trans Kq13 (allS (Or.inr sz_b1) all0)
  have Z13 : n0 ≤ T13.heap.size := Nat.le_trans Z6 Kq13.1
  refine og (st13.trans) ?_
  show OG m T13 14 #[sR a1, sU, sU] [(.ref b1)]
  have hx0 := own_txt_rng x0
  have hx1 := own_txt_rng x1
  have hx2 := own_txt_rng x2
  refine og (XS.bipush X13.here hx rfl (hb hby own_d793)) ?_
  show OG m T13 16 #[sR a1, sU, sU] [(.int (123 : Int32)), (.ref b1)]
  obtain ⟨cq23, kq23, q23a, q23b, q23c⟩ := isOf hZ rfl Fq13_0
  obtain ⟨_, _, ⟨T23, L23, k23, n23⟩, -, X23, ⟨Lc23, hQ23, l23, y23, z23⟩, st23⟩ := X13.virtualBack hx (y := (⟨"java/lang/StringBuilder", "append", "(C)Ljava/lang/StringBuilder;"⟩ : MethodName)) (z := (⟨"java/lang/StringBuilder", "append", "(C)Ljava/lang/StringBuilder;"⟩ : MethodName)) hown (mvT hZ (tw hw 27 rfl)) (mvT hZ (tw hw 28 rfl)) (notFace_of_selects (args := #[]) (mvT hZ (tw hw 30 rfl))) (mvT hZ (tw hw 30 rfl)) (mvT hZ (tw hw 29 rfl)) (by decide) (backOf (W := 0) (own_sc l Z a0 hw [] b1 (123 : Int32) xd_13 xk_13 (23 : Int32) (0 : Int32) ([]) i_COMPACT_STRINGS T13.heap n0 Z13 F18 S_COMPACT_STRINGS nz_i_COMPACT_STRINGS Fq13_0 Fq13_1 Fq13_2 Fq13_3 Fq13_4 Fq13_5 g_b1 g_xd_13 (⟨by decide, by decide⟩) (by decide) rfl (by decide) ne15 (by decide) (by decide)) hZ (tw hw 31 rfl) (tw hw 7 rfl) (by decide) (by decide)) q23a q23c (g := (mkF m 16 #[sR a1, sU, sU] [(.int (123 : Int32)), (.ref b1)])) rfl (by rw [hml]; rfl) (Steps.refl _) (argsL := [(.int (123 : Int32))]) (rest := []) (lenOf own_pd795 rfl) rfl (by show 2 * 0 + _ ≤ _; exact Nat.le_of_eq rfl) (hb hby own_d794) (fun _ _ => ⟨rfl, rfl, (by decide : 2 + 1 ≤ _), (by decide : 27 + 74 ≤ _)⟩)
  dsimp only [Pt.U, Pt.locs, Pt.cells, Pt.slots] at X23 l23 y23 z23 st23 hQ23
  subst l23 y23 z23
  obtain ⟨xd_23, xk_23, xc_23, rfl, Nq23, Kq23, Fq23_0, Fq23_1, Fq23_2, Fq23_3, Fq23_4, Fq23_5, mq23_mv, mq23_cb, mq23_cl⟩ := hQ23
  have N23 := Fr.app N13 Nq23
  have ne24 : a1 ≠ xd_23 := own_ne_or mq23_mv ne14 F17.lt
  have ne25 : b1 ≠ xd_23 := own_ne_or mq23_mv ne15 Fq13_0.lt
  have g_xd_23 : n0 ≤ xd_23 := own_ge_or mq23_mv g_xd_13 Z13
  have sz_xd_23 : h0.size ≤ xd_23 := own_ge_or mq23_mv sz_xd_13 K13.1
  have sf26 : Safe Z own_EL s.vm T13.heap xd_23 := own_safe_or mq23_mv sf22
  have F27 : Arv Z T23.heap a1 ka .int (3 : Int32) [(.int x0), (.int x1), (.int x2)] (.int (0 : Int32)) := F17.keep Kq23 (ninS ne2 (ninS ne14 nin0))
  have F28 : Old Z n0 T23.heap := F18.keep Kq23 (allS g_b1 (allS g_xd_13 all0))
  have F29 : Exa Z T23.heap b1 "java/lang/StringBuilder" := Fq13_0.keep Kq23
  have F30 : Exa Z T23.heap xd_13 "[B" := Fq13_4.keep Kq23
  have C31 : CHr Z own_EL s.vm h0 s.vm T23.heap := C20.trans (CHr.keep Kq23 (sfS sf21 (sfS sf22 sf0)) C20.1)
  have sf32 : Safe Z own_EL s.vm T23.heap b1 := Safe.keep Kq23 (sfS sf21 (sfS sf22 sf0)) C20.1 sf21
  have sf33 : Safe Z own_EL s.vm T23.heap xd_23 := Safe.keep Kq23 (sfS sf21 (sfS sf22 sf0)) C20.1 sf26
  have K23 : Keep h0 T23.heap [] := K13.trans Kq23 (allS (Or.inr sz_b1) (allS (Or.inr sz_xd_13) all0))
  have Z23 : n0 ≤ T23.heap.size := Nat.le_trans Z13 Kq23.1
  refine og (st23.trans) ?_
  show OG m T23 19 #[sR a1, sU, sU] [(.ref b1)]
  obtain ⟨l1, hl1⟩ : ∃ z : List Int32, z = (([] : List Int32) ++ [(123 : Int32)]) := ⟨_, rfl⟩
  have F34 : Arv Z T23.heap xd_23 xk_23 .byte xc_23 (own_B l1) (.int (0 : Int32)) := by rw [hl1]; exact Fq23_5
  obtain ⟨c1, hc1⟩ : ∃ z : Int32, z = ((0 : Int32) + (1 : Int32)) := ⟨_, rfl⟩
  have F35 : Fld Z T23.heap b1 "java/lang/AbstractStringBuilder" "count" "I" (.int c1) := by rw [hc1]; exact Fq23_3
  have hn1 : (l1.length : Int) = 0 + 1 := by rw [hl1]; simp only [List.length_append, List.length_cons, List.length_nil]; omega
  have hq1 : c1.toInt = (l1.length : Int) := by rw [hc1, hn1]; exact own_cnt rfl rfl (by omega) (by omega)
  have hu1 : (l1.length : Int) ≤ 1 := by omega
  have hm1 : (l1.length : Int) ≤ xc_23.toInt := by rw [hl1]; exact mq23_cl
  refine og (XS.astoreN X23.here hx rfl (hb hby own_d796) rfl rfl (l' := #[sR a1, sR b1, sU]) rfl) ?_
  refine og (XS.iconst X23.here hx rfl (hb hby own_d797)) ?_
  show OG m T23 21 #[sR a1, sR b1, sU] [(.int (0 : Int32))]
  refine og (XS.istoreN X23.here hx rfl (hb hby own_d798) rfl (l' := #[sR a1, sR b1, sI (0 : Int32)]) rfl) ?_
  refine og (XS.iloadN X23.here hx rfl (hb hby own_d799) rfl) ?_
  show OG m T23 23 #[sR a1, sR b1, sI (0 : Int32)] [(.int (0 : Int32))]
  refine og (XS.aloadN X23.here hx rfl (hb hby own_d800) rfl rfl) ?_
  show OG m T23 24 #[sR a1, sR b1, sI (0 : Int32)] [(.ref a1), (.int (0 : Int32))]
  have vv36 := F27
  obtain ⟨cl36, Ar36, qk36, Sz36, Nn36, Hs36, Gs36⟩ := vv36
  have st36 : ∀ t, Steps p.tables e below (T23.setTop (mkF m 25 #[sR a1, sR b1, sI (0 : Int32)] [(.int (3 : Int32)), (.int (0 : Int32))])) t → Steps p.tables e below (T23.setTop (mkF m 24 #[sR a1, sR b1, sI (0 : Int32)] [(.ref a1), (.int (0 : Int32))])) t := fun t k => by
    refine X23.arraylength hx Ar36.1 (State.isArrayOf_alike hZ.alike Ar36.2.1) (g := (mkF m 24 #[sR a1, sR b1, sI (0 : Int32)] [(.ref a1), (.int (0 : Int32))])) rfl rfl (hb hby own_d801) _ ?_
    rw [len_of Sz36 Nn36]
    exact k
  refine own_go (fun t k => st36 t k) ?_
  show OG m T23 25 #[sR a1, sR b1, sI (0 : Int32)] [(.int (3 : Int32)), (.int (0 : Int32))]
  refine og (XS.icmpNo X23.here hx rfl (hb hby own_d802) rfl (tlt (by decide : (0 : Int32) < (3 : Int32))).2.1) ?_
  refine og (XS.aloadN X23.here hx rfl (hb hby own_d810) rfl rfl) ?_
  show OG m T23 29 #[sR a1, sR b1, sI (0 : Int32)] [(.ref b1)]
  refine og (XS.iloadN X23.here hx rfl (hb hby own_d811) rfl) ?_
  show OG m T23 30 #[sR a1, sR b1, sI (0 : Int32)] [(.int (0 : Int32)), (.ref b1)]
  refine og (XS.ifNo X23.here hx rfl (hb hby own_d812) rfl ((if0 _ _).trans (teq (by decide : (0 : Int32) = (0 : Int32))).2)) ?_
  show OG m T23 33 #[sR a1, sR b1, sI (0 : Int32)] [(.ref b1)]
  obtain ⟨a37, T37, h37, kk37, b37, kb37, X37, e37, E37, S37, hk37, hZ37, hO37, A37, Fc37, Fv37, Av37, -, -, hC37, -, hne37, st37⟩ := ldcCH (s := s) (vm0 := s.vm) X23 hx hZ hown (tw hw 53 rfl) (own_sa Z a0 hw) rfl hS0 (Nat.zero_le _) (own_EW Z a0 hw) (List.mem_of_getElem? (i := 0) rfl) C31.1 (vs := []) (z := (0 : Int32)) ⟨by decide, by decide⟩ (by decide) rfl (g := (mkF m 33 #[sR a1, sR b1, sI (0 : Int32)] [(.ref b1)])) rfl (hb hby own_d813) (n := 0) (by decide) (by decide) (by decide) (by decide)
  have F38 : Arv Z h37 a1 ka .int (3 : Int32) [(.int x0), (.int x1), (.int x2)] (.int (0 : Int32)) := F27.ext E37
  have F39 : Old Z n0 h37 := F28.ext E37
  have F40 : Exa Z h37 b1 "java/lang/StringBuilder" := Fq23_0.ext E37
  have F41 : Fld Z h37 b1 "java/lang/AbstractStringBuilder" "value" "[B" (.ref xd_23) := Fq23_1.ext E37
  have F42 : Fld Z h37 b1 "java/lang/AbstractStringBuilder" "coder" "B" (.int (0 : Int32)) := Fq23_2.ext E37
  have F43 : Fld Z h37 b1 "java/lang/AbstractStringBuilder" "count" "I" (.int c1) := F35.ext E37
  have F44 : Exa Z h37 xd_23 "[B" := Fq23_4.ext E37
  have F45 : Arv Z h37 xd_23 xk_23 .byte xc_23 (own_B l1) (.int (0 : Int32)) := F34.ext E37
  have K46 : Keep h0 h37 [] := K23.ext E37
  have Z46 : n0 ≤ h37.size := Nat.le_trans Z23 E37.1
  have C47 : CHr Z own_EL s.vm h0 T37.vm h37 := C31.trans hC37
  have sf48 : Safe Z own_EL T37.vm h37 b1 := hC37.safe Fq23_0.lt sf32
  have sf49 : Safe Z own_EL T37.vm h37 xd_23 := hC37.safe Fq23_4.lt sf33
  refine own_go (fun t k => st37 t k) ?_
  show OG m T37 35 #[sR a1, sR b1, sI (0 : Int32)] [(.ref a37), (.ref b1)]
  refine og (XS.goto X37.here hx rfl (pc0 := 35) (pc' := 40) rfl (hb hby own_d814) (by decide) (by decide)) ?_
  show OG m T37 40 #[sR a1, sR b1, sI (0 : Int32)] [(.ref a37), (.ref b1)]
  obtain ⟨cq50, kq50, q50a, q50b, q50c⟩ := isOf hZ37 e37 F40
  obtain ⟨_, _, ⟨T50, L50, k50, n50⟩, -, X50, ⟨Lc50, hQ50, l50, y50, z50⟩, st50⟩ := X37.virtualBack hx (y := (⟨"java/lang/StringBuilder", "append", "(Ljava/lang/String;)Ljava/lang/StringBuilder;"⟩ : MethodName)) (z := (⟨"java/lang/StringBuilder", "append", "(Ljava/lang/String;)Ljava/lang/StringBuilder;"⟩ : MethodName)) hO37 (mvT hZ37 (tw hw 59 rfl)) (mvT hZ37 (tw hw 60 rfl)) (notFace_of_selects (args := #[]) (mvT hZ37 (tw hw 62 rfl))) (mvT hZ37 (tw hw 62 rfl)) (mvT hZ37 (tw hw 61 rfl)) (by decide) (backOf (W := 0) (own_sst l Z a0 hw [] b1 a37 xd_23 xk_23 xc_23 c1 l1 b37 kb37 (0 : Int32) ([] : List Int32) i_COMPACT_STRINGS h37 n0 Z46 F39 S_COMPACT_STRINGS nz_i_COMPACT_STRINGS F40 F41 F42 F43 F44 F45 A37 Fv37 Fc37 Av37 g_b1 g_xd_23 mq23_cb hm1 hq1 (by simp only [List.length_cons, List.length_nil]; omega) ne25 (⟨by decide, by decide⟩) (Ne.symm ((hne37 _ sf49).2))) hZ37 (tw hw 63 rfl) (tw hw 7 rfl) (by decide) (by decide)) q50a q50c (g := (mkF m 40 #[sR a1, sR b1, sI (0 : Int32)] [(.ref a37), (.ref b1)])) rfl (by rw [hml]; rfl) (Steps.refl _) (argsL := [(.ref a37)]) (rest := []) (lenOf own_pd816 rfl) rfl (by show 2 * 0 + _ ≤ _; exact Nat.le_of_eq rfl) (hb hby own_d815) (fun _ _ => ⟨rfl, e37, (by decide : 5 + 1 ≤ _), (by decide : 105 + 74 ≤ _)⟩)
  dsimp only [Pt.U, Pt.locs, Pt.cells, Pt.slots] at X50 l50 y50 z50 st50 hQ50
  subst l50 y50 z50
  obtain ⟨xd_50, xk_50, xc_50, rfl, Nq50, Kq50, Fq50_0, Fq50_1, Fq50_2, Fq50_3, Fq50_4, Fq50_5, mq50_mv, mq50_cb, mq50_cl⟩ := hQ50
  have N50 := Fr.app N23 Nq50
  have ne51 : a1 ≠ xd_50 := own_ne_or mq50_mv ne24 F38.lt
  have ne52 : b1 ≠ xd_50 := own_ne_or mq50_mv ne25 F40.lt
  have g_xd_50 : n0 ≤ xd_50 := own_ge_or mq50_mv g_xd_23 Z46
  have sz_xd_50 : h0.size ≤ xd_50 := own_ge_or mq50_mv sz_xd_23 K46.1
  have sf53 : Safe Z own_EL T37.vm h37 xd_50 := own_safe_or mq50_mv sf49
  have F54 : Arv Z T50.heap a1 ka .int (3 : Int32) [(.int x0), (.int x1), (.int x2)] (.int (0 : Int32)) := F38.keep Kq50 (ninS ne2 (ninS ne24 nin0))
  have F55 : Old Z n0 T50.heap := F39.keep Kq50 (allS g_b1 (allS g_xd_23 all0))
  have F56 : Exa Z T50.heap b1 "java/lang/StringBuilder" := F40.keep Kq50
  have F57 : Exa Z T50.heap xd_23 "[B" := F44.keep Kq50
  have C58 : CHr Z own_EL s.vm h0 T37.vm T50.heap := C47.trans (CHr.keep Kq50 (sfS sf48 (sfS sf49 sf0)) C47.1)
  have sf59 : Safe Z own_EL T37.vm T50.heap b1 := Safe.keep Kq50 (sfS sf48 (sfS sf49 sf0)) C47.1 sf48
  have sf60 : Safe Z own_EL T37.vm T50.heap xd_50 := Safe.keep Kq50 (sfS sf48 (sfS sf49 sf0)) C47.1 sf53
  have K50 : Keep h0 T50.heap [] := K46.trans Kq50 (allS (Or.inr sz_b1) (allS (Or.inr sz_xd_23) all0))
  have Z50 : n0 ≤ T50.heap.size := Nat.le_trans Z46 Kq50.1
  have hk50 : _ ≤ T50.heap.size := Nat.le_trans hk37 Kq50.1
  refine og (st50.trans) ?_
  show OG m T50 43 #[sR a1, sR b1, sI (0 : Int32)] [(.ref b1)]
  obtain ⟨l2, hl2⟩ : ∃ z : List Int32, z = (l1 ++ ([] : List Int32)) := ⟨_, rfl⟩
  have F61 : Arv Z T50.heap xd_50 xk_50 .byte xc_50 (own_B l2) (.int (0 : Int32)) := by rw [hl2]; exact Fq50_5
  obtain ⟨c2, hc2⟩ : ∃ z : Int32, z = (c1 + (0 : Int32)) := ⟨_, rfl⟩
  have F62 : Fld Z T50.heap b1 "java/lang/AbstractStringBuilder" "count" "I" (.int c2) := by rw [hc2]; exact Fq50_3
  have hn2 : (l2.length : Int) = (l1.length : Int) + 0 := by rw [hl2]; simp only [List.length_append, List.length_cons, List.length_nil]; omega
  have hq2 : c2.toInt = (l2.length : Int) := by rw [hc2, hn2]; exact own_cnt hq1 rfl (by omega) (by omega)
  have hu2 : (l2.length : Int) ≤ 1 := by omega
  have hm2 : (l2.length : Int) ≤ xc_50.toInt := by rw [hl2]; exact mq50_cl
  refine og (XS.aloadN X50.here hx rfl (hb hby own_d817) rfl rfl) ?_
  refine og (XS.iloadN X50.here hx rfl (hb hby own_d818) rfl) ?_
  show OG m T50 45 #[sR a1, sR b1, sI (0 : Int32)] [(.int (0 : Int32)), (.ref a1), (.ref b1)]
  have vv63 := F54
  obtain ⟨cl63, Ar63, qk63, Sz63, Nn63, Hs63, Gs63⟩ := vv63
  have hin63 : ¬ ((0 : Int32) < 0 ∨ cl63.slots.size ≤ ((0 : Int32)).toNatClampNeg) := inb_of Sz63 ⟨by decide, by decide⟩
  have hat63 : cl63.slots[((0 : Int32)).toNatClampNeg]? = some (.int x0) := Hs63.at hin63 rfl
  refine own_go (fun t k => (X50.iaload hx (j := (0 : Int32)) (v := (.int x0)) Ar63.1 (State.isArrayOf_alike hZ37.alike Ar63.2.1) Ar63.2.2 hin63 hat63 (g := (mkF m 45 #[sR a1, sR b1, sI (0 : Int32)] [(.int (0 : Int32)), (.ref a1), (.ref b1)])) rfl rfl (hb hby own_d819)) t k) ?_
  show OG m T50 46 #[sR a1, sR b1, sI (0 : Int32)] [(.int x0), (.ref b1)]
  obtain ⟨cq64, kq64, q64a, q64b, q64c⟩ := isOf hZ37 rfl Fq50_0
  obtain ⟨_, _, ⟨T64, L64, k64, n64⟩, -, X64, ⟨Lc64, hQ64, l64, y64, z64⟩, st64⟩ := X50.virtualBack hx (y := (⟨"java/lang/StringBuilder", "append", "(I)Ljava/lang/StringBuilder;"⟩ : MethodName)) (z := (⟨"java/lang/StringBuilder", "append", "(I)Ljava/lang/StringBuilder;"⟩ : MethodName)) hO37 (mvT hZ37 (tw hw 101 rfl)) (mvT hZ37 (tw hw 102 rfl)) (notFace_of_selects (args := #[]) (mvT hZ37 (tw hw 104 rfl))) (mvT hZ37 (tw hw 104 rfl)) (mvT hZ37 (tw hw 103 rfl)) (by decide) (backOf (W := 0) (own_sai l Z a0 hw [] b1 x0 xd_50 xk_50 xc_50 c2 l2 i_COMPACT_STRINGS o_DigitOnes o_DigitTens kc_own_ones kc_own_tens T50.heap n0 Z50 F55 S_COMPACT_STRINGS nz_i_COMPACT_STRINGS S_DigitOnes V_own_ones S_DigitTens V_own_tens Fq50_0 Fq50_1 Fq50_2 F62 Fq50_4 F61 g_b1 g_xd_50 mq50_cb hm2 hq2 (by omega) ne52) hZ37 (tw hw 105 rfl) (tw hw 7 rfl) (by decide) (by decide)) q64a q64c (g := (mkF m 46 #[sR a1, sR b1, sI (0 : Int32)] [(.int x0), (.ref b1)])) rfl (by rw [hml]; rfl) (Steps.refl _) (argsL := [(.int x0)]) (rest := []) (lenOf own_pd821 rfl) rfl (by show 2 * 0 + _ ≤ _; exact Nat.le_of_eq rfl) (hb hby own_d820) (fun _ _ => ⟨rfl, rfl, (by decide : 6 + 1 ≤ _), (by decide : 179 + 74 ≤ _)⟩)
  dsimp only [Pt.U, Pt.locs, Pt.cells, Pt.slots] at X64 l64 y64 z64 st64 hQ64
  subst l64 y64 z64
  obtain ⟨xd_64, xk_64, xc_64, rfl, Nq64, Kq64, Fq64_0, Fq64_1, Fq64_2, Fq64_3, Fq64_4, Fq64_5, mq64_mv, mq64_cb, mq64_cl⟩ := hQ64
  have N64 := Fr.app N50 Nq64
  have ne65 : a1 ≠ xd_64 := own_ne_or mq64_mv ne51 F54.lt
  have ne66 : b1 ≠ xd_64 := own_ne_or mq64_mv ne52 Fq50_0.lt
  have g_xd_64 : n0 ≤ xd_64 := own_ge_or mq64_mv g_xd_50 Z50
  have sz_xd_64 : h0.size ≤ xd_64 := own_ge_or mq64_mv sz_xd_50 K50.1
  have sf67 : Safe Z own_EL T37.vm T50.heap xd_64 := own_safe_or mq64_mv sf60
  have F68 : Arv Z T64.heap a1 ka .int (3 : Int32) [(.int x0), (.int x1), (.int x2)] (.int (0 : Int32)) := F54.keep Kq64 (ninS ne2 (ninS ne51 nin0))
  have F69 : Old Z n0 T64.heap := F55.keep Kq64 (allS g_b1 (allS g_xd_50 all0))
  have F70 : Exa Z T64.heap b1 "java/lang/StringBuilder" := Fq50_0.keep Kq64
  have F71 : Exa Z T64.heap xd_50 "[B" := Fq50_4.keep Kq64
  have C72 : CHr Z own_EL s.vm h0 T37.vm T64.heap := C58.trans (CHr.keep Kq64 (sfS sf59 (sfS sf60 sf0)) C58.1)
  have sf73 : Safe Z own_EL T37.vm T64.heap b1 := Safe.keep Kq64 (sfS sf59 (sfS sf60 sf0)) C58.1 sf59
  have sf74 : Safe Z own_EL T37.vm T64.heap xd_64 := Safe.keep Kq64 (sfS sf59 (sfS sf60 sf0)) C58.1 sf67
  have K64 : Keep h0 T64.heap [] := K50.trans Kq64 (allS (Or.inr sz_b1) (allS (Or.inr sz_xd_50) all0))
  have Z64 : n0 ≤ T64.heap.size := Nat.le_trans Z50 Kq64.1
  have hk64 : _ ≤ T64.heap.size := Nat.le_trans hk50 Kq64.1
  refine og (st64.trans) ?_
  show OG m T64 49 #[sR a1, sR b1, sI (0 : Int32)] [(.ref b1)]
  obtain ⟨l3, hl3⟩ : ∃ z : List Int32, z = (l2 ++ own_txt x0) := ⟨_, rfl⟩
  have F75 : Arv Z T64.heap xd_64 xk_64 .byte xc_64 (own_B l3) (.int (0 : Int32)) := by rw [hl3]; exact Fq64_5
  obtain ⟨c3, hc3⟩ : ∃ z : Int32, z = (c2 + (own_ssz x0)) := ⟨_, rfl⟩
  have F76 : Fld Z T64.heap b1 "java/lang/AbstractStringBuilder" "count" "I" (.int c3) := by rw [hc3]; exact Fq64_3
  have hn3 : (l3.length : Int) = (l2.length : Int) + ((own_txt x0).length : Int) := by rw [hl3]; simp only [List.length_append, List.length_cons, List.length_nil]; omega
  have hq3 : c3.toInt = (l3.length : Int) := by rw [hc3, hn3]; exact own_cnt hq2 (own_ssz_len x0) (by omega) (by omega)
  have hu3 : (l3.length : Int) ≤ 12 := by omega
  have hm3 : (l3.length : Int) ≤ xc_64.toInt := by rw [hl3]; exact mq64_cl
  refine og (XS.pop X64.here hx rfl (hb hby own_d822) rfl rfl) ?_
  show OG m T64 50 #[sR a1, sR b1, sI (0 : Int32)] []
  refine og (XS.iinc X64.here hx rfl (hb hby own_d823) rfl (l' := #[sR a1, sR b1, sI ((0 : Int32) + (1 : Int32))]) rfl) ?_
  rw [show ((0 : Int32) + (1 : Int32)) = (1 : Int32) from by decide]
  show OG m T64 53 #[sR a1, sR b1, sI (1 : Int32)] []
  refine og (XS.goto X64.here hx rfl (pc0 := 53) (pc' := 22) rfl (hb hby own_d824) (by decide) (by decide)) ?_
  refine og (XS.iloadN X64.here hx rfl (hb hby own_d799) rfl) ?_
  show OG m T64 23 #[sR a1, sR b1, sI (1 : Int32)] [(.int (1 : Int32))]
  refine og (XS.aloadN X64.here hx rfl (hb hby own_d800) rfl rfl) ?_
  show OG m T64 24 #[sR a1, sR b1, sI (1 : Int32)] [(.ref a1), (.int (1 : Int32))]
  have vv77 := F68
  obtain ⟨cl77, Ar77, qk77, Sz77, Nn77, Hs77, Gs77⟩ := vv77
  have st77 : ∀ t, Steps p.tables e below (T64.setTop (mkF m 25 #[sR a1, sR b1, sI (1 : Int32)] [(.int (3 : Int32)), (.int (1 : Int32))])) t → Steps p.tables e below (T64.setTop (mkF m 24 #[sR a1, sR b1, sI (1 : Int32)] [(.ref a1), (.int (1 : Int32))])) t := fun t k => by
    refine X64.arraylength hx Ar77.1 (State.isArrayOf_alike hZ37.alike Ar77.2.1) (g := (mkF m 24 #[sR a1, sR b1, sI (1 : Int32)] [(.ref a1), (.int (1 : Int32))])) rfl rfl (hb hby own_d801) _ ?_
    rw [len_of Sz77 Nn77]
    exact k
  refine own_go (fun t k => st77 t k) ?_
  show OG m T64 25 #[sR a1, sR b1, sI (1 : Int32)] [(.int (3 : Int32)), (.int (1 : Int32))]
  refine og (XS.icmpNo X64.here hx rfl (hb hby own_d802) rfl (tlt (by decide : (1 : Int32) < (3 : Int32))).2.1) ?_
  refine og (XS.aloadN X64.here hx rfl (hb hby own_d810) rfl rfl) ?_
  show OG m T64 29 #[sR a1, sR b1, sI (1 : Int32)] [(.ref b1)]
  refine og (XS.iloadN X64.here hx rfl (hb hby own_d811) rfl) ?_
  show OG m T64 30 #[sR a1, sR b1, sI (1 : Int32)] [(.int (1 : Int32)), (.ref b1)]
  refine og (XS.ifYes X64.here hx rfl (pc0 := 30) (pc' := 38) rfl (hb hby own_d812) rfl ((if0 _ _).trans (feq (by decide : ¬ ((1 : Int32) = (0 : Int32)))).2) (by decide) (by decide)) ?_
  show OG m T64 38 #[sR a1, sR b1, sI (1 : Int32)] [(.ref b1)]
  obtain ⟨a78, T78, h78, kk78, b78, kb78, X78, e78, E78, S78, hk78, hZ78, hO78, A78, Fc78, Fv78, Av78, -, -, hC78, -, hne78, st78⟩ := ldcCH (s := s) (vm0 := T37.vm) X64 hx hZ37 hO37 (tw hw 206 rfl) (own_sa Z a0 hw) rfl S37 hk64 (own_EW Z a0 hw) (List.mem_of_getElem? (i := 1) rfl) C72.1 (vs := [.int (44 : Int32)]) (z := (1 : Int32)) ⟨by decide, by decide⟩ (by decide) rfl (g := (mkF m 38 #[sR a1, sR b1, sI (1 : Int32)] [(.ref b1)])) rfl (hb hby own_d826) (n := 4) (by decide) (by decide) (by decide) (by decide)
  have F79 : Arv Z h78 a1 ka .int (3 : Int32) [(.int x0), (.int x1), (.int x2)] (.int (0 : Int32)) := F68.ext E78
  have F80 : Old Z n0 h78 := F69.ext E78
  have F81 : Exa Z h78 b1 "java/lang/StringBuilder" := Fq64_0.ext E78
  have F82 : Fld Z h78 b1 "java/lang/AbstractStringBuilder" "value" "[B" (.ref xd_64) := Fq64_1.ext E78
  have F83 : Fld Z h78 b1 "java/lang/AbstractStringBuilder" "coder" "B" (.int (0 : Int32)) := Fq64_2.ext E78
  have F84 : Fld Z h78 b1 "java/lang/AbstractStringBuilder" "count" "I" (.int c3) := F76.ext E78
  have F85 : Exa Z h78 xd_64 "[B" := Fq64_4.ext E78
  have F86 : Arv Z h78 xd_64 xk_64 .byte xc_64 (own_B l3) (.int (0 : Int32)) := F75.ext E78
  have K87 : Keep h0 h78 [] := K64.ext E78
  have Z87 : n0 ≤ h78.size := Nat.le_trans Z64 E78.1
  have C88 : CHr Z own_EL s.vm h0 T78.vm h78 := C72.trans hC78
  have sf89 : Safe Z own_EL T78.vm h78 b1 := hC78.safe Fq64_0.lt sf73
  have sf90 : Safe Z own_EL T78.vm h78 xd_64 := hC78.safe Fq64_4.lt sf74
  refine own_go (fun t k => st78 t k) ?_
  show OG m T78 40 #[sR a1, sR b1, sI (1 : Int32)] [(.ref a78), (.ref b1)]
  obtain ⟨cq91, kq91, q91a, q91b, q91c⟩ := isOf hZ78 e78 F81
  obtain ⟨_, _, ⟨T91, L91, k91, n91⟩, -, X91, ⟨Lc91, hQ91, l91, y91, z91⟩, st91⟩ := X78.virtualBack hx (y := (⟨"java/lang/StringBuilder", "append", "(Ljava/lang/String;)Ljava/lang/StringBuilder;"⟩ : MethodName)) (z := (⟨"java/lang/StringBuilder", "append", "(Ljava/lang/String;)Ljava/lang/StringBuilder;"⟩ : MethodName)) hO78 (mvT hZ78 (tw hw 59 rfl)) (mvT hZ78 (tw hw 60 rfl)) (notFace_of_selects (args := #[]) (mvT hZ78 (tw hw 62 rfl))) (mvT hZ78 (tw hw 62 rfl)) (mvT hZ78 (tw hw 61 rfl)) (by decide) (backOf (W := 0) (own_sst l Z a0 hw [] b1 a78 xd_64 xk_64 xc_64 c3 l3 b78 kb78 (1 : Int32) ([(44 : Int32)]) i_COMPACT_STRINGS h78 n0 Z87 F80 S_COMPACT_STRINGS nz_i_COMPACT_STRINGS F81 F82 F83 F84 F85 F86 A78 Fv78 Fc78 Av78 g_b1 g_xd_64 mq64_cb hm3 hq3 (by simp only [List.length_cons, List.length_nil]; omega) ne66 (⟨by decide, by decide⟩) (Ne.symm ((hne78 _ sf90).2))) hZ78 (tw hw 63 rfl) (tw hw 7 rfl) (by decide) (by decide)) q91a q91c (g := (mkF m 40 #[sR a1, sR b1, sI (1 : Int32)] [(.ref a78), (.ref b1)])) rfl (by rw [hml]; rfl) (Steps.refl _) (argsL := [(.ref a78)]) (rest := []) (lenOf own_pd816 rfl) rfl (by show 2 * 0 + _ ≤ _; exact Nat.le_of_eq rfl) (hb hby own_d815) (fun _ _ => ⟨rfl, e78, (by decide : 9 + 1 ≤ _), (by decide : 261 + 74 ≤ _)⟩)
  dsimp only [Pt.U, Pt.locs, Pt.cells, Pt.slots] at X91 l91 y91 z91 st91 hQ91
  subst l91 y91 z91
  obtain ⟨xd_91, xk_91, xc_91, rfl, Nq91, Kq91, Fq91_0, Fq91_1, Fq91_2, Fq91_3, Fq91_4, Fq91_5, mq91_mv, mq91_cb, mq91_cl⟩ := hQ91
  have N91 := Fr.app N64 Nq91
  have ne92 : a1 ≠ xd_91 := own_ne_or mq91_mv ne65 F79.lt
  have ne93 : b1 ≠ xd_91 := own_ne_or mq91_mv ne66 F81.lt
  have g_xd_91 : n0 ≤ xd_91 := own_ge_or mq91_mv g_xd_64 Z87
  have sz_xd_91 : h0.size ≤ xd_91 := own_ge_or mq91_mv sz_xd_64 K87.1
  have sf94 : Safe Z own_EL T78.vm h78 xd_91 := own_safe_or mq91_mv sf90
  have F95 : Arv Z T91.heap a1 ka .int (3 : Int32) [(.int x0), (.int x1), (.int x2)] (.int (0 : Int32)) := F79.keep Kq91 (ninS ne2 (ninS ne65 nin0))
  have F96 : Old Z n0 T91.heap := F80.keep Kq91 (allS g_b1 (allS g_xd_64 all0))
  have F97 : Exa Z T91.heap b1 "java/lang/StringBuilder" := F81.keep Kq91
  have F98 : Exa Z T91.heap xd_64 "[B" := F85.keep Kq91
  have C99 : CHr Z own_EL s.vm h0 T78.vm T91.heap := C88.trans (CHr.keep Kq91 (sfS sf89 (sfS sf90 sf0)) C88.1)
  have sf100 : Safe Z own_EL T78.vm T91.heap b1 := Safe.keep Kq91 (sfS sf89 (sfS sf90 sf0)) C88.1 sf89
  have sf101 : Safe Z own_EL T78.vm T91.heap xd_91 := Safe.keep Kq91 (sfS sf89 (sfS sf90 sf0)) C88.1 sf94
  have K91 : Keep h0 T91.heap [] := K87.trans Kq91 (allS (Or.inr sz_b1) (allS (Or.inr sz_xd_64) all0))
  have Z91 : n0 ≤ T91.heap.size := Nat.le_trans Z87 Kq91.1
  have hk91 : _ ≤ T91.heap.size := Nat.le_trans hk78 Kq91.1
  refine og (st91.trans) ?_
  show OG m T91 43 #[sR a1, sR b1, sI (1 : Int32)] [(.ref b1)]
  obtain ⟨l4, hl4⟩ : ∃ z : List Int32, z = (l3 ++ [(44 : Int32)]) := ⟨_, rfl⟩
  have F102 : Arv Z T91.heap xd_91 xk_91 .byte xc_91 (own_B l4) (.int (0 : Int32)) := by rw [hl4]; exact Fq91_5
  obtain ⟨c4, hc4⟩ : ∃ z : Int32, z = (c3 + (1 : Int32)) := ⟨_, rfl⟩
  have F103 : Fld Z T91.heap b1 "java/lang/AbstractStringBuilder" "count" "I" (.int c4) := by rw [hc4]; exact Fq91_3
  have hn4 : (l4.length : Int) = (l3.length : Int) + 1 := by rw [hl4]; simp only [List.length_append, List.length_cons, List.length_nil]; omega
  have hq4 : c4.toInt = (l4.length : Int) := by rw [hc4, hn4]; exact own_cnt hq3 rfl (by omega) (by omega)
  have hu4 : (l4.length : Int) ≤ 13 := by omega
  have hm4 : (l4.length : Int) ≤ xc_91.toInt := by rw [hl4]; exact mq91_cl
  refine og (XS.aloadN X91.here hx rfl (hb hby own_d817) rfl rfl) ?_
  refine og (XS.iloadN X91.here hx rfl (hb hby own_d818) rfl) ?_
  show OG m T91 45 #[sR a1, sR b1, sI (1 : Int32)] [(.int (1 : Int32)), (.ref a1), (.ref b1)]
  have vv104 := F95
  obtain ⟨cl104, Ar104, qk104, Sz104, Nn104, Hs104, Gs104⟩ := vv104
  have hin104 : ¬ ((1 : Int32) < 0 ∨ cl104.slots.size ≤ ((1 : Int32)).toNatClampNeg) := inb_of Sz104 ⟨by decide, by decide⟩
  have hat104 : cl104.slots[((1 : Int32)).toNatClampNeg]? = some (.int x1) := Hs104.at hin104 rfl
  refine own_go (fun t k => (X91.iaload hx (j := (1 : Int32)) (v := (.int x1)) Ar104.1 (State.isArrayOf_alike hZ78.alike Ar104.2.1) Ar104.2.2 hin104 hat104 (g := (mkF m 45 #[sR a1, sR b1, sI (1 : Int32)] [(.int (1 : Int32)), (.ref a1), (.ref b1)])) rfl rfl (hb hby own_d819)) t k) ?_
  show OG m T91 46 #[sR a1, sR b1, sI (1 : Int32)] [(.int x1), (.ref b1)]
  obtain ⟨cq105, kq105, q105a, q105b, q105c⟩ := isOf hZ78 rfl Fq91_0
  obtain ⟨_, _, ⟨T105, L105, k105, n105⟩, -, X105, ⟨Lc105, hQ105, l105, y105, z105⟩, st105⟩ := X91.virtualBack hx (y := (⟨"java/lang/StringBuilder", "append", "(I)Ljava/lang/StringBuilder;"⟩ : MethodName)) (z := (⟨"java/lang/StringBuilder", "append", "(I)Ljava/lang/StringBuilder;"⟩ : MethodName)) hO78 (mvT hZ78 (tw hw 101 rfl)) (mvT hZ78 (tw hw 102 rfl)) (notFace_of_selects (args := #[]) (mvT hZ78 (tw hw 104 rfl))) (mvT hZ78 (tw hw 104 rfl)) (mvT hZ78 (tw hw 103 rfl)) (by decide) (backOf (W := 0) (own_sai l Z a0 hw [] b1 x1 xd_91 xk_91 xc_91 c4 l4 i_COMPACT_STRINGS o_DigitOnes o_DigitTens kc_own_ones kc_own_tens T91.heap n0 Z91 F96 S_COMPACT_STRINGS nz_i_COMPACT_STRINGS S_DigitOnes V_own_ones S_DigitTens V_own_tens Fq91_0 Fq91_1 Fq91_2 F103 Fq91_4 F102 g_b1 g_xd_91 mq91_cb hm4 hq4 (by omega) ne93) hZ78 (tw hw 105 rfl) (tw hw 7 rfl) (by decide) (by decide)) q105a q105c (g := (mkF m 46 #[sR a1, sR b1, sI (1 : Int32)] [(.int x1), (.ref b1)])) rfl (by rw [hml]; rfl) (Steps.refl _) (argsL := [(.int x1)]) (rest := []) (lenOf own_pd821 rfl) rfl (by show 2 * 0 + _ ≤ _; exact Nat.le_of_eq rfl) (hb hby own_d820) (fun _ _ => ⟨rfl, rfl, (by decide : 10 + 1 ≤ _), (by decide : 335 + 74 ≤ _)⟩)
  dsimp only [Pt.U, Pt.locs, Pt.cells, Pt.slots] at X105 l105 y105 z105 st105 hQ105
  subst l105 y105 z105
  obtain ⟨xd_105, xk_105, xc_105, rfl, Nq105, Kq105, Fq105_0, Fq105_1, Fq105_2, Fq105_3, Fq105_4, Fq105_5, mq105_mv, mq105_cb, mq105_cl⟩ := hQ105
  have N105 := Fr.app N91 Nq105
  have ne106 : a1 ≠ xd_105 := own_ne_or mq105_mv ne92 F95.lt
  have ne107 : b1 ≠ xd_105 := own_ne_or mq105_mv ne93 Fq91_0.lt
  have g_xd_105 : n0 ≤ xd_105 := own_ge_or mq105_mv g_xd_91 Z91
  have sz_xd_105 : h0.size ≤ xd_105 := own_ge_or mq105_mv sz_xd_91 K91.1
  have sf108 : Safe Z own_EL T78.vm T91.heap xd_105 := own_safe_or mq105_mv sf101
  have F109 : Arv Z T105.heap a1 ka .int (3 : Int32) [(.int x0), (.int x1), (.int x2)] (.int (0 : Int32)) := F95.keep Kq105 (ninS ne2 (ninS ne92 nin0))
  have F110 : Old Z n0 T105.heap := F96.keep Kq105 (allS g_b1 (allS g_xd_91 all0))
  have F111 : Exa Z T105.heap b1 "java/lang/StringBuilder" := Fq91_0.keep Kq105
  have F112 : Exa Z T105.heap xd_91 "[B" := Fq91_4.keep Kq105
  have C113 : CHr Z own_EL s.vm h0 T78.vm T105.heap := C99.trans (CHr.keep Kq105 (sfS sf100 (sfS sf101 sf0)) C99.1)
  have sf114 : Safe Z own_EL T78.vm T105.heap b1 := Safe.keep Kq105 (sfS sf100 (sfS sf101 sf0)) C99.1 sf100
  have sf115 : Safe Z own_EL T78.vm T105.heap xd_105 := Safe.keep Kq105 (sfS sf100 (sfS sf101 sf0)) C99.1 sf108
  have K105 : Keep h0 T105.heap [] := K91.trans Kq105 (allS (Or.inr sz_b1) (allS (Or.inr sz_xd_91) all0))
  have Z105 : n0 ≤ T105.heap.size := Nat.le_trans Z91 Kq105.1
  have hk105 : _ ≤ T105.heap.size := Nat.le_trans hk91 Kq105.1
  refine og (st105.trans) ?_
  show OG m T105 49 #[sR a1, sR b1, sI (1 : Int32)] [(.ref b1)]
  obtain ⟨l5, hl5⟩ : ∃ z : List Int32, z = (l4 ++ own_txt x1) := ⟨_, rfl⟩
  have F116 : Arv Z T105.heap xd_105 xk_105 .byte xc_105 (own_B l5) (.int (0 : Int32)) := by rw [hl5]; exact Fq105_5
  obtain ⟨c5, hc5⟩ : ∃ z : Int32, z = (c4 + (own_ssz x1)) := ⟨_, rfl⟩
  have F117 : Fld Z T105.heap b1 "java/lang/AbstractStringBuilder" "count" "I" (.int c5) := by rw [hc5]; exact Fq105_3
  have hn5 : (l5.length : Int) = (l4.length : Int) + ((own_txt x1).length : Int) := by rw [hl5]; simp only [List.length_append, List.length_cons, List.length_nil]; omega
  have hq5 : c5.toInt = (l5.length : Int) := by rw [hc5, hn5]; exact own_cnt hq4 (own_ssz_len x1) (by omega) (by omega)
  have hu5 : (l5.length : Int) ≤ 24 := by omega
  have hm5 : (l5.length : Int) ≤ xc_105.toInt := by rw [hl5]; exact mq105_cl
  refine og (XS.pop X105.here hx rfl (hb hby own_d822) rfl rfl) ?_
  show OG m T105 50 #[sR a1, sR b1, sI (1 : Int32)] []
  refine og (XS.iinc X105.here hx rfl (hb hby own_d823) rfl (l' := #[sR a1, sR b1, sI ((1 : Int32) + (1 : Int32))]) rfl) ?_
  rw [show ((1 : Int32) + (1 : Int32)) = (2 : Int32) from by decide]
  show OG m T105 53 #[sR a1, sR b1, sI (2 : Int32)] []
  refine og (XS.goto X105.here hx rfl (pc0 := 53) (pc' := 22) rfl (hb hby own_d824) (by decide) (by decide)) ?_
  refine og (XS.iloadN X105.here hx rfl (hb hby own_d799) rfl) ?_
  show OG m T105 23 #[sR a1, sR b1, sI (2 : Int32)] [(.int (2 : Int32))]
  refine og (XS.aloadN X105.here hx rfl (hb hby own_d800) rfl rfl) ?_
  show OG m T105 24 #[sR a1, sR b1, sI (2 : Int32)] [(.ref a1), (.int (2 : Int32))]
  have vv118 := F109
  obtain ⟨cl118, Ar118, qk118, Sz118, Nn118, Hs118, Gs118⟩ := vv118
  have st118 : ∀ t, Steps p.tables e below (T105.setTop (mkF m 25 #[sR a1, sR b1, sI (2 : Int32)] [(.int (3 : Int32)), (.int (2 : Int32))])) t → Steps p.tables e below (T105.setTop (mkF m 24 #[sR a1, sR b1, sI (2 : Int32)] [(.ref a1), (.int (2 : Int32))])) t := fun t k => by
    refine X105.arraylength hx Ar118.1 (State.isArrayOf_alike hZ78.alike Ar118.2.1) (g := (mkF m 24 #[sR a1, sR b1, sI (2 : Int32)] [(.ref a1), (.int (2 : Int32))])) rfl rfl (hb hby own_d801) _ ?_
    rw [len_of Sz118 Nn118]
    exact k
  refine own_go (fun t k => st118 t k) ?_
  show OG m T105 25 #[sR a1, sR b1, sI (2 : Int32)] [(.int (3 : Int32)), (.int (2 : Int32))]
  refine og (XS.icmpNo X105.here hx rfl (hb hby own_d802) rfl (tlt (by decide : (2 : Int32) < (3 : Int32))).2.1) ?_
  refine og (XS.aloadN X105.here hx rfl (hb hby own_d810) rfl rfl) ?_
  show OG m T105 29 #[sR a1, sR b1, sI (2 : Int32)] [(.ref b1)]
  refine og (XS.iloadN X105.here hx rfl (hb hby own_d811) rfl) ?_
  show OG m T105 30 #[sR a1, sR b1, sI (2 : Int32)] [(.int (2 : Int32)), (.ref b1)]
  refine og (XS.ifYes X105.here hx rfl (pc0 := 30) (pc' := 38) rfl (hb hby own_d812) rfl ((if0 _ _).trans (feq (by decide : ¬ ((2 : Int32) = (0 : Int32)))).2) (by decide) (by decide)) ?_
  show OG m T105 38 #[sR a1, sR b1, sI (2 : Int32)] [(.ref b1)]
  obtain ⟨a119, T119, h119, kk119, b119, kb119, X119, e119, E119, S119, hk119, hZ119, hO119, A119, Fc119, Fv119, Av119, -, -, hC119, -, hne119, st119⟩ := ldcCH (s := s) (vm0 := T78.vm) X105 hx hZ78 hO78 (tw hw 206 rfl) (own_sa Z a0 hw) rfl S78 hk105 (own_EW Z a0 hw) (List.mem_of_getElem? (i := 1) rfl) C113.1 (vs := [.int (44 : Int32)]) (z := (1 : Int32)) ⟨by decide, by decide⟩ (by decide) rfl (g := (mkF m 38 #[sR a1, sR b1, sI (2 : Int32)] [(.ref b1)])) rfl (hb hby own_d826) (n := 4) (by decide) (by decide) (by decide) (by decide)
  have F120 : Arv Z h119 a1 ka .int (3 : Int32) [(.int x0), (.int x1), (.int x2)] (.int (0 : Int32)) := F109.ext E119
  have F121 : Old Z n0 h119 := F110.ext E119
  have F122 : Exa Z h119 b1 "java/lang/StringBuilder" := Fq105_0.ext E119
  have F123 : Fld Z h119 b1 "java/lang/AbstractStringBuilder" "value" "[B" (.ref xd_105) := Fq105_1.ext E119
  have F124 : Fld Z h119 b1 "java/lang/AbstractStringBuilder" "coder" "B" (.int (0 : Int32)) := Fq105_2.ext E119
  have F125 : Fld Z h119 b1 "java/lang/AbstractStringBuilder" "count" "I" (.int c5) := F117.ext E119
  have F126 : Exa Z h119 xd_105 "[B" := Fq105_4.ext E119
  have F127 : Arv Z h119 xd_105 xk_105 .byte xc_105 (own_B l5) (.int (0 : Int32)) := F116.ext E119
  have K128 : Keep h0 h119 [] := K105.ext E119
  have Z128 : n0 ≤ h119.size := Nat.le_trans Z105 E119.1
  have C129 : CHr Z own_EL s.vm h0 T119.vm h119 := C113.trans hC119
  have sf130 : Safe Z own_EL T119.vm h119 b1 := hC119.safe Fq105_0.lt sf114
  have sf131 : Safe Z own_EL T119.vm h119 xd_105 := hC119.safe Fq105_4.lt sf115
  refine own_go (fun t k => st119 t k) ?_
  show OG m T119 40 #[sR a1, sR b1, sI (2 : Int32)] [(.ref a119), (.ref b1)]
  obtain ⟨cq132, kq132, q132a, q132b, q132c⟩ := isOf hZ119 e119 F122
  obtain ⟨_, _, ⟨T132, L132, k132, n132⟩, -, X132, ⟨Lc132, hQ132, l132, y132, z132⟩, st132⟩ := X119.virtualBack hx (y := (⟨"java/lang/StringBuilder", "append", "(Ljava/lang/String;)Ljava/lang/StringBuilder;"⟩ : MethodName)) (z := (⟨"java/lang/StringBuilder", "append", "(Ljava/lang/String;)Ljava/lang/StringBuilder;"⟩ : MethodName)) hO119 (mvT hZ119 (tw hw 59 rfl)) (mvT hZ119 (tw hw 60 rfl)) (notFace_of_selects (args := #[]) (mvT hZ119 (tw hw 62 rfl))) (mvT hZ119 (tw hw 62 rfl)) (mvT hZ119 (tw hw 61 rfl)) (by decide) (backOf (W := 0) (own_sst l Z a0 hw [] b1 a119 xd_105 xk_105 xc_105 c5 l5 b119 kb119 (1 : Int32) ([(44 : Int32)]) i_COMPACT_STRINGS h119 n0 Z128 F121 S_COMPACT_STRINGS nz_i_COMPACT_STRINGS F122 F123 F124 F125 F126 F127 A119 Fv119 Fc119 Av119 g_b1 g_xd_105 mq105_cb hm5 hq5 (by simp only [List.length_cons, List.length_nil]; omega) ne107 (⟨by decide, by decide⟩) (Ne.symm ((hne119 _ sf131).2))) hZ119 (tw hw 63 rfl) (tw hw 7 rfl) (by decide) (by decide)) q132a q132c (g := (mkF m 40 #[sR a1, sR b1, sI (2 : Int32)] [(.ref a119), (.ref b1)])) rfl (by rw [hml]; rfl) (Steps.refl _) (argsL := [(.ref a119)]) (rest := []) (lenOf own_pd816 rfl) rfl (by show 2 * 0 + _ ≤ _; exact Nat.le_of_eq rfl) (hb hby own_d815) (fun _ _ => ⟨rfl, e119, (by decide : 13 + 1 ≤ _), (by decide : 417 + 74 ≤ _)⟩)
  dsimp only [Pt.U, Pt.locs, Pt.cells, Pt.slots] at X132 l132 y132 z132 st132 hQ132
  subst l132 y132 z132
  obtain ⟨xd_132, xk_132, xc_132, rfl, Nq132, Kq132, Fq132_0, Fq132_1, Fq132_2, Fq132_3, Fq132_4, Fq132_5, mq132_mv, mq132_cb, mq132_cl⟩ := hQ132
  have N132 := Fr.app N105 Nq132
  have ne133 : a1 ≠ xd_132 := own_ne_or mq132_mv ne106 F120.lt
  have ne134 : b1 ≠ xd_132 := own_ne_or mq132_mv ne107 F122.lt
  have g_xd_132 : n0 ≤ xd_132 := own_ge_or mq132_mv g_xd_105 Z128
  have sz_xd_132 : h0.size ≤ xd_132 := own_ge_or mq132_mv sz_xd_105 K128.1
  have sf135 : Safe Z own_EL T119.vm h119 xd_132 := own_safe_or mq132_mv sf131
  have F136 : Arv Z T132.heap a1 ka .int (3 : Int32) [(.int x0), (.int x1), (.int x2)] (.int (0 : Int32)) := F120.keep Kq132 (ninS ne2 (ninS ne106 nin0))
  have F137 : Old Z n0 T132.heap := F121.keep Kq132 (allS g_b1 (allS g_xd_105 all0))
  have F138 : Exa Z T132.heap b1 "java/lang/StringBuilder" := F122.keep Kq132
  have F139 : Exa Z T132.heap xd_105 "[B" := F126.keep Kq132
  have C140 : CHr Z own_EL s.vm h0 T119.vm T132.heap := C129.trans (CHr.keep Kq132 (sfS sf130 (sfS sf131 sf0)) C129.1)
  have sf141 : Safe Z own_EL T119.vm T132.heap b1 := Safe.keep Kq132 (sfS sf130 (sfS sf131 sf0)) C129.1 sf130
  have sf142 : Safe Z own_EL T119.vm T132.heap xd_132 := Safe.keep Kq132 (sfS sf130 (sfS sf131 sf0)) C129.1 sf135
  have K132 : Keep h0 T132.heap [] := K128.trans Kq132 (allS (Or.inr sz_b1) (allS (Or.inr sz_xd_105) all0))
  have Z132 : n0 ≤ T132.heap.size := Nat.le_trans Z128 Kq132.1
  have hk132 : _ ≤ T132.heap.size := Nat.le_trans hk119 Kq132.1
  refine og (st132.trans) ?_
  show OG m T132 43 #[sR a1, sR b1, sI (2 : Int32)] [(.ref b1)]
  obtain ⟨l6, hl6⟩ : ∃ z : List Int32, z = (l5 ++ [(44 : Int32)]) := ⟨_, rfl⟩
  have F143 : Arv Z T132.heap xd_132 xk_132 .byte xc_132 (own_B l6) (.int (0 : Int32)) := by rw [hl6]; exact Fq132_5
  obtain ⟨c6, hc6⟩ : ∃ z : Int32, z = (c5 + (1 : Int32)) := ⟨_, rfl⟩
  have F144 : Fld Z T132.heap b1 "java/lang/AbstractStringBuilder" "count" "I" (.int c6) := by rw [hc6]; exact Fq132_3
  have hn6 : (l6.length : Int) = (l5.length : Int) + 1 := by rw [hl6]; simp only [List.length_append, List.length_cons, List.length_nil]; omega
  have hq6 : c6.toInt = (l6.length : Int) := by rw [hc6, hn6]; exact own_cnt hq5 rfl (by omega) (by omega)
  have hu6 : (l6.length : Int) ≤ 25 := by omega
  have hm6 : (l6.length : Int) ≤ xc_132.toInt := by rw [hl6]; exact mq132_cl
  refine og (XS.aloadN X132.here hx rfl (hb hby own_d817) rfl rfl) ?_
  refine og (XS.iloadN X132.here hx rfl (hb hby own_d818) rfl) ?_
  show OG m T132 45 #[sR a1, sR b1, sI (2 : Int32)] [(.int (2 : Int32)), (.ref a1), (.ref b1)]
  have vv145 := F136
  obtain ⟨cl145, Ar145, qk145, Sz145, Nn145, Hs145, Gs145⟩ := vv145
  have hin145 : ¬ ((2 : Int32) < 0 ∨ cl145.slots.size ≤ ((2 : Int32)).toNatClampNeg) := inb_of Sz145 ⟨by decide, by decide⟩
  have hat145 : cl145.slots[((2 : Int32)).toNatClampNeg]? = some (.int x2) := Hs145.at hin145 rfl
  refine own_go (fun t k => (X132.iaload hx (j := (2 : Int32)) (v := (.int x2)) Ar145.1 (State.isArrayOf_alike hZ119.alike Ar145.2.1) Ar145.2.2 hin145 hat145 (g := (mkF m 45 #[sR a1, sR b1, sI (2 : Int32)] [(.int (2 : Int32)), (.ref a1), (.ref b1)])) rfl rfl (hb hby own_d819)) t k) ?_
  show OG m T132 46 #[sR a1, sR b1, sI (2 : Int32)] [(.int x2), (.ref b1)]
  obtain ⟨cq146, kq146, q146a, q146b, q146c⟩ := isOf hZ119 rfl Fq132_0
  obtain ⟨_, _, ⟨T146, L146, k146, n146⟩, -, X146, ⟨Lc146, hQ146, l146, y146, z146⟩, st146⟩ := X132.virtualBack hx (y := (⟨"java/lang/StringBuilder", "append", "(I)Ljava/lang/StringBuilder;"⟩ : MethodName)) (z := (⟨"java/lang/StringBuilder", "append", "(I)Ljava/lang/StringBuilder;"⟩ : MethodName)) hO119 (mvT hZ119 (tw hw 101 rfl)) (mvT hZ119 (tw hw 102 rfl)) (notFace_of_selects (args := #[]) (mvT hZ119 (tw hw 104 rfl))) (mvT hZ119 (tw hw 104 rfl)) (mvT hZ119 (tw hw 103 rfl)) (by decide) (backOf (W := 0) (own_sai l Z a0 hw [] b1 x2 xd_132 xk_132 xc_132 c6 l6 i_COMPACT_STRINGS o_DigitOnes o_DigitTens kc_own_ones kc_own_tens T132.heap n0 Z132 F137 S_COMPACT_STRINGS nz_i_COMPACT_STRINGS S_DigitOnes V_own_ones S_DigitTens V_own_tens Fq132_0 Fq132_1 Fq132_2 F144 Fq132_4 F143 g_b1 g_xd_132 mq132_cb hm6 hq6 (by omega) ne134) hZ119 (tw hw 105 rfl) (tw hw 7 rfl) (by decide) (by decide)) q146a q146c (g := (mkF m 46 #[sR a1, sR b1, sI (2 : Int32)] [(.int x2), (.ref b1)])) rfl (by rw [hml]; rfl) (Steps.refl _) (argsL := [(.int x2)]) (rest := []) (lenOf own_pd821 rfl) rfl (by show 2 * 0 + _ ≤ _; exact Nat.le_of_eq rfl) (hb hby own_d820) (fun _ _ => ⟨rfl, rfl, (by decide : 14 + 1 ≤ _), (by decide : 491 + 74 ≤ _)⟩)
  dsimp only [Pt.U, Pt.locs, Pt.cells, Pt.slots] at X146 l146 y146 z146 st146 hQ146
  subst l146 y146 z146
  obtain ⟨xd_146, xk_146, xc_146, rfl, Nq146, Kq146, Fq146_0, Fq146_1, Fq146_2, Fq146_3, Fq146_4, Fq146_5, mq146_mv, mq146_cb, mq146_cl⟩ := hQ146
  have N146 := Fr.app N132 Nq146
  have ne147 : a1 ≠ xd_146 := own_ne_or mq146_mv ne133 F136.lt
  have ne148 : b1 ≠ xd_146 := own_ne_or mq146_mv ne134 Fq132_0.lt
  have g_xd_146 : n0 ≤ xd_146 := own_ge_or mq146_mv g_xd_132 Z132
  have sz_xd_146 : h0.size ≤ xd_146 := own_ge_or mq146_mv sz_xd_132 K132.1
  have sf149 : Safe Z own_EL T119.vm T132.heap xd_146 := own_safe_or mq146_mv sf142
  have F150 : Arv Z T146.heap a1 ka .int (3 : Int32) [(.int x0), (.int x1), (.int x2)] (.int (0 : Int32)) := F136.keep Kq146 (ninS ne2 (ninS ne133 nin0))
  have F151 : Old Z n0 T146.heap := F137.keep Kq146 (allS g_b1 (allS g_xd_132 all0))
  have F152 : Exa Z T146.heap b1 "java/lang/StringBuilder" := Fq132_0.keep Kq146
  have F153 : Exa Z T146.heap xd_132 "[B" := Fq132_4.keep Kq146
  have C154 : CHr Z own_EL s.vm h0 T119.vm T146.heap := C140.trans (CHr.keep Kq146 (sfS sf141 (sfS sf142 sf0)) C140.1)
  have sf155 : Safe Z own_EL T119.vm T146.heap b1 := Safe.keep Kq146 (sfS sf141 (sfS sf142 sf0)) C140.1 sf141
  have sf156 : Safe Z own_EL T119.vm T146.heap xd_146 := Safe.keep Kq146 (sfS sf141 (sfS sf142 sf0)) C140.1 sf149
  have K146 : Keep h0 T146.heap [] := K132.trans Kq146 (allS (Or.inr sz_b1) (allS (Or.inr sz_xd_132) all0))
  have Z146 : n0 ≤ T146.heap.size := Nat.le_trans Z132 Kq146.1
  have hk146 : _ ≤ T146.heap.size := Nat.le_trans hk132 Kq146.1
  refine og (st146.trans) ?_
  show OG m T146 49 #[sR a1, sR b1, sI (2 : Int32)] [(.ref b1)]
  obtain ⟨l7, hl7⟩ : ∃ z : List Int32, z = (l6 ++ own_txt x2) := ⟨_, rfl⟩
  have F157 : Arv Z T146.heap xd_146 xk_146 .byte xc_146 (own_B l7) (.int (0 : Int32)) := by rw [hl7]; exact Fq146_5
  obtain ⟨c7, hc7⟩ : ∃ z : Int32, z = (c6 + (own_ssz x2)) := ⟨_, rfl⟩
  have F158 : Fld Z T146.heap b1 "java/lang/AbstractStringBuilder" "count" "I" (.int c7) := by rw [hc7]; exact Fq146_3
  have hn7 : (l7.length : Int) = (l6.length : Int) + ((own_txt x2).length : Int) := by rw [hl7]; simp only [List.length_append, List.length_cons, List.length_nil]; omega
  have hq7 : c7.toInt = (l7.length : Int) := by rw [hc7, hn7]; exact own_cnt hq6 (own_ssz_len x2) (by omega) (by omega)
  have hu7 : (l7.length : Int) ≤ 36 := by omega
  have hm7 : (l7.length : Int) ≤ xc_146.toInt := by rw [hl7]; exact mq146_cl
  refine og (XS.pop X146.here hx rfl (hb hby own_d822) rfl rfl) ?_
  show OG m T146 50 #[sR a1, sR b1, sI (2 : Int32)] []
  refine og (XS.iinc X146.here hx rfl (hb hby own_d823) rfl (l' := #[sR a1, sR b1, sI ((2 : Int32) + (1 : Int32))]) rfl) ?_
  rw [show ((2 : Int32) + (1 : Int32)) = (3 : Int32) from by decide]
  show OG m T146 53 #[sR a1, sR b1, sI (3 : Int32)] []
  refine og (XS.goto X146.here hx rfl (pc0 := 53) (pc' := 22) rfl (hb hby own_d824) (by decide) (by decide)) ?_
  refine og (XS.iloadN X146.here hx rfl (hb hby own_d799) rfl) ?_
  show OG m T146 23 #[sR a1, sR b1, sI (3 : Int32)] [(.int (3 : Int32))]
  refine og (XS.aloadN X146.here hx rfl (hb hby own_d800) rfl rfl) ?_
  show OG m T146 24 #[sR a1, sR b1, sI (3 : Int32)] [(.ref a1), (.int (3 : Int32))]
  have vv159 := F150
  obtain ⟨cl159, Ar159, qk159, Sz159, Nn159, Hs159, Gs159⟩ := vv159
  have st159 : ∀ t, Steps p.tables e below (T146.setTop (mkF m 25 #[sR a1, sR b1, sI (3 : Int32)] [(.int (3 : Int32)), (.int (3 : Int32))])) t → Steps p.tables e below (T146.setTop (mkF m 24 #[sR a1, sR b1, sI (3 : Int32)] [(.ref a1), (.int (3 : Int32))])) t := fun t k => by
    refine X146.arraylength hx Ar159.1 (State.isArrayOf_alike hZ119.alike Ar159.2.1) (g := (mkF m 24 #[sR a1, sR b1, sI (3 : Int32)] [(.ref a1), (.int (3 : Int32))])) rfl rfl (hb hby own_d801) _ ?_
    rw [len_of Sz159 Nn159]
    exact k
  refine own_go (fun t k => st159 t k) ?_
  show OG m T146 25 #[sR a1, sR b1, sI (3 : Int32)] [(.int (3 : Int32)), (.int (3 : Int32))]
  refine og (XS.icmpYes X146.here hx rfl (pc0 := 25) (pc' := 56) rfl (hb hby own_d802) rfl (flt (by decide : ¬ ((3 : Int32) < (3 : Int32)))).2.1 (by decide) (by decide)) ?_
  refine og (XS.aloadN X146.here hx rfl (hb hby own_d803) rfl rfl) ?_
  show OG m T146 57 #[sR a1, sR b1, sI (3 : Int32)] [(.ref b1)]
  refine og (XS.bipush X146.here hx rfl (hb hby own_d804)) ?_
  show OG m T146 59 #[sR a1, sR b1, sI (3 : Int32)] [(.int (125 : Int32)), (.ref b1)]
  obtain ⟨cq160, kq160, q160a, q160b, q160c⟩ := isOf hZ119 rfl Fq146_0
  obtain ⟨_, _, ⟨T160, L160, k160, n160⟩, -, X160, ⟨Lc160, hQ160, l160, y160, z160⟩, st160⟩ := X146.virtualBack hx (y := (⟨"java/lang/StringBuilder", "append", "(C)Ljava/lang/StringBuilder;"⟩ : MethodName)) (z := (⟨"java/lang/StringBuilder", "append", "(C)Ljava/lang/StringBuilder;"⟩ : MethodName)) hO119 (mvT hZ119 (tw hw 27 rfl)) (mvT hZ119 (tw hw 28 rfl)) (notFace_of_selects (args := #[]) (mvT hZ119 (tw hw 30 rfl))) (mvT hZ119 (tw hw 30 rfl)) (mvT hZ119 (tw hw 29 rfl)) (by decide) (backOf (W := 0) (own_sc l Z a0 hw [] b1 (125 : Int32) xd_146 xk_146 xc_146 c7 l7 i_COMPACT_STRINGS T146.heap n0 Z146 F151 S_COMPACT_STRINGS nz_i_COMPACT_STRINGS Fq146_0 Fq146_1 Fq146_2 F158 Fq146_4 F157 g_b1 g_xd_146 mq146_cb hm7 hq7 (by omega) ne148 (by decide) (by decide)) hZ119 (tw hw 31 rfl) (tw hw 7 rfl) (by decide) (by decide)) q160a q160c (g := (mkF m 59 #[sR a1, sR b1, sI (3 : Int32)] [(.int (125 : Int32)), (.ref b1)])) rfl (by rw [hml]; rfl) (Steps.refl _) (argsL := [(.int (125 : Int32))]) (rest := []) (lenOf own_pd795 rfl) rfl (by show 2 * 0 + _ ≤ _; exact Nat.le_of_eq rfl) (hb hby own_d805) (fun _ _ => ⟨rfl, rfl, (by decide : 15 + 1 ≤ _), (by decide : 565 + 74 ≤ _)⟩)
  dsimp only [Pt.U, Pt.locs, Pt.cells, Pt.slots] at X160 l160 y160 z160 st160 hQ160
  subst l160 y160 z160
  obtain ⟨xd_160, xk_160, xc_160, rfl, Nq160, Kq160, Fq160_0, Fq160_1, Fq160_2, Fq160_3, Fq160_4, Fq160_5, mq160_mv, mq160_cb, mq160_cl⟩ := hQ160
  have N160 := Fr.app N146 Nq160
  have ne161 : a1 ≠ xd_160 := own_ne_or mq160_mv ne147 F150.lt
  have ne162 : b1 ≠ xd_160 := own_ne_or mq160_mv ne148 Fq146_0.lt
  have g_xd_160 : n0 ≤ xd_160 := own_ge_or mq160_mv g_xd_146 Z146
  have sz_xd_160 : h0.size ≤ xd_160 := own_ge_or mq160_mv sz_xd_146 K146.1
  have sf163 : Safe Z own_EL T119.vm T146.heap xd_160 := own_safe_or mq160_mv sf156
  have F164 : Arv Z T160.heap a1 ka .int (3 : Int32) [(.int x0), (.int x1), (.int x2)] (.int (0 : Int32)) := F150.keep Kq160 (ninS ne2 (ninS ne147 nin0))
  have F165 : Old Z n0 T160.heap := F151.keep Kq160 (allS g_b1 (allS g_xd_146 all0))
  have F166 : Exa Z T160.heap b1 "java/lang/StringBuilder" := Fq146_0.keep Kq160
  have F167 : Exa Z T160.heap xd_146 "[B" := Fq146_4.keep Kq160
  have C168 : CHr Z own_EL s.vm h0 T119.vm T160.heap := C154.trans (CHr.keep Kq160 (sfS sf155 (sfS sf156 sf0)) C154.1)
  have sf169 : Safe Z own_EL T119.vm T160.heap b1 := Safe.keep Kq160 (sfS sf155 (sfS sf156 sf0)) C154.1 sf155
  have sf170 : Safe Z own_EL T119.vm T160.heap xd_160 := Safe.keep Kq160 (sfS sf155 (sfS sf156 sf0)) C154.1 sf163
  have K160 : Keep h0 T160.heap [] := K146.trans Kq160 (allS (Or.inr sz_b1) (allS (Or.inr sz_xd_146) all0))
  have Z160 : n0 ≤ T160.heap.size := Nat.le_trans Z146 Kq160.1
  have hk160 : _ ≤ T160.heap.size := Nat.le_trans hk146 Kq160.1
  refine og (st160.trans) ?_
  show OG m T160 62 #[sR a1, sR b1, sI (3 : Int32)] [(.ref b1)]
  obtain ⟨l8, hl8⟩ : ∃ z : List Int32, z = (l7 ++ [(125 : Int32)]) := ⟨_, rfl⟩
  have F171 : Arv Z T160.heap xd_160 xk_160 .byte xc_160 (own_B l8) (.int (0 : Int32)) := by rw [hl8]; exact Fq160_5
  obtain ⟨c8, hc8⟩ : ∃ z : Int32, z = (c7 + (1 : Int32)) := ⟨_, rfl⟩
  have F172 : Fld Z T160.heap b1 "java/lang/AbstractStringBuilder" "count" "I" (.int c8) := by rw [hc8]; exact Fq160_3
  have hn8 : (l8.length : Int) = (l7.length : Int) + 1 := by rw [hl8]; simp only [List.length_append, List.length_cons, List.length_nil]; omega
  have hq8 : c8.toInt = (l8.length : Int) := by rw [hc8, hn8]; exact own_cnt hq7 rfl (by omega) (by omega)
  have hu8 : (l8.length : Int) ≤ 37 := by omega
  have hm8 : (l8.length : Int) ≤ xc_160.toInt := by rw [hl8]; exact mq160_cl
  obtain ⟨cq173, kq173, q173a, q173b, q173c⟩ := isOf hZ119 rfl Fq160_0
  obtain ⟨_, _, ⟨T173, L173, k173, n173⟩, -, X173, ⟨Lc173, hQ173, l173, y173, z173⟩, st173⟩ := X160.virtualBack hx (y := (⟨"java/lang/StringBuilder", "toString", "()Ljava/lang/String;"⟩ : MethodName)) (z := (⟨"java/lang/StringBuilder", "toString", "()Ljava/lang/String;"⟩ : MethodName)) hO119 (mvT hZ119 (tw hw 118 rfl)) (mvT hZ119 (tw hw 119 rfl)) (notFace_of_selects (args := #[]) (mvT hZ119 (tw hw 121 rfl))) (mvT hZ119 (tw hw 121 rfl)) (mvT hZ119 (tw hw 120 rfl)) (by decide) (backOf (W := 0) (own_ts l Z a0 hw [] b1 xd_160 xk_160 xc_160 c8 l8 i_COMPACT_STRINGS T160.heap n0 Z160 F165 S_COMPACT_STRINGS nz_i_COMPACT_STRINGS Fq160_0 Fq160_1 Fq160_2 F172 Fq160_4 F171 mq160_cb hm8 hq8) hZ119 (tw hw 122 rfl) (tw hw 7 rfl) (by decide) (by decide)) q173a q173c (g := (mkF m 62 #[sR a1, sR b1, sI (3 : Int32)] [(.ref b1)])) rfl (by rw [hml]; rfl) (Steps.refl _) (argsL := []) (rest := []) (lenOf own_pd807 rfl) rfl (by show 2 * 0 + _ ≤ _; exact Nat.le_of_eq rfl) (hb hby own_d806) (fun _ _ => ⟨rfl, rfl, (by decide : 16 + 2 ≤ _), (by decide : 639 + 78 ≤ _)⟩)
  dsimp only [Pt.U, Pt.locs, Pt.cells, Pt.slots] at X173 l173 y173 z173 st173 hQ173
  subst l173 y173 z173
  obtain ⟨xs_173, xd_173, xk_173, rfl, Nq173, Kq173, Fq173_0, Fq173_1, Fq173_2, Fq173_3, mq173_fs, mq173_fd⟩ := hQ173
  have N173 := Fr.app N160 Nq173
  have ne174 : a1 ≠ xs_173 := Nat.ne_of_lt (Nat.lt_of_lt_of_le F164.lt mq173_fs)
  have ne175 : b1 ≠ xs_173 := Nat.ne_of_lt (Nat.lt_of_lt_of_le Fq160_0.lt mq173_fs)
  have ne176 : xd_160 ≠ xs_173 := Nat.ne_of_lt (Nat.lt_of_lt_of_le Fq160_4.lt mq173_fs)
  have g_xs_173 : n0 ≤ xs_173 := Nat.le_trans Z160 mq173_fs
  have sz_xs_173 : h0.size ≤ xs_173 := Nat.le_trans K160.1 mq173_fs
  have ne177 : a1 ≠ xd_173 := Nat.ne_of_lt (Nat.lt_of_lt_of_le F164.lt mq173_fd)
  have ne178 : b1 ≠ xd_173 := Nat.ne_of_lt (Nat.lt_of_lt_of_le Fq160_0.lt mq173_fd)
  have ne179 : xd_160 ≠ xd_173 := Nat.ne_of_lt (Nat.lt_of_lt_of_le Fq160_4.lt mq173_fd)
  have g_xd_173 : n0 ≤ xd_173 := Nat.le_trans Z160 mq173_fd
  have sz_xd_173 : h0.size ≤ xd_173 := Nat.le_trans K160.1 mq173_fd
  have sf180 : Safe Z own_EL T119.vm T160.heap xs_173 := Safe.new mq173_fs
  have sf181 : Safe Z own_EL T119.vm T160.heap xd_173 := Safe.new mq173_fd
  have F182 : Arv Z T173.heap a1 ka .int (3 : Int32) [(.int x0), (.int x1), (.int x2)] (.int (0 : Int32)) := F164.keep Kq173 nin0
  have F183 : Old Z n0 T173.heap := F165.keep Kq173 all0
  have F184 : Exa Z T173.heap b1 "java/lang/StringBuilder" := Fq160_0.keep Kq173
  have F185 : Fld Z T173.heap b1 "java/lang/AbstractStringBuilder" "value" "[B" (.ref xd_160) := Fq160_1.keep Kq173 nin0
  have F186 : Fld Z T173.heap b1 "java/lang/AbstractStringBuilder" "coder" "B" (.int (0 : Int32)) := Fq160_2.keep Kq173 nin0
  have F187 : Fld Z T173.heap b1 "java/lang/AbstractStringBuilder" "count" "I" (.int c8) := F172.keep Kq173 nin0
  have F188 : Exa Z T173.heap xd_160 "[B" := Fq160_4.keep Kq173
  have F189 : Arv Z T173.heap xd_160 xk_160 .byte xc_160 (own_B l8) (.int (0 : Int32)) := F171.keep Kq173 nin0
  have C190 : CHr Z own_EL s.vm h0 T119.vm T173.heap := C168.trans (CHr.keep Kq173 sf0 C168.1)
  have sf191 : Safe Z own_EL T119.vm T173.heap b1 := Safe.keep Kq173 sf0 C168.1 sf169
  have sf192 : Safe Z own_EL T119.vm T173.heap xd_160 := Safe.keep Kq173 sf0 C168.1 sf170
  have sf193 : Safe Z own_EL T119.vm T173.heap xs_173 := Safe.keep Kq173 sf0 C168.1 sf180
  have sf194 : Safe Z own_EL T119.vm T173.heap xd_173 := Safe.keep Kq173 sf0 C168.1 sf181
  have K173 : Keep h0 T173.heap [] := K160.trans Kq173 all0
  have Z173 : n0 ≤ T173.heap.size := Nat.le_trans Z160 Kq173.1
  have hk173 : _ ≤ T173.heap.size := Nat.le_trans hk160 Kq173.1
  refine og (st173.trans) ?_
  show OG m T173 65 #[sR a1, sR b1, sI (3 : Int32)] [(.ref xs_173)]
  have hT : l8 = (((((([(123 : Int32)] ++ own_txt x0) ++ [(44 : Int32)]) ++ own_txt x1) ++ [(44 : Int32)]) ++ own_txt x2) ++ [(125 : Int32)]) := by rw [hl8, hl7, hl6, hl5, hl4, hl3, hl2, hl1]; simp only [List.nil_append, List.append_nil]
  have F195 : Arv Z T173.heap xd_173 xk_173 .byte c8 (own_B (((((([(123 : Int32)] ++ own_txt x0) ++ [(44 : Int32)]) ++ own_txt x1) ++ [(44 : Int32)]) ++ own_txt x2) ++ [(125 : Int32)])) (.int (0 : Int32)) := by rw [← hT]; exact Fq173_3
  obtain ⟨fs, hr, hrun, hended, ⟨-, hW2, hW3, hsame⟩⟩ := Jvm.Stand.leaveW (s := s) (vm₁ := T119.vm) X173 S119 (show _ ≤ T173.heap.size from hk173) (v := some (.ref xs_173)) (fun h => by rw [Bd.returns] at h; cases h)
  have hlast : Steps p.tables e below (T173.setTop (mkF m 65 #[sR a1, sR b1, sI (3 : Int32)] [(.ref xs_173)])) (T173.setFrames fs) := by
    exact retOut X173 hx (t := (.object "java/lang/String")) Bd.returns rfl (Or.inr (Or.inr (Or.inr (Or.inr ⟨rfl, rfl, rfl⟩)))) (hb hby own_d808) hr
  refine ⟨_, _, hlast, hrun, hended, _, _, rfl, ?_, by show CHr Z own_EL s.vm s.heap T173.vm T173.heap; rw [hh]; exact C190.trans (CHv.at X173 hZ119 (own_EW Z a0 hw) C190.1), ⟨_, rfl⟩, hW2, hW3, hsame.mono (by decide) (by decide)⟩
  show Q_own_num3 Z a1 ka x0 x1 x2 i_COMPACT_STRINGS o_DigitOnes o_DigitTens kc_own_ones kc_own_tens h0 n0 _ T173.heap _
  exact ⟨xs_173, xd_173, xk_173, c8, rfl, N173, K173, Fq173_0, Fq173_1, Fq173_2, F195, by rw [← hT]; exact hq8⟩
theorem own_m3 (x : Int32) : (x &&& (3 : Int32)) = 0 ∨ (x &&& (3 : Int32)) = 1 ∨ (x &&& (3 : Int32)) = 2 ∨ (x &&& (3 : Int32)) = 3 := by
  have h := c_mask x 3 2 (by decide) rfl
  have hr : (x &&& 3).toInt = 0 ∨ (x &&& 3).toInt = 1 ∨ (x &&& 3).toInt = 2 ∨ (x &&& 3).toInt = 3 := by omega
  rcases hr with q | q | q | q
  · left; exact Int32.toInt_inj.mp q
  · right; left; exact Int32.toInt_inj.mp q
  · right; right; left; exact Int32.toInt_inj.mp q
  · right; right; right; exact Int32.toInt_inj.mp q
def own_has (cs : List Int32) (pn : Nat) (B : List Int32) : Prop := ∃ A E, cs = A ++ (B ++ E) ∧ pn = A.length
theorem own_has_len {cs B : List Int32} {pn : Nat} (h : own_has cs pn B) : pn + B.length ≤ cs.length := by
  obtain ⟨A, E, rfl, rfl⟩ := h; simp only [List.length_append]; omega
theorem own_has_sub {cs B : List Int32} {pn : Nat} (h : own_has cs pn B) : ∀ j, j < B.length → cs[pn + j]? = B[j]? := by
  obtain ⟨A, E, rfl, rfl⟩ := h
  intro j hj
  rw [List.getElem?_append_right (by omega), Nat.add_sub_cancel_left, List.getElem?_append_left hj]
theorem own_has_at {cs : List Int32} {pn : Nat} {c ix : Int32} (h : own_has cs pn [c]) (hix : ix.toInt = (pn : Int)) : cs[ix.toNatClampNeg]? = some c := by
  rw [(own_idx hix).2]; exact own_has_sub h 0 (Nat.succ_pos _)
theorem own_has_in {cs : List Int32} {pn : Nat} {c ix sl : Int32} (h : own_has cs pn [c]) (hsl : ¬ sl < 0 ∧ sl.toNatClampNeg = cs.length) (hix : ix.toInt = (pn : Int)) : ¬ ix < 0 ∧ ix < sl :=
  own_in hsl hix (by have q := own_has_len h; simp only [List.length_cons, List.length_nil] at q; omega)
theorem own_ef828 (m : MethodId) (p0 : Int32) (p1 : Int32) (p2 : Int32) (p3 : Int32) : entryFrame m #[(.int p0), (.int p1), (.int p2), (.int p3)] maxLocals = mkF m 0 #[sI p0, sI p1, sI p2, sI p3, sU, sU, sU, sU, sU, sU, sU, sU] [] := by first | (simp [entryFrame, mkF, argsToLocals, Value.category, maxLocals]; done) | rfl
theorem own_pd829 : parseMethodDescriptor "([I)Ljava/lang/String;" = some ⟨[(.array .int)], some (.object "java/lang/String")⟩ := by decide +kernel
theorem own_pd830 : parseMethodDescriptor "(Ljava/lang/String;II)Z" = some ⟨[(.object "java/lang/String"), .int, .int], some .boolean⟩ := by decide +kernel
def Q_own_law (Z : State) (p0 : Int32) (p1 : Int32) (p2 : Int32) (p3 : Int32) (i_COMPACT_STRINGS : Int32) (v_SIOOBE_FORMATTER : Value) (o_DigitOnes : Addr) (o_DigitTens : Addr) (kc_own_ones : ClassId) (kc_own_tens : ClassId) (h0 : Heap) (n0 : Nat) (v : Option Value) (h : Heap) (L : List Loc) : Prop := v = some (.int (1 : Int32)) ∧ Fr n0 L
set_option maxRecDepth 65536 in
set_option maxHeartbeats 40000000 in
theorem own_law (l : Launch) (Z : State) (a0 : Array Value) (hw : ∀ d ∈ tables_1, d.before a0 Z = true) (ws : List Jvm.Cond) (p0 : Int32) (p1 : Int32) (p2 : Int32) (p3 : Int32) (i_COMPACT_STRINGS : Int32) (v_SIOOBE_FORMATTER : Value) (o_DigitOnes : Addr) (o_DigitTens : Addr) (kc_own_ones : ClassId) (kc_own_tens : ClassId) (h0 : Heap) (n0 : Nat) (Z0 : n0 ≤ h0.size) (O0 : Old Z n0 h0) (S_COMPACT_STRINGS : Sta Z Z.heap "java/lang/String" "COMPACT_STRINGS" "Z" (.int i_COMPACT_STRINGS)) (nz_i_COMPACT_STRINGS : i_COMPACT_STRINGS ≠ (0 : Int32)) (S_DigitOnes : Sta Z Z.heap "java/lang/Integer" "DigitOnes" "[B" (.ref o_DigitOnes)) (V_own_ones : Arv Z Z.heap o_DigitOnes kc_own_ones .byte (100 : Int32) (own_B own_ones) (.int (0 : Int32))) (S_DigitTens : Sta Z Z.heap "java/lang/Integer" "DigitTens" "[B" (.ref o_DigitTens)) (V_own_tens : Arv Z Z.heap o_DigitTens kc_own_tens .byte (100 : Int32) (own_B own_tens) (.int (0 : Int32))) (S_SIOOBE_FORMATTER : Sta Z Z.heap "jdk/internal/util/Preconditions" "SIOOBE_FORMATTER" "Ljava/util/function/BiFunction;" v_SIOOBE_FORMATTER) (ir_v_SIOOBE_FORMATTER : v_SIOOBE_FORMATTER.isRef = true) :
    MetFree l x (head1 (Jvm.Cond.code x code maxLocals ret :: ws) room_1) (fun a U => a = #[(.int p0), (.int p1), (.int p2), (.int p3)] ∧ Z.Warmed39 U.vm ∧ U.heap = h0 ∧ CHv Z own_EL U.vm h0) (fun _ _ _ _ _ => True) (fun _ U o U' => ∃ v L, o = .returned v ∧ Q_own_law Z p0 p1 p2 p3 i_COMPACT_STRINGS v_SIOOBE_FORMATTER o_DigitOnes o_DigitTens kc_own_ones kc_own_tens h0 n0 v U'.heap L ∧ ReturnedEndW U o U' L room_1.cells room_1.slots) := by
  refine MetFree.of_bodySF (plainFor_of_name own_pn572) hisR ?_
  intro p e s m args below meth c s₁ Bd hml0 hP hK
  obtain ⟨rfl, hZ, hh, hH⟩ := hP
  have hx := Bd.exec
  have hby := Bd.bytes
  have hml : c.maxLocals = 12 := hml0
  have hown : s.vm.findClass "standwatch/query/ArgumentsNumbersPinLaw" = some m.cls := findClass_of_methodNamed Bd.named
  have hnm := (name_of_methodNamed Bd.named Bd.method).1
  have X0 : Stand p l e room_1 s m #[(.int p0), (.int p1), (.int p2), (.int p3)] below meth c s₁ [] 0 0 := Stand.of_body Bd
  have e0 : s₁.heap = h0 := by rw [← hh, Bd.state]; rfl
  have N0 := Fr.nil n0
  have K0 := Keep.refl h0 []
  refine own_go (fun t k => castTop (own_ef828 m p0 p1 p2 p3) k) ?_
  show OG m s₁ 0 #[sI p0, sI p1, sI p2, sI p3, sU, sU, sU, sU, sU, sU, sU, sU] []
  have hS0 : s.Since s.vm 0 := (State.WarmedH.refl s).since 0
  have C0 : CHr Z own_EL s.vm h0 s.vm h0 := CHr.refl hH
  refine og (XS.iloadN X0.here hx rfl (hb hby at_0) rfl) ?_
  refine og (XS.iconst X0.here hx rfl (hb hby at_1)) ?_
  show OG m s₁ 2 #[sI p0, sI p1, sI p2, sI p3, sU, sU, sU, sU, sU, sU, sU, sU] [(.int (3 : Int32)), (.int p3)]
  refine og (XS.iand X0.here hx rfl (hb hby at_2) rfl) ?_
  refine og (XS.istore X0.here hx rfl (hb hby at_3) rfl (l' := #[sI p0, sI p1, sI p2, sI p3, sI (p3 &&& (3 : Int32)), sU, sU, sU, sU, sU, sU, sU]) rfl) ?_
  show OG m s₁ 5 #[sI p0, sI p1, sI p2, sI p3, sI (p3 &&& (3 : Int32)), sU, sU, sU, sU, sU, sU, sU] []
  rcases own_m3 p3 with al1 | al1 | al1 | al1
  · rw [al1]
    show OG m s₁ 5 #[sI p0, sI p1, sI p2, sI p3, sI (0 : Int32), sU, sU, sU, sU, sU, sU, sU] []
    refine og (XS.iload X0.here hx rfl (hb hby at_5) rfl) ?_
    show OG m s₁ 7 #[sI p0, sI p1, sI p2, sI p3, sI (0 : Int32), sU, sU, sU, sU, sU, sU, sU] [(.int (0 : Int32))]
    obtain ⟨T2, h2, k2, X2, e2, E2, A2, st2⟩ := newP X0 hx hZ (tw hw 0 rfl) e0 (g := (mkF m 7 #[sI p0, sI p1, sI p2, sI p3, sI (0 : Int32), sU, sU, sU, sU, sU, sU, sU] [(.int (0 : Int32))])) rfl (hb hby at_7) rfl (by decide) (cap := 0) (by decide) (by decide) (by decide) (by decide)
    obtain ⟨b2, g2⟩ : ∃ z, z = h0.size := ⟨_, rfl⟩
    rw [← g2] at A2 st2
    have g_b2 : n0 ≤ b2 := Nat.le_trans Z0 (Nat.le_of_eq g2.symm)
    have sz_b2 : h0.size ≤ b2 := Nat.le_trans K0.1 (Nat.le_of_eq g2.symm)
    have sf3 : Safe Z own_EL s.vm h0 b2 := Safe.new (Nat.le_of_eq g2.symm)
    have F4 : Old Z n0 h2 := O0.ext E2
    have K5 : Keep h0 h2 [] := K0.ext E2
    have Z5 : n0 ≤ h2.size := Nat.le_trans Z0 E2.1
    have C6 : CHr Z own_EL s.vm h0 s.vm h2 := C0.trans (CHr.ext E2 C0.1)
    have sf7 : Safe Z own_EL s.vm h2 b2 := Safe.ext E2 C0.1 sf3
    have F8 : Arv Z h2 b2 k2 .int (0 : Int32) [] (.int (0 : Int32)) := Arv.new A2 (by decide)
    refine own_go (fun t k => st2 t k) ?_
    show OG m T2 9 #[sI p0, sI p1, sI p2, sI p3, sI (0 : Int32), sU, sU, sU, sU, sU, sU, sU] [(.ref b2)]
    refine og (XS.astore X2.here hx rfl (hb hby at_9) rfl rfl (l' := #[sI p0, sI p1, sI p2, sI p3, sI (0 : Int32), sR b2, sU, sU, sU, sU, sU, sU]) rfl) ?_
    refine og (XS.iload X2.here hx rfl (hb hby at_11) rfl) ?_
    show OG m T2 13 #[sI p0, sI p1, sI p2, sI p3, sI (0 : Int32), sR b2, sU, sU, sU, sU, sU, sU] [(.int (0 : Int32))]
    refine og (XS.ifYes X2.here hx rfl (pc0 := 13) (pc' := 21) rfl (hb hby at_13) rfl ((if0 _ _).trans (flt (by decide : ¬ ((0 : Int32) < (0 : Int32)))).2.2.2) (by decide) (by decide)) ?_
    refine og (XS.iload X2.here hx rfl (hb hby at_21) rfl) ?_
    show OG m T2 23 #[sI p0, sI p1, sI p2, sI p3, sI (0 : Int32), sR b2, sU, sU, sU, sU, sU, sU] [(.int (0 : Int32))]
    refine og (XS.iconst X2.here hx rfl (hb hby at_23)) ?_
    show OG m T2 24 #[sI p0, sI p1, sI p2, sI p3, sI (0 : Int32), sR b2, sU, sU, sU, sU, sU, sU] [(.int (1 : Int32)), (.int (0 : Int32))]
    refine og (XS.icmpYes X2.here hx rfl (pc0 := 24) (pc' := 32) rfl (hb hby at_24) rfl (flt (by decide : ¬ ((1 : Int32) < (0 : Int32)))).2.2.2 (by decide) (by decide)) ?_
    refine og (XS.iload X2.here hx rfl (hb hby at_32) rfl) ?_
    show OG m T2 34 #[sI p0, sI p1, sI p2, sI p3, sI (0 : Int32), sR b2, sU, sU, sU, sU, sU, sU] [(.int (0 : Int32))]
    refine og (XS.iconst X2.here hx rfl (hb hby at_34)) ?_
    show OG m T2 35 #[sI p0, sI p1, sI p2, sI p3, sI (0 : Int32), sR b2, sU, sU, sU, sU, sU, sU] [(.int (2 : Int32)), (.int (0 : Int32))]
    refine og (XS.icmpYes X2.here hx rfl (pc0 := 35) (pc' := 43) rfl (hb hby at_35) rfl (flt (by decide : ¬ ((2 : Int32) < (0 : Int32)))).2.2.2 (by decide) (by decide)) ?_
    refine og (XS.aload X2.here hx rfl (hb hby at_43) rfl rfl) ?_
    show OG m T2 45 #[sI p0, sI p1, sI p2, sI p3, sI (0 : Int32), sR b2, sU, sU, sU, sU, sU, sU] [(.ref b2)]
    obtain ⟨_, _, ⟨T9, L9, k9, n9⟩, -, X9, hS9, hgr9, ⟨Lc9, hQ9, l9, y9, z9, hC9⟩, st9⟩ := callSS X2 hx (y := (⟨"standwatch/query/Arguments", "numbers", "([I)Ljava/lang/String;"⟩ : MethodName)) hown (mvT hZ (tw hw 1 rfl)) (mvT hZ (tw hw 2 rfl)) (mvT hZ (tw hw 3 rfl)) (mvT hZ (tw hw 4 rfl)) (by decide) (backOfSH (s := s) (vm0 := s.vm) (W := 0) (own_num0 l Z a0 hw [] b2 k2 i_COMPACT_STRINGS o_DigitOnes o_DigitTens kc_own_ones kc_own_tens h2 n0 Z5 F4 S_COMPACT_STRINGS nz_i_COMPACT_STRINGS S_DigitOnes V_own_ones S_DigitTens V_own_tens F8) hZ (tw hw 4 rfl) (tw hw 3 rfl) (by decide) (by decide) (own_EW Z a0 hw) C6.1) (g := (mkF m 45 #[sI p0, sI p1, sI p2, sI p3, sI (0 : Int32), sR b2, sU, sU, sU, sU, sU, sU] [(.ref b2)])) rfl (by rw [hml]; rfl) (argsL := [(.ref b2)]) (rest := []) (lenOf own_pd829 rfl) rfl (by show 2 * 0 + _ ≤ _; exact Nat.le_of_eq rfl) (hb hby at_45) (fun _ _ => ⟨rfl, e2, (by decide : 1 + 6 ≤ _), (by decide : 0 + 253 ≤ _)⟩)
    dsimp only [Pt.U, Pt.locs, Pt.cells, Pt.slots] at X9 l9 y9 z9 st9 hQ9 hS9
    subst l9 y9 z9
    obtain ⟨xs_9, xd_9, xk_9, xl_9, rfl, Nq9, Kq9, Fq9_0, Fq9_1, Fq9_2, Fq9_3, mq9_hxl⟩ := hQ9
    have N9 := Fr.app N0 Nq9
    have hZ9 : Z.Warmed39 (s.setVm T9.vm).vm := State.Warmed39.trans hZ hS9.1
    have hO9 : (s.setVm T9.vm).vm.findClass "standwatch/query/ArgumentsNumbersPinLaw" = some m.cls := (hS9.1.alike.findClass _ _).trans hown
    have F10 : Old Z n0 T9.heap := F4.keep Kq9 all0
    have K9 : Keep h0 T9.heap [] := K5.trans Kq9 all0
    have Z9 : n0 ≤ T9.heap.size := Nat.le_trans Z5 Kq9.1
    refine og (st9.trans) ?_
    show OG m T9 48 #[sI p0, sI p1, sI p2, sI p3, sI (0 : Int32), sR b2, sU, sU, sU, sU, sU, sU] [(.ref xs_9)]
    have ht0 := own_txt_rng p0
    have ht1 := own_txt_rng p1
    have ht2 := own_txt_rng p2
    have o2 : (2 : Int32).toInt = 2 := rfl
    have o1 : (1 : Int32).toInt = 1 := rfl
    have o1n : (1 : Int32).toInt = ((1 : Nat) : Int) := rfl
    obtain ⟨cs, hcs⟩ : ∃ z : List Int32, z = ([(123 : Int32)] ++ [(125 : Int32)]) := ⟨_, rfl⟩
    have F11 : Arv Z T9.heap xd_9 xk_9 .byte xl_9 (own_B cs) (.int (0 : Int32)) := by rw [hcs]; exact Fq9_3
    have hsl : ¬ xl_9 < 0 ∧ xl_9.toNatClampNeg = cs.length := own_idx (by rw [hcs]; exact mq9_hxl)
    have hh0 : own_has cs (0) ([(123 : Int32)]) := ⟨[], [(125 : Int32)], by rw [hcs]; simp only [List.append_assoc, List.cons_append, List.nil_append, List.append_nil], by simp only [List.length_append, List.length_cons, List.length_nil]⟩
    have hh1 : own_has cs (1) ([(125 : Int32)]) := ⟨[(123 : Int32)], [], by rw [hcs]; simp only [List.append_assoc, List.cons_append, List.nil_append, List.append_nil], by simp only [List.length_append, List.length_cons, List.length_nil]⟩
    have hcl : cs.length = 1 + 1 := by rw [hcs]; simp only [List.length_append, List.length_cons, List.length_nil]
    have hcl2 : cs.length ≤ 1000 := by omega
    refine og (XS.astore X9.here hx rfl (hb hby at_48) rfl rfl (l' := #[sI p0, sI p1, sI p2, sI p3, sI (0 : Int32), sR b2, sR xs_9, sU, sU, sU, sU, sU]) rfl) ?_
    refine og (XS.iloadN X9.here hx rfl (hb hby at_50) rfl) ?_
    show OG m T9 51 #[sI p0, sI p1, sI p2, sI p3, sI (0 : Int32), sR b2, sR xs_9, sU, sU, sU, sU, sU] [(.int p0)]
    obtain ⟨_, _, ⟨T12, L12, k12, n12⟩, -, X12, ⟨Lc12, hQ12, l12, y12, z12⟩, st12⟩ := Jvm.LawKit.callS X9 hx (y := (⟨"standwatch/query/ArgumentsNumbersPinLaw", "width", "(I)I"⟩ : MethodName)) hO9 (mvT hZ9 (tw hw 161 rfl)) (mvT hZ9 (tw hw 162 rfl)) (mvT hZ9 (tw hw 163 rfl)) (mvT hZ9 (tw hw 164 rfl)) (by decide) (backOf (W := 0) (own_wi l Z a0 hw [] p0 T9.heap n0 Z9) hZ9 (tw hw 164 rfl) (tw hw 163 rfl) (by decide) (by decide)) (g := (mkF m 51 #[sI p0, sI p1, sI p2, sI p3, sI (0 : Int32), sR b2, sR xs_9, sU, sU, sU, sU, sU] [(.int p0)])) rfl (by rw [hml]; rfl) (argsL := [(.int p0)]) (rest := []) (lenOf own_pd126 rfl) rfl (by show 2 * 0 + _ ≤ _; exact Nat.le_of_eq rfl) (hb hby at_51) (fun _ _ => ⟨rfl, rfl, (by decide : 7 + 0 ≤ _), (by decide : 253 + 0 ≤ _)⟩)
    dsimp only [Pt.U, Pt.locs, Pt.cells, Pt.slots] at X12 l12 y12 z12 st12 hQ12
    subst l12 y12 z12
    obtain ⟨rfl, Nq12, eq12⟩ := hQ12
    have N12 := Fr.app N9 Nq12
    have e12 : T12.heap = T9.heap := eq12
    refine own_go (fun t k => st12 t k) ?_
    show OG m T12 54 #[sI p0, sI p1, sI p2, sI p3, sI (0 : Int32), sR b2, sR xs_9, sU, sU, sU, sU, sU] [(.int (own_ssz p0))]
    refine og (XS.istore X12.here hx rfl (hb hby at_54) rfl (l' := #[sI p0, sI p1, sI p2, sI p3, sI (0 : Int32), sR b2, sR xs_9, sI (own_ssz p0), sU, sU, sU, sU]) rfl) ?_
    refine og (XS.iloadN X12.here hx rfl (hb hby at_56) rfl) ?_
    show OG m T12 57 #[sI p0, sI p1, sI p2, sI p3, sI (0 : Int32), sR b2, sR xs_9, sI (own_ssz p0), sU, sU, sU, sU] [(.int p1)]
    obtain ⟨_, _, ⟨T13, L13, k13, n13⟩, -, X13, ⟨Lc13, hQ13, l13, y13, z13⟩, st13⟩ := Jvm.LawKit.callS X12 hx (y := (⟨"standwatch/query/ArgumentsNumbersPinLaw", "width", "(I)I"⟩ : MethodName)) hO9 (mvT hZ9 (tw hw 161 rfl)) (mvT hZ9 (tw hw 162 rfl)) (mvT hZ9 (tw hw 163 rfl)) (mvT hZ9 (tw hw 164 rfl)) (by decide) (backOf (W := 0) (own_wi l Z a0 hw [] p1 T9.heap n0 Z9) hZ9 (tw hw 164 rfl) (tw hw 163 rfl) (by decide) (by decide)) (g := (mkF m 57 #[sI p0, sI p1, sI p2, sI p3, sI (0 : Int32), sR b2, sR xs_9, sI (own_ssz p0), sU, sU, sU, sU] [(.int p1)])) rfl (by rw [hml]; rfl) (argsL := [(.int p1)]) (rest := []) (lenOf own_pd126 rfl) rfl (by show 2 * 0 + _ ≤ _; exact Nat.le_of_eq rfl) (hb hby at_57) (fun _ _ => ⟨rfl, e12, (by decide : 7 + 0 ≤ _), (by decide : 253 + 0 ≤ _)⟩)
    dsimp only [Pt.U, Pt.locs, Pt.cells, Pt.slots] at X13 l13 y13 z13 st13 hQ13
    subst l13 y13 z13
    obtain ⟨rfl, Nq13, eq13⟩ := hQ13
    have N13 := Fr.app N12 Nq13
    have e13 : T13.heap = T9.heap := eq13
    refine own_go (fun t k => st13 t k) ?_
    show OG m T13 60 #[sI p0, sI p1, sI p2, sI p3, sI (0 : Int32), sR b2, sR xs_9, sI (own_ssz p0), sU, sU, sU, sU] [(.int (own_ssz p1))]
    refine og (XS.istore X13.here hx rfl (hb hby at_60) rfl (l' := #[sI p0, sI p1, sI p2, sI p3, sI (0 : Int32), sR b2, sR xs_9, sI (own_ssz p0), sI (own_ssz p1), sU, sU, sU]) rfl) ?_
    refine og (XS.iloadN X13.here hx rfl (hb hby at_62) rfl) ?_
    show OG m T13 63 #[sI p0, sI p1, sI p2, sI p3, sI (0 : Int32), sR b2, sR xs_9, sI (own_ssz p0), sI (own_ssz p1), sU, sU, sU] [(.int p2)]
    obtain ⟨_, _, ⟨T14, L14, k14, n14⟩, -, X14, ⟨Lc14, hQ14, l14, y14, z14⟩, st14⟩ := Jvm.LawKit.callS X13 hx (y := (⟨"standwatch/query/ArgumentsNumbersPinLaw", "width", "(I)I"⟩ : MethodName)) hO9 (mvT hZ9 (tw hw 161 rfl)) (mvT hZ9 (tw hw 162 rfl)) (mvT hZ9 (tw hw 163 rfl)) (mvT hZ9 (tw hw 164 rfl)) (by decide) (backOf (W := 0) (own_wi l Z a0 hw [] p2 T9.heap n0 Z9) hZ9 (tw hw 164 rfl) (tw hw 163 rfl) (by decide) (by decide)) (g := (mkF m 63 #[sI p0, sI p1, sI p2, sI p3, sI (0 : Int32), sR b2, sR xs_9, sI (own_ssz p0), sI (own_ssz p1), sU, sU, sU] [(.int p2)])) rfl (by rw [hml]; rfl) (argsL := [(.int p2)]) (rest := []) (lenOf own_pd126 rfl) rfl (by show 2 * 0 + _ ≤ _; exact Nat.le_of_eq rfl) (hb hby at_63) (fun _ _ => ⟨rfl, e13, (by decide : 7 + 0 ≤ _), (by decide : 253 + 0 ≤ _)⟩)
    dsimp only [Pt.U, Pt.locs, Pt.cells, Pt.slots] at X14 l14 y14 z14 st14 hQ14
    subst l14 y14 z14
    obtain ⟨rfl, Nq14, eq14⟩ := hQ14
    have N14 := Fr.app N13 Nq14
    have e14 : T14.heap = T9.heap := eq14
    refine own_go (fun t k => st14 t k) ?_
    show OG m T14 66 #[sI p0, sI p1, sI p2, sI p3, sI (0 : Int32), sR b2, sR xs_9, sI (own_ssz p0), sI (own_ssz p1), sU, sU, sU] [(.int (own_ssz p2))]
    refine og (XS.istore X14.here hx rfl (hb hby at_66) rfl (l' := #[sI p0, sI p1, sI p2, sI p3, sI (0 : Int32), sR b2, sR xs_9, sI (own_ssz p0), sI (own_ssz p1), sI (own_ssz p2), sU, sU]) rfl) ?_
    refine og (XS.iconst X14.here hx rfl (hb hby at_68)) ?_
    show OG m T14 69 #[sI p0, sI p1, sI p2, sI p3, sI (0 : Int32), sR b2, sR xs_9, sI (own_ssz p0), sI (own_ssz p1), sI (own_ssz p2), sU, sU] [(.int (2 : Int32))]
    refine og (XS.istore X14.here hx rfl (hb hby at_69) rfl (l' := #[sI p0, sI p1, sI p2, sI p3, sI (0 : Int32), sR b2, sR xs_9, sI (own_ssz p0), sI (own_ssz p1), sI (own_ssz p2), sI (2 : Int32), sU]) rfl) ?_
    refine og (XS.iload X14.here hx rfl (hb hby at_71) rfl) ?_
    show OG m T14 73 #[sI p0, sI p1, sI p2, sI p3, sI (0 : Int32), sR b2, sR xs_9, sI (own_ssz p0), sI (own_ssz p1), sI (own_ssz p2), sI (2 : Int32), sU] [(.int (0 : Int32))]
    refine og (XS.ifYes X14.here hx rfl (pc0 := 73) (pc' := 83) rfl (hb hby at_73) rfl ((if0 _ _).trans (flt (by decide : ¬ ((0 : Int32) < (0 : Int32)))).2.2.2) (by decide) (by decide)) ?_
    refine og (XS.iload X14.here hx rfl (hb hby at_83) rfl) ?_
    show OG m T14 85 #[sI p0, sI p1, sI p2, sI p3, sI (0 : Int32), sR b2, sR xs_9, sI (own_ssz p0), sI (own_ssz p1), sI (own_ssz p2), sI (2 : Int32), sU] [(.int (0 : Int32))]
    refine og (XS.iconst X14.here hx rfl (hb hby at_85)) ?_
    show OG m T14 86 #[sI p0, sI p1, sI p2, sI p3, sI (0 : Int32), sR b2, sR xs_9, sI (own_ssz p0), sI (own_ssz p1), sI (own_ssz p2), sI (2 : Int32), sU] [(.int (1 : Int32)), (.int (0 : Int32))]
    refine og (XS.icmpYes X14.here hx rfl (pc0 := 86) (pc' := 98) rfl (hb hby at_86) rfl (flt (by decide : ¬ ((1 : Int32) < (0 : Int32)))).2.2.2 (by decide) (by decide)) ?_
    refine og (XS.iload X14.here hx rfl (hb hby at_98) rfl) ?_
    show OG m T14 100 #[sI p0, sI p1, sI p2, sI p3, sI (0 : Int32), sR b2, sR xs_9, sI (own_ssz p0), sI (own_ssz p1), sI (own_ssz p2), sI (2 : Int32), sU] [(.int (0 : Int32))]
    refine og (XS.iconst X14.here hx rfl (hb hby at_100)) ?_
    show OG m T14 101 #[sI p0, sI p1, sI p2, sI p3, sI (0 : Int32), sR b2, sR xs_9, sI (own_ssz p0), sI (own_ssz p1), sI (own_ssz p2), sI (2 : Int32), sU] [(.int (2 : Int32)), (.int (0 : Int32))]
    refine og (XS.icmpYes X14.here hx rfl (pc0 := 101) (pc' := 113) rfl (hb hby at_101) rfl (flt (by decide : ¬ ((2 : Int32) < (0 : Int32)))).2.2.2 (by decide) (by decide)) ?_
    show OG m T14 113 #[sI p0, sI p1, sI p2, sI p3, sI (0 : Int32), sR b2, sR xs_9, sI (own_ssz p0), sI (own_ssz p1), sI (own_ssz p2), sI (2 : Int32), sU] []
    have hx0 : (2 : Int32).toInt = (cs.length : Int) := by rw [hcl]; rfl
    refine og (XS.aload X14.here hx rfl (hb hby at_113) rfl rfl) ?_
    show OG m T14 115 #[sI p0, sI p1, sI p2, sI p3, sI (0 : Int32), sR b2, sR xs_9, sI (own_ssz p0), sI (own_ssz p1), sI (own_ssz p2), sI (2 : Int32), sU] [(.ref xs_9)]
    obtain ⟨cq15, kq15, q15a, q15b, q15c⟩ := isOf hZ9 e14 Fq9_0
    obtain ⟨_, _, ⟨T15, L15, k15, n15⟩, -, X15, ⟨Lc15, hQ15, l15, y15, z15⟩, st15⟩ := X14.virtualBack hx (y := (⟨"java/lang/String", "length", "()I"⟩ : MethodName)) (z := (⟨"java/lang/String", "length", "()I"⟩ : MethodName)) hO9 (mvT hZ9 (tw hw 169 rfl)) (mvT hZ9 (tw hw 69 rfl)) (notFace_of_selects (args := #[]) (mvT hZ9 (tw hw 71 rfl))) (mvT hZ9 (tw hw 71 rfl)) (mvT hZ9 (tw hw 70 rfl)) (by decide) (backOf (W := 0) (own_sle l Z a0 hw [] xs_9 xd_9 xk_9 xl_9 cs i_COMPACT_STRINGS T9.heap n0 Z9 F10 S_COMPACT_STRINGS nz_i_COMPACT_STRINGS Fq9_0 Fq9_1 Fq9_2 F11) hZ9 (tw hw 72 rfl) (tw hw 21 rfl) (by decide) (by decide)) q15a q15c (g := (mkF m 115 #[sI p0, sI p1, sI p2, sI p3, sI (0 : Int32), sR b2, sR xs_9, sI (own_ssz p0), sI (own_ssz p1), sI (own_ssz p2), sI (2 : Int32), sU] [(.ref xs_9)])) rfl (by rw [hml]; rfl) (Steps.refl _) (argsL := []) (rest := []) (lenOf own_pd252 rfl) rfl (by show 2 * 0 + _ ≤ _; exact Nat.le_of_eq rfl) (hb hby at_115) (fun _ _ => ⟨rfl, e14, (by decide : 7 + 0 ≤ _), (by decide : 253 + 0 ≤ _)⟩)
    dsimp only [Pt.U, Pt.locs, Pt.cells, Pt.slots] at X15 l15 y15 z15 st15 hQ15
    subst l15 y15 z15
    obtain ⟨rfl, Nq15, eq15⟩ := hQ15
    have N15 := Fr.app N14 Nq15
    have e15 : T15.heap = T9.heap := eq15
    refine og (st15.trans) ?_
    show OG m T15 118 #[sI p0, sI p1, sI p2, sI p3, sI (0 : Int32), sR b2, sR xs_9, sI (own_ssz p0), sI (own_ssz p1), sI (own_ssz p2), sI (2 : Int32), sU] [(.int xl_9)]
    refine og (XS.iload X15.here hx rfl (hb hby at_118) rfl) ?_
    show OG m T15 120 #[sI p0, sI p1, sI p2, sI p3, sI (0 : Int32), sR b2, sR xs_9, sI (own_ssz p0), sI (own_ssz p1), sI (own_ssz p2), sI (2 : Int32), sU] [(.int (2 : Int32)), (.int xl_9)]
    have hxe : xl_9 = (2 : Int32) := Int32.toInt_inj.mp (by rw [hx0, hcs]; exact mq9_hxl)
    refine og (XS.icmpYes X15.here hx rfl (pc0 := 120) (pc' := 125) rfl (hb hby at_120) rfl (teq hxe).1 (by decide) (by decide)) ?_
    show OG m T15 125 #[sI p0, sI p1, sI p2, sI p3, sI (0 : Int32), sR b2, sR xs_9, sI (own_ssz p0), sI (own_ssz p1), sI (own_ssz p2), sI (2 : Int32), sU] []
    refine og (XS.aload X15.here hx rfl (hb hby at_125) rfl rfl) ?_
    refine og (XS.iconst X15.here hx rfl (hb hby at_127)) ?_
    show OG m T15 128 #[sI p0, sI p1, sI p2, sI p3, sI (0 : Int32), sR b2, sR xs_9, sI (own_ssz p0), sI (own_ssz p1), sI (own_ssz p2), sI (2 : Int32), sU] [(.int (0 : Int32)), (.ref xs_9)]
    obtain ⟨cq16, kq16, q16a, q16b, q16c⟩ := isOf hZ9 e15 Fq9_0
    obtain ⟨_, _, ⟨T16, L16, k16, n16⟩, -, X16, ⟨Lc16, hQ16, l16, y16, z16⟩, st16⟩ := X15.virtualBack hx (y := (⟨"java/lang/String", "charAt", "(I)C"⟩ : MethodName)) (z := (⟨"java/lang/String", "charAt", "(I)C"⟩ : MethodName)) hO9 (mvT hZ9 (tw hw 170 rfl)) (mvT hZ9 (tw hw 171 rfl)) (notFace_of_selects (args := #[]) (mvT hZ9 (tw hw 173 rfl))) (mvT hZ9 (tw hw 173 rfl)) (mvT hZ9 (tw hw 172 rfl)) (by decide) (backOf (W := 0) (own_ca l Z a0 hw [] xs_9 (0 : Int32) xd_9 xk_9 xl_9 cs (123 : Int32) i_COMPACT_STRINGS v_SIOOBE_FORMATTER T9.heap n0 Z9 F10 S_COMPACT_STRINGS nz_i_COMPACT_STRINGS S_SIOOBE_FORMATTER ir_v_SIOOBE_FORMATTER Fq9_0 Fq9_1 Fq9_2 F11 (own_has_in hh0 hsl rfl) (own_has_at hh0 rfl) own_ok123) hZ9 (tw hw 174 rfl) (tw hw 21 rfl) (by decide) (by decide)) q16a q16c (g := (mkF m 128 #[sI p0, sI p1, sI p2, sI p3, sI (0 : Int32), sR b2, sR xs_9, sI (own_ssz p0), sI (own_ssz p1), sI (own_ssz p2), sI (2 : Int32), sU] [(.int (0 : Int32)), (.ref xs_9)])) rfl (by rw [hml]; rfl) (Steps.refl _) (argsL := [(.int (0 : Int32))]) (rest := []) (lenOf own_pd660 rfl) rfl (by show 2 * 0 + _ ≤ _; exact Nat.le_of_eq rfl) (hb hby at_128) (fun _ _ => ⟨rfl, e15, (by decide : 7 + 0 ≤ _), (by decide : 253 + 0 ≤ _)⟩)
    dsimp only [Pt.U, Pt.locs, Pt.cells, Pt.slots] at X16 l16 y16 z16 st16 hQ16
    subst l16 y16 z16
    obtain ⟨rfl, Nq16, eq16⟩ := hQ16
    have N16 := Fr.app N15 Nq16
    have e16 : T16.heap = T9.heap := eq16
    refine og (st16.trans) ?_
    show OG m T16 131 #[sI p0, sI p1, sI p2, sI p3, sI (0 : Int32), sR b2, sR xs_9, sI (own_ssz p0), sI (own_ssz p1), sI (own_ssz p2), sI (2 : Int32), sU] [(.int (123 : Int32))]
    refine og (XS.bipush X16.here hx rfl (hb hby at_131)) ?_
    show OG m T16 133 #[sI p0, sI p1, sI p2, sI p3, sI (0 : Int32), sR b2, sR xs_9, sI (own_ssz p0), sI (own_ssz p1), sI (own_ssz p2), sI (2 : Int32), sU] [(.int (123 : Int32)), (.int (123 : Int32))]
    refine og (XS.icmpNo X16.here hx rfl (hb hby at_133) rfl (teq (by decide : (123 : Int32) = (123 : Int32))).2) ?_
    refine og (XS.aload X16.here hx rfl (hb hby at_136) rfl rfl) ?_
    show OG m T16 138 #[sI p0, sI p1, sI p2, sI p3, sI (0 : Int32), sR b2, sR xs_9, sI (own_ssz p0), sI (own_ssz p1), sI (own_ssz p2), sI (2 : Int32), sU] [(.ref xs_9)]
    refine og (XS.iload X16.here hx rfl (hb hby at_138) rfl) ?_
    refine og (XS.iconst X16.here hx rfl (hb hby at_140)) ?_
    show OG m T16 141 #[sI p0, sI p1, sI p2, sI p3, sI (0 : Int32), sR b2, sR xs_9, sI (own_ssz p0), sI (own_ssz p1), sI (own_ssz p2), sI (2 : Int32), sU] [(.int (1 : Int32)), (.int (2 : Int32)), (.ref xs_9)]
    refine og (XS.isub X16.here hx rfl (hb hby at_141) rfl) ?_
    show OG m T16 142 #[sI p0, sI p1, sI p2, sI p3, sI (0 : Int32), sR b2, sR xs_9, sI (own_ssz p0), sI (own_ssz p1), sI (own_ssz p2), sI (2 : Int32), sU] [(.int ((2 : Int32) - (1 : Int32))), (.ref xs_9)]
    obtain ⟨e1, h_e1⟩ : ∃ z, z = ((2 : Int32) - (1 : Int32)) := ⟨_, rfl⟩
    rw [← h_e1]
    show OG m T16 142 #[sI p0, sI p1, sI p2, sI p3, sI (0 : Int32), sR b2, sR xs_9, sI (own_ssz p0), sI (own_ssz p1), sI (own_ssz p2), sI (2 : Int32), sU] [(.int e1), (.ref xs_9)]
    have he1 : e1.toInt = (((1) : Nat) : Int) := by rw [h_e1]; have a := c_isub (2 : Int32) 1; have r := rng32 ((2 : Int32) - 1); rw [hx0, hcl] at a; have o : (1 : Int32).toInt = 1 := rfl; omega
    obtain ⟨cq17, kq17, q17a, q17b, q17c⟩ := isOf hZ9 e16 Fq9_0
    obtain ⟨_, _, ⟨T17, L17, k17, n17⟩, -, X17, ⟨Lc17, hQ17, l17, y17, z17⟩, st17⟩ := X16.virtualBack hx (y := (⟨"java/lang/String", "charAt", "(I)C"⟩ : MethodName)) (z := (⟨"java/lang/String", "charAt", "(I)C"⟩ : MethodName)) hO9 (mvT hZ9 (tw hw 170 rfl)) (mvT hZ9 (tw hw 171 rfl)) (notFace_of_selects (args := #[]) (mvT hZ9 (tw hw 173 rfl))) (mvT hZ9 (tw hw 173 rfl)) (mvT hZ9 (tw hw 172 rfl)) (by decide) (backOf (W := 0) (own_ca l Z a0 hw [] xs_9 e1 xd_9 xk_9 xl_9 cs (125 : Int32) i_COMPACT_STRINGS v_SIOOBE_FORMATTER T9.heap n0 Z9 F10 S_COMPACT_STRINGS nz_i_COMPACT_STRINGS S_SIOOBE_FORMATTER ir_v_SIOOBE_FORMATTER Fq9_0 Fq9_1 Fq9_2 F11 (own_has_in hh1 hsl he1) (own_has_at hh1 he1) own_ok125) hZ9 (tw hw 174 rfl) (tw hw 21 rfl) (by decide) (by decide)) q17a q17c (g := (mkF m 142 #[sI p0, sI p1, sI p2, sI p3, sI (0 : Int32), sR b2, sR xs_9, sI (own_ssz p0), sI (own_ssz p1), sI (own_ssz p2), sI (2 : Int32), sU] [(.int e1), (.ref xs_9)])) rfl (by rw [hml]; rfl) (Steps.refl _) (argsL := [(.int e1)]) (rest := []) (lenOf own_pd660 rfl) rfl (by show 2 * 0 + _ ≤ _; exact Nat.le_of_eq rfl) (hb hby at_142) (fun _ _ => ⟨rfl, e16, (by decide : 7 + 0 ≤ _), (by decide : 253 + 0 ≤ _)⟩)
    dsimp only [Pt.U, Pt.locs, Pt.cells, Pt.slots] at X17 l17 y17 z17 st17 hQ17
    subst l17 y17 z17
    obtain ⟨rfl, Nq17, eq17⟩ := hQ17
    have N17 := Fr.app N16 Nq17
    have e17 : T17.heap = T9.heap := eq17
    refine og (st17.trans) ?_
    show OG m T17 145 #[sI p0, sI p1, sI p2, sI p3, sI (0 : Int32), sR b2, sR xs_9, sI (own_ssz p0), sI (own_ssz p1), sI (own_ssz p2), sI (2 : Int32), sU] [(.int (125 : Int32))]
    refine og (XS.bipush X17.here hx rfl (hb hby at_145)) ?_
    show OG m T17 147 #[sI p0, sI p1, sI p2, sI p3, sI (0 : Int32), sR b2, sR xs_9, sI (own_ssz p0), sI (own_ssz p1), sI (own_ssz p2), sI (2 : Int32), sU] [(.int (125 : Int32)), (.int (125 : Int32))]
    refine og (XS.icmpYes X17.here hx rfl (pc0 := 147) (pc' := 152) rfl (hb hby at_147) rfl (teq (by decide : (125 : Int32) = (125 : Int32))).1 (by decide) (by decide)) ?_
    refine og (XS.iconst X17.here hx rfl (hb hby at_152)) ?_
    show OG m T17 153 #[sI p0, sI p1, sI p2, sI p3, sI (0 : Int32), sR b2, sR xs_9, sI (own_ssz p0), sI (own_ssz p1), sI (own_ssz p2), sI (2 : Int32), sU] [(.int (1 : Int32))]
    refine og (XS.istore X17.here hx rfl (hb hby at_153) rfl (l' := #[sI p0, sI p1, sI p2, sI p3, sI (0 : Int32), sR b2, sR xs_9, sI (own_ssz p0), sI (own_ssz p1), sI (own_ssz p2), sI (2 : Int32), sI (1 : Int32)]) rfl) ?_
    refine og (XS.iload X17.here hx rfl (hb hby at_155) rfl) ?_
    show OG m T17 157 #[sI p0, sI p1, sI p2, sI p3, sI (0 : Int32), sR b2, sR xs_9, sI (own_ssz p0), sI (own_ssz p1), sI (own_ssz p2), sI (2 : Int32), sI (1 : Int32)] [(.int (0 : Int32))]
    refine og (XS.ifYes X17.here hx rfl (pc0 := 157) (pc' := 180) rfl (hb hby at_157) rfl ((if0 _ _).trans (flt (by decide : ¬ ((0 : Int32) < (0 : Int32)))).2.2.2) (by decide) (by decide)) ?_
    refine og (XS.iload X17.here hx rfl (hb hby at_180) rfl) ?_
    show OG m T17 182 #[sI p0, sI p1, sI p2, sI p3, sI (0 : Int32), sR b2, sR xs_9, sI (own_ssz p0), sI (own_ssz p1), sI (own_ssz p2), sI (2 : Int32), sI (1 : Int32)] [(.int (0 : Int32))]
    refine og (XS.iconst X17.here hx rfl (hb hby at_182)) ?_
    show OG m T17 183 #[sI p0, sI p1, sI p2, sI p3, sI (0 : Int32), sR b2, sR xs_9, sI (own_ssz p0), sI (own_ssz p1), sI (own_ssz p2), sI (2 : Int32), sI (1 : Int32)] [(.int (1 : Int32)), (.int (0 : Int32))]
    refine og (XS.icmpYes X17.here hx rfl (pc0 := 183) (pc' := 223) rfl (hb hby at_183) rfl (flt (by decide : ¬ ((1 : Int32) < (0 : Int32)))).2.2.2 (by decide) (by decide)) ?_
    refine og (XS.iload X17.here hx rfl (hb hby at_223) rfl) ?_
    show OG m T17 225 #[sI p0, sI p1, sI p2, sI p3, sI (0 : Int32), sR b2, sR xs_9, sI (own_ssz p0), sI (own_ssz p1), sI (own_ssz p2), sI (2 : Int32), sI (1 : Int32)] [(.int (0 : Int32))]
    refine og (XS.iconst X17.here hx rfl (hb hby at_225)) ?_
    show OG m T17 226 #[sI p0, sI p1, sI p2, sI p3, sI (0 : Int32), sR b2, sR xs_9, sI (own_ssz p0), sI (own_ssz p1), sI (own_ssz p2), sI (2 : Int32), sI (1 : Int32)] [(.int (2 : Int32)), (.int (0 : Int32))]
    refine og (XS.icmpYes X17.here hx rfl (pc0 := 226) (pc' := 266) rfl (hb hby at_226) rfl (flt (by decide : ¬ ((2 : Int32) < (0 : Int32)))).2.2.2 (by decide) (by decide)) ?_
    refine og (XS.iload X17.here hx rfl (hb hby at_266) rfl) ?_
    show OG m T17 268 #[sI p0, sI p1, sI p2, sI p3, sI (0 : Int32), sR b2, sR xs_9, sI (own_ssz p0), sI (own_ssz p1), sI (own_ssz p2), sI (2 : Int32), sI (1 : Int32)] [(.int (1 : Int32))]
    refine og (XS.iload X17.here hx rfl (hb hby at_268) rfl) ?_
    refine og (XS.iconst X17.here hx rfl (hb hby at_270)) ?_
    show OG m T17 271 #[sI p0, sI p1, sI p2, sI p3, sI (0 : Int32), sR b2, sR xs_9, sI (own_ssz p0), sI (own_ssz p1), sI (own_ssz p2), sI (2 : Int32), sI (1 : Int32)] [(.int (1 : Int32)), (.int (2 : Int32)), (.int (1 : Int32))]
    refine og (XS.isub X17.here hx rfl (hb hby at_271) rfl) ?_
    show OG m T17 272 #[sI p0, sI p1, sI p2, sI p3, sI (0 : Int32), sR b2, sR xs_9, sI (own_ssz p0), sI (own_ssz p1), sI (own_ssz p2), sI (2 : Int32), sI (1 : Int32)] [(.int ((2 : Int32) - (1 : Int32))), (.int (1 : Int32))]
    obtain ⟨e2, h_e2⟩ : ∃ z, z = ((2 : Int32) - (1 : Int32)) := ⟨_, rfl⟩
    rw [← h_e2]
    show OG m T17 272 #[sI p0, sI p1, sI p2, sI p3, sI (0 : Int32), sR b2, sR xs_9, sI (own_ssz p0), sI (own_ssz p1), sI (own_ssz p2), sI (2 : Int32), sI (1 : Int32)] [(.int e2), (.int (1 : Int32))]
    have he2 : (1 : Int32) = e2 := Int32.toInt_inj.mp (by rw [h_e2, ← h_e1, he1]; exact o1n)
    refine og (XS.icmpNo X17.here hx rfl (hb hby at_272) rfl (teq he2).2) ?_
    show OG m T17 275 #[sI p0, sI p1, sI p2, sI p3, sI (0 : Int32), sR b2, sR xs_9, sI (own_ssz p0), sI (own_ssz p1), sI (own_ssz p2), sI (2 : Int32), sI (1 : Int32)] []
    refine og (XS.iconst X17.here hx rfl (hb hby at_275)) ?_
    refine og (XS.goto X17.here hx rfl (pc0 := 276) (pc' := 280) rfl (hb hby at_276) (by decide) (by decide)) ?_
    show OG m T17 280 #[sI p0, sI p1, sI p2, sI p3, sI (0 : Int32), sR b2, sR xs_9, sI (own_ssz p0), sI (own_ssz p1), sI (own_ssz p2), sI (2 : Int32), sI (1 : Int32)] [(.int (1 : Int32))]
    obtain ⟨fs, hr, hrun, hended, ⟨-, hW2, hW3, hsame⟩⟩ := Jvm.Stand.leaveW (s := s) (vm₁ := T9.vm) X17 hS9 (show _ ≤ T17.heap.size from by rw [e17]; exact (Nat.le_refl _)) (v := some (.int (1 : Int32))) (fun h => by rw [Bd.returns] at h; cases h)
    refine ⟨_, _, retN X17 hx (t := .boolean) Bd.returns (by simp) (hb hby at_280) hr, hrun, hended, _, _, rfl, ?_, ⟨_, rfl⟩, hW2, hW3, hsame.mono (by decide) (by decide)⟩
    show Q_own_law Z p0 p1 p2 p3 i_COMPACT_STRINGS v_SIOOBE_FORMATTER o_DigitOnes o_DigitTens kc_own_ones kc_own_tens h0 n0 _ T17.heap _
    rw [e17]
    exact ⟨rfl, N17⟩
  · rw [al1]
    show OG m s₁ 5 #[sI p0, sI p1, sI p2, sI p3, sI (1 : Int32), sU, sU, sU, sU, sU, sU, sU] []
    refine og (XS.iload X0.here hx rfl (hb hby at_5) rfl) ?_
    show OG m s₁ 7 #[sI p0, sI p1, sI p2, sI p3, sI (1 : Int32), sU, sU, sU, sU, sU, sU, sU] [(.int (1 : Int32))]
    obtain ⟨T18, h18, k18, X18, e18, E18, A18, st18⟩ := newP X0 hx hZ (tw hw 0 rfl) e0 (g := (mkF m 7 #[sI p0, sI p1, sI p2, sI p3, sI (1 : Int32), sU, sU, sU, sU, sU, sU, sU] [(.int (1 : Int32))])) rfl (hb hby at_7) rfl (by decide) (cap := 1) (by decide) (by decide) (by decide) (by decide)
    obtain ⟨b18, g18⟩ : ∃ z, z = h0.size := ⟨_, rfl⟩
    rw [← g18] at A18 st18
    have g_b18 : n0 ≤ b18 := Nat.le_trans Z0 (Nat.le_of_eq g18.symm)
    have sz_b18 : h0.size ≤ b18 := Nat.le_trans K0.1 (Nat.le_of_eq g18.symm)
    have sf19 : Safe Z own_EL s.vm h0 b18 := Safe.new (Nat.le_of_eq g18.symm)
    have F20 : Old Z n0 h18 := O0.ext E18
    have K21 : Keep h0 h18 [] := K0.ext E18
    have Z21 : n0 ≤ h18.size := Nat.le_trans Z0 E18.1
    have C22 : CHr Z own_EL s.vm h0 s.vm h18 := C0.trans (CHr.ext E18 C0.1)
    have sf23 : Safe Z own_EL s.vm h18 b18 := Safe.ext E18 C0.1 sf19
    have F24 : Arv Z h18 b18 k18 .int (1 : Int32) [(.int (0 : Int32))] (.int (0 : Int32)) := (Arv.new A18 (by decide)).pad (pad_rep [] (.int (0 : Int32)) 1)
    refine own_go (fun t k => st18 t k) ?_
    show OG m T18 9 #[sI p0, sI p1, sI p2, sI p3, sI (1 : Int32), sU, sU, sU, sU, sU, sU, sU] [(.ref b18)]
    refine og (XS.astore X18.here hx rfl (hb hby at_9) rfl rfl (l' := #[sI p0, sI p1, sI p2, sI p3, sI (1 : Int32), sR b18, sU, sU, sU, sU, sU, sU]) rfl) ?_
    refine og (XS.iload X18.here hx rfl (hb hby at_11) rfl) ?_
    show OG m T18 13 #[sI p0, sI p1, sI p2, sI p3, sI (1 : Int32), sR b18, sU, sU, sU, sU, sU, sU] [(.int (1 : Int32))]
    refine og (XS.ifNo X18.here hx rfl (hb hby at_13) rfl ((if0 _ _).trans (tlt (by decide : (0 : Int32) < (1 : Int32))).2.2.2)) ?_
    refine og (XS.aload X18.here hx rfl (hb hby at_16) rfl rfl) ?_
    show OG m T18 18 #[sI p0, sI p1, sI p2, sI p3, sI (1 : Int32), sR b18, sU, sU, sU, sU, sU, sU] [(.ref b18)]
    refine og (XS.iconst X18.here hx rfl (hb hby at_18)) ?_
    refine og (XS.iloadN X18.here hx rfl (hb hby at_19) rfl) ?_
    show OG m T18 20 #[sI p0, sI p1, sI p2, sI p3, sI (1 : Int32), sR b18, sU, sU, sU, sU, sU, sU] [(.int p0), (.int (0 : Int32)), (.ref b18)]
    have vv25 := F24
    obtain ⟨cl25, Ar25, qk25, Sz25, Nn25, Hs25, Gs25⟩ := vv25
    have hin25 : ¬ ((0 : Int32) < 0 ∨ cl25.slots.size ≤ ((0 : Int32)).toNatClampNeg) := inb_of Sz25 ⟨by decide, by decide⟩
    obtain ⟨T25, h25, X25, e25, W25, st25⟩ := stI X18 hx hZ e18 Ar25 (j := (0 : Int32)) hin25 (g := (mkF m 20 #[sI p0, sI p1, sI p2, sI p3, sI (1 : Int32), sR b18, sU, sU, sU, sU, sU, sU] [(.int p0), (.int (0 : Int32)), (.ref b18)])) rfl rfl (hb hby at_20)
    have F26 : Old Z n0 h25 := F20.wr W25 g_b18
    have N27 := Fr.snoc X25 N0 g_b18
    have K27 : Keep h0 h25 [] := K21.wr W25 (Or.inr sz_b18)
    have Z27 : n0 ≤ h25.size := Nat.le_trans Z21 (Keep.of_wr W25).1
    have C28 : CHr Z own_EL s.vm h0 s.vm h25 := C22.trans (CHr.wr W25 sf23 C22.1)
    have sf29 : Safe Z own_EL s.vm h25 b18 := Safe.wr W25 sf23 C22.1 sf23
    have F30 : Arv Z h25 b18 k18 .int (1 : Int32) [(.int p0)] (.int (0 : Int32)) := Arv.set Ar25 qk25 Sz25 Nn25 Hs25 Gs25 rfl W25 0 rfl (Nat.le_of_ble_eq_true rfl)
    refine own_go (fun t k => st25 t k) ?_
    show OG m T25 21 #[sI p0, sI p1, sI p2, sI p3, sI (1 : Int32), sR b18, sU, sU, sU, sU, sU, sU] []
    refine og (XS.iload X25.here hx rfl (hb hby at_21) rfl) ?_
    refine og (XS.iconst X25.here hx rfl (hb hby at_23)) ?_
    show OG m T25 24 #[sI p0, sI p1, sI p2, sI p3, sI (1 : Int32), sR b18, sU, sU, sU, sU, sU, sU] [(.int (1 : Int32)), (.int (1 : Int32))]
    refine og (XS.icmpYes X25.here hx rfl (pc0 := 24) (pc' := 32) rfl (hb hby at_24) rfl (flt (by decide : ¬ ((1 : Int32) < (1 : Int32)))).2.2.2 (by decide) (by decide)) ?_
    refine og (XS.iload X25.here hx rfl (hb hby at_32) rfl) ?_
    show OG m T25 34 #[sI p0, sI p1, sI p2, sI p3, sI (1 : Int32), sR b18, sU, sU, sU, sU, sU, sU] [(.int (1 : Int32))]
    refine og (XS.iconst X25.here hx rfl (hb hby at_34)) ?_
    show OG m T25 35 #[sI p0, sI p1, sI p2, sI p3, sI (1 : Int32), sR b18, sU, sU, sU, sU, sU, sU] [(.int (2 : Int32)), (.int (1 : Int32))]
    refine og (XS.icmpYes X25.here hx rfl (pc0 := 35) (pc' := 43) rfl (hb hby at_35) rfl (flt (by decide : ¬ ((2 : Int32) < (1 : Int32)))).2.2.2 (by decide) (by decide)) ?_
    refine og (XS.aload X25.here hx rfl (hb hby at_43) rfl rfl) ?_
    show OG m T25 45 #[sI p0, sI p1, sI p2, sI p3, sI (1 : Int32), sR b18, sU, sU, sU, sU, sU, sU] [(.ref b18)]
    obtain ⟨_, _, ⟨T31, L31, k31, n31⟩, -, X31, hS31, hgr31, ⟨Lc31, hQ31, l31, y31, z31, hC31⟩, st31⟩ := callSS X25 hx (y := (⟨"standwatch/query/Arguments", "numbers", "([I)Ljava/lang/String;"⟩ : MethodName)) hown (mvT hZ (tw hw 1 rfl)) (mvT hZ (tw hw 2 rfl)) (mvT hZ (tw hw 3 rfl)) (mvT hZ (tw hw 4 rfl)) (by decide) (backOfSH (s := s) (vm0 := s.vm) (W := 0) (own_num1 l Z a0 hw [] b18 k18 p0 i_COMPACT_STRINGS o_DigitOnes o_DigitTens kc_own_ones kc_own_tens h25 n0 Z27 F26 S_COMPACT_STRINGS nz_i_COMPACT_STRINGS S_DigitOnes V_own_ones S_DigitTens V_own_tens F30) hZ (tw hw 4 rfl) (tw hw 3 rfl) (by decide) (by decide) (own_EW Z a0 hw) C28.1) (g := (mkF m 45 #[sI p0, sI p1, sI p2, sI p3, sI (1 : Int32), sR b18, sU, sU, sU, sU, sU, sU] [(.ref b18)])) rfl (by rw [hml]; rfl) (argsL := [(.ref b18)]) (rest := []) (lenOf own_pd829 rfl) rfl (by show 2 * 0 + _ ≤ _; exact Nat.le_of_eq rfl) (hb hby at_45) (fun _ _ => ⟨rfl, e25, (by decide : 1 + 10 ≤ _), (by decide : 1 + 405 ≤ _)⟩)
    dsimp only [Pt.U, Pt.locs, Pt.cells, Pt.slots] at X31 l31 y31 z31 st31 hQ31 hS31
    subst l31 y31 z31
    obtain ⟨xs_31, xd_31, xk_31, xl_31, rfl, Nq31, Kq31, Fq31_0, Fq31_1, Fq31_2, Fq31_3, mq31_hxl⟩ := hQ31
    have N31 := Fr.app N27 Nq31
    have hZ31 : Z.Warmed39 (s.setVm T31.vm).vm := State.Warmed39.trans hZ hS31.1
    have hO31 : (s.setVm T31.vm).vm.findClass "standwatch/query/ArgumentsNumbersPinLaw" = some m.cls := (hS31.1.alike.findClass _ _).trans hown
    have F32 : Old Z n0 T31.heap := F26.keep Kq31 all0
    have K31 : Keep h0 T31.heap [] := K27.trans Kq31 all0
    have Z31 : n0 ≤ T31.heap.size := Nat.le_trans Z27 Kq31.1
    refine og (st31.trans) ?_
    show OG m T31 48 #[sI p0, sI p1, sI p2, sI p3, sI (1 : Int32), sR b18, sU, sU, sU, sU, sU, sU] [(.ref xs_31)]
    have ht0 := own_txt_rng p0
    have ht1 := own_txt_rng p1
    have ht2 := own_txt_rng p2
    have o2 : (2 : Int32).toInt = 2 := rfl
    have o1 : (1 : Int32).toInt = 1 := rfl
    have o1n : (1 : Int32).toInt = ((1 : Nat) : Int) := rfl
    obtain ⟨cs, hcs⟩ : ∃ z : List Int32, z = (([(123 : Int32)] ++ own_txt p0) ++ [(125 : Int32)]) := ⟨_, rfl⟩
    have F33 : Arv Z T31.heap xd_31 xk_31 .byte xl_31 (own_B cs) (.int (0 : Int32)) := by rw [hcs]; exact Fq31_3
    have hsl : ¬ xl_31 < 0 ∧ xl_31.toNatClampNeg = cs.length := own_idx (by rw [hcs]; exact mq31_hxl)
    have hh0 : own_has cs (0) ([(123 : Int32)]) := ⟨[], own_txt p0 ++ [(125 : Int32)], by rw [hcs]; simp only [List.append_assoc, List.cons_append, List.nil_append, List.append_nil], by simp only [List.length_append, List.length_cons, List.length_nil]⟩
    have hh1 : own_has cs (1) (own_txt p0) := ⟨[(123 : Int32)], [(125 : Int32)], by rw [hcs]; simp only [List.append_assoc, List.cons_append, List.nil_append, List.append_nil], by simp only [List.length_append, List.length_cons, List.length_nil]⟩
    have hh2 : own_has cs (1 + (own_txt p0).length) ([(125 : Int32)]) := ⟨[(123 : Int32)] ++ own_txt p0, [], by rw [hcs]; simp only [List.append_assoc, List.cons_append, List.nil_append, List.append_nil], by simp only [List.length_append, List.length_cons, List.length_nil]⟩
    have hcl : cs.length = 1 + (own_txt p0).length + 1 := by rw [hcs]; simp only [List.length_append, List.length_cons, List.length_nil]
    have hcl2 : cs.length ≤ 1000 := by omega
    refine og (XS.astore X31.here hx rfl (hb hby at_48) rfl rfl (l' := #[sI p0, sI p1, sI p2, sI p3, sI (1 : Int32), sR b18, sR xs_31, sU, sU, sU, sU, sU]) rfl) ?_
    refine og (XS.iloadN X31.here hx rfl (hb hby at_50) rfl) ?_
    show OG m T31 51 #[sI p0, sI p1, sI p2, sI p3, sI (1 : Int32), sR b18, sR xs_31, sU, sU, sU, sU, sU] [(.int p0)]
    obtain ⟨_, _, ⟨T34, L34, k34, n34⟩, -, X34, ⟨Lc34, hQ34, l34, y34, z34⟩, st34⟩ := Jvm.LawKit.callS X31 hx (y := (⟨"standwatch/query/ArgumentsNumbersPinLaw", "width", "(I)I"⟩ : MethodName)) hO31 (mvT hZ31 (tw hw 161 rfl)) (mvT hZ31 (tw hw 162 rfl)) (mvT hZ31 (tw hw 163 rfl)) (mvT hZ31 (tw hw 164 rfl)) (by decide) (backOf (W := 0) (own_wi l Z a0 hw [] p0 T31.heap n0 Z31) hZ31 (tw hw 164 rfl) (tw hw 163 rfl) (by decide) (by decide)) (g := (mkF m 51 #[sI p0, sI p1, sI p2, sI p3, sI (1 : Int32), sR b18, sR xs_31, sU, sU, sU, sU, sU] [(.int p0)])) rfl (by rw [hml]; rfl) (argsL := [(.int p0)]) (rest := []) (lenOf own_pd126 rfl) rfl (by show 2 * 0 + _ ≤ _; exact Nat.le_of_eq rfl) (hb hby at_51) (fun _ _ => ⟨rfl, rfl, (by decide : 11 + 0 ≤ _), (by decide : 406 + 0 ≤ _)⟩)
    dsimp only [Pt.U, Pt.locs, Pt.cells, Pt.slots] at X34 l34 y34 z34 st34 hQ34
    subst l34 y34 z34
    obtain ⟨rfl, Nq34, eq34⟩ := hQ34
    have N34 := Fr.app N31 Nq34
    have e34 : T34.heap = T31.heap := eq34
    refine own_go (fun t k => st34 t k) ?_
    show OG m T34 54 #[sI p0, sI p1, sI p2, sI p3, sI (1 : Int32), sR b18, sR xs_31, sU, sU, sU, sU, sU] [(.int (own_ssz p0))]
    refine og (XS.istore X34.here hx rfl (hb hby at_54) rfl (l' := #[sI p0, sI p1, sI p2, sI p3, sI (1 : Int32), sR b18, sR xs_31, sI (own_ssz p0), sU, sU, sU, sU]) rfl) ?_
    refine og (XS.iloadN X34.here hx rfl (hb hby at_56) rfl) ?_
    show OG m T34 57 #[sI p0, sI p1, sI p2, sI p3, sI (1 : Int32), sR b18, sR xs_31, sI (own_ssz p0), sU, sU, sU, sU] [(.int p1)]
    obtain ⟨_, _, ⟨T35, L35, k35, n35⟩, -, X35, ⟨Lc35, hQ35, l35, y35, z35⟩, st35⟩ := Jvm.LawKit.callS X34 hx (y := (⟨"standwatch/query/ArgumentsNumbersPinLaw", "width", "(I)I"⟩ : MethodName)) hO31 (mvT hZ31 (tw hw 161 rfl)) (mvT hZ31 (tw hw 162 rfl)) (mvT hZ31 (tw hw 163 rfl)) (mvT hZ31 (tw hw 164 rfl)) (by decide) (backOf (W := 0) (own_wi l Z a0 hw [] p1 T31.heap n0 Z31) hZ31 (tw hw 164 rfl) (tw hw 163 rfl) (by decide) (by decide)) (g := (mkF m 57 #[sI p0, sI p1, sI p2, sI p3, sI (1 : Int32), sR b18, sR xs_31, sI (own_ssz p0), sU, sU, sU, sU] [(.int p1)])) rfl (by rw [hml]; rfl) (argsL := [(.int p1)]) (rest := []) (lenOf own_pd126 rfl) rfl (by show 2 * 0 + _ ≤ _; exact Nat.le_of_eq rfl) (hb hby at_57) (fun _ _ => ⟨rfl, e34, (by decide : 11 + 0 ≤ _), (by decide : 406 + 0 ≤ _)⟩)
    dsimp only [Pt.U, Pt.locs, Pt.cells, Pt.slots] at X35 l35 y35 z35 st35 hQ35
    subst l35 y35 z35
    obtain ⟨rfl, Nq35, eq35⟩ := hQ35
    have N35 := Fr.app N34 Nq35
    have e35 : T35.heap = T31.heap := eq35
    refine own_go (fun t k => st35 t k) ?_
    show OG m T35 60 #[sI p0, sI p1, sI p2, sI p3, sI (1 : Int32), sR b18, sR xs_31, sI (own_ssz p0), sU, sU, sU, sU] [(.int (own_ssz p1))]
    refine og (XS.istore X35.here hx rfl (hb hby at_60) rfl (l' := #[sI p0, sI p1, sI p2, sI p3, sI (1 : Int32), sR b18, sR xs_31, sI (own_ssz p0), sI (own_ssz p1), sU, sU, sU]) rfl) ?_
    refine og (XS.iloadN X35.here hx rfl (hb hby at_62) rfl) ?_
    show OG m T35 63 #[sI p0, sI p1, sI p2, sI p3, sI (1 : Int32), sR b18, sR xs_31, sI (own_ssz p0), sI (own_ssz p1), sU, sU, sU] [(.int p2)]
    obtain ⟨_, _, ⟨T36, L36, k36, n36⟩, -, X36, ⟨Lc36, hQ36, l36, y36, z36⟩, st36⟩ := Jvm.LawKit.callS X35 hx (y := (⟨"standwatch/query/ArgumentsNumbersPinLaw", "width", "(I)I"⟩ : MethodName)) hO31 (mvT hZ31 (tw hw 161 rfl)) (mvT hZ31 (tw hw 162 rfl)) (mvT hZ31 (tw hw 163 rfl)) (mvT hZ31 (tw hw 164 rfl)) (by decide) (backOf (W := 0) (own_wi l Z a0 hw [] p2 T31.heap n0 Z31) hZ31 (tw hw 164 rfl) (tw hw 163 rfl) (by decide) (by decide)) (g := (mkF m 63 #[sI p0, sI p1, sI p2, sI p3, sI (1 : Int32), sR b18, sR xs_31, sI (own_ssz p0), sI (own_ssz p1), sU, sU, sU] [(.int p2)])) rfl (by rw [hml]; rfl) (argsL := [(.int p2)]) (rest := []) (lenOf own_pd126 rfl) rfl (by show 2 * 0 + _ ≤ _; exact Nat.le_of_eq rfl) (hb hby at_63) (fun _ _ => ⟨rfl, e35, (by decide : 11 + 0 ≤ _), (by decide : 406 + 0 ≤ _)⟩)
    dsimp only [Pt.U, Pt.locs, Pt.cells, Pt.slots] at X36 l36 y36 z36 st36 hQ36
    subst l36 y36 z36
    obtain ⟨rfl, Nq36, eq36⟩ := hQ36
    have N36 := Fr.app N35 Nq36
    have e36 : T36.heap = T31.heap := eq36
    refine own_go (fun t k => st36 t k) ?_
    show OG m T36 66 #[sI p0, sI p1, sI p2, sI p3, sI (1 : Int32), sR b18, sR xs_31, sI (own_ssz p0), sI (own_ssz p1), sU, sU, sU] [(.int (own_ssz p2))]
    refine og (XS.istore X36.here hx rfl (hb hby at_66) rfl (l' := #[sI p0, sI p1, sI p2, sI p3, sI (1 : Int32), sR b18, sR xs_31, sI (own_ssz p0), sI (own_ssz p1), sI (own_ssz p2), sU, sU]) rfl) ?_
    refine og (XS.iconst X36.here hx rfl (hb hby at_68)) ?_
    show OG m T36 69 #[sI p0, sI p1, sI p2, sI p3, sI (1 : Int32), sR b18, sR xs_31, sI (own_ssz p0), sI (own_ssz p1), sI (own_ssz p2), sU, sU] [(.int (2 : Int32))]
    refine og (XS.istore X36.here hx rfl (hb hby at_69) rfl (l' := #[sI p0, sI p1, sI p2, sI p3, sI (1 : Int32), sR b18, sR xs_31, sI (own_ssz p0), sI (own_ssz p1), sI (own_ssz p2), sI (2 : Int32), sU]) rfl) ?_
    refine og (XS.iload X36.here hx rfl (hb hby at_71) rfl) ?_
    show OG m T36 73 #[sI p0, sI p1, sI p2, sI p3, sI (1 : Int32), sR b18, sR xs_31, sI (own_ssz p0), sI (own_ssz p1), sI (own_ssz p2), sI (2 : Int32), sU] [(.int (1 : Int32))]
    refine og (XS.ifNo X36.here hx rfl (hb hby at_73) rfl ((if0 _ _).trans (tlt (by decide : (0 : Int32) < (1 : Int32))).2.2.2)) ?_
    refine og (XS.iload X36.here hx rfl (hb hby at_76) rfl) ?_
    show OG m T36 78 #[sI p0, sI p1, sI p2, sI p3, sI (1 : Int32), sR b18, sR xs_31, sI (own_ssz p0), sI (own_ssz p1), sI (own_ssz p2), sI (2 : Int32), sU] [(.int (2 : Int32))]
    refine og (XS.iload X36.here hx rfl (hb hby at_78) rfl) ?_
    refine og (XS.iadd X36.here hx rfl (hb hby at_80) rfl) ?_
    show OG m T36 81 #[sI p0, sI p1, sI p2, sI p3, sI (1 : Int32), sR b18, sR xs_31, sI (own_ssz p0), sI (own_ssz p1), sI (own_ssz p2), sI (2 : Int32), sU] [(.int ((2 : Int32) + (own_ssz p0)))]
    refine og (XS.istore X36.here hx rfl (hb hby at_81) rfl (l' := #[sI p0, sI p1, sI p2, sI p3, sI (1 : Int32), sR b18, sR xs_31, sI (own_ssz p0), sI (own_ssz p1), sI (own_ssz p2), sI ((2 : Int32) + (own_ssz p0)), sU]) rfl) ?_
    refine og (XS.iload X36.here hx rfl (hb hby at_83) rfl) ?_
    show OG m T36 85 #[sI p0, sI p1, sI p2, sI p3, sI (1 : Int32), sR b18, sR xs_31, sI (own_ssz p0), sI (own_ssz p1), sI (own_ssz p2), sI ((2 : Int32) + (own_ssz p0)), sU] [(.int (1 : Int32))]
    refine og (XS.iconst X36.here hx rfl (hb hby at_85)) ?_
    show OG m T36 86 #[sI p0, sI p1, sI p2, sI p3, sI (1 : Int32), sR b18, sR xs_31, sI (own_ssz p0), sI (own_ssz p1), sI (own_ssz p2), sI ((2 : Int32) + (own_ssz p0)), sU] [(.int (1 : Int32)), (.int (1 : Int32))]
    refine og (XS.icmpYes X36.here hx rfl (pc0 := 86) (pc' := 98) rfl (hb hby at_86) rfl (flt (by decide : ¬ ((1 : Int32) < (1 : Int32)))).2.2.2 (by decide) (by decide)) ?_
    refine og (XS.iload X36.here hx rfl (hb hby at_98) rfl) ?_
    show OG m T36 100 #[sI p0, sI p1, sI p2, sI p3, sI (1 : Int32), sR b18, sR xs_31, sI (own_ssz p0), sI (own_ssz p1), sI (own_ssz p2), sI ((2 : Int32) + (own_ssz p0)), sU] [(.int (1 : Int32))]
    refine og (XS.iconst X36.here hx rfl (hb hby at_100)) ?_
    show OG m T36 101 #[sI p0, sI p1, sI p2, sI p3, sI (1 : Int32), sR b18, sR xs_31, sI (own_ssz p0), sI (own_ssz p1), sI (own_ssz p2), sI ((2 : Int32) + (own_ssz p0)), sU] [(.int (2 : Int32)), (.int (1 : Int32))]
    refine og (XS.icmpYes X36.here hx rfl (pc0 := 101) (pc' := 113) rfl (hb hby at_101) rfl (flt (by decide : ¬ ((2 : Int32) < (1 : Int32)))).2.2.2 (by decide) (by decide)) ?_
    show OG m T36 113 #[sI p0, sI p1, sI p2, sI p3, sI (1 : Int32), sR b18, sR xs_31, sI (own_ssz p0), sI (own_ssz p1), sI (own_ssz p2), sI ((2 : Int32) + (own_ssz p0)), sU] []
    obtain ⟨ex, h_ex⟩ : ∃ z, z = ((2 : Int32) + (own_ssz p0)) := ⟨_, rfl⟩
    rw [← h_ex]
    show OG m T36 113 #[sI p0, sI p1, sI p2, sI p3, sI (1 : Int32), sR b18, sR xs_31, sI (own_ssz p0), sI (own_ssz p1), sI (own_ssz p2), sI ex, sU] []
    have hex : ex.toInt = (cs.length : Int) := by rw [h_ex, (own_cnt o2 (own_ssz_len p0) (by omega) (by omega)), hcl]; omega
    refine og (XS.aload X36.here hx rfl (hb hby at_113) rfl rfl) ?_
    show OG m T36 115 #[sI p0, sI p1, sI p2, sI p3, sI (1 : Int32), sR b18, sR xs_31, sI (own_ssz p0), sI (own_ssz p1), sI (own_ssz p2), sI ex, sU] [(.ref xs_31)]
    obtain ⟨cq37, kq37, q37a, q37b, q37c⟩ := isOf hZ31 e36 Fq31_0
    obtain ⟨_, _, ⟨T37, L37, k37, n37⟩, -, X37, ⟨Lc37, hQ37, l37, y37, z37⟩, st37⟩ := X36.virtualBack hx (y := (⟨"java/lang/String", "length", "()I"⟩ : MethodName)) (z := (⟨"java/lang/String", "length", "()I"⟩ : MethodName)) hO31 (mvT hZ31 (tw hw 169 rfl)) (mvT hZ31 (tw hw 69 rfl)) (notFace_of_selects (args := #[]) (mvT hZ31 (tw hw 71 rfl))) (mvT hZ31 (tw hw 71 rfl)) (mvT hZ31 (tw hw 70 rfl)) (by decide) (backOf (W := 0) (own_sle l Z a0 hw [] xs_31 xd_31 xk_31 xl_31 cs i_COMPACT_STRINGS T31.heap n0 Z31 F32 S_COMPACT_STRINGS nz_i_COMPACT_STRINGS Fq31_0 Fq31_1 Fq31_2 F33) hZ31 (tw hw 72 rfl) (tw hw 21 rfl) (by decide) (by decide)) q37a q37c (g := (mkF m 115 #[sI p0, sI p1, sI p2, sI p3, sI (1 : Int32), sR b18, sR xs_31, sI (own_ssz p0), sI (own_ssz p1), sI (own_ssz p2), sI ex, sU] [(.ref xs_31)])) rfl (by rw [hml]; rfl) (Steps.refl _) (argsL := []) (rest := []) (lenOf own_pd252 rfl) rfl (by show 2 * 0 + _ ≤ _; exact Nat.le_of_eq rfl) (hb hby at_115) (fun _ _ => ⟨rfl, e36, (by decide : 11 + 0 ≤ _), (by decide : 406 + 0 ≤ _)⟩)
    dsimp only [Pt.U, Pt.locs, Pt.cells, Pt.slots] at X37 l37 y37 z37 st37 hQ37
    subst l37 y37 z37
    obtain ⟨rfl, Nq37, eq37⟩ := hQ37
    have N37 := Fr.app N36 Nq37
    have e37 : T37.heap = T31.heap := eq37
    refine og (st37.trans) ?_
    show OG m T37 118 #[sI p0, sI p1, sI p2, sI p3, sI (1 : Int32), sR b18, sR xs_31, sI (own_ssz p0), sI (own_ssz p1), sI (own_ssz p2), sI ex, sU] [(.int xl_31)]
    refine og (XS.iload X37.here hx rfl (hb hby at_118) rfl) ?_
    show OG m T37 120 #[sI p0, sI p1, sI p2, sI p3, sI (1 : Int32), sR b18, sR xs_31, sI (own_ssz p0), sI (own_ssz p1), sI (own_ssz p2), sI ex, sU] [(.int ex), (.int xl_31)]
    have hxe : xl_31 = ex := Int32.toInt_inj.mp (by rw [hex, hcs]; exact mq31_hxl)
    refine og (XS.icmpYes X37.here hx rfl (pc0 := 120) (pc' := 125) rfl (hb hby at_120) rfl (teq hxe).1 (by decide) (by decide)) ?_
    show OG m T37 125 #[sI p0, sI p1, sI p2, sI p3, sI (1 : Int32), sR b18, sR xs_31, sI (own_ssz p0), sI (own_ssz p1), sI (own_ssz p2), sI ex, sU] []
    refine og (XS.aload X37.here hx rfl (hb hby at_125) rfl rfl) ?_
    refine og (XS.iconst X37.here hx rfl (hb hby at_127)) ?_
    show OG m T37 128 #[sI p0, sI p1, sI p2, sI p3, sI (1 : Int32), sR b18, sR xs_31, sI (own_ssz p0), sI (own_ssz p1), sI (own_ssz p2), sI ex, sU] [(.int (0 : Int32)), (.ref xs_31)]
    obtain ⟨cq38, kq38, q38a, q38b, q38c⟩ := isOf hZ31 e37 Fq31_0
    obtain ⟨_, _, ⟨T38, L38, k38, n38⟩, -, X38, ⟨Lc38, hQ38, l38, y38, z38⟩, st38⟩ := X37.virtualBack hx (y := (⟨"java/lang/String", "charAt", "(I)C"⟩ : MethodName)) (z := (⟨"java/lang/String", "charAt", "(I)C"⟩ : MethodName)) hO31 (mvT hZ31 (tw hw 170 rfl)) (mvT hZ31 (tw hw 171 rfl)) (notFace_of_selects (args := #[]) (mvT hZ31 (tw hw 173 rfl))) (mvT hZ31 (tw hw 173 rfl)) (mvT hZ31 (tw hw 172 rfl)) (by decide) (backOf (W := 0) (own_ca l Z a0 hw [] xs_31 (0 : Int32) xd_31 xk_31 xl_31 cs (123 : Int32) i_COMPACT_STRINGS v_SIOOBE_FORMATTER T31.heap n0 Z31 F32 S_COMPACT_STRINGS nz_i_COMPACT_STRINGS S_SIOOBE_FORMATTER ir_v_SIOOBE_FORMATTER Fq31_0 Fq31_1 Fq31_2 F33 (own_has_in hh0 hsl rfl) (own_has_at hh0 rfl) own_ok123) hZ31 (tw hw 174 rfl) (tw hw 21 rfl) (by decide) (by decide)) q38a q38c (g := (mkF m 128 #[sI p0, sI p1, sI p2, sI p3, sI (1 : Int32), sR b18, sR xs_31, sI (own_ssz p0), sI (own_ssz p1), sI (own_ssz p2), sI ex, sU] [(.int (0 : Int32)), (.ref xs_31)])) rfl (by rw [hml]; rfl) (Steps.refl _) (argsL := [(.int (0 : Int32))]) (rest := []) (lenOf own_pd660 rfl) rfl (by show 2 * 0 + _ ≤ _; exact Nat.le_of_eq rfl) (hb hby at_128) (fun _ _ => ⟨rfl, e37, (by decide : 11 + 0 ≤ _), (by decide : 406 + 0 ≤ _)⟩)
    dsimp only [Pt.U, Pt.locs, Pt.cells, Pt.slots] at X38 l38 y38 z38 st38 hQ38
    subst l38 y38 z38
    obtain ⟨rfl, Nq38, eq38⟩ := hQ38
    have N38 := Fr.app N37 Nq38
    have e38 : T38.heap = T31.heap := eq38
    refine og (st38.trans) ?_
    show OG m T38 131 #[sI p0, sI p1, sI p2, sI p3, sI (1 : Int32), sR b18, sR xs_31, sI (own_ssz p0), sI (own_ssz p1), sI (own_ssz p2), sI ex, sU] [(.int (123 : Int32))]
    refine og (XS.bipush X38.here hx rfl (hb hby at_131)) ?_
    show OG m T38 133 #[sI p0, sI p1, sI p2, sI p3, sI (1 : Int32), sR b18, sR xs_31, sI (own_ssz p0), sI (own_ssz p1), sI (own_ssz p2), sI ex, sU] [(.int (123 : Int32)), (.int (123 : Int32))]
    refine og (XS.icmpNo X38.here hx rfl (hb hby at_133) rfl (teq (by decide : (123 : Int32) = (123 : Int32))).2) ?_
    refine og (XS.aload X38.here hx rfl (hb hby at_136) rfl rfl) ?_
    show OG m T38 138 #[sI p0, sI p1, sI p2, sI p3, sI (1 : Int32), sR b18, sR xs_31, sI (own_ssz p0), sI (own_ssz p1), sI (own_ssz p2), sI ex, sU] [(.ref xs_31)]
    refine og (XS.iload X38.here hx rfl (hb hby at_138) rfl) ?_
    refine og (XS.iconst X38.here hx rfl (hb hby at_140)) ?_
    show OG m T38 141 #[sI p0, sI p1, sI p2, sI p3, sI (1 : Int32), sR b18, sR xs_31, sI (own_ssz p0), sI (own_ssz p1), sI (own_ssz p2), sI ex, sU] [(.int (1 : Int32)), (.int ex), (.ref xs_31)]
    refine og (XS.isub X38.here hx rfl (hb hby at_141) rfl) ?_
    show OG m T38 142 #[sI p0, sI p1, sI p2, sI p3, sI (1 : Int32), sR b18, sR xs_31, sI (own_ssz p0), sI (own_ssz p1), sI (own_ssz p2), sI ex, sU] [(.int (ex - (1 : Int32))), (.ref xs_31)]
    obtain ⟨e1, h_e1⟩ : ∃ z, z = (ex - (1 : Int32)) := ⟨_, rfl⟩
    rw [← h_e1]
    show OG m T38 142 #[sI p0, sI p1, sI p2, sI p3, sI (1 : Int32), sR b18, sR xs_31, sI (own_ssz p0), sI (own_ssz p1), sI (own_ssz p2), sI ex, sU] [(.int e1), (.ref xs_31)]
    have he1 : e1.toInt = (((1 + (own_txt p0).length) : Nat) : Int) := by rw [h_e1]; have a := c_isub ex 1; have r := rng32 (ex - 1); rw [hex, hcl] at a; have o : (1 : Int32).toInt = 1 := rfl; omega
    obtain ⟨cq39, kq39, q39a, q39b, q39c⟩ := isOf hZ31 e38 Fq31_0
    obtain ⟨_, _, ⟨T39, L39, k39, n39⟩, -, X39, ⟨Lc39, hQ39, l39, y39, z39⟩, st39⟩ := X38.virtualBack hx (y := (⟨"java/lang/String", "charAt", "(I)C"⟩ : MethodName)) (z := (⟨"java/lang/String", "charAt", "(I)C"⟩ : MethodName)) hO31 (mvT hZ31 (tw hw 170 rfl)) (mvT hZ31 (tw hw 171 rfl)) (notFace_of_selects (args := #[]) (mvT hZ31 (tw hw 173 rfl))) (mvT hZ31 (tw hw 173 rfl)) (mvT hZ31 (tw hw 172 rfl)) (by decide) (backOf (W := 0) (own_ca l Z a0 hw [] xs_31 e1 xd_31 xk_31 xl_31 cs (125 : Int32) i_COMPACT_STRINGS v_SIOOBE_FORMATTER T31.heap n0 Z31 F32 S_COMPACT_STRINGS nz_i_COMPACT_STRINGS S_SIOOBE_FORMATTER ir_v_SIOOBE_FORMATTER Fq31_0 Fq31_1 Fq31_2 F33 (own_has_in hh2 hsl he1) (own_has_at hh2 he1) own_ok125) hZ31 (tw hw 174 rfl) (tw hw 21 rfl) (by decide) (by decide)) q39a q39c (g := (mkF m 142 #[sI p0, sI p1, sI p2, sI p3, sI (1 : Int32), sR b18, sR xs_31, sI (own_ssz p0), sI (own_ssz p1), sI (own_ssz p2), sI ex, sU] [(.int e1), (.ref xs_31)])) rfl (by rw [hml]; rfl) (Steps.refl _) (argsL := [(.int e1)]) (rest := []) (lenOf own_pd660 rfl) rfl (by show 2 * 0 + _ ≤ _; exact Nat.le_of_eq rfl) (hb hby at_142) (fun _ _ => ⟨rfl, e38, (by decide : 11 + 0 ≤ _), (by decide : 406 + 0 ≤ _)⟩)
    dsimp only [Pt.U, Pt.locs, Pt.cells, Pt.slots] at X39 l39 y39 z39 st39 hQ39
    subst l39 y39 z39
    obtain ⟨rfl, Nq39, eq39⟩ := hQ39
    have N39 := Fr.app N38 Nq39
    have e39 : T39.heap = T31.heap := eq39
    refine og (st39.trans) ?_
    show OG m T39 145 #[sI p0, sI p1, sI p2, sI p3, sI (1 : Int32), sR b18, sR xs_31, sI (own_ssz p0), sI (own_ssz p1), sI (own_ssz p2), sI ex, sU] [(.int (125 : Int32))]
    refine og (XS.bipush X39.here hx rfl (hb hby at_145)) ?_
    show OG m T39 147 #[sI p0, sI p1, sI p2, sI p3, sI (1 : Int32), sR b18, sR xs_31, sI (own_ssz p0), sI (own_ssz p1), sI (own_ssz p2), sI ex, sU] [(.int (125 : Int32)), (.int (125 : Int32))]
    refine og (XS.icmpYes X39.here hx rfl (pc0 := 147) (pc' := 152) rfl (hb hby at_147) rfl (teq (by decide : (125 : Int32) = (125 : Int32))).1 (by decide) (by decide)) ?_
    refine og (XS.iconst X39.here hx rfl (hb hby at_152)) ?_
    show OG m T39 153 #[sI p0, sI p1, sI p2, sI p3, sI (1 : Int32), sR b18, sR xs_31, sI (own_ssz p0), sI (own_ssz p1), sI (own_ssz p2), sI ex, sU] [(.int (1 : Int32))]
    refine og (XS.istore X39.here hx rfl (hb hby at_153) rfl (l' := #[sI p0, sI p1, sI p2, sI p3, sI (1 : Int32), sR b18, sR xs_31, sI (own_ssz p0), sI (own_ssz p1), sI (own_ssz p2), sI ex, sI (1 : Int32)]) rfl) ?_
    refine og (XS.iload X39.here hx rfl (hb hby at_155) rfl) ?_
    show OG m T39 157 #[sI p0, sI p1, sI p2, sI p3, sI (1 : Int32), sR b18, sR xs_31, sI (own_ssz p0), sI (own_ssz p1), sI (own_ssz p2), sI ex, sI (1 : Int32)] [(.int (1 : Int32))]
    refine og (XS.ifNo X39.here hx rfl (hb hby at_157) rfl ((if0 _ _).trans (tlt (by decide : (0 : Int32) < (1 : Int32))).2.2.2)) ?_
    refine og (XS.aload X39.here hx rfl (hb hby at_160) rfl rfl) ?_
    show OG m T39 162 #[sI p0, sI p1, sI p2, sI p3, sI (1 : Int32), sR b18, sR xs_31, sI (own_ssz p0), sI (own_ssz p1), sI (own_ssz p2), sI ex, sI (1 : Int32)] [(.ref xs_31)]
    refine og (XS.iload X39.here hx rfl (hb hby at_162) rfl) ?_
    refine og (XS.iloadN X39.here hx rfl (hb hby at_164) rfl) ?_
    show OG m T39 165 #[sI p0, sI p1, sI p2, sI p3, sI (1 : Int32), sR b18, sR xs_31, sI (own_ssz p0), sI (own_ssz p1), sI (own_ssz p2), sI ex, sI (1 : Int32)] [(.int p0), (.int (1 : Int32)), (.ref xs_31)]
    obtain ⟨_, _, ⟨T40, L40, k40, n40⟩, -, X40, ⟨Lc40, hQ40, l40, y40, z40⟩, st40⟩ := Jvm.LawKit.callS X39 hx (y := (⟨"standwatch/query/ArgumentsNumbersPinLaw", "number", "(Ljava/lang/String;II)Z"⟩ : MethodName)) hO31 (mvT hZ31 (tw hw 191 rfl)) (mvT hZ31 (tw hw 192 rfl)) (mvT hZ31 (tw hw 163 rfl)) (mvT hZ31 (tw hw 193 rfl)) (by decide) (backOf (W := 0) (own_nu l Z a0 hw [] xs_31 (1 : Int32) p0 xd_31 xk_31 xl_31 cs (1) i_COMPACT_STRINGS v_SIOOBE_FORMATTER T31.heap n0 Z31 F32 S_COMPACT_STRINGS nz_i_COMPACT_STRINGS S_SIOOBE_FORMATTER ir_v_SIOOBE_FORMATTER Fq31_0 Fq31_1 Fq31_2 F33 hsl hcl2 o1n (own_has_len hh1) (own_has_sub hh1)) hZ31 (tw hw 193 rfl) (tw hw 163 rfl) (by decide) (by decide)) (g := (mkF m 165 #[sI p0, sI p1, sI p2, sI p3, sI (1 : Int32), sR b18, sR xs_31, sI (own_ssz p0), sI (own_ssz p1), sI (own_ssz p2), sI ex, sI (1 : Int32)] [(.int p0), (.int (1 : Int32)), (.ref xs_31)])) rfl (by rw [hml]; rfl) (argsL := [(.ref xs_31), (.int (1 : Int32)), (.int p0)]) (rest := []) (lenOf own_pd830 rfl) rfl (by show 2 * 0 + _ ≤ _; exact Nat.le_of_eq rfl) (hb hby at_165) (fun _ _ => ⟨rfl, e39, (by decide : 11 + 0 ≤ _), (by decide : 406 + 0 ≤ _)⟩)
    dsimp only [Pt.U, Pt.locs, Pt.cells, Pt.slots] at X40 l40 y40 z40 st40 hQ40
    subst l40 y40 z40
    obtain ⟨rfl, Nq40, eq40⟩ := hQ40
    have N40 := Fr.app N39 Nq40
    have e40 : T40.heap = T31.heap := eq40
    refine own_go (fun t k => st40 t k) ?_
    show OG m T40 168 #[sI p0, sI p1, sI p2, sI p3, sI (1 : Int32), sR b18, sR xs_31, sI (own_ssz p0), sI (own_ssz p1), sI (own_ssz p2), sI ex, sI (1 : Int32)] [(.int (1 : Int32))]
    refine og (XS.ifYes X40.here hx rfl (pc0 := 168) (pc' := 173) rfl (hb hby at_168) rfl ((if0 _ _).trans (feq (by decide : ¬ ((1 : Int32) = (0 : Int32)))).2) (by decide) (by decide)) ?_
    show OG m T40 173 #[sI p0, sI p1, sI p2, sI p3, sI (1 : Int32), sR b18, sR xs_31, sI (own_ssz p0), sI (own_ssz p1), sI (own_ssz p2), sI ex, sI (1 : Int32)] []
    refine og (XS.iload X40.here hx rfl (hb hby at_173) rfl) ?_
    show OG m T40 175 #[sI p0, sI p1, sI p2, sI p3, sI (1 : Int32), sR b18, sR xs_31, sI (own_ssz p0), sI (own_ssz p1), sI (own_ssz p2), sI ex, sI (1 : Int32)] [(.int (1 : Int32))]
    refine og (XS.iload X40.here hx rfl (hb hby at_175) rfl) ?_
    show OG m T40 177 #[sI p0, sI p1, sI p2, sI p3, sI (1 : Int32), sR b18, sR xs_31, sI (own_ssz p0), sI (own_ssz p1), sI (own_ssz p2), sI ex, sI (1 : Int32)] [(.int (own_ssz p0)), (.int (1 : Int32))]
    refine og (XS.iadd X40.here hx rfl (hb hby at_177) rfl) ?_
    show OG m T40 178 #[sI p0, sI p1, sI p2, sI p3, sI (1 : Int32), sR b18, sR xs_31, sI (own_ssz p0), sI (own_ssz p1), sI (own_ssz p2), sI ex, sI (1 : Int32)] [(.int ((1 : Int32) + (own_ssz p0)))]
    refine og (XS.istore X40.here hx rfl (hb hby at_178) rfl (l' := #[sI p0, sI p1, sI p2, sI p3, sI (1 : Int32), sR b18, sR xs_31, sI (own_ssz p0), sI (own_ssz p1), sI (own_ssz p2), sI ex, sI ((1 : Int32) + (own_ssz p0))]) rfl) ?_
    show OG m T40 180 #[sI p0, sI p1, sI p2, sI p3, sI (1 : Int32), sR b18, sR xs_31, sI (own_ssz p0), sI (own_ssz p1), sI (own_ssz p2), sI ex, sI ((1 : Int32) + (own_ssz p0))] []
    obtain ⟨q0, h_q0⟩ : ∃ z, z = ((1 : Int32) + (own_ssz p0)) := ⟨_, rfl⟩
    rw [← h_q0]
    show OG m T40 180 #[sI p0, sI p1, sI p2, sI p3, sI (1 : Int32), sR b18, sR xs_31, sI (own_ssz p0), sI (own_ssz p1), sI (own_ssz p2), sI ex, sI q0] []
    have hq0 : q0.toInt = (((1 + (own_txt p0).length) : Nat) : Int) := by rw [h_q0, own_cnt o1n (own_ssz_len p0) (by omega) (by omega)]; omega
    refine og (XS.iload X40.here hx rfl (hb hby at_180) rfl) ?_
    refine og (XS.iconst X40.here hx rfl (hb hby at_182)) ?_
    show OG m T40 183 #[sI p0, sI p1, sI p2, sI p3, sI (1 : Int32), sR b18, sR xs_31, sI (own_ssz p0), sI (own_ssz p1), sI (own_ssz p2), sI ex, sI q0] [(.int (1 : Int32)), (.int (1 : Int32))]
    refine og (XS.icmpYes X40.here hx rfl (pc0 := 183) (pc' := 223) rfl (hb hby at_183) rfl (flt (by decide : ¬ ((1 : Int32) < (1 : Int32)))).2.2.2 (by decide) (by decide)) ?_
    refine og (XS.iload X40.here hx rfl (hb hby at_223) rfl) ?_
    show OG m T40 225 #[sI p0, sI p1, sI p2, sI p3, sI (1 : Int32), sR b18, sR xs_31, sI (own_ssz p0), sI (own_ssz p1), sI (own_ssz p2), sI ex, sI q0] [(.int (1 : Int32))]
    refine og (XS.iconst X40.here hx rfl (hb hby at_225)) ?_
    show OG m T40 226 #[sI p0, sI p1, sI p2, sI p3, sI (1 : Int32), sR b18, sR xs_31, sI (own_ssz p0), sI (own_ssz p1), sI (own_ssz p2), sI ex, sI q0] [(.int (2 : Int32)), (.int (1 : Int32))]
    refine og (XS.icmpYes X40.here hx rfl (pc0 := 226) (pc' := 266) rfl (hb hby at_226) rfl (flt (by decide : ¬ ((2 : Int32) < (1 : Int32)))).2.2.2 (by decide) (by decide)) ?_
    refine og (XS.iload X40.here hx rfl (hb hby at_266) rfl) ?_
    show OG m T40 268 #[sI p0, sI p1, sI p2, sI p3, sI (1 : Int32), sR b18, sR xs_31, sI (own_ssz p0), sI (own_ssz p1), sI (own_ssz p2), sI ex, sI q0] [(.int q0)]
    refine og (XS.iload X40.here hx rfl (hb hby at_268) rfl) ?_
    refine og (XS.iconst X40.here hx rfl (hb hby at_270)) ?_
    show OG m T40 271 #[sI p0, sI p1, sI p2, sI p3, sI (1 : Int32), sR b18, sR xs_31, sI (own_ssz p0), sI (own_ssz p1), sI (own_ssz p2), sI ex, sI q0] [(.int (1 : Int32)), (.int ex), (.int q0)]
    refine og (XS.isub X40.here hx rfl (hb hby at_271) rfl) ?_
    show OG m T40 272 #[sI p0, sI p1, sI p2, sI p3, sI (1 : Int32), sR b18, sR xs_31, sI (own_ssz p0), sI (own_ssz p1), sI (own_ssz p2), sI ex, sI q0] [(.int (ex - (1 : Int32))), (.int q0)]
    obtain ⟨e2, h_e2⟩ : ∃ z, z = (ex - (1 : Int32)) := ⟨_, rfl⟩
    rw [← h_e2]
    show OG m T40 272 #[sI p0, sI p1, sI p2, sI p3, sI (1 : Int32), sR b18, sR xs_31, sI (own_ssz p0), sI (own_ssz p1), sI (own_ssz p2), sI ex, sI q0] [(.int e2), (.int q0)]
    have he2 : q0 = e2 := Int32.toInt_inj.mp (by rw [h_e2, ← h_e1, he1]; exact hq0)
    refine og (XS.icmpNo X40.here hx rfl (hb hby at_272) rfl (teq he2).2) ?_
    show OG m T40 275 #[sI p0, sI p1, sI p2, sI p3, sI (1 : Int32), sR b18, sR xs_31, sI (own_ssz p0), sI (own_ssz p1), sI (own_ssz p2), sI ex, sI q0] []
    refine og (XS.iconst X40.here hx rfl (hb hby at_275)) ?_
    refine og (XS.goto X40.here hx rfl (pc0 := 276) (pc' := 280) rfl (hb hby at_276) (by decide) (by decide)) ?_
    show OG m T40 280 #[sI p0, sI p1, sI p2, sI p3, sI (1 : Int32), sR b18, sR xs_31, sI (own_ssz p0), sI (own_ssz p1), sI (own_ssz p2), sI ex, sI q0] [(.int (1 : Int32))]
    obtain ⟨fs, hr, hrun, hended, ⟨-, hW2, hW3, hsame⟩⟩ := Jvm.Stand.leaveW (s := s) (vm₁ := T31.vm) X40 hS31 (show _ ≤ T40.heap.size from by rw [e40]; exact (Nat.le_refl _)) (v := some (.int (1 : Int32))) (fun h => by rw [Bd.returns] at h; cases h)
    refine ⟨_, _, retN X40 hx (t := .boolean) Bd.returns (by simp) (hb hby at_280) hr, hrun, hended, _, _, rfl, ?_, ⟨_, rfl⟩, hW2, hW3, hsame.mono (by decide) (by decide)⟩
    show Q_own_law Z p0 p1 p2 p3 i_COMPACT_STRINGS v_SIOOBE_FORMATTER o_DigitOnes o_DigitTens kc_own_ones kc_own_tens h0 n0 _ T40.heap _
    rw [e40]
    exact ⟨rfl, N40⟩
  · rw [al1]
    show OG m s₁ 5 #[sI p0, sI p1, sI p2, sI p3, sI (2 : Int32), sU, sU, sU, sU, sU, sU, sU] []
    refine og (XS.iload X0.here hx rfl (hb hby at_5) rfl) ?_
    show OG m s₁ 7 #[sI p0, sI p1, sI p2, sI p3, sI (2 : Int32), sU, sU, sU, sU, sU, sU, sU] [(.int (2 : Int32))]
    obtain ⟨T41, h41, k41, X41, e41, E41, A41, st41⟩ := newP X0 hx hZ (tw hw 0 rfl) e0 (g := (mkF m 7 #[sI p0, sI p1, sI p2, sI p3, sI (2 : Int32), sU, sU, sU, sU, sU, sU, sU] [(.int (2 : Int32))])) rfl (hb hby at_7) rfl (by decide) (cap := 2) (by decide) (by decide) (by decide) (by decide)
    obtain ⟨b41, g41⟩ : ∃ z, z = h0.size := ⟨_, rfl⟩
    rw [← g41] at A41 st41
    have g_b41 : n0 ≤ b41 := Nat.le_trans Z0 (Nat.le_of_eq g41.symm)
    have sz_b41 : h0.size ≤ b41 := Nat.le_trans K0.1 (Nat.le_of_eq g41.symm)
    have sf42 : Safe Z own_EL s.vm h0 b41 := Safe.new (Nat.le_of_eq g41.symm)
    have F43 : Old Z n0 h41 := O0.ext E41
    have K44 : Keep h0 h41 [] := K0.ext E41
    have Z44 : n0 ≤ h41.size := Nat.le_trans Z0 E41.1
    have C45 : CHr Z own_EL s.vm h0 s.vm h41 := C0.trans (CHr.ext E41 C0.1)
    have sf46 : Safe Z own_EL s.vm h41 b41 := Safe.ext E41 C0.1 sf42
    have F47 : Arv Z h41 b41 k41 .int (2 : Int32) [(.int (0 : Int32)), (.int (0 : Int32))] (.int (0 : Int32)) := (Arv.new A41 (by decide)).pad (pad_rep [] (.int (0 : Int32)) 2)
    refine own_go (fun t k => st41 t k) ?_
    show OG m T41 9 #[sI p0, sI p1, sI p2, sI p3, sI (2 : Int32), sU, sU, sU, sU, sU, sU, sU] [(.ref b41)]
    refine og (XS.astore X41.here hx rfl (hb hby at_9) rfl rfl (l' := #[sI p0, sI p1, sI p2, sI p3, sI (2 : Int32), sR b41, sU, sU, sU, sU, sU, sU]) rfl) ?_
    refine og (XS.iload X41.here hx rfl (hb hby at_11) rfl) ?_
    show OG m T41 13 #[sI p0, sI p1, sI p2, sI p3, sI (2 : Int32), sR b41, sU, sU, sU, sU, sU, sU] [(.int (2 : Int32))]
    refine og (XS.ifNo X41.here hx rfl (hb hby at_13) rfl ((if0 _ _).trans (tlt (by decide : (0 : Int32) < (2 : Int32))).2.2.2)) ?_
    refine og (XS.aload X41.here hx rfl (hb hby at_16) rfl rfl) ?_
    show OG m T41 18 #[sI p0, sI p1, sI p2, sI p3, sI (2 : Int32), sR b41, sU, sU, sU, sU, sU, sU] [(.ref b41)]
    refine og (XS.iconst X41.here hx rfl (hb hby at_18)) ?_
    refine og (XS.iloadN X41.here hx rfl (hb hby at_19) rfl) ?_
    show OG m T41 20 #[sI p0, sI p1, sI p2, sI p3, sI (2 : Int32), sR b41, sU, sU, sU, sU, sU, sU] [(.int p0), (.int (0 : Int32)), (.ref b41)]
    have vv48 := F47
    obtain ⟨cl48, Ar48, qk48, Sz48, Nn48, Hs48, Gs48⟩ := vv48
    have hin48 : ¬ ((0 : Int32) < 0 ∨ cl48.slots.size ≤ ((0 : Int32)).toNatClampNeg) := inb_of Sz48 ⟨by decide, by decide⟩
    obtain ⟨T48, h48, X48, e48, W48, st48⟩ := stI X41 hx hZ e41 Ar48 (j := (0 : Int32)) hin48 (g := (mkF m 20 #[sI p0, sI p1, sI p2, sI p3, sI (2 : Int32), sR b41, sU, sU, sU, sU, sU, sU] [(.int p0), (.int (0 : Int32)), (.ref b41)])) rfl rfl (hb hby at_20)
    have F49 : Old Z n0 h48 := F43.wr W48 g_b41
    have N50 := Fr.snoc X48 N0 g_b41
    have K50 : Keep h0 h48 [] := K44.wr W48 (Or.inr sz_b41)
    have Z50 : n0 ≤ h48.size := Nat.le_trans Z44 (Keep.of_wr W48).1
    have C51 : CHr Z own_EL s.vm h0 s.vm h48 := C45.trans (CHr.wr W48 sf46 C45.1)
    have sf52 : Safe Z own_EL s.vm h48 b41 := Safe.wr W48 sf46 C45.1 sf46
    have F53 : Arv Z h48 b41 k41 .int (2 : Int32) [(.int p0), (.int (0 : Int32))] (.int (0 : Int32)) := Arv.set Ar48 qk48 Sz48 Nn48 Hs48 Gs48 rfl W48 0 rfl (Nat.le_of_ble_eq_true rfl)
    refine own_go (fun t k => st48 t k) ?_
    show OG m T48 21 #[sI p0, sI p1, sI p2, sI p3, sI (2 : Int32), sR b41, sU, sU, sU, sU, sU, sU] []
    refine og (XS.iload X48.here hx rfl (hb hby at_21) rfl) ?_
    refine og (XS.iconst X48.here hx rfl (hb hby at_23)) ?_
    show OG m T48 24 #[sI p0, sI p1, sI p2, sI p3, sI (2 : Int32), sR b41, sU, sU, sU, sU, sU, sU] [(.int (1 : Int32)), (.int (2 : Int32))]
    refine og (XS.icmpNo X48.here hx rfl (hb hby at_24) rfl (tlt (by decide : (1 : Int32) < (2 : Int32))).2.2.2) ?_
    refine og (XS.aload X48.here hx rfl (hb hby at_27) rfl rfl) ?_
    show OG m T48 29 #[sI p0, sI p1, sI p2, sI p3, sI (2 : Int32), sR b41, sU, sU, sU, sU, sU, sU] [(.ref b41)]
    refine og (XS.iconst X48.here hx rfl (hb hby at_29)) ?_
    refine og (XS.iloadN X48.here hx rfl (hb hby at_30) rfl) ?_
    show OG m T48 31 #[sI p0, sI p1, sI p2, sI p3, sI (2 : Int32), sR b41, sU, sU, sU, sU, sU, sU] [(.int p1), (.int (1 : Int32)), (.ref b41)]
    have vv54 := F53
    obtain ⟨cl54, Ar54, qk54, Sz54, Nn54, Hs54, Gs54⟩ := vv54
    have hin54 : ¬ ((1 : Int32) < 0 ∨ cl54.slots.size ≤ ((1 : Int32)).toNatClampNeg) := inb_of Sz54 ⟨by decide, by decide⟩
    obtain ⟨T54, h54, X54, e54, W54, st54⟩ := stI X48 hx hZ e48 Ar54 (j := (1 : Int32)) hin54 (g := (mkF m 31 #[sI p0, sI p1, sI p2, sI p3, sI (2 : Int32), sR b41, sU, sU, sU, sU, sU, sU] [(.int p1), (.int (1 : Int32)), (.ref b41)])) rfl rfl (hb hby at_31)
    have F55 : Old Z n0 h54 := F49.wr W54 g_b41
    have N56 := Fr.snoc X54 N50 g_b41
    have K56 : Keep h0 h54 [] := K50.wr W54 (Or.inr sz_b41)
    have Z56 : n0 ≤ h54.size := Nat.le_trans Z50 (Keep.of_wr W54).1
    have C57 : CHr Z own_EL s.vm h0 s.vm h54 := C51.trans (CHr.wr W54 sf52 C51.1)
    have sf58 : Safe Z own_EL s.vm h54 b41 := Safe.wr W54 sf52 C51.1 sf52
    have F59 : Arv Z h54 b41 k41 .int (2 : Int32) [(.int p0), (.int p1)] (.int (0 : Int32)) := Arv.set Ar54 qk54 Sz54 Nn54 Hs54 Gs54 rfl W54 1 rfl (Nat.le_of_ble_eq_true rfl)
    refine own_go (fun t k => st54 t k) ?_
    show OG m T54 32 #[sI p0, sI p1, sI p2, sI p3, sI (2 : Int32), sR b41, sU, sU, sU, sU, sU, sU] []
    refine og (XS.iload X54.here hx rfl (hb hby at_32) rfl) ?_
    refine og (XS.iconst X54.here hx rfl (hb hby at_34)) ?_
    show OG m T54 35 #[sI p0, sI p1, sI p2, sI p3, sI (2 : Int32), sR b41, sU, sU, sU, sU, sU, sU] [(.int (2 : Int32)), (.int (2 : Int32))]
    refine og (XS.icmpYes X54.here hx rfl (pc0 := 35) (pc' := 43) rfl (hb hby at_35) rfl (flt (by decide : ¬ ((2 : Int32) < (2 : Int32)))).2.2.2 (by decide) (by decide)) ?_
    refine og (XS.aload X54.here hx rfl (hb hby at_43) rfl rfl) ?_
    show OG m T54 45 #[sI p0, sI p1, sI p2, sI p3, sI (2 : Int32), sR b41, sU, sU, sU, sU, sU, sU] [(.ref b41)]
    obtain ⟨_, _, ⟨T60, L60, k60, n60⟩, -, X60, hS60, hgr60, ⟨Lc60, hQ60, l60, y60, z60, hC60⟩, st60⟩ := callSS X54 hx (y := (⟨"standwatch/query/Arguments", "numbers", "([I)Ljava/lang/String;"⟩ : MethodName)) hown (mvT hZ (tw hw 1 rfl)) (mvT hZ (tw hw 2 rfl)) (mvT hZ (tw hw 3 rfl)) (mvT hZ (tw hw 4 rfl)) (by decide) (backOfSH (s := s) (vm0 := s.vm) (W := 0) (own_num2 l Z a0 hw [] b41 k41 p0 p1 i_COMPACT_STRINGS o_DigitOnes o_DigitTens kc_own_ones kc_own_tens h54 n0 Z56 F55 S_COMPACT_STRINGS nz_i_COMPACT_STRINGS S_DigitOnes V_own_ones S_DigitTens V_own_tens F59) hZ (tw hw 4 rfl) (tw hw 3 rfl) (by decide) (by decide) (own_EW Z a0 hw) C57.1) (g := (mkF m 45 #[sI p0, sI p1, sI p2, sI p3, sI (2 : Int32), sR b41, sU, sU, sU, sU, sU, sU] [(.ref b41)])) rfl (by rw [hml]; rfl) (argsL := [(.ref b41)]) (rest := []) (lenOf own_pd829 rfl) rfl (by show 2 * 0 + _ ≤ _; exact Nat.le_of_eq rfl) (hb hby at_45) (fun _ _ => ⟨rfl, e54, (by decide : 1 + 14 ≤ _), (by decide : 2 + 561 ≤ _)⟩)
    dsimp only [Pt.U, Pt.locs, Pt.cells, Pt.slots] at X60 l60 y60 z60 st60 hQ60 hS60
    subst l60 y60 z60
    obtain ⟨xs_60, xd_60, xk_60, xl_60, rfl, Nq60, Kq60, Fq60_0, Fq60_1, Fq60_2, Fq60_3, mq60_hxl⟩ := hQ60
    have N60 := Fr.app N56 Nq60
    have hZ60 : Z.Warmed39 (s.setVm T60.vm).vm := State.Warmed39.trans hZ hS60.1
    have hO60 : (s.setVm T60.vm).vm.findClass "standwatch/query/ArgumentsNumbersPinLaw" = some m.cls := (hS60.1.alike.findClass _ _).trans hown
    have F61 : Old Z n0 T60.heap := F55.keep Kq60 all0
    have K60 : Keep h0 T60.heap [] := K56.trans Kq60 all0
    have Z60 : n0 ≤ T60.heap.size := Nat.le_trans Z56 Kq60.1
    refine og (st60.trans) ?_
    show OG m T60 48 #[sI p0, sI p1, sI p2, sI p3, sI (2 : Int32), sR b41, sU, sU, sU, sU, sU, sU] [(.ref xs_60)]
    have ht0 := own_txt_rng p0
    have ht1 := own_txt_rng p1
    have ht2 := own_txt_rng p2
    have o2 : (2 : Int32).toInt = 2 := rfl
    have o1 : (1 : Int32).toInt = 1 := rfl
    have o1n : (1 : Int32).toInt = ((1 : Nat) : Int) := rfl
    obtain ⟨cs, hcs⟩ : ∃ z : List Int32, z = (((([(123 : Int32)] ++ own_txt p0) ++ [(44 : Int32)]) ++ own_txt p1) ++ [(125 : Int32)]) := ⟨_, rfl⟩
    have F62 : Arv Z T60.heap xd_60 xk_60 .byte xl_60 (own_B cs) (.int (0 : Int32)) := by rw [hcs]; exact Fq60_3
    have hsl : ¬ xl_60 < 0 ∧ xl_60.toNatClampNeg = cs.length := own_idx (by rw [hcs]; exact mq60_hxl)
    have hh0 : own_has cs (0) ([(123 : Int32)]) := ⟨[], own_txt p0 ++ [(44 : Int32)] ++ own_txt p1 ++ [(125 : Int32)], by rw [hcs]; simp only [List.append_assoc, List.cons_append, List.nil_append, List.append_nil], by simp only [List.length_append, List.length_cons, List.length_nil]⟩
    have hh1 : own_has cs (1) (own_txt p0) := ⟨[(123 : Int32)], [(44 : Int32)] ++ own_txt p1 ++ [(125 : Int32)], by rw [hcs]; simp only [List.append_assoc, List.cons_append, List.nil_append, List.append_nil], by simp only [List.length_append, List.length_cons, List.length_nil]⟩
    have hh2 : own_has cs (1 + (own_txt p0).length) ([(44 : Int32)]) := ⟨[(123 : Int32)] ++ own_txt p0, own_txt p1 ++ [(125 : Int32)], by rw [hcs]; simp only [List.append_assoc, List.cons_append, List.nil_append, List.append_nil], by simp only [List.length_append, List.length_cons, List.length_nil]⟩
    have hh3 : own_has cs (1 + (own_txt p0).length + 1) (own_txt p1) := ⟨[(123 : Int32)] ++ own_txt p0 ++ [(44 : Int32)], [(125 : Int32)], by rw [hcs]; simp only [List.append_assoc, List.cons_append, List.nil_append, List.append_nil], by simp only [List.length_append, List.length_cons, List.length_nil]⟩
    have hh4 : own_has cs (1 + (own_txt p0).length + 1 + (own_txt p1).length) ([(125 : Int32)]) := ⟨[(123 : Int32)] ++ own_txt p0 ++ [(44 : Int32)] ++ own_txt p1, [], by rw [hcs]; simp only [List.append_assoc, List.cons_append, List.nil_append, List.append_nil], by simp only [List.length_append, List.length_cons, List.length_nil]⟩
    have hcl : cs.length = 1 + (own_txt p0).length + 1 + (own_txt p1).length + 1 := by rw [hcs]; simp only [List.length_append, List.length_cons, List.length_nil]
    have hcl2 : cs.length ≤ 1000 := by omega
    refine og (XS.astore X60.here hx rfl (hb hby at_48) rfl rfl (l' := #[sI p0, sI p1, sI p2, sI p3, sI (2 : Int32), sR b41, sR xs_60, sU, sU, sU, sU, sU]) rfl) ?_
    refine og (XS.iloadN X60.here hx rfl (hb hby at_50) rfl) ?_
    show OG m T60 51 #[sI p0, sI p1, sI p2, sI p3, sI (2 : Int32), sR b41, sR xs_60, sU, sU, sU, sU, sU] [(.int p0)]
    obtain ⟨_, _, ⟨T63, L63, k63, n63⟩, -, X63, ⟨Lc63, hQ63, l63, y63, z63⟩, st63⟩ := Jvm.LawKit.callS X60 hx (y := (⟨"standwatch/query/ArgumentsNumbersPinLaw", "width", "(I)I"⟩ : MethodName)) hO60 (mvT hZ60 (tw hw 161 rfl)) (mvT hZ60 (tw hw 162 rfl)) (mvT hZ60 (tw hw 163 rfl)) (mvT hZ60 (tw hw 164 rfl)) (by decide) (backOf (W := 0) (own_wi l Z a0 hw [] p0 T60.heap n0 Z60) hZ60 (tw hw 164 rfl) (tw hw 163 rfl) (by decide) (by decide)) (g := (mkF m 51 #[sI p0, sI p1, sI p2, sI p3, sI (2 : Int32), sR b41, sR xs_60, sU, sU, sU, sU, sU] [(.int p0)])) rfl (by rw [hml]; rfl) (argsL := [(.int p0)]) (rest := []) (lenOf own_pd126 rfl) rfl (by show 2 * 0 + _ ≤ _; exact Nat.le_of_eq rfl) (hb hby at_51) (fun _ _ => ⟨rfl, rfl, (by decide : 15 + 0 ≤ _), (by decide : 563 + 0 ≤ _)⟩)
    dsimp only [Pt.U, Pt.locs, Pt.cells, Pt.slots] at X63 l63 y63 z63 st63 hQ63
    subst l63 y63 z63
    obtain ⟨rfl, Nq63, eq63⟩ := hQ63
    have N63 := Fr.app N60 Nq63
    have e63 : T63.heap = T60.heap := eq63
    refine own_go (fun t k => st63 t k) ?_
    show OG m T63 54 #[sI p0, sI p1, sI p2, sI p3, sI (2 : Int32), sR b41, sR xs_60, sU, sU, sU, sU, sU] [(.int (own_ssz p0))]
    refine og (XS.istore X63.here hx rfl (hb hby at_54) rfl (l' := #[sI p0, sI p1, sI p2, sI p3, sI (2 : Int32), sR b41, sR xs_60, sI (own_ssz p0), sU, sU, sU, sU]) rfl) ?_
    refine og (XS.iloadN X63.here hx rfl (hb hby at_56) rfl) ?_
    show OG m T63 57 #[sI p0, sI p1, sI p2, sI p3, sI (2 : Int32), sR b41, sR xs_60, sI (own_ssz p0), sU, sU, sU, sU] [(.int p1)]
    obtain ⟨_, _, ⟨T64, L64, k64, n64⟩, -, X64, ⟨Lc64, hQ64, l64, y64, z64⟩, st64⟩ := Jvm.LawKit.callS X63 hx (y := (⟨"standwatch/query/ArgumentsNumbersPinLaw", "width", "(I)I"⟩ : MethodName)) hO60 (mvT hZ60 (tw hw 161 rfl)) (mvT hZ60 (tw hw 162 rfl)) (mvT hZ60 (tw hw 163 rfl)) (mvT hZ60 (tw hw 164 rfl)) (by decide) (backOf (W := 0) (own_wi l Z a0 hw [] p1 T60.heap n0 Z60) hZ60 (tw hw 164 rfl) (tw hw 163 rfl) (by decide) (by decide)) (g := (mkF m 57 #[sI p0, sI p1, sI p2, sI p3, sI (2 : Int32), sR b41, sR xs_60, sI (own_ssz p0), sU, sU, sU, sU] [(.int p1)])) rfl (by rw [hml]; rfl) (argsL := [(.int p1)]) (rest := []) (lenOf own_pd126 rfl) rfl (by show 2 * 0 + _ ≤ _; exact Nat.le_of_eq rfl) (hb hby at_57) (fun _ _ => ⟨rfl, e63, (by decide : 15 + 0 ≤ _), (by decide : 563 + 0 ≤ _)⟩)
    dsimp only [Pt.U, Pt.locs, Pt.cells, Pt.slots] at X64 l64 y64 z64 st64 hQ64
    subst l64 y64 z64
    obtain ⟨rfl, Nq64, eq64⟩ := hQ64
    have N64 := Fr.app N63 Nq64
    have e64 : T64.heap = T60.heap := eq64
    refine own_go (fun t k => st64 t k) ?_
    show OG m T64 60 #[sI p0, sI p1, sI p2, sI p3, sI (2 : Int32), sR b41, sR xs_60, sI (own_ssz p0), sU, sU, sU, sU] [(.int (own_ssz p1))]
    refine og (XS.istore X64.here hx rfl (hb hby at_60) rfl (l' := #[sI p0, sI p1, sI p2, sI p3, sI (2 : Int32), sR b41, sR xs_60, sI (own_ssz p0), sI (own_ssz p1), sU, sU, sU]) rfl) ?_
    refine og (XS.iloadN X64.here hx rfl (hb hby at_62) rfl) ?_
    show OG m T64 63 #[sI p0, sI p1, sI p2, sI p3, sI (2 : Int32), sR b41, sR xs_60, sI (own_ssz p0), sI (own_ssz p1), sU, sU, sU] [(.int p2)]
    obtain ⟨_, _, ⟨T65, L65, k65, n65⟩, -, X65, ⟨Lc65, hQ65, l65, y65, z65⟩, st65⟩ := Jvm.LawKit.callS X64 hx (y := (⟨"standwatch/query/ArgumentsNumbersPinLaw", "width", "(I)I"⟩ : MethodName)) hO60 (mvT hZ60 (tw hw 161 rfl)) (mvT hZ60 (tw hw 162 rfl)) (mvT hZ60 (tw hw 163 rfl)) (mvT hZ60 (tw hw 164 rfl)) (by decide) (backOf (W := 0) (own_wi l Z a0 hw [] p2 T60.heap n0 Z60) hZ60 (tw hw 164 rfl) (tw hw 163 rfl) (by decide) (by decide)) (g := (mkF m 63 #[sI p0, sI p1, sI p2, sI p3, sI (2 : Int32), sR b41, sR xs_60, sI (own_ssz p0), sI (own_ssz p1), sU, sU, sU] [(.int p2)])) rfl (by rw [hml]; rfl) (argsL := [(.int p2)]) (rest := []) (lenOf own_pd126 rfl) rfl (by show 2 * 0 + _ ≤ _; exact Nat.le_of_eq rfl) (hb hby at_63) (fun _ _ => ⟨rfl, e64, (by decide : 15 + 0 ≤ _), (by decide : 563 + 0 ≤ _)⟩)
    dsimp only [Pt.U, Pt.locs, Pt.cells, Pt.slots] at X65 l65 y65 z65 st65 hQ65
    subst l65 y65 z65
    obtain ⟨rfl, Nq65, eq65⟩ := hQ65
    have N65 := Fr.app N64 Nq65
    have e65 : T65.heap = T60.heap := eq65
    refine own_go (fun t k => st65 t k) ?_
    show OG m T65 66 #[sI p0, sI p1, sI p2, sI p3, sI (2 : Int32), sR b41, sR xs_60, sI (own_ssz p0), sI (own_ssz p1), sU, sU, sU] [(.int (own_ssz p2))]
    refine og (XS.istore X65.here hx rfl (hb hby at_66) rfl (l' := #[sI p0, sI p1, sI p2, sI p3, sI (2 : Int32), sR b41, sR xs_60, sI (own_ssz p0), sI (own_ssz p1), sI (own_ssz p2), sU, sU]) rfl) ?_
    refine og (XS.iconst X65.here hx rfl (hb hby at_68)) ?_
    show OG m T65 69 #[sI p0, sI p1, sI p2, sI p3, sI (2 : Int32), sR b41, sR xs_60, sI (own_ssz p0), sI (own_ssz p1), sI (own_ssz p2), sU, sU] [(.int (2 : Int32))]
    refine og (XS.istore X65.here hx rfl (hb hby at_69) rfl (l' := #[sI p0, sI p1, sI p2, sI p3, sI (2 : Int32), sR b41, sR xs_60, sI (own_ssz p0), sI (own_ssz p1), sI (own_ssz p2), sI (2 : Int32), sU]) rfl) ?_
    refine og (XS.iload X65.here hx rfl (hb hby at_71) rfl) ?_
    show OG m T65 73 #[sI p0, sI p1, sI p2, sI p3, sI (2 : Int32), sR b41, sR xs_60, sI (own_ssz p0), sI (own_ssz p1), sI (own_ssz p2), sI (2 : Int32), sU] [(.int (2 : Int32))]
    refine og (XS.ifNo X65.here hx rfl (hb hby at_73) rfl ((if0 _ _).trans (tlt (by decide : (0 : Int32) < (2 : Int32))).2.2.2)) ?_
    refine og (XS.iload X65.here hx rfl (hb hby at_76) rfl) ?_
    show OG m T65 78 #[sI p0, sI p1, sI p2, sI p3, sI (2 : Int32), sR b41, sR xs_60, sI (own_ssz p0), sI (own_ssz p1), sI (own_ssz p2), sI (2 : Int32), sU] [(.int (2 : Int32))]
    refine og (XS.iload X65.here hx rfl (hb hby at_78) rfl) ?_
    refine og (XS.iadd X65.here hx rfl (hb hby at_80) rfl) ?_
    show OG m T65 81 #[sI p0, sI p1, sI p2, sI p3, sI (2 : Int32), sR b41, sR xs_60, sI (own_ssz p0), sI (own_ssz p1), sI (own_ssz p2), sI (2 : Int32), sU] [(.int ((2 : Int32) + (own_ssz p0)))]
    refine og (XS.istore X65.here hx rfl (hb hby at_81) rfl (l' := #[sI p0, sI p1, sI p2, sI p3, sI (2 : Int32), sR b41, sR xs_60, sI (own_ssz p0), sI (own_ssz p1), sI (own_ssz p2), sI ((2 : Int32) + (own_ssz p0)), sU]) rfl) ?_
    refine og (XS.iload X65.here hx rfl (hb hby at_83) rfl) ?_
    show OG m T65 85 #[sI p0, sI p1, sI p2, sI p3, sI (2 : Int32), sR b41, sR xs_60, sI (own_ssz p0), sI (own_ssz p1), sI (own_ssz p2), sI ((2 : Int32) + (own_ssz p0)), sU] [(.int (2 : Int32))]
    refine og (XS.iconst X65.here hx rfl (hb hby at_85)) ?_
    show OG m T65 86 #[sI p0, sI p1, sI p2, sI p3, sI (2 : Int32), sR b41, sR xs_60, sI (own_ssz p0), sI (own_ssz p1), sI (own_ssz p2), sI ((2 : Int32) + (own_ssz p0)), sU] [(.int (1 : Int32)), (.int (2 : Int32))]
    refine og (XS.icmpNo X65.here hx rfl (hb hby at_86) rfl (tlt (by decide : (1 : Int32) < (2 : Int32))).2.2.2) ?_
    refine og (XS.iload X65.here hx rfl (hb hby at_89) rfl) ?_
    show OG m T65 91 #[sI p0, sI p1, sI p2, sI p3, sI (2 : Int32), sR b41, sR xs_60, sI (own_ssz p0), sI (own_ssz p1), sI (own_ssz p2), sI ((2 : Int32) + (own_ssz p0)), sU] [(.int ((2 : Int32) + (own_ssz p0)))]
    refine og (XS.iconst X65.here hx rfl (hb hby at_91)) ?_
    refine og (XS.iload X65.here hx rfl (hb hby at_92) rfl) ?_
    show OG m T65 94 #[sI p0, sI p1, sI p2, sI p3, sI (2 : Int32), sR b41, sR xs_60, sI (own_ssz p0), sI (own_ssz p1), sI (own_ssz p2), sI ((2 : Int32) + (own_ssz p0)), sU] [(.int (own_ssz p1)), (.int (1 : Int32)), (.int ((2 : Int32) + (own_ssz p0)))]
    refine og (XS.iadd X65.here hx rfl (hb hby at_94) rfl) ?_
    refine og (XS.iadd X65.here hx rfl (hb hby at_95) rfl) ?_
    show OG m T65 96 #[sI p0, sI p1, sI p2, sI p3, sI (2 : Int32), sR b41, sR xs_60, sI (own_ssz p0), sI (own_ssz p1), sI (own_ssz p2), sI ((2 : Int32) + (own_ssz p0)), sU] [(.int (((2 : Int32) + (own_ssz p0)) + ((1 : Int32) + (own_ssz p1))))]
    refine og (XS.istore X65.here hx rfl (hb hby at_96) rfl (l' := #[sI p0, sI p1, sI p2, sI p3, sI (2 : Int32), sR b41, sR xs_60, sI (own_ssz p0), sI (own_ssz p1), sI (own_ssz p2), sI (((2 : Int32) + (own_ssz p0)) + ((1 : Int32) + (own_ssz p1))), sU]) rfl) ?_
    refine og (XS.iload X65.here hx rfl (hb hby at_98) rfl) ?_
    show OG m T65 100 #[sI p0, sI p1, sI p2, sI p3, sI (2 : Int32), sR b41, sR xs_60, sI (own_ssz p0), sI (own_ssz p1), sI (own_ssz p2), sI (((2 : Int32) + (own_ssz p0)) + ((1 : Int32) + (own_ssz p1))), sU] [(.int (2 : Int32))]
    refine og (XS.iconst X65.here hx rfl (hb hby at_100)) ?_
    show OG m T65 101 #[sI p0, sI p1, sI p2, sI p3, sI (2 : Int32), sR b41, sR xs_60, sI (own_ssz p0), sI (own_ssz p1), sI (own_ssz p2), sI (((2 : Int32) + (own_ssz p0)) + ((1 : Int32) + (own_ssz p1))), sU] [(.int (2 : Int32)), (.int (2 : Int32))]
    refine og (XS.icmpYes X65.here hx rfl (pc0 := 101) (pc' := 113) rfl (hb hby at_101) rfl (flt (by decide : ¬ ((2 : Int32) < (2 : Int32)))).2.2.2 (by decide) (by decide)) ?_
    show OG m T65 113 #[sI p0, sI p1, sI p2, sI p3, sI (2 : Int32), sR b41, sR xs_60, sI (own_ssz p0), sI (own_ssz p1), sI (own_ssz p2), sI (((2 : Int32) + (own_ssz p0)) + ((1 : Int32) + (own_ssz p1))), sU] []
    obtain ⟨ex, h_ex⟩ : ∃ z, z = (((2 : Int32) + (own_ssz p0)) + ((1 : Int32) + (own_ssz p1))) := ⟨_, rfl⟩
    rw [← h_ex]
    show OG m T65 113 #[sI p0, sI p1, sI p2, sI p3, sI (2 : Int32), sR b41, sR xs_60, sI (own_ssz p0), sI (own_ssz p1), sI (own_ssz p2), sI ex, sU] []
    have hex : ex.toInt = (cs.length : Int) := by rw [h_ex, (own_cnt (own_cnt o2 (own_ssz_len p0) (by omega) (by omega)) (own_cnt o1 (own_ssz_len p1) (by omega) (by omega)) (by omega) (by omega)), hcl]; omega
    refine og (XS.aload X65.here hx rfl (hb hby at_113) rfl rfl) ?_
    show OG m T65 115 #[sI p0, sI p1, sI p2, sI p3, sI (2 : Int32), sR b41, sR xs_60, sI (own_ssz p0), sI (own_ssz p1), sI (own_ssz p2), sI ex, sU] [(.ref xs_60)]
    obtain ⟨cq66, kq66, q66a, q66b, q66c⟩ := isOf hZ60 e65 Fq60_0
    obtain ⟨_, _, ⟨T66, L66, k66, n66⟩, -, X66, ⟨Lc66, hQ66, l66, y66, z66⟩, st66⟩ := X65.virtualBack hx (y := (⟨"java/lang/String", "length", "()I"⟩ : MethodName)) (z := (⟨"java/lang/String", "length", "()I"⟩ : MethodName)) hO60 (mvT hZ60 (tw hw 169 rfl)) (mvT hZ60 (tw hw 69 rfl)) (notFace_of_selects (args := #[]) (mvT hZ60 (tw hw 71 rfl))) (mvT hZ60 (tw hw 71 rfl)) (mvT hZ60 (tw hw 70 rfl)) (by decide) (backOf (W := 0) (own_sle l Z a0 hw [] xs_60 xd_60 xk_60 xl_60 cs i_COMPACT_STRINGS T60.heap n0 Z60 F61 S_COMPACT_STRINGS nz_i_COMPACT_STRINGS Fq60_0 Fq60_1 Fq60_2 F62) hZ60 (tw hw 72 rfl) (tw hw 21 rfl) (by decide) (by decide)) q66a q66c (g := (mkF m 115 #[sI p0, sI p1, sI p2, sI p3, sI (2 : Int32), sR b41, sR xs_60, sI (own_ssz p0), sI (own_ssz p1), sI (own_ssz p2), sI ex, sU] [(.ref xs_60)])) rfl (by rw [hml]; rfl) (Steps.refl _) (argsL := []) (rest := []) (lenOf own_pd252 rfl) rfl (by show 2 * 0 + _ ≤ _; exact Nat.le_of_eq rfl) (hb hby at_115) (fun _ _ => ⟨rfl, e65, (by decide : 15 + 0 ≤ _), (by decide : 563 + 0 ≤ _)⟩)
    dsimp only [Pt.U, Pt.locs, Pt.cells, Pt.slots] at X66 l66 y66 z66 st66 hQ66
    subst l66 y66 z66
    obtain ⟨rfl, Nq66, eq66⟩ := hQ66
    have N66 := Fr.app N65 Nq66
    have e66 : T66.heap = T60.heap := eq66
    refine og (st66.trans) ?_
    show OG m T66 118 #[sI p0, sI p1, sI p2, sI p3, sI (2 : Int32), sR b41, sR xs_60, sI (own_ssz p0), sI (own_ssz p1), sI (own_ssz p2), sI ex, sU] [(.int xl_60)]
    refine og (XS.iload X66.here hx rfl (hb hby at_118) rfl) ?_
    show OG m T66 120 #[sI p0, sI p1, sI p2, sI p3, sI (2 : Int32), sR b41, sR xs_60, sI (own_ssz p0), sI (own_ssz p1), sI (own_ssz p2), sI ex, sU] [(.int ex), (.int xl_60)]
    have hxe : xl_60 = ex := Int32.toInt_inj.mp (by rw [hex, hcs]; exact mq60_hxl)
    refine og (XS.icmpYes X66.here hx rfl (pc0 := 120) (pc' := 125) rfl (hb hby at_120) rfl (teq hxe).1 (by decide) (by decide)) ?_
    show OG m T66 125 #[sI p0, sI p1, sI p2, sI p3, sI (2 : Int32), sR b41, sR xs_60, sI (own_ssz p0), sI (own_ssz p1), sI (own_ssz p2), sI ex, sU] []
    refine og (XS.aload X66.here hx rfl (hb hby at_125) rfl rfl) ?_
    refine og (XS.iconst X66.here hx rfl (hb hby at_127)) ?_
    show OG m T66 128 #[sI p0, sI p1, sI p2, sI p3, sI (2 : Int32), sR b41, sR xs_60, sI (own_ssz p0), sI (own_ssz p1), sI (own_ssz p2), sI ex, sU] [(.int (0 : Int32)), (.ref xs_60)]
    obtain ⟨cq67, kq67, q67a, q67b, q67c⟩ := isOf hZ60 e66 Fq60_0
    obtain ⟨_, _, ⟨T67, L67, k67, n67⟩, -, X67, ⟨Lc67, hQ67, l67, y67, z67⟩, st67⟩ := X66.virtualBack hx (y := (⟨"java/lang/String", "charAt", "(I)C"⟩ : MethodName)) (z := (⟨"java/lang/String", "charAt", "(I)C"⟩ : MethodName)) hO60 (mvT hZ60 (tw hw 170 rfl)) (mvT hZ60 (tw hw 171 rfl)) (notFace_of_selects (args := #[]) (mvT hZ60 (tw hw 173 rfl))) (mvT hZ60 (tw hw 173 rfl)) (mvT hZ60 (tw hw 172 rfl)) (by decide) (backOf (W := 0) (own_ca l Z a0 hw [] xs_60 (0 : Int32) xd_60 xk_60 xl_60 cs (123 : Int32) i_COMPACT_STRINGS v_SIOOBE_FORMATTER T60.heap n0 Z60 F61 S_COMPACT_STRINGS nz_i_COMPACT_STRINGS S_SIOOBE_FORMATTER ir_v_SIOOBE_FORMATTER Fq60_0 Fq60_1 Fq60_2 F62 (own_has_in hh0 hsl rfl) (own_has_at hh0 rfl) own_ok123) hZ60 (tw hw 174 rfl) (tw hw 21 rfl) (by decide) (by decide)) q67a q67c (g := (mkF m 128 #[sI p0, sI p1, sI p2, sI p3, sI (2 : Int32), sR b41, sR xs_60, sI (own_ssz p0), sI (own_ssz p1), sI (own_ssz p2), sI ex, sU] [(.int (0 : Int32)), (.ref xs_60)])) rfl (by rw [hml]; rfl) (Steps.refl _) (argsL := [(.int (0 : Int32))]) (rest := []) (lenOf own_pd660 rfl) rfl (by show 2 * 0 + _ ≤ _; exact Nat.le_of_eq rfl) (hb hby at_128) (fun _ _ => ⟨rfl, e66, (by decide : 15 + 0 ≤ _), (by decide : 563 + 0 ≤ _)⟩)
    dsimp only [Pt.U, Pt.locs, Pt.cells, Pt.slots] at X67 l67 y67 z67 st67 hQ67
    subst l67 y67 z67
    obtain ⟨rfl, Nq67, eq67⟩ := hQ67
    have N67 := Fr.app N66 Nq67
    have e67 : T67.heap = T60.heap := eq67
    refine og (st67.trans) ?_
    show OG m T67 131 #[sI p0, sI p1, sI p2, sI p3, sI (2 : Int32), sR b41, sR xs_60, sI (own_ssz p0), sI (own_ssz p1), sI (own_ssz p2), sI ex, sU] [(.int (123 : Int32))]
    refine og (XS.bipush X67.here hx rfl (hb hby at_131)) ?_
    show OG m T67 133 #[sI p0, sI p1, sI p2, sI p3, sI (2 : Int32), sR b41, sR xs_60, sI (own_ssz p0), sI (own_ssz p1), sI (own_ssz p2), sI ex, sU] [(.int (123 : Int32)), (.int (123 : Int32))]
    refine og (XS.icmpNo X67.here hx rfl (hb hby at_133) rfl (teq (by decide : (123 : Int32) = (123 : Int32))).2) ?_
    refine og (XS.aload X67.here hx rfl (hb hby at_136) rfl rfl) ?_
    show OG m T67 138 #[sI p0, sI p1, sI p2, sI p3, sI (2 : Int32), sR b41, sR xs_60, sI (own_ssz p0), sI (own_ssz p1), sI (own_ssz p2), sI ex, sU] [(.ref xs_60)]
    refine og (XS.iload X67.here hx rfl (hb hby at_138) rfl) ?_
    refine og (XS.iconst X67.here hx rfl (hb hby at_140)) ?_
    show OG m T67 141 #[sI p0, sI p1, sI p2, sI p3, sI (2 : Int32), sR b41, sR xs_60, sI (own_ssz p0), sI (own_ssz p1), sI (own_ssz p2), sI ex, sU] [(.int (1 : Int32)), (.int ex), (.ref xs_60)]
    refine og (XS.isub X67.here hx rfl (hb hby at_141) rfl) ?_
    show OG m T67 142 #[sI p0, sI p1, sI p2, sI p3, sI (2 : Int32), sR b41, sR xs_60, sI (own_ssz p0), sI (own_ssz p1), sI (own_ssz p2), sI ex, sU] [(.int (ex - (1 : Int32))), (.ref xs_60)]
    obtain ⟨e1, h_e1⟩ : ∃ z, z = (ex - (1 : Int32)) := ⟨_, rfl⟩
    rw [← h_e1]
    show OG m T67 142 #[sI p0, sI p1, sI p2, sI p3, sI (2 : Int32), sR b41, sR xs_60, sI (own_ssz p0), sI (own_ssz p1), sI (own_ssz p2), sI ex, sU] [(.int e1), (.ref xs_60)]
    have he1 : e1.toInt = (((1 + (own_txt p0).length + 1 + (own_txt p1).length) : Nat) : Int) := by rw [h_e1]; have a := c_isub ex 1; have r := rng32 (ex - 1); rw [hex, hcl] at a; have o : (1 : Int32).toInt = 1 := rfl; omega
    obtain ⟨cq68, kq68, q68a, q68b, q68c⟩ := isOf hZ60 e67 Fq60_0
    obtain ⟨_, _, ⟨T68, L68, k68, n68⟩, -, X68, ⟨Lc68, hQ68, l68, y68, z68⟩, st68⟩ := X67.virtualBack hx (y := (⟨"java/lang/String", "charAt", "(I)C"⟩ : MethodName)) (z := (⟨"java/lang/String", "charAt", "(I)C"⟩ : MethodName)) hO60 (mvT hZ60 (tw hw 170 rfl)) (mvT hZ60 (tw hw 171 rfl)) (notFace_of_selects (args := #[]) (mvT hZ60 (tw hw 173 rfl))) (mvT hZ60 (tw hw 173 rfl)) (mvT hZ60 (tw hw 172 rfl)) (by decide) (backOf (W := 0) (own_ca l Z a0 hw [] xs_60 e1 xd_60 xk_60 xl_60 cs (125 : Int32) i_COMPACT_STRINGS v_SIOOBE_FORMATTER T60.heap n0 Z60 F61 S_COMPACT_STRINGS nz_i_COMPACT_STRINGS S_SIOOBE_FORMATTER ir_v_SIOOBE_FORMATTER Fq60_0 Fq60_1 Fq60_2 F62 (own_has_in hh4 hsl he1) (own_has_at hh4 he1) own_ok125) hZ60 (tw hw 174 rfl) (tw hw 21 rfl) (by decide) (by decide)) q68a q68c (g := (mkF m 142 #[sI p0, sI p1, sI p2, sI p3, sI (2 : Int32), sR b41, sR xs_60, sI (own_ssz p0), sI (own_ssz p1), sI (own_ssz p2), sI ex, sU] [(.int e1), (.ref xs_60)])) rfl (by rw [hml]; rfl) (Steps.refl _) (argsL := [(.int e1)]) (rest := []) (lenOf own_pd660 rfl) rfl (by show 2 * 0 + _ ≤ _; exact Nat.le_of_eq rfl) (hb hby at_142) (fun _ _ => ⟨rfl, e67, (by decide : 15 + 0 ≤ _), (by decide : 563 + 0 ≤ _)⟩)
    dsimp only [Pt.U, Pt.locs, Pt.cells, Pt.slots] at X68 l68 y68 z68 st68 hQ68
    subst l68 y68 z68
    obtain ⟨rfl, Nq68, eq68⟩ := hQ68
    have N68 := Fr.app N67 Nq68
    have e68 : T68.heap = T60.heap := eq68
    refine og (st68.trans) ?_
    show OG m T68 145 #[sI p0, sI p1, sI p2, sI p3, sI (2 : Int32), sR b41, sR xs_60, sI (own_ssz p0), sI (own_ssz p1), sI (own_ssz p2), sI ex, sU] [(.int (125 : Int32))]
    refine og (XS.bipush X68.here hx rfl (hb hby at_145)) ?_
    show OG m T68 147 #[sI p0, sI p1, sI p2, sI p3, sI (2 : Int32), sR b41, sR xs_60, sI (own_ssz p0), sI (own_ssz p1), sI (own_ssz p2), sI ex, sU] [(.int (125 : Int32)), (.int (125 : Int32))]
    refine og (XS.icmpYes X68.here hx rfl (pc0 := 147) (pc' := 152) rfl (hb hby at_147) rfl (teq (by decide : (125 : Int32) = (125 : Int32))).1 (by decide) (by decide)) ?_
    refine og (XS.iconst X68.here hx rfl (hb hby at_152)) ?_
    show OG m T68 153 #[sI p0, sI p1, sI p2, sI p3, sI (2 : Int32), sR b41, sR xs_60, sI (own_ssz p0), sI (own_ssz p1), sI (own_ssz p2), sI ex, sU] [(.int (1 : Int32))]
    refine og (XS.istore X68.here hx rfl (hb hby at_153) rfl (l' := #[sI p0, sI p1, sI p2, sI p3, sI (2 : Int32), sR b41, sR xs_60, sI (own_ssz p0), sI (own_ssz p1), sI (own_ssz p2), sI ex, sI (1 : Int32)]) rfl) ?_
    refine og (XS.iload X68.here hx rfl (hb hby at_155) rfl) ?_
    show OG m T68 157 #[sI p0, sI p1, sI p2, sI p3, sI (2 : Int32), sR b41, sR xs_60, sI (own_ssz p0), sI (own_ssz p1), sI (own_ssz p2), sI ex, sI (1 : Int32)] [(.int (2 : Int32))]
    refine og (XS.ifNo X68.here hx rfl (hb hby at_157) rfl ((if0 _ _).trans (tlt (by decide : (0 : Int32) < (2 : Int32))).2.2.2)) ?_
    refine og (XS.aload X68.here hx rfl (hb hby at_160) rfl rfl) ?_
    show OG m T68 162 #[sI p0, sI p1, sI p2, sI p3, sI (2 : Int32), sR b41, sR xs_60, sI (own_ssz p0), sI (own_ssz p1), sI (own_ssz p2), sI ex, sI (1 : Int32)] [(.ref xs_60)]
    refine og (XS.iload X68.here hx rfl (hb hby at_162) rfl) ?_
    refine og (XS.iloadN X68.here hx rfl (hb hby at_164) rfl) ?_
    show OG m T68 165 #[sI p0, sI p1, sI p2, sI p3, sI (2 : Int32), sR b41, sR xs_60, sI (own_ssz p0), sI (own_ssz p1), sI (own_ssz p2), sI ex, sI (1 : Int32)] [(.int p0), (.int (1 : Int32)), (.ref xs_60)]
    obtain ⟨_, _, ⟨T69, L69, k69, n69⟩, -, X69, ⟨Lc69, hQ69, l69, y69, z69⟩, st69⟩ := Jvm.LawKit.callS X68 hx (y := (⟨"standwatch/query/ArgumentsNumbersPinLaw", "number", "(Ljava/lang/String;II)Z"⟩ : MethodName)) hO60 (mvT hZ60 (tw hw 191 rfl)) (mvT hZ60 (tw hw 192 rfl)) (mvT hZ60 (tw hw 163 rfl)) (mvT hZ60 (tw hw 193 rfl)) (by decide) (backOf (W := 0) (own_nu l Z a0 hw [] xs_60 (1 : Int32) p0 xd_60 xk_60 xl_60 cs (1) i_COMPACT_STRINGS v_SIOOBE_FORMATTER T60.heap n0 Z60 F61 S_COMPACT_STRINGS nz_i_COMPACT_STRINGS S_SIOOBE_FORMATTER ir_v_SIOOBE_FORMATTER Fq60_0 Fq60_1 Fq60_2 F62 hsl hcl2 o1n (own_has_len hh1) (own_has_sub hh1)) hZ60 (tw hw 193 rfl) (tw hw 163 rfl) (by decide) (by decide)) (g := (mkF m 165 #[sI p0, sI p1, sI p2, sI p3, sI (2 : Int32), sR b41, sR xs_60, sI (own_ssz p0), sI (own_ssz p1), sI (own_ssz p2), sI ex, sI (1 : Int32)] [(.int p0), (.int (1 : Int32)), (.ref xs_60)])) rfl (by rw [hml]; rfl) (argsL := [(.ref xs_60), (.int (1 : Int32)), (.int p0)]) (rest := []) (lenOf own_pd830 rfl) rfl (by show 2 * 0 + _ ≤ _; exact Nat.le_of_eq rfl) (hb hby at_165) (fun _ _ => ⟨rfl, e68, (by decide : 15 + 0 ≤ _), (by decide : 563 + 0 ≤ _)⟩)
    dsimp only [Pt.U, Pt.locs, Pt.cells, Pt.slots] at X69 l69 y69 z69 st69 hQ69
    subst l69 y69 z69
    obtain ⟨rfl, Nq69, eq69⟩ := hQ69
    have N69 := Fr.app N68 Nq69
    have e69 : T69.heap = T60.heap := eq69
    refine own_go (fun t k => st69 t k) ?_
    show OG m T69 168 #[sI p0, sI p1, sI p2, sI p3, sI (2 : Int32), sR b41, sR xs_60, sI (own_ssz p0), sI (own_ssz p1), sI (own_ssz p2), sI ex, sI (1 : Int32)] [(.int (1 : Int32))]
    refine og (XS.ifYes X69.here hx rfl (pc0 := 168) (pc' := 173) rfl (hb hby at_168) rfl ((if0 _ _).trans (feq (by decide : ¬ ((1 : Int32) = (0 : Int32)))).2) (by decide) (by decide)) ?_
    show OG m T69 173 #[sI p0, sI p1, sI p2, sI p3, sI (2 : Int32), sR b41, sR xs_60, sI (own_ssz p0), sI (own_ssz p1), sI (own_ssz p2), sI ex, sI (1 : Int32)] []
    refine og (XS.iload X69.here hx rfl (hb hby at_173) rfl) ?_
    show OG m T69 175 #[sI p0, sI p1, sI p2, sI p3, sI (2 : Int32), sR b41, sR xs_60, sI (own_ssz p0), sI (own_ssz p1), sI (own_ssz p2), sI ex, sI (1 : Int32)] [(.int (1 : Int32))]
    refine og (XS.iload X69.here hx rfl (hb hby at_175) rfl) ?_
    show OG m T69 177 #[sI p0, sI p1, sI p2, sI p3, sI (2 : Int32), sR b41, sR xs_60, sI (own_ssz p0), sI (own_ssz p1), sI (own_ssz p2), sI ex, sI (1 : Int32)] [(.int (own_ssz p0)), (.int (1 : Int32))]
    refine og (XS.iadd X69.here hx rfl (hb hby at_177) rfl) ?_
    show OG m T69 178 #[sI p0, sI p1, sI p2, sI p3, sI (2 : Int32), sR b41, sR xs_60, sI (own_ssz p0), sI (own_ssz p1), sI (own_ssz p2), sI ex, sI (1 : Int32)] [(.int ((1 : Int32) + (own_ssz p0)))]
    refine og (XS.istore X69.here hx rfl (hb hby at_178) rfl (l' := #[sI p0, sI p1, sI p2, sI p3, sI (2 : Int32), sR b41, sR xs_60, sI (own_ssz p0), sI (own_ssz p1), sI (own_ssz p2), sI ex, sI ((1 : Int32) + (own_ssz p0))]) rfl) ?_
    show OG m T69 180 #[sI p0, sI p1, sI p2, sI p3, sI (2 : Int32), sR b41, sR xs_60, sI (own_ssz p0), sI (own_ssz p1), sI (own_ssz p2), sI ex, sI ((1 : Int32) + (own_ssz p0))] []
    obtain ⟨q0, h_q0⟩ : ∃ z, z = ((1 : Int32) + (own_ssz p0)) := ⟨_, rfl⟩
    rw [← h_q0]
    show OG m T69 180 #[sI p0, sI p1, sI p2, sI p3, sI (2 : Int32), sR b41, sR xs_60, sI (own_ssz p0), sI (own_ssz p1), sI (own_ssz p2), sI ex, sI q0] []
    have hq0 : q0.toInt = (((1 + (own_txt p0).length) : Nat) : Int) := by rw [h_q0, own_cnt o1n (own_ssz_len p0) (by omega) (by omega)]; omega
    refine og (XS.iload X69.here hx rfl (hb hby at_180) rfl) ?_
    refine og (XS.iconst X69.here hx rfl (hb hby at_182)) ?_
    show OG m T69 183 #[sI p0, sI p1, sI p2, sI p3, sI (2 : Int32), sR b41, sR xs_60, sI (own_ssz p0), sI (own_ssz p1), sI (own_ssz p2), sI ex, sI q0] [(.int (1 : Int32)), (.int (2 : Int32))]
    refine og (XS.icmpNo X69.here hx rfl (hb hby at_183) rfl (tlt (by decide : (1 : Int32) < (2 : Int32))).2.2.2) ?_
    refine og (XS.aload X69.here hx rfl (hb hby at_186) rfl rfl) ?_
    show OG m T69 188 #[sI p0, sI p1, sI p2, sI p3, sI (2 : Int32), sR b41, sR xs_60, sI (own_ssz p0), sI (own_ssz p1), sI (own_ssz p2), sI ex, sI q0] [(.ref xs_60)]
    refine og (XS.iload X69.here hx rfl (hb hby at_188) rfl) ?_
    show OG m T69 190 #[sI p0, sI p1, sI p2, sI p3, sI (2 : Int32), sR b41, sR xs_60, sI (own_ssz p0), sI (own_ssz p1), sI (own_ssz p2), sI ex, sI q0] [(.int q0), (.ref xs_60)]
    obtain ⟨cq70, kq70, q70a, q70b, q70c⟩ := isOf hZ60 e69 Fq60_0
    obtain ⟨_, _, ⟨T70, L70, k70, n70⟩, -, X70, ⟨Lc70, hQ70, l70, y70, z70⟩, st70⟩ := X69.virtualBack hx (y := (⟨"java/lang/String", "charAt", "(I)C"⟩ : MethodName)) (z := (⟨"java/lang/String", "charAt", "(I)C"⟩ : MethodName)) hO60 (mvT hZ60 (tw hw 170 rfl)) (mvT hZ60 (tw hw 171 rfl)) (notFace_of_selects (args := #[]) (mvT hZ60 (tw hw 173 rfl))) (mvT hZ60 (tw hw 173 rfl)) (mvT hZ60 (tw hw 172 rfl)) (by decide) (backOf (W := 0) (own_ca l Z a0 hw [] xs_60 q0 xd_60 xk_60 xl_60 cs (44 : Int32) i_COMPACT_STRINGS v_SIOOBE_FORMATTER T60.heap n0 Z60 F61 S_COMPACT_STRINGS nz_i_COMPACT_STRINGS S_SIOOBE_FORMATTER ir_v_SIOOBE_FORMATTER Fq60_0 Fq60_1 Fq60_2 F62 (own_has_in hh2 hsl hq0) (own_has_at hh2 hq0) own_ok44) hZ60 (tw hw 174 rfl) (tw hw 21 rfl) (by decide) (by decide)) q70a q70c (g := (mkF m 190 #[sI p0, sI p1, sI p2, sI p3, sI (2 : Int32), sR b41, sR xs_60, sI (own_ssz p0), sI (own_ssz p1), sI (own_ssz p2), sI ex, sI q0] [(.int q0), (.ref xs_60)])) rfl (by rw [hml]; rfl) (Steps.refl _) (argsL := [(.int q0)]) (rest := []) (lenOf own_pd660 rfl) rfl (by show 2 * 0 + _ ≤ _; exact Nat.le_of_eq rfl) (hb hby at_190) (fun _ _ => ⟨rfl, e69, (by decide : 15 + 0 ≤ _), (by decide : 563 + 0 ≤ _)⟩)
    dsimp only [Pt.U, Pt.locs, Pt.cells, Pt.slots] at X70 l70 y70 z70 st70 hQ70
    subst l70 y70 z70
    obtain ⟨rfl, Nq70, eq70⟩ := hQ70
    have N70 := Fr.app N69 Nq70
    have e70 : T70.heap = T60.heap := eq70
    refine og (st70.trans) ?_
    show OG m T70 193 #[sI p0, sI p1, sI p2, sI p3, sI (2 : Int32), sR b41, sR xs_60, sI (own_ssz p0), sI (own_ssz p1), sI (own_ssz p2), sI ex, sI q0] [(.int (44 : Int32))]
    refine og (XS.bipush X70.here hx rfl (hb hby at_193)) ?_
    show OG m T70 195 #[sI p0, sI p1, sI p2, sI p3, sI (2 : Int32), sR b41, sR xs_60, sI (own_ssz p0), sI (own_ssz p1), sI (own_ssz p2), sI ex, sI q0] [(.int (44 : Int32)), (.int (44 : Int32))]
    refine og (XS.icmpYes X70.here hx rfl (pc0 := 195) (pc' := 200) rfl (hb hby at_195) rfl (teq (by decide : (44 : Int32) = (44 : Int32))).1 (by decide) (by decide)) ?_
    show OG m T70 200 #[sI p0, sI p1, sI p2, sI p3, sI (2 : Int32), sR b41, sR xs_60, sI (own_ssz p0), sI (own_ssz p1), sI (own_ssz p2), sI ex, sI q0] []
    refine og (XS.iinc X70.here hx rfl (hb hby at_200) rfl (l' := #[sI p0, sI p1, sI p2, sI p3, sI (2 : Int32), sR b41, sR xs_60, sI (own_ssz p0), sI (own_ssz p1), sI (own_ssz p2), sI ex, sI (q0 + (1 : Int32))]) rfl) ?_
    show OG m T70 203 #[sI p0, sI p1, sI p2, sI p3, sI (2 : Int32), sR b41, sR xs_60, sI (own_ssz p0), sI (own_ssz p1), sI (own_ssz p2), sI ex, sI (q0 + (1 : Int32))] []
    obtain ⟨r1, h_r1⟩ : ∃ z, z = (q0 + (1 : Int32)) := ⟨_, rfl⟩
    rw [← h_r1]
    show OG m T70 203 #[sI p0, sI p1, sI p2, sI p3, sI (2 : Int32), sR b41, sR xs_60, sI (own_ssz p0), sI (own_ssz p1), sI (own_ssz p2), sI ex, sI r1] []
    have hr1 : r1.toInt = (((1 + (own_txt p0).length + 1) : Nat) : Int) := by rw [h_r1, own_cnt (j := 1) hq0 rfl (by omega) (by omega)]; omega
    refine og (XS.aload X70.here hx rfl (hb hby at_203) rfl rfl) ?_
    refine og (XS.iload X70.here hx rfl (hb hby at_205) rfl) ?_
    show OG m T70 207 #[sI p0, sI p1, sI p2, sI p3, sI (2 : Int32), sR b41, sR xs_60, sI (own_ssz p0), sI (own_ssz p1), sI (own_ssz p2), sI ex, sI r1] [(.int r1), (.ref xs_60)]
    refine og (XS.iloadN X70.here hx rfl (hb hby at_207) rfl) ?_
    show OG m T70 208 #[sI p0, sI p1, sI p2, sI p3, sI (2 : Int32), sR b41, sR xs_60, sI (own_ssz p0), sI (own_ssz p1), sI (own_ssz p2), sI ex, sI r1] [(.int p1), (.int r1), (.ref xs_60)]
    obtain ⟨_, _, ⟨T71, L71, k71, n71⟩, -, X71, ⟨Lc71, hQ71, l71, y71, z71⟩, st71⟩ := Jvm.LawKit.callS X70 hx (y := (⟨"standwatch/query/ArgumentsNumbersPinLaw", "number", "(Ljava/lang/String;II)Z"⟩ : MethodName)) hO60 (mvT hZ60 (tw hw 191 rfl)) (mvT hZ60 (tw hw 192 rfl)) (mvT hZ60 (tw hw 163 rfl)) (mvT hZ60 (tw hw 193 rfl)) (by decide) (backOf (W := 0) (own_nu l Z a0 hw [] xs_60 r1 p1 xd_60 xk_60 xl_60 cs (1 + (own_txt p0).length + 1) i_COMPACT_STRINGS v_SIOOBE_FORMATTER T60.heap n0 Z60 F61 S_COMPACT_STRINGS nz_i_COMPACT_STRINGS S_SIOOBE_FORMATTER ir_v_SIOOBE_FORMATTER Fq60_0 Fq60_1 Fq60_2 F62 hsl hcl2 hr1 (own_has_len hh3) (own_has_sub hh3)) hZ60 (tw hw 193 rfl) (tw hw 163 rfl) (by decide) (by decide)) (g := (mkF m 208 #[sI p0, sI p1, sI p2, sI p3, sI (2 : Int32), sR b41, sR xs_60, sI (own_ssz p0), sI (own_ssz p1), sI (own_ssz p2), sI ex, sI r1] [(.int p1), (.int r1), (.ref xs_60)])) rfl (by rw [hml]; rfl) (argsL := [(.ref xs_60), (.int r1), (.int p1)]) (rest := []) (lenOf own_pd830 rfl) rfl (by show 2 * 0 + _ ≤ _; exact Nat.le_of_eq rfl) (hb hby at_208) (fun _ _ => ⟨rfl, e70, (by decide : 15 + 0 ≤ _), (by decide : 563 + 0 ≤ _)⟩)
    dsimp only [Pt.U, Pt.locs, Pt.cells, Pt.slots] at X71 l71 y71 z71 st71 hQ71
    subst l71 y71 z71
    obtain ⟨rfl, Nq71, eq71⟩ := hQ71
    have N71 := Fr.app N70 Nq71
    have e71 : T71.heap = T60.heap := eq71
    refine own_go (fun t k => st71 t k) ?_
    show OG m T71 211 #[sI p0, sI p1, sI p2, sI p3, sI (2 : Int32), sR b41, sR xs_60, sI (own_ssz p0), sI (own_ssz p1), sI (own_ssz p2), sI ex, sI r1] [(.int (1 : Int32))]
    refine og (XS.ifYes X71.here hx rfl (pc0 := 211) (pc' := 216) rfl (hb hby at_211) rfl ((if0 _ _).trans (feq (by decide : ¬ ((1 : Int32) = (0 : Int32)))).2) (by decide) (by decide)) ?_
    show OG m T71 216 #[sI p0, sI p1, sI p2, sI p3, sI (2 : Int32), sR b41, sR xs_60, sI (own_ssz p0), sI (own_ssz p1), sI (own_ssz p2), sI ex, sI r1] []
    refine og (XS.iload X71.here hx rfl (hb hby at_216) rfl) ?_
    show OG m T71 218 #[sI p0, sI p1, sI p2, sI p3, sI (2 : Int32), sR b41, sR xs_60, sI (own_ssz p0), sI (own_ssz p1), sI (own_ssz p2), sI ex, sI r1] [(.int r1)]
    refine og (XS.iload X71.here hx rfl (hb hby at_218) rfl) ?_
    show OG m T71 220 #[sI p0, sI p1, sI p2, sI p3, sI (2 : Int32), sR b41, sR xs_60, sI (own_ssz p0), sI (own_ssz p1), sI (own_ssz p2), sI ex, sI r1] [(.int (own_ssz p1)), (.int r1)]
    refine og (XS.iadd X71.here hx rfl (hb hby at_220) rfl) ?_
    show OG m T71 221 #[sI p0, sI p1, sI p2, sI p3, sI (2 : Int32), sR b41, sR xs_60, sI (own_ssz p0), sI (own_ssz p1), sI (own_ssz p2), sI ex, sI r1] [(.int (r1 + (own_ssz p1)))]
    refine og (XS.istore X71.here hx rfl (hb hby at_221) rfl (l' := #[sI p0, sI p1, sI p2, sI p3, sI (2 : Int32), sR b41, sR xs_60, sI (own_ssz p0), sI (own_ssz p1), sI (own_ssz p2), sI ex, sI (r1 + (own_ssz p1))]) rfl) ?_
    show OG m T71 223 #[sI p0, sI p1, sI p2, sI p3, sI (2 : Int32), sR b41, sR xs_60, sI (own_ssz p0), sI (own_ssz p1), sI (own_ssz p2), sI ex, sI (r1 + (own_ssz p1))] []
    obtain ⟨q1, h_q1⟩ : ∃ z, z = (r1 + (own_ssz p1)) := ⟨_, rfl⟩
    rw [← h_q1]
    show OG m T71 223 #[sI p0, sI p1, sI p2, sI p3, sI (2 : Int32), sR b41, sR xs_60, sI (own_ssz p0), sI (own_ssz p1), sI (own_ssz p2), sI ex, sI q1] []
    have hq1 : q1.toInt = (((1 + (own_txt p0).length + 1 + (own_txt p1).length) : Nat) : Int) := by rw [h_q1, own_cnt hr1 (own_ssz_len p1) (by omega) (by omega)]; omega
    refine og (XS.iload X71.here hx rfl (hb hby at_223) rfl) ?_
    refine og (XS.iconst X71.here hx rfl (hb hby at_225)) ?_
    show OG m T71 226 #[sI p0, sI p1, sI p2, sI p3, sI (2 : Int32), sR b41, sR xs_60, sI (own_ssz p0), sI (own_ssz p1), sI (own_ssz p2), sI ex, sI q1] [(.int (2 : Int32)), (.int (2 : Int32))]
    refine og (XS.icmpYes X71.here hx rfl (pc0 := 226) (pc' := 266) rfl (hb hby at_226) rfl (flt (by decide : ¬ ((2 : Int32) < (2 : Int32)))).2.2.2 (by decide) (by decide)) ?_
    refine og (XS.iload X71.here hx rfl (hb hby at_266) rfl) ?_
    show OG m T71 268 #[sI p0, sI p1, sI p2, sI p3, sI (2 : Int32), sR b41, sR xs_60, sI (own_ssz p0), sI (own_ssz p1), sI (own_ssz p2), sI ex, sI q1] [(.int q1)]
    refine og (XS.iload X71.here hx rfl (hb hby at_268) rfl) ?_
    refine og (XS.iconst X71.here hx rfl (hb hby at_270)) ?_
    show OG m T71 271 #[sI p0, sI p1, sI p2, sI p3, sI (2 : Int32), sR b41, sR xs_60, sI (own_ssz p0), sI (own_ssz p1), sI (own_ssz p2), sI ex, sI q1] [(.int (1 : Int32)), (.int ex), (.int q1)]
    refine og (XS.isub X71.here hx rfl (hb hby at_271) rfl) ?_
    show OG m T71 272 #[sI p0, sI p1, sI p2, sI p3, sI (2 : Int32), sR b41, sR xs_60, sI (own_ssz p0), sI (own_ssz p1), sI (own_ssz p2), sI ex, sI q1] [(.int (ex - (1 : Int32))), (.int q1)]
    obtain ⟨e2, h_e2⟩ : ∃ z, z = (ex - (1 : Int32)) := ⟨_, rfl⟩
    rw [← h_e2]
    show OG m T71 272 #[sI p0, sI p1, sI p2, sI p3, sI (2 : Int32), sR b41, sR xs_60, sI (own_ssz p0), sI (own_ssz p1), sI (own_ssz p2), sI ex, sI q1] [(.int e2), (.int q1)]
    have he2 : q1 = e2 := Int32.toInt_inj.mp (by rw [h_e2, ← h_e1, he1]; exact hq1)
    refine og (XS.icmpNo X71.here hx rfl (hb hby at_272) rfl (teq he2).2) ?_
    show OG m T71 275 #[sI p0, sI p1, sI p2, sI p3, sI (2 : Int32), sR b41, sR xs_60, sI (own_ssz p0), sI (own_ssz p1), sI (own_ssz p2), sI ex, sI q1] []
    refine og (XS.iconst X71.here hx rfl (hb hby at_275)) ?_
    refine og (XS.goto X71.here hx rfl (pc0 := 276) (pc' := 280) rfl (hb hby at_276) (by decide) (by decide)) ?_
    show OG m T71 280 #[sI p0, sI p1, sI p2, sI p3, sI (2 : Int32), sR b41, sR xs_60, sI (own_ssz p0), sI (own_ssz p1), sI (own_ssz p2), sI ex, sI q1] [(.int (1 : Int32))]
    obtain ⟨fs, hr, hrun, hended, ⟨-, hW2, hW3, hsame⟩⟩ := Jvm.Stand.leaveW (s := s) (vm₁ := T60.vm) X71 hS60 (show _ ≤ T71.heap.size from by rw [e71]; exact (Nat.le_refl _)) (v := some (.int (1 : Int32))) (fun h => by rw [Bd.returns] at h; cases h)
    refine ⟨_, _, retN X71 hx (t := .boolean) Bd.returns (by simp) (hb hby at_280) hr, hrun, hended, _, _, rfl, ?_, ⟨_, rfl⟩, hW2, hW3, hsame.mono (by decide) (by decide)⟩
    show Q_own_law Z p0 p1 p2 p3 i_COMPACT_STRINGS v_SIOOBE_FORMATTER o_DigitOnes o_DigitTens kc_own_ones kc_own_tens h0 n0 _ T71.heap _
    rw [e71]
    exact ⟨rfl, N71⟩
  · rw [al1]
    show OG m s₁ 5 #[sI p0, sI p1, sI p2, sI p3, sI (3 : Int32), sU, sU, sU, sU, sU, sU, sU] []
    refine og (XS.iload X0.here hx rfl (hb hby at_5) rfl) ?_
    show OG m s₁ 7 #[sI p0, sI p1, sI p2, sI p3, sI (3 : Int32), sU, sU, sU, sU, sU, sU, sU] [(.int (3 : Int32))]
    obtain ⟨T72, h72, k72, X72, e72, E72, A72, st72⟩ := newP X0 hx hZ (tw hw 0 rfl) e0 (g := (mkF m 7 #[sI p0, sI p1, sI p2, sI p3, sI (3 : Int32), sU, sU, sU, sU, sU, sU, sU] [(.int (3 : Int32))])) rfl (hb hby at_7) rfl (by decide) (cap := 3) (by decide) (by decide) (by decide) (by decide)
    obtain ⟨b72, g72⟩ : ∃ z, z = h0.size := ⟨_, rfl⟩
    rw [← g72] at A72 st72
    have g_b72 : n0 ≤ b72 := Nat.le_trans Z0 (Nat.le_of_eq g72.symm)
    have sz_b72 : h0.size ≤ b72 := Nat.le_trans K0.1 (Nat.le_of_eq g72.symm)
    have sf73 : Safe Z own_EL s.vm h0 b72 := Safe.new (Nat.le_of_eq g72.symm)
    have F74 : Old Z n0 h72 := O0.ext E72
    have K75 : Keep h0 h72 [] := K0.ext E72
    have Z75 : n0 ≤ h72.size := Nat.le_trans Z0 E72.1
    have C76 : CHr Z own_EL s.vm h0 s.vm h72 := C0.trans (CHr.ext E72 C0.1)
    have sf77 : Safe Z own_EL s.vm h72 b72 := Safe.ext E72 C0.1 sf73
    have F78 : Arv Z h72 b72 k72 .int (3 : Int32) [(.int (0 : Int32)), (.int (0 : Int32)), (.int (0 : Int32))] (.int (0 : Int32)) := (Arv.new A72 (by decide)).pad (pad_rep [] (.int (0 : Int32)) 3)
    refine own_go (fun t k => st72 t k) ?_
    show OG m T72 9 #[sI p0, sI p1, sI p2, sI p3, sI (3 : Int32), sU, sU, sU, sU, sU, sU, sU] [(.ref b72)]
    refine og (XS.astore X72.here hx rfl (hb hby at_9) rfl rfl (l' := #[sI p0, sI p1, sI p2, sI p3, sI (3 : Int32), sR b72, sU, sU, sU, sU, sU, sU]) rfl) ?_
    refine og (XS.iload X72.here hx rfl (hb hby at_11) rfl) ?_
    show OG m T72 13 #[sI p0, sI p1, sI p2, sI p3, sI (3 : Int32), sR b72, sU, sU, sU, sU, sU, sU] [(.int (3 : Int32))]
    refine og (XS.ifNo X72.here hx rfl (hb hby at_13) rfl ((if0 _ _).trans (tlt (by decide : (0 : Int32) < (3 : Int32))).2.2.2)) ?_
    refine og (XS.aload X72.here hx rfl (hb hby at_16) rfl rfl) ?_
    show OG m T72 18 #[sI p0, sI p1, sI p2, sI p3, sI (3 : Int32), sR b72, sU, sU, sU, sU, sU, sU] [(.ref b72)]
    refine og (XS.iconst X72.here hx rfl (hb hby at_18)) ?_
    refine og (XS.iloadN X72.here hx rfl (hb hby at_19) rfl) ?_
    show OG m T72 20 #[sI p0, sI p1, sI p2, sI p3, sI (3 : Int32), sR b72, sU, sU, sU, sU, sU, sU] [(.int p0), (.int (0 : Int32)), (.ref b72)]
    have vv79 := F78
    obtain ⟨cl79, Ar79, qk79, Sz79, Nn79, Hs79, Gs79⟩ := vv79
    have hin79 : ¬ ((0 : Int32) < 0 ∨ cl79.slots.size ≤ ((0 : Int32)).toNatClampNeg) := inb_of Sz79 ⟨by decide, by decide⟩
    obtain ⟨T79, h79, X79, e79, W79, st79⟩ := stI X72 hx hZ e72 Ar79 (j := (0 : Int32)) hin79 (g := (mkF m 20 #[sI p0, sI p1, sI p2, sI p3, sI (3 : Int32), sR b72, sU, sU, sU, sU, sU, sU] [(.int p0), (.int (0 : Int32)), (.ref b72)])) rfl rfl (hb hby at_20)
    have F80 : Old Z n0 h79 := F74.wr W79 g_b72
    have N81 := Fr.snoc X79 N0 g_b72
    have K81 : Keep h0 h79 [] := K75.wr W79 (Or.inr sz_b72)
    have Z81 : n0 ≤ h79.size := Nat.le_trans Z75 (Keep.of_wr W79).1
    have C82 : CHr Z own_EL s.vm h0 s.vm h79 := C76.trans (CHr.wr W79 sf77 C76.1)
    have sf83 : Safe Z own_EL s.vm h79 b72 := Safe.wr W79 sf77 C76.1 sf77
    have F84 : Arv Z h79 b72 k72 .int (3 : Int32) [(.int p0), (.int (0 : Int32)), (.int (0 : Int32))] (.int (0 : Int32)) := Arv.set Ar79 qk79 Sz79 Nn79 Hs79 Gs79 rfl W79 0 rfl (Nat.le_of_ble_eq_true rfl)
    refine own_go (fun t k => st79 t k) ?_
    show OG m T79 21 #[sI p0, sI p1, sI p2, sI p3, sI (3 : Int32), sR b72, sU, sU, sU, sU, sU, sU] []
    refine og (XS.iload X79.here hx rfl (hb hby at_21) rfl) ?_
    refine og (XS.iconst X79.here hx rfl (hb hby at_23)) ?_
    show OG m T79 24 #[sI p0, sI p1, sI p2, sI p3, sI (3 : Int32), sR b72, sU, sU, sU, sU, sU, sU] [(.int (1 : Int32)), (.int (3 : Int32))]
    refine og (XS.icmpNo X79.here hx rfl (hb hby at_24) rfl (tlt (by decide : (1 : Int32) < (3 : Int32))).2.2.2) ?_
    refine og (XS.aload X79.here hx rfl (hb hby at_27) rfl rfl) ?_
    show OG m T79 29 #[sI p0, sI p1, sI p2, sI p3, sI (3 : Int32), sR b72, sU, sU, sU, sU, sU, sU] [(.ref b72)]
    refine og (XS.iconst X79.here hx rfl (hb hby at_29)) ?_
    refine og (XS.iloadN X79.here hx rfl (hb hby at_30) rfl) ?_
    show OG m T79 31 #[sI p0, sI p1, sI p2, sI p3, sI (3 : Int32), sR b72, sU, sU, sU, sU, sU, sU] [(.int p1), (.int (1 : Int32)), (.ref b72)]
    have vv85 := F84
    obtain ⟨cl85, Ar85, qk85, Sz85, Nn85, Hs85, Gs85⟩ := vv85
    have hin85 : ¬ ((1 : Int32) < 0 ∨ cl85.slots.size ≤ ((1 : Int32)).toNatClampNeg) := inb_of Sz85 ⟨by decide, by decide⟩
    obtain ⟨T85, h85, X85, e85, W85, st85⟩ := stI X79 hx hZ e79 Ar85 (j := (1 : Int32)) hin85 (g := (mkF m 31 #[sI p0, sI p1, sI p2, sI p3, sI (3 : Int32), sR b72, sU, sU, sU, sU, sU, sU] [(.int p1), (.int (1 : Int32)), (.ref b72)])) rfl rfl (hb hby at_31)
    have F86 : Old Z n0 h85 := F80.wr W85 g_b72
    have N87 := Fr.snoc X85 N81 g_b72
    have K87 : Keep h0 h85 [] := K81.wr W85 (Or.inr sz_b72)
    have Z87 : n0 ≤ h85.size := Nat.le_trans Z81 (Keep.of_wr W85).1
    have C88 : CHr Z own_EL s.vm h0 s.vm h85 := C82.trans (CHr.wr W85 sf83 C82.1)
    have sf89 : Safe Z own_EL s.vm h85 b72 := Safe.wr W85 sf83 C82.1 sf83
    have F90 : Arv Z h85 b72 k72 .int (3 : Int32) [(.int p0), (.int p1), (.int (0 : Int32))] (.int (0 : Int32)) := Arv.set Ar85 qk85 Sz85 Nn85 Hs85 Gs85 rfl W85 1 rfl (Nat.le_of_ble_eq_true rfl)
    refine own_go (fun t k => st85 t k) ?_
    show OG m T85 32 #[sI p0, sI p1, sI p2, sI p3, sI (3 : Int32), sR b72, sU, sU, sU, sU, sU, sU] []
    refine og (XS.iload X85.here hx rfl (hb hby at_32) rfl) ?_
    refine og (XS.iconst X85.here hx rfl (hb hby at_34)) ?_
    show OG m T85 35 #[sI p0, sI p1, sI p2, sI p3, sI (3 : Int32), sR b72, sU, sU, sU, sU, sU, sU] [(.int (2 : Int32)), (.int (3 : Int32))]
    refine og (XS.icmpNo X85.here hx rfl (hb hby at_35) rfl (tlt (by decide : (2 : Int32) < (3 : Int32))).2.2.2) ?_
    refine og (XS.aload X85.here hx rfl (hb hby at_38) rfl rfl) ?_
    show OG m T85 40 #[sI p0, sI p1, sI p2, sI p3, sI (3 : Int32), sR b72, sU, sU, sU, sU, sU, sU] [(.ref b72)]
    refine og (XS.iconst X85.here hx rfl (hb hby at_40)) ?_
    refine og (XS.iloadN X85.here hx rfl (hb hby at_41) rfl) ?_
    show OG m T85 42 #[sI p0, sI p1, sI p2, sI p3, sI (3 : Int32), sR b72, sU, sU, sU, sU, sU, sU] [(.int p2), (.int (2 : Int32)), (.ref b72)]
    have vv91 := F90
    obtain ⟨cl91, Ar91, qk91, Sz91, Nn91, Hs91, Gs91⟩ := vv91
    have hin91 : ¬ ((2 : Int32) < 0 ∨ cl91.slots.size ≤ ((2 : Int32)).toNatClampNeg) := inb_of Sz91 ⟨by decide, by decide⟩
    obtain ⟨T91, h91, X91, e91, W91, st91⟩ := stI X85 hx hZ e85 Ar91 (j := (2 : Int32)) hin91 (g := (mkF m 42 #[sI p0, sI p1, sI p2, sI p3, sI (3 : Int32), sR b72, sU, sU, sU, sU, sU, sU] [(.int p2), (.int (2 : Int32)), (.ref b72)])) rfl rfl (hb hby at_42)
    have F92 : Old Z n0 h91 := F86.wr W91 g_b72
    have N93 := Fr.snoc X91 N87 g_b72
    have K93 : Keep h0 h91 [] := K87.wr W91 (Or.inr sz_b72)
    have Z93 : n0 ≤ h91.size := Nat.le_trans Z87 (Keep.of_wr W91).1
    have C94 : CHr Z own_EL s.vm h0 s.vm h91 := C88.trans (CHr.wr W91 sf89 C88.1)
    have sf95 : Safe Z own_EL s.vm h91 b72 := Safe.wr W91 sf89 C88.1 sf89
    have F96 : Arv Z h91 b72 k72 .int (3 : Int32) [(.int p0), (.int p1), (.int p2)] (.int (0 : Int32)) := Arv.set Ar91 qk91 Sz91 Nn91 Hs91 Gs91 rfl W91 2 rfl (Nat.le_of_ble_eq_true rfl)
    refine own_go (fun t k => st91 t k) ?_
    show OG m T91 43 #[sI p0, sI p1, sI p2, sI p3, sI (3 : Int32), sR b72, sU, sU, sU, sU, sU, sU] []
    refine og (XS.aload X91.here hx rfl (hb hby at_43) rfl rfl) ?_
    show OG m T91 45 #[sI p0, sI p1, sI p2, sI p3, sI (3 : Int32), sR b72, sU, sU, sU, sU, sU, sU] [(.ref b72)]
    obtain ⟨_, _, ⟨T97, L97, k97, n97⟩, -, X97, hS97, hgr97, ⟨Lc97, hQ97, l97, y97, z97, hC97⟩, st97⟩ := callSS X91 hx (y := (⟨"standwatch/query/Arguments", "numbers", "([I)Ljava/lang/String;"⟩ : MethodName)) hown (mvT hZ (tw hw 1 rfl)) (mvT hZ (tw hw 2 rfl)) (mvT hZ (tw hw 3 rfl)) (mvT hZ (tw hw 4 rfl)) (by decide) (backOfSH (s := s) (vm0 := s.vm) (W := 0) (own_num3 l Z a0 hw [] b72 k72 p0 p1 p2 i_COMPACT_STRINGS o_DigitOnes o_DigitTens kc_own_ones kc_own_tens h91 n0 Z93 F92 S_COMPACT_STRINGS nz_i_COMPACT_STRINGS S_DigitOnes V_own_ones S_DigitTens V_own_tens F96) hZ (tw hw 4 rfl) (tw hw 3 rfl) (by decide) (by decide) (own_EW Z a0 hw) C94.1) (g := (mkF m 45 #[sI p0, sI p1, sI p2, sI p3, sI (3 : Int32), sR b72, sU, sU, sU, sU, sU, sU] [(.ref b72)])) rfl (by rw [hml]; rfl) (argsL := [(.ref b72)]) (rest := []) (lenOf own_pd829 rfl) rfl (by show 2 * 0 + _ ≤ _; exact Nat.le_of_eq rfl) (hb hby at_45) (fun _ _ => ⟨rfl, e91, (by decide : 1 + 18 ≤ _), (by decide : 3 + 717 ≤ _)⟩)
    dsimp only [Pt.U, Pt.locs, Pt.cells, Pt.slots] at X97 l97 y97 z97 st97 hQ97 hS97
    subst l97 y97 z97
    obtain ⟨xs_97, xd_97, xk_97, xl_97, rfl, Nq97, Kq97, Fq97_0, Fq97_1, Fq97_2, Fq97_3, mq97_hxl⟩ := hQ97
    have N97 := Fr.app N93 Nq97
    have hZ97 : Z.Warmed39 (s.setVm T97.vm).vm := State.Warmed39.trans hZ hS97.1
    have hO97 : (s.setVm T97.vm).vm.findClass "standwatch/query/ArgumentsNumbersPinLaw" = some m.cls := (hS97.1.alike.findClass _ _).trans hown
    have F98 : Old Z n0 T97.heap := F92.keep Kq97 all0
    have K97 : Keep h0 T97.heap [] := K93.trans Kq97 all0
    have Z97 : n0 ≤ T97.heap.size := Nat.le_trans Z93 Kq97.1
    refine og (st97.trans) ?_
    show OG m T97 48 #[sI p0, sI p1, sI p2, sI p3, sI (3 : Int32), sR b72, sU, sU, sU, sU, sU, sU] [(.ref xs_97)]
    have ht0 := own_txt_rng p0
    have ht1 := own_txt_rng p1
    have ht2 := own_txt_rng p2
    have o2 : (2 : Int32).toInt = 2 := rfl
    have o1 : (1 : Int32).toInt = 1 := rfl
    have o1n : (1 : Int32).toInt = ((1 : Nat) : Int) := rfl
    obtain ⟨cs, hcs⟩ : ∃ z : List Int32, z = (((((([(123 : Int32)] ++ own_txt p0) ++ [(44 : Int32)]) ++ own_txt p1) ++ [(44 : Int32)]) ++ own_txt p2) ++ [(125 : Int32)]) := ⟨_, rfl⟩
    have F99 : Arv Z T97.heap xd_97 xk_97 .byte xl_97 (own_B cs) (.int (0 : Int32)) := by rw [hcs]; exact Fq97_3
    have hsl : ¬ xl_97 < 0 ∧ xl_97.toNatClampNeg = cs.length := own_idx (by rw [hcs]; exact mq97_hxl)
    have hh0 : own_has cs (0) ([(123 : Int32)]) := ⟨[], own_txt p0 ++ [(44 : Int32)] ++ own_txt p1 ++ [(44 : Int32)] ++ own_txt p2 ++ [(125 : Int32)], by rw [hcs]; simp only [List.append_assoc, List.cons_append, List.nil_append, List.append_nil], by simp only [List.length_append, List.length_cons, List.length_nil]⟩
    have hh1 : own_has cs (1) (own_txt p0) := ⟨[(123 : Int32)], [(44 : Int32)] ++ own_txt p1 ++ [(44 : Int32)] ++ own_txt p2 ++ [(125 : Int32)], by rw [hcs]; simp only [List.append_assoc, List.cons_append, List.nil_append, List.append_nil], by simp only [List.length_append, List.length_cons, List.length_nil]⟩
    have hh2 : own_has cs (1 + (own_txt p0).length) ([(44 : Int32)]) := ⟨[(123 : Int32)] ++ own_txt p0, own_txt p1 ++ [(44 : Int32)] ++ own_txt p2 ++ [(125 : Int32)], by rw [hcs]; simp only [List.append_assoc, List.cons_append, List.nil_append, List.append_nil], by simp only [List.length_append, List.length_cons, List.length_nil]⟩
    have hh3 : own_has cs (1 + (own_txt p0).length + 1) (own_txt p1) := ⟨[(123 : Int32)] ++ own_txt p0 ++ [(44 : Int32)], [(44 : Int32)] ++ own_txt p2 ++ [(125 : Int32)], by rw [hcs]; simp only [List.append_assoc, List.cons_append, List.nil_append, List.append_nil], by simp only [List.length_append, List.length_cons, List.length_nil]⟩
    have hh4 : own_has cs (1 + (own_txt p0).length + 1 + (own_txt p1).length) ([(44 : Int32)]) := ⟨[(123 : Int32)] ++ own_txt p0 ++ [(44 : Int32)] ++ own_txt p1, own_txt p2 ++ [(125 : Int32)], by rw [hcs]; simp only [List.append_assoc, List.cons_append, List.nil_append, List.append_nil], by simp only [List.length_append, List.length_cons, List.length_nil]⟩
    have hh5 : own_has cs (1 + (own_txt p0).length + 1 + (own_txt p1).length + 1) (own_txt p2) := ⟨[(123 : Int32)] ++ own_txt p0 ++ [(44 : Int32)] ++ own_txt p1 ++ [(44 : Int32)], [(125 : Int32)], by rw [hcs]; simp only [List.append_assoc, List.cons_append, List.nil_append, List.append_nil], by simp only [List.length_append, List.length_cons, List.length_nil]⟩
    have hh6 : own_has cs (1 + (own_txt p0).length + 1 + (own_txt p1).length + 1 + (own_txt p2).length) ([(125 : Int32)]) := ⟨[(123 : Int32)] ++ own_txt p0 ++ [(44 : Int32)] ++ own_txt p1 ++ [(44 : Int32)] ++ own_txt p2, [], by rw [hcs]; simp only [List.append_assoc, List.cons_append, List.nil_append, List.append_nil], by simp only [List.length_append, List.length_cons, List.length_nil]⟩
    have hcl : cs.length = 1 + (own_txt p0).length + 1 + (own_txt p1).length + 1 + (own_txt p2).length + 1 := by rw [hcs]; simp only [List.length_append, List.length_cons, List.length_nil]
    have hcl2 : cs.length ≤ 1000 := by omega
    refine og (XS.astore X97.here hx rfl (hb hby at_48) rfl rfl (l' := #[sI p0, sI p1, sI p2, sI p3, sI (3 : Int32), sR b72, sR xs_97, sU, sU, sU, sU, sU]) rfl) ?_
    refine og (XS.iloadN X97.here hx rfl (hb hby at_50) rfl) ?_
    show OG m T97 51 #[sI p0, sI p1, sI p2, sI p3, sI (3 : Int32), sR b72, sR xs_97, sU, sU, sU, sU, sU] [(.int p0)]
    obtain ⟨_, _, ⟨T100, L100, k100, n100⟩, -, X100, ⟨Lc100, hQ100, l100, y100, z100⟩, st100⟩ := Jvm.LawKit.callS X97 hx (y := (⟨"standwatch/query/ArgumentsNumbersPinLaw", "width", "(I)I"⟩ : MethodName)) hO97 (mvT hZ97 (tw hw 161 rfl)) (mvT hZ97 (tw hw 162 rfl)) (mvT hZ97 (tw hw 163 rfl)) (mvT hZ97 (tw hw 164 rfl)) (by decide) (backOf (W := 0) (own_wi l Z a0 hw [] p0 T97.heap n0 Z97) hZ97 (tw hw 164 rfl) (tw hw 163 rfl) (by decide) (by decide)) (g := (mkF m 51 #[sI p0, sI p1, sI p2, sI p3, sI (3 : Int32), sR b72, sR xs_97, sU, sU, sU, sU, sU] [(.int p0)])) rfl (by rw [hml]; rfl) (argsL := [(.int p0)]) (rest := []) (lenOf own_pd126 rfl) rfl (by show 2 * 0 + _ ≤ _; exact Nat.le_of_eq rfl) (hb hby at_51) (fun _ _ => ⟨rfl, rfl, (by decide : 19 + 0 ≤ _), (by decide : 720 + 0 ≤ _)⟩)
    dsimp only [Pt.U, Pt.locs, Pt.cells, Pt.slots] at X100 l100 y100 z100 st100 hQ100
    subst l100 y100 z100
    obtain ⟨rfl, Nq100, eq100⟩ := hQ100
    have N100 := Fr.app N97 Nq100
    have e100 : T100.heap = T97.heap := eq100
    refine own_go (fun t k => st100 t k) ?_
    show OG m T100 54 #[sI p0, sI p1, sI p2, sI p3, sI (3 : Int32), sR b72, sR xs_97, sU, sU, sU, sU, sU] [(.int (own_ssz p0))]
    refine og (XS.istore X100.here hx rfl (hb hby at_54) rfl (l' := #[sI p0, sI p1, sI p2, sI p3, sI (3 : Int32), sR b72, sR xs_97, sI (own_ssz p0), sU, sU, sU, sU]) rfl) ?_
    refine og (XS.iloadN X100.here hx rfl (hb hby at_56) rfl) ?_
    show OG m T100 57 #[sI p0, sI p1, sI p2, sI p3, sI (3 : Int32), sR b72, sR xs_97, sI (own_ssz p0), sU, sU, sU, sU] [(.int p1)]
    obtain ⟨_, _, ⟨T101, L101, k101, n101⟩, -, X101, ⟨Lc101, hQ101, l101, y101, z101⟩, st101⟩ := Jvm.LawKit.callS X100 hx (y := (⟨"standwatch/query/ArgumentsNumbersPinLaw", "width", "(I)I"⟩ : MethodName)) hO97 (mvT hZ97 (tw hw 161 rfl)) (mvT hZ97 (tw hw 162 rfl)) (mvT hZ97 (tw hw 163 rfl)) (mvT hZ97 (tw hw 164 rfl)) (by decide) (backOf (W := 0) (own_wi l Z a0 hw [] p1 T97.heap n0 Z97) hZ97 (tw hw 164 rfl) (tw hw 163 rfl) (by decide) (by decide)) (g := (mkF m 57 #[sI p0, sI p1, sI p2, sI p3, sI (3 : Int32), sR b72, sR xs_97, sI (own_ssz p0), sU, sU, sU, sU] [(.int p1)])) rfl (by rw [hml]; rfl) (argsL := [(.int p1)]) (rest := []) (lenOf own_pd126 rfl) rfl (by show 2 * 0 + _ ≤ _; exact Nat.le_of_eq rfl) (hb hby at_57) (fun _ _ => ⟨rfl, e100, (by decide : 19 + 0 ≤ _), (by decide : 720 + 0 ≤ _)⟩)
    dsimp only [Pt.U, Pt.locs, Pt.cells, Pt.slots] at X101 l101 y101 z101 st101 hQ101
    subst l101 y101 z101
    obtain ⟨rfl, Nq101, eq101⟩ := hQ101
    have N101 := Fr.app N100 Nq101
    have e101 : T101.heap = T97.heap := eq101
    refine own_go (fun t k => st101 t k) ?_
    show OG m T101 60 #[sI p0, sI p1, sI p2, sI p3, sI (3 : Int32), sR b72, sR xs_97, sI (own_ssz p0), sU, sU, sU, sU] [(.int (own_ssz p1))]
    refine og (XS.istore X101.here hx rfl (hb hby at_60) rfl (l' := #[sI p0, sI p1, sI p2, sI p3, sI (3 : Int32), sR b72, sR xs_97, sI (own_ssz p0), sI (own_ssz p1), sU, sU, sU]) rfl) ?_
    refine og (XS.iloadN X101.here hx rfl (hb hby at_62) rfl) ?_
    show OG m T101 63 #[sI p0, sI p1, sI p2, sI p3, sI (3 : Int32), sR b72, sR xs_97, sI (own_ssz p0), sI (own_ssz p1), sU, sU, sU] [(.int p2)]
    obtain ⟨_, _, ⟨T102, L102, k102, n102⟩, -, X102, ⟨Lc102, hQ102, l102, y102, z102⟩, st102⟩ := Jvm.LawKit.callS X101 hx (y := (⟨"standwatch/query/ArgumentsNumbersPinLaw", "width", "(I)I"⟩ : MethodName)) hO97 (mvT hZ97 (tw hw 161 rfl)) (mvT hZ97 (tw hw 162 rfl)) (mvT hZ97 (tw hw 163 rfl)) (mvT hZ97 (tw hw 164 rfl)) (by decide) (backOf (W := 0) (own_wi l Z a0 hw [] p2 T97.heap n0 Z97) hZ97 (tw hw 164 rfl) (tw hw 163 rfl) (by decide) (by decide)) (g := (mkF m 63 #[sI p0, sI p1, sI p2, sI p3, sI (3 : Int32), sR b72, sR xs_97, sI (own_ssz p0), sI (own_ssz p1), sU, sU, sU] [(.int p2)])) rfl (by rw [hml]; rfl) (argsL := [(.int p2)]) (rest := []) (lenOf own_pd126 rfl) rfl (by show 2 * 0 + _ ≤ _; exact Nat.le_of_eq rfl) (hb hby at_63) (fun _ _ => ⟨rfl, e101, (by decide : 19 + 0 ≤ _), (by decide : 720 + 0 ≤ _)⟩)
    dsimp only [Pt.U, Pt.locs, Pt.cells, Pt.slots] at X102 l102 y102 z102 st102 hQ102
    subst l102 y102 z102
    obtain ⟨rfl, Nq102, eq102⟩ := hQ102
    have N102 := Fr.app N101 Nq102
    have e102 : T102.heap = T97.heap := eq102
    refine own_go (fun t k => st102 t k) ?_
    show OG m T102 66 #[sI p0, sI p1, sI p2, sI p3, sI (3 : Int32), sR b72, sR xs_97, sI (own_ssz p0), sI (own_ssz p1), sU, sU, sU] [(.int (own_ssz p2))]
    refine og (XS.istore X102.here hx rfl (hb hby at_66) rfl (l' := #[sI p0, sI p1, sI p2, sI p3, sI (3 : Int32), sR b72, sR xs_97, sI (own_ssz p0), sI (own_ssz p1), sI (own_ssz p2), sU, sU]) rfl) ?_
    refine og (XS.iconst X102.here hx rfl (hb hby at_68)) ?_
    show OG m T102 69 #[sI p0, sI p1, sI p2, sI p3, sI (3 : Int32), sR b72, sR xs_97, sI (own_ssz p0), sI (own_ssz p1), sI (own_ssz p2), sU, sU] [(.int (2 : Int32))]
    refine og (XS.istore X102.here hx rfl (hb hby at_69) rfl (l' := #[sI p0, sI p1, sI p2, sI p3, sI (3 : Int32), sR b72, sR xs_97, sI (own_ssz p0), sI (own_ssz p1), sI (own_ssz p2), sI (2 : Int32), sU]) rfl) ?_
    refine og (XS.iload X102.here hx rfl (hb hby at_71) rfl) ?_
    show OG m T102 73 #[sI p0, sI p1, sI p2, sI p3, sI (3 : Int32), sR b72, sR xs_97, sI (own_ssz p0), sI (own_ssz p1), sI (own_ssz p2), sI (2 : Int32), sU] [(.int (3 : Int32))]
    refine og (XS.ifNo X102.here hx rfl (hb hby at_73) rfl ((if0 _ _).trans (tlt (by decide : (0 : Int32) < (3 : Int32))).2.2.2)) ?_
    refine og (XS.iload X102.here hx rfl (hb hby at_76) rfl) ?_
    show OG m T102 78 #[sI p0, sI p1, sI p2, sI p3, sI (3 : Int32), sR b72, sR xs_97, sI (own_ssz p0), sI (own_ssz p1), sI (own_ssz p2), sI (2 : Int32), sU] [(.int (2 : Int32))]
    refine og (XS.iload X102.here hx rfl (hb hby at_78) rfl) ?_
    refine og (XS.iadd X102.here hx rfl (hb hby at_80) rfl) ?_
    show OG m T102 81 #[sI p0, sI p1, sI p2, sI p3, sI (3 : Int32), sR b72, sR xs_97, sI (own_ssz p0), sI (own_ssz p1), sI (own_ssz p2), sI (2 : Int32), sU] [(.int ((2 : Int32) + (own_ssz p0)))]
    refine og (XS.istore X102.here hx rfl (hb hby at_81) rfl (l' := #[sI p0, sI p1, sI p2, sI p3, sI (3 : Int32), sR b72, sR xs_97, sI (own_ssz p0), sI (own_ssz p1), sI (own_ssz p2), sI ((2 : Int32) + (own_ssz p0)), sU]) rfl) ?_
    refine og (XS.iload X102.here hx rfl (hb hby at_83) rfl) ?_
    show OG m T102 85 #[sI p0, sI p1, sI p2, sI p3, sI (3 : Int32), sR b72, sR xs_97, sI (own_ssz p0), sI (own_ssz p1), sI (own_ssz p2), sI ((2 : Int32) + (own_ssz p0)), sU] [(.int (3 : Int32))]
    refine og (XS.iconst X102.here hx rfl (hb hby at_85)) ?_
    show OG m T102 86 #[sI p0, sI p1, sI p2, sI p3, sI (3 : Int32), sR b72, sR xs_97, sI (own_ssz p0), sI (own_ssz p1), sI (own_ssz p2), sI ((2 : Int32) + (own_ssz p0)), sU] [(.int (1 : Int32)), (.int (3 : Int32))]
    refine og (XS.icmpNo X102.here hx rfl (hb hby at_86) rfl (tlt (by decide : (1 : Int32) < (3 : Int32))).2.2.2) ?_
    refine og (XS.iload X102.here hx rfl (hb hby at_89) rfl) ?_
    show OG m T102 91 #[sI p0, sI p1, sI p2, sI p3, sI (3 : Int32), sR b72, sR xs_97, sI (own_ssz p0), sI (own_ssz p1), sI (own_ssz p2), sI ((2 : Int32) + (own_ssz p0)), sU] [(.int ((2 : Int32) + (own_ssz p0)))]
    refine og (XS.iconst X102.here hx rfl (hb hby at_91)) ?_
    refine og (XS.iload X102.here hx rfl (hb hby at_92) rfl) ?_
    show OG m T102 94 #[sI p0, sI p1, sI p2, sI p3, sI (3 : Int32), sR b72, sR xs_97, sI (own_ssz p0), sI (own_ssz p1), sI (own_ssz p2), sI ((2 : Int32) + (own_ssz p0)), sU] [(.int (own_ssz p1)), (.int (1 : Int32)), (.int ((2 : Int32) + (own_ssz p0)))]
    refine og (XS.iadd X102.here hx rfl (hb hby at_94) rfl) ?_
    refine og (XS.iadd X102.here hx rfl (hb hby at_95) rfl) ?_
    show OG m T102 96 #[sI p0, sI p1, sI p2, sI p3, sI (3 : Int32), sR b72, sR xs_97, sI (own_ssz p0), sI (own_ssz p1), sI (own_ssz p2), sI ((2 : Int32) + (own_ssz p0)), sU] [(.int (((2 : Int32) + (own_ssz p0)) + ((1 : Int32) + (own_ssz p1))))]
    refine og (XS.istore X102.here hx rfl (hb hby at_96) rfl (l' := #[sI p0, sI p1, sI p2, sI p3, sI (3 : Int32), sR b72, sR xs_97, sI (own_ssz p0), sI (own_ssz p1), sI (own_ssz p2), sI (((2 : Int32) + (own_ssz p0)) + ((1 : Int32) + (own_ssz p1))), sU]) rfl) ?_
    refine og (XS.iload X102.here hx rfl (hb hby at_98) rfl) ?_
    show OG m T102 100 #[sI p0, sI p1, sI p2, sI p3, sI (3 : Int32), sR b72, sR xs_97, sI (own_ssz p0), sI (own_ssz p1), sI (own_ssz p2), sI (((2 : Int32) + (own_ssz p0)) + ((1 : Int32) + (own_ssz p1))), sU] [(.int (3 : Int32))]
    refine og (XS.iconst X102.here hx rfl (hb hby at_100)) ?_
    show OG m T102 101 #[sI p0, sI p1, sI p2, sI p3, sI (3 : Int32), sR b72, sR xs_97, sI (own_ssz p0), sI (own_ssz p1), sI (own_ssz p2), sI (((2 : Int32) + (own_ssz p0)) + ((1 : Int32) + (own_ssz p1))), sU] [(.int (2 : Int32)), (.int (3 : Int32))]
    refine og (XS.icmpNo X102.here hx rfl (hb hby at_101) rfl (tlt (by decide : (2 : Int32) < (3 : Int32))).2.2.2) ?_
    refine og (XS.iload X102.here hx rfl (hb hby at_104) rfl) ?_
    show OG m T102 106 #[sI p0, sI p1, sI p2, sI p3, sI (3 : Int32), sR b72, sR xs_97, sI (own_ssz p0), sI (own_ssz p1), sI (own_ssz p2), sI (((2 : Int32) + (own_ssz p0)) + ((1 : Int32) + (own_ssz p1))), sU] [(.int (((2 : Int32) + (own_ssz p0)) + ((1 : Int32) + (own_ssz p1))))]
    refine og (XS.iconst X102.here hx rfl (hb hby at_106)) ?_
    refine og (XS.iload X102.here hx rfl (hb hby at_107) rfl) ?_
    show OG m T102 109 #[sI p0, sI p1, sI p2, sI p3, sI (3 : Int32), sR b72, sR xs_97, sI (own_ssz p0), sI (own_ssz p1), sI (own_ssz p2), sI (((2 : Int32) + (own_ssz p0)) + ((1 : Int32) + (own_ssz p1))), sU] [(.int (own_ssz p2)), (.int (1 : Int32)), (.int (((2 : Int32) + (own_ssz p0)) + ((1 : Int32) + (own_ssz p1))))]
    refine og (XS.iadd X102.here hx rfl (hb hby at_109) rfl) ?_
    refine og (XS.iadd X102.here hx rfl (hb hby at_110) rfl) ?_
    show OG m T102 111 #[sI p0, sI p1, sI p2, sI p3, sI (3 : Int32), sR b72, sR xs_97, sI (own_ssz p0), sI (own_ssz p1), sI (own_ssz p2), sI (((2 : Int32) + (own_ssz p0)) + ((1 : Int32) + (own_ssz p1))), sU] [(.int ((((2 : Int32) + (own_ssz p0)) + ((1 : Int32) + (own_ssz p1))) + ((1 : Int32) + (own_ssz p2))))]
    refine og (XS.istore X102.here hx rfl (hb hby at_111) rfl (l' := #[sI p0, sI p1, sI p2, sI p3, sI (3 : Int32), sR b72, sR xs_97, sI (own_ssz p0), sI (own_ssz p1), sI (own_ssz p2), sI ((((2 : Int32) + (own_ssz p0)) + ((1 : Int32) + (own_ssz p1))) + ((1 : Int32) + (own_ssz p2))), sU]) rfl) ?_
    show OG m T102 113 #[sI p0, sI p1, sI p2, sI p3, sI (3 : Int32), sR b72, sR xs_97, sI (own_ssz p0), sI (own_ssz p1), sI (own_ssz p2), sI ((((2 : Int32) + (own_ssz p0)) + ((1 : Int32) + (own_ssz p1))) + ((1 : Int32) + (own_ssz p2))), sU] []
    obtain ⟨ex, h_ex⟩ : ∃ z, z = ((((2 : Int32) + (own_ssz p0)) + ((1 : Int32) + (own_ssz p1))) + ((1 : Int32) + (own_ssz p2))) := ⟨_, rfl⟩
    rw [← h_ex]
    show OG m T102 113 #[sI p0, sI p1, sI p2, sI p3, sI (3 : Int32), sR b72, sR xs_97, sI (own_ssz p0), sI (own_ssz p1), sI (own_ssz p2), sI ex, sU] []
    have hex : ex.toInt = (cs.length : Int) := by rw [h_ex, (own_cnt (own_cnt (own_cnt o2 (own_ssz_len p0) (by omega) (by omega)) (own_cnt o1 (own_ssz_len p1) (by omega) (by omega)) (by omega) (by omega)) (own_cnt o1 (own_ssz_len p2) (by omega) (by omega)) (by omega) (by omega)), hcl]; omega
    refine og (XS.aload X102.here hx rfl (hb hby at_113) rfl rfl) ?_
    show OG m T102 115 #[sI p0, sI p1, sI p2, sI p3, sI (3 : Int32), sR b72, sR xs_97, sI (own_ssz p0), sI (own_ssz p1), sI (own_ssz p2), sI ex, sU] [(.ref xs_97)]
    obtain ⟨cq103, kq103, q103a, q103b, q103c⟩ := isOf hZ97 e102 Fq97_0
    obtain ⟨_, _, ⟨T103, L103, k103, n103⟩, -, X103, ⟨Lc103, hQ103, l103, y103, z103⟩, st103⟩ := X102.virtualBack hx (y := (⟨"java/lang/String", "length", "()I"⟩ : MethodName)) (z := (⟨"java/lang/String", "length", "()I"⟩ : MethodName)) hO97 (mvT hZ97 (tw hw 169 rfl)) (mvT hZ97 (tw hw 69 rfl)) (notFace_of_selects (args := #[]) (mvT hZ97 (tw hw 71 rfl))) (mvT hZ97 (tw hw 71 rfl)) (mvT hZ97 (tw hw 70 rfl)) (by decide) (backOf (W := 0) (own_sle l Z a0 hw [] xs_97 xd_97 xk_97 xl_97 cs i_COMPACT_STRINGS T97.heap n0 Z97 F98 S_COMPACT_STRINGS nz_i_COMPACT_STRINGS Fq97_0 Fq97_1 Fq97_2 F99) hZ97 (tw hw 72 rfl) (tw hw 21 rfl) (by decide) (by decide)) q103a q103c (g := (mkF m 115 #[sI p0, sI p1, sI p2, sI p3, sI (3 : Int32), sR b72, sR xs_97, sI (own_ssz p0), sI (own_ssz p1), sI (own_ssz p2), sI ex, sU] [(.ref xs_97)])) rfl (by rw [hml]; rfl) (Steps.refl _) (argsL := []) (rest := []) (lenOf own_pd252 rfl) rfl (by show 2 * 0 + _ ≤ _; exact Nat.le_of_eq rfl) (hb hby at_115) (fun _ _ => ⟨rfl, e102, (by decide : 19 + 0 ≤ _), (by decide : 720 + 0 ≤ _)⟩)
    dsimp only [Pt.U, Pt.locs, Pt.cells, Pt.slots] at X103 l103 y103 z103 st103 hQ103
    subst l103 y103 z103
    obtain ⟨rfl, Nq103, eq103⟩ := hQ103
    have N103 := Fr.app N102 Nq103
    have e103 : T103.heap = T97.heap := eq103
    refine og (st103.trans) ?_
    show OG m T103 118 #[sI p0, sI p1, sI p2, sI p3, sI (3 : Int32), sR b72, sR xs_97, sI (own_ssz p0), sI (own_ssz p1), sI (own_ssz p2), sI ex, sU] [(.int xl_97)]
    refine og (XS.iload X103.here hx rfl (hb hby at_118) rfl) ?_
    show OG m T103 120 #[sI p0, sI p1, sI p2, sI p3, sI (3 : Int32), sR b72, sR xs_97, sI (own_ssz p0), sI (own_ssz p1), sI (own_ssz p2), sI ex, sU] [(.int ex), (.int xl_97)]
    have hxe : xl_97 = ex := Int32.toInt_inj.mp (by rw [hex, hcs]; exact mq97_hxl)
    refine og (XS.icmpYes X103.here hx rfl (pc0 := 120) (pc' := 125) rfl (hb hby at_120) rfl (teq hxe).1 (by decide) (by decide)) ?_
    show OG m T103 125 #[sI p0, sI p1, sI p2, sI p3, sI (3 : Int32), sR b72, sR xs_97, sI (own_ssz p0), sI (own_ssz p1), sI (own_ssz p2), sI ex, sU] []
    refine og (XS.aload X103.here hx rfl (hb hby at_125) rfl rfl) ?_
    refine og (XS.iconst X103.here hx rfl (hb hby at_127)) ?_
    show OG m T103 128 #[sI p0, sI p1, sI p2, sI p3, sI (3 : Int32), sR b72, sR xs_97, sI (own_ssz p0), sI (own_ssz p1), sI (own_ssz p2), sI ex, sU] [(.int (0 : Int32)), (.ref xs_97)]
    obtain ⟨cq104, kq104, q104a, q104b, q104c⟩ := isOf hZ97 e103 Fq97_0
    obtain ⟨_, _, ⟨T104, L104, k104, n104⟩, -, X104, ⟨Lc104, hQ104, l104, y104, z104⟩, st104⟩ := X103.virtualBack hx (y := (⟨"java/lang/String", "charAt", "(I)C"⟩ : MethodName)) (z := (⟨"java/lang/String", "charAt", "(I)C"⟩ : MethodName)) hO97 (mvT hZ97 (tw hw 170 rfl)) (mvT hZ97 (tw hw 171 rfl)) (notFace_of_selects (args := #[]) (mvT hZ97 (tw hw 173 rfl))) (mvT hZ97 (tw hw 173 rfl)) (mvT hZ97 (tw hw 172 rfl)) (by decide) (backOf (W := 0) (own_ca l Z a0 hw [] xs_97 (0 : Int32) xd_97 xk_97 xl_97 cs (123 : Int32) i_COMPACT_STRINGS v_SIOOBE_FORMATTER T97.heap n0 Z97 F98 S_COMPACT_STRINGS nz_i_COMPACT_STRINGS S_SIOOBE_FORMATTER ir_v_SIOOBE_FORMATTER Fq97_0 Fq97_1 Fq97_2 F99 (own_has_in hh0 hsl rfl) (own_has_at hh0 rfl) own_ok123) hZ97 (tw hw 174 rfl) (tw hw 21 rfl) (by decide) (by decide)) q104a q104c (g := (mkF m 128 #[sI p0, sI p1, sI p2, sI p3, sI (3 : Int32), sR b72, sR xs_97, sI (own_ssz p0), sI (own_ssz p1), sI (own_ssz p2), sI ex, sU] [(.int (0 : Int32)), (.ref xs_97)])) rfl (by rw [hml]; rfl) (Steps.refl _) (argsL := [(.int (0 : Int32))]) (rest := []) (lenOf own_pd660 rfl) rfl (by show 2 * 0 + _ ≤ _; exact Nat.le_of_eq rfl) (hb hby at_128) (fun _ _ => ⟨rfl, e103, (by decide : 19 + 0 ≤ _), (by decide : 720 + 0 ≤ _)⟩)
    dsimp only [Pt.U, Pt.locs, Pt.cells, Pt.slots] at X104 l104 y104 z104 st104 hQ104
    subst l104 y104 z104
    obtain ⟨rfl, Nq104, eq104⟩ := hQ104
    have N104 := Fr.app N103 Nq104
    have e104 : T104.heap = T97.heap := eq104
    refine og (st104.trans) ?_
    show OG m T104 131 #[sI p0, sI p1, sI p2, sI p3, sI (3 : Int32), sR b72, sR xs_97, sI (own_ssz p0), sI (own_ssz p1), sI (own_ssz p2), sI ex, sU] [(.int (123 : Int32))]
    refine og (XS.bipush X104.here hx rfl (hb hby at_131)) ?_
    show OG m T104 133 #[sI p0, sI p1, sI p2, sI p3, sI (3 : Int32), sR b72, sR xs_97, sI (own_ssz p0), sI (own_ssz p1), sI (own_ssz p2), sI ex, sU] [(.int (123 : Int32)), (.int (123 : Int32))]
    refine og (XS.icmpNo X104.here hx rfl (hb hby at_133) rfl (teq (by decide : (123 : Int32) = (123 : Int32))).2) ?_
    refine og (XS.aload X104.here hx rfl (hb hby at_136) rfl rfl) ?_
    show OG m T104 138 #[sI p0, sI p1, sI p2, sI p3, sI (3 : Int32), sR b72, sR xs_97, sI (own_ssz p0), sI (own_ssz p1), sI (own_ssz p2), sI ex, sU] [(.ref xs_97)]
    refine og (XS.iload X104.here hx rfl (hb hby at_138) rfl) ?_
    refine og (XS.iconst X104.here hx rfl (hb hby at_140)) ?_
    show OG m T104 141 #[sI p0, sI p1, sI p2, sI p3, sI (3 : Int32), sR b72, sR xs_97, sI (own_ssz p0), sI (own_ssz p1), sI (own_ssz p2), sI ex, sU] [(.int (1 : Int32)), (.int ex), (.ref xs_97)]
    refine og (XS.isub X104.here hx rfl (hb hby at_141) rfl) ?_
    show OG m T104 142 #[sI p0, sI p1, sI p2, sI p3, sI (3 : Int32), sR b72, sR xs_97, sI (own_ssz p0), sI (own_ssz p1), sI (own_ssz p2), sI ex, sU] [(.int (ex - (1 : Int32))), (.ref xs_97)]
    obtain ⟨e1, h_e1⟩ : ∃ z, z = (ex - (1 : Int32)) := ⟨_, rfl⟩
    rw [← h_e1]
    show OG m T104 142 #[sI p0, sI p1, sI p2, sI p3, sI (3 : Int32), sR b72, sR xs_97, sI (own_ssz p0), sI (own_ssz p1), sI (own_ssz p2), sI ex, sU] [(.int e1), (.ref xs_97)]
    have he1 : e1.toInt = (((1 + (own_txt p0).length + 1 + (own_txt p1).length + 1 + (own_txt p2).length) : Nat) : Int) := by rw [h_e1]; have a := c_isub ex 1; have r := rng32 (ex - 1); rw [hex, hcl] at a; have o : (1 : Int32).toInt = 1 := rfl; omega
    obtain ⟨cq105, kq105, q105a, q105b, q105c⟩ := isOf hZ97 e104 Fq97_0
    obtain ⟨_, _, ⟨T105, L105, k105, n105⟩, -, X105, ⟨Lc105, hQ105, l105, y105, z105⟩, st105⟩ := X104.virtualBack hx (y := (⟨"java/lang/String", "charAt", "(I)C"⟩ : MethodName)) (z := (⟨"java/lang/String", "charAt", "(I)C"⟩ : MethodName)) hO97 (mvT hZ97 (tw hw 170 rfl)) (mvT hZ97 (tw hw 171 rfl)) (notFace_of_selects (args := #[]) (mvT hZ97 (tw hw 173 rfl))) (mvT hZ97 (tw hw 173 rfl)) (mvT hZ97 (tw hw 172 rfl)) (by decide) (backOf (W := 0) (own_ca l Z a0 hw [] xs_97 e1 xd_97 xk_97 xl_97 cs (125 : Int32) i_COMPACT_STRINGS v_SIOOBE_FORMATTER T97.heap n0 Z97 F98 S_COMPACT_STRINGS nz_i_COMPACT_STRINGS S_SIOOBE_FORMATTER ir_v_SIOOBE_FORMATTER Fq97_0 Fq97_1 Fq97_2 F99 (own_has_in hh6 hsl he1) (own_has_at hh6 he1) own_ok125) hZ97 (tw hw 174 rfl) (tw hw 21 rfl) (by decide) (by decide)) q105a q105c (g := (mkF m 142 #[sI p0, sI p1, sI p2, sI p3, sI (3 : Int32), sR b72, sR xs_97, sI (own_ssz p0), sI (own_ssz p1), sI (own_ssz p2), sI ex, sU] [(.int e1), (.ref xs_97)])) rfl (by rw [hml]; rfl) (Steps.refl _) (argsL := [(.int e1)]) (rest := []) (lenOf own_pd660 rfl) rfl (by show 2 * 0 + _ ≤ _; exact Nat.le_of_eq rfl) (hb hby at_142) (fun _ _ => ⟨rfl, e104, (by decide : 19 + 0 ≤ _), (by decide : 720 + 0 ≤ _)⟩)
    dsimp only [Pt.U, Pt.locs, Pt.cells, Pt.slots] at X105 l105 y105 z105 st105 hQ105
    subst l105 y105 z105
    obtain ⟨rfl, Nq105, eq105⟩ := hQ105
    have N105 := Fr.app N104 Nq105
    have e105 : T105.heap = T97.heap := eq105
    refine og (st105.trans) ?_
    show OG m T105 145 #[sI p0, sI p1, sI p2, sI p3, sI (3 : Int32), sR b72, sR xs_97, sI (own_ssz p0), sI (own_ssz p1), sI (own_ssz p2), sI ex, sU] [(.int (125 : Int32))]
    refine og (XS.bipush X105.here hx rfl (hb hby at_145)) ?_
    show OG m T105 147 #[sI p0, sI p1, sI p2, sI p3, sI (3 : Int32), sR b72, sR xs_97, sI (own_ssz p0), sI (own_ssz p1), sI (own_ssz p2), sI ex, sU] [(.int (125 : Int32)), (.int (125 : Int32))]
    refine og (XS.icmpYes X105.here hx rfl (pc0 := 147) (pc' := 152) rfl (hb hby at_147) rfl (teq (by decide : (125 : Int32) = (125 : Int32))).1 (by decide) (by decide)) ?_
    refine og (XS.iconst X105.here hx rfl (hb hby at_152)) ?_
    show OG m T105 153 #[sI p0, sI p1, sI p2, sI p3, sI (3 : Int32), sR b72, sR xs_97, sI (own_ssz p0), sI (own_ssz p1), sI (own_ssz p2), sI ex, sU] [(.int (1 : Int32))]
    refine og (XS.istore X105.here hx rfl (hb hby at_153) rfl (l' := #[sI p0, sI p1, sI p2, sI p3, sI (3 : Int32), sR b72, sR xs_97, sI (own_ssz p0), sI (own_ssz p1), sI (own_ssz p2), sI ex, sI (1 : Int32)]) rfl) ?_
    refine og (XS.iload X105.here hx rfl (hb hby at_155) rfl) ?_
    show OG m T105 157 #[sI p0, sI p1, sI p2, sI p3, sI (3 : Int32), sR b72, sR xs_97, sI (own_ssz p0), sI (own_ssz p1), sI (own_ssz p2), sI ex, sI (1 : Int32)] [(.int (3 : Int32))]
    refine og (XS.ifNo X105.here hx rfl (hb hby at_157) rfl ((if0 _ _).trans (tlt (by decide : (0 : Int32) < (3 : Int32))).2.2.2)) ?_
    refine og (XS.aload X105.here hx rfl (hb hby at_160) rfl rfl) ?_
    show OG m T105 162 #[sI p0, sI p1, sI p2, sI p3, sI (3 : Int32), sR b72, sR xs_97, sI (own_ssz p0), sI (own_ssz p1), sI (own_ssz p2), sI ex, sI (1 : Int32)] [(.ref xs_97)]
    refine og (XS.iload X105.here hx rfl (hb hby at_162) rfl) ?_
    refine og (XS.iloadN X105.here hx rfl (hb hby at_164) rfl) ?_
    show OG m T105 165 #[sI p0, sI p1, sI p2, sI p3, sI (3 : Int32), sR b72, sR xs_97, sI (own_ssz p0), sI (own_ssz p1), sI (own_ssz p2), sI ex, sI (1 : Int32)] [(.int p0), (.int (1 : Int32)), (.ref xs_97)]
    obtain ⟨_, _, ⟨T106, L106, k106, n106⟩, -, X106, ⟨Lc106, hQ106, l106, y106, z106⟩, st106⟩ := Jvm.LawKit.callS X105 hx (y := (⟨"standwatch/query/ArgumentsNumbersPinLaw", "number", "(Ljava/lang/String;II)Z"⟩ : MethodName)) hO97 (mvT hZ97 (tw hw 191 rfl)) (mvT hZ97 (tw hw 192 rfl)) (mvT hZ97 (tw hw 163 rfl)) (mvT hZ97 (tw hw 193 rfl)) (by decide) (backOf (W := 0) (own_nu l Z a0 hw [] xs_97 (1 : Int32) p0 xd_97 xk_97 xl_97 cs (1) i_COMPACT_STRINGS v_SIOOBE_FORMATTER T97.heap n0 Z97 F98 S_COMPACT_STRINGS nz_i_COMPACT_STRINGS S_SIOOBE_FORMATTER ir_v_SIOOBE_FORMATTER Fq97_0 Fq97_1 Fq97_2 F99 hsl hcl2 o1n (own_has_len hh1) (own_has_sub hh1)) hZ97 (tw hw 193 rfl) (tw hw 163 rfl) (by decide) (by decide)) (g := (mkF m 165 #[sI p0, sI p1, sI p2, sI p3, sI (3 : Int32), sR b72, sR xs_97, sI (own_ssz p0), sI (own_ssz p1), sI (own_ssz p2), sI ex, sI (1 : Int32)] [(.int p0), (.int (1 : Int32)), (.ref xs_97)])) rfl (by rw [hml]; rfl) (argsL := [(.ref xs_97), (.int (1 : Int32)), (.int p0)]) (rest := []) (lenOf own_pd830 rfl) rfl (by show 2 * 0 + _ ≤ _; exact Nat.le_of_eq rfl) (hb hby at_165) (fun _ _ => ⟨rfl, e105, (by decide : 19 + 0 ≤ _), (by decide : 720 + 0 ≤ _)⟩)
    dsimp only [Pt.U, Pt.locs, Pt.cells, Pt.slots] at X106 l106 y106 z106 st106 hQ106
    subst l106 y106 z106
    obtain ⟨rfl, Nq106, eq106⟩ := hQ106
    have N106 := Fr.app N105 Nq106
    have e106 : T106.heap = T97.heap := eq106
    refine own_go (fun t k => st106 t k) ?_
    show OG m T106 168 #[sI p0, sI p1, sI p2, sI p3, sI (3 : Int32), sR b72, sR xs_97, sI (own_ssz p0), sI (own_ssz p1), sI (own_ssz p2), sI ex, sI (1 : Int32)] [(.int (1 : Int32))]
    refine og (XS.ifYes X106.here hx rfl (pc0 := 168) (pc' := 173) rfl (hb hby at_168) rfl ((if0 _ _).trans (feq (by decide : ¬ ((1 : Int32) = (0 : Int32)))).2) (by decide) (by decide)) ?_
    show OG m T106 173 #[sI p0, sI p1, sI p2, sI p3, sI (3 : Int32), sR b72, sR xs_97, sI (own_ssz p0), sI (own_ssz p1), sI (own_ssz p2), sI ex, sI (1 : Int32)] []
    refine og (XS.iload X106.here hx rfl (hb hby at_173) rfl) ?_
    show OG m T106 175 #[sI p0, sI p1, sI p2, sI p3, sI (3 : Int32), sR b72, sR xs_97, sI (own_ssz p0), sI (own_ssz p1), sI (own_ssz p2), sI ex, sI (1 : Int32)] [(.int (1 : Int32))]
    refine og (XS.iload X106.here hx rfl (hb hby at_175) rfl) ?_
    show OG m T106 177 #[sI p0, sI p1, sI p2, sI p3, sI (3 : Int32), sR b72, sR xs_97, sI (own_ssz p0), sI (own_ssz p1), sI (own_ssz p2), sI ex, sI (1 : Int32)] [(.int (own_ssz p0)), (.int (1 : Int32))]
    refine og (XS.iadd X106.here hx rfl (hb hby at_177) rfl) ?_
    show OG m T106 178 #[sI p0, sI p1, sI p2, sI p3, sI (3 : Int32), sR b72, sR xs_97, sI (own_ssz p0), sI (own_ssz p1), sI (own_ssz p2), sI ex, sI (1 : Int32)] [(.int ((1 : Int32) + (own_ssz p0)))]
    refine og (XS.istore X106.here hx rfl (hb hby at_178) rfl (l' := #[sI p0, sI p1, sI p2, sI p3, sI (3 : Int32), sR b72, sR xs_97, sI (own_ssz p0), sI (own_ssz p1), sI (own_ssz p2), sI ex, sI ((1 : Int32) + (own_ssz p0))]) rfl) ?_
    show OG m T106 180 #[sI p0, sI p1, sI p2, sI p3, sI (3 : Int32), sR b72, sR xs_97, sI (own_ssz p0), sI (own_ssz p1), sI (own_ssz p2), sI ex, sI ((1 : Int32) + (own_ssz p0))] []
    obtain ⟨q0, h_q0⟩ : ∃ z, z = ((1 : Int32) + (own_ssz p0)) := ⟨_, rfl⟩
    rw [← h_q0]
    show OG m T106 180 #[sI p0, sI p1, sI p2, sI p3, sI (3 : Int32), sR b72, sR xs_97, sI (own_ssz p0), sI (own_ssz p1), sI (own_ssz p2), sI ex, sI q0] []
    have hq0 : q0.toInt = (((1 + (own_txt p0).length) : Nat) : Int) := by rw [h_q0, own_cnt o1n (own_ssz_len p0) (by omega) (by omega)]; omega
    refine og (XS.iload X106.here hx rfl (hb hby at_180) rfl) ?_
    refine og (XS.iconst X106.here hx rfl (hb hby at_182)) ?_
    show OG m T106 183 #[sI p0, sI p1, sI p2, sI p3, sI (3 : Int32), sR b72, sR xs_97, sI (own_ssz p0), sI (own_ssz p1), sI (own_ssz p2), sI ex, sI q0] [(.int (1 : Int32)), (.int (3 : Int32))]
    refine og (XS.icmpNo X106.here hx rfl (hb hby at_183) rfl (tlt (by decide : (1 : Int32) < (3 : Int32))).2.2.2) ?_
    refine og (XS.aload X106.here hx rfl (hb hby at_186) rfl rfl) ?_
    show OG m T106 188 #[sI p0, sI p1, sI p2, sI p3, sI (3 : Int32), sR b72, sR xs_97, sI (own_ssz p0), sI (own_ssz p1), sI (own_ssz p2), sI ex, sI q0] [(.ref xs_97)]
    refine og (XS.iload X106.here hx rfl (hb hby at_188) rfl) ?_
    show OG m T106 190 #[sI p0, sI p1, sI p2, sI p3, sI (3 : Int32), sR b72, sR xs_97, sI (own_ssz p0), sI (own_ssz p1), sI (own_ssz p2), sI ex, sI q0] [(.int q0), (.ref xs_97)]
    obtain ⟨cq107, kq107, q107a, q107b, q107c⟩ := isOf hZ97 e106 Fq97_0
    obtain ⟨_, _, ⟨T107, L107, k107, n107⟩, -, X107, ⟨Lc107, hQ107, l107, y107, z107⟩, st107⟩ := X106.virtualBack hx (y := (⟨"java/lang/String", "charAt", "(I)C"⟩ : MethodName)) (z := (⟨"java/lang/String", "charAt", "(I)C"⟩ : MethodName)) hO97 (mvT hZ97 (tw hw 170 rfl)) (mvT hZ97 (tw hw 171 rfl)) (notFace_of_selects (args := #[]) (mvT hZ97 (tw hw 173 rfl))) (mvT hZ97 (tw hw 173 rfl)) (mvT hZ97 (tw hw 172 rfl)) (by decide) (backOf (W := 0) (own_ca l Z a0 hw [] xs_97 q0 xd_97 xk_97 xl_97 cs (44 : Int32) i_COMPACT_STRINGS v_SIOOBE_FORMATTER T97.heap n0 Z97 F98 S_COMPACT_STRINGS nz_i_COMPACT_STRINGS S_SIOOBE_FORMATTER ir_v_SIOOBE_FORMATTER Fq97_0 Fq97_1 Fq97_2 F99 (own_has_in hh2 hsl hq0) (own_has_at hh2 hq0) own_ok44) hZ97 (tw hw 174 rfl) (tw hw 21 rfl) (by decide) (by decide)) q107a q107c (g := (mkF m 190 #[sI p0, sI p1, sI p2, sI p3, sI (3 : Int32), sR b72, sR xs_97, sI (own_ssz p0), sI (own_ssz p1), sI (own_ssz p2), sI ex, sI q0] [(.int q0), (.ref xs_97)])) rfl (by rw [hml]; rfl) (Steps.refl _) (argsL := [(.int q0)]) (rest := []) (lenOf own_pd660 rfl) rfl (by show 2 * 0 + _ ≤ _; exact Nat.le_of_eq rfl) (hb hby at_190) (fun _ _ => ⟨rfl, e106, (by decide : 19 + 0 ≤ _), (by decide : 720 + 0 ≤ _)⟩)
    dsimp only [Pt.U, Pt.locs, Pt.cells, Pt.slots] at X107 l107 y107 z107 st107 hQ107
    subst l107 y107 z107
    obtain ⟨rfl, Nq107, eq107⟩ := hQ107
    have N107 := Fr.app N106 Nq107
    have e107 : T107.heap = T97.heap := eq107
    refine og (st107.trans) ?_
    show OG m T107 193 #[sI p0, sI p1, sI p2, sI p3, sI (3 : Int32), sR b72, sR xs_97, sI (own_ssz p0), sI (own_ssz p1), sI (own_ssz p2), sI ex, sI q0] [(.int (44 : Int32))]
    refine og (XS.bipush X107.here hx rfl (hb hby at_193)) ?_
    show OG m T107 195 #[sI p0, sI p1, sI p2, sI p3, sI (3 : Int32), sR b72, sR xs_97, sI (own_ssz p0), sI (own_ssz p1), sI (own_ssz p2), sI ex, sI q0] [(.int (44 : Int32)), (.int (44 : Int32))]
    refine og (XS.icmpYes X107.here hx rfl (pc0 := 195) (pc' := 200) rfl (hb hby at_195) rfl (teq (by decide : (44 : Int32) = (44 : Int32))).1 (by decide) (by decide)) ?_
    show OG m T107 200 #[sI p0, sI p1, sI p2, sI p3, sI (3 : Int32), sR b72, sR xs_97, sI (own_ssz p0), sI (own_ssz p1), sI (own_ssz p2), sI ex, sI q0] []
    refine og (XS.iinc X107.here hx rfl (hb hby at_200) rfl (l' := #[sI p0, sI p1, sI p2, sI p3, sI (3 : Int32), sR b72, sR xs_97, sI (own_ssz p0), sI (own_ssz p1), sI (own_ssz p2), sI ex, sI (q0 + (1 : Int32))]) rfl) ?_
    show OG m T107 203 #[sI p0, sI p1, sI p2, sI p3, sI (3 : Int32), sR b72, sR xs_97, sI (own_ssz p0), sI (own_ssz p1), sI (own_ssz p2), sI ex, sI (q0 + (1 : Int32))] []
    obtain ⟨r1, h_r1⟩ : ∃ z, z = (q0 + (1 : Int32)) := ⟨_, rfl⟩
    rw [← h_r1]
    show OG m T107 203 #[sI p0, sI p1, sI p2, sI p3, sI (3 : Int32), sR b72, sR xs_97, sI (own_ssz p0), sI (own_ssz p1), sI (own_ssz p2), sI ex, sI r1] []
    have hr1 : r1.toInt = (((1 + (own_txt p0).length + 1) : Nat) : Int) := by rw [h_r1, own_cnt (j := 1) hq0 rfl (by omega) (by omega)]; omega
    refine og (XS.aload X107.here hx rfl (hb hby at_203) rfl rfl) ?_
    refine og (XS.iload X107.here hx rfl (hb hby at_205) rfl) ?_
    show OG m T107 207 #[sI p0, sI p1, sI p2, sI p3, sI (3 : Int32), sR b72, sR xs_97, sI (own_ssz p0), sI (own_ssz p1), sI (own_ssz p2), sI ex, sI r1] [(.int r1), (.ref xs_97)]
    refine og (XS.iloadN X107.here hx rfl (hb hby at_207) rfl) ?_
    show OG m T107 208 #[sI p0, sI p1, sI p2, sI p3, sI (3 : Int32), sR b72, sR xs_97, sI (own_ssz p0), sI (own_ssz p1), sI (own_ssz p2), sI ex, sI r1] [(.int p1), (.int r1), (.ref xs_97)]
    obtain ⟨_, _, ⟨T108, L108, k108, n108⟩, -, X108, ⟨Lc108, hQ108, l108, y108, z108⟩, st108⟩ := Jvm.LawKit.callS X107 hx (y := (⟨"standwatch/query/ArgumentsNumbersPinLaw", "number", "(Ljava/lang/String;II)Z"⟩ : MethodName)) hO97 (mvT hZ97 (tw hw 191 rfl)) (mvT hZ97 (tw hw 192 rfl)) (mvT hZ97 (tw hw 163 rfl)) (mvT hZ97 (tw hw 193 rfl)) (by decide) (backOf (W := 0) (own_nu l Z a0 hw [] xs_97 r1 p1 xd_97 xk_97 xl_97 cs (1 + (own_txt p0).length + 1) i_COMPACT_STRINGS v_SIOOBE_FORMATTER T97.heap n0 Z97 F98 S_COMPACT_STRINGS nz_i_COMPACT_STRINGS S_SIOOBE_FORMATTER ir_v_SIOOBE_FORMATTER Fq97_0 Fq97_1 Fq97_2 F99 hsl hcl2 hr1 (own_has_len hh3) (own_has_sub hh3)) hZ97 (tw hw 193 rfl) (tw hw 163 rfl) (by decide) (by decide)) (g := (mkF m 208 #[sI p0, sI p1, sI p2, sI p3, sI (3 : Int32), sR b72, sR xs_97, sI (own_ssz p0), sI (own_ssz p1), sI (own_ssz p2), sI ex, sI r1] [(.int p1), (.int r1), (.ref xs_97)])) rfl (by rw [hml]; rfl) (argsL := [(.ref xs_97), (.int r1), (.int p1)]) (rest := []) (lenOf own_pd830 rfl) rfl (by show 2 * 0 + _ ≤ _; exact Nat.le_of_eq rfl) (hb hby at_208) (fun _ _ => ⟨rfl, e107, (by decide : 19 + 0 ≤ _), (by decide : 720 + 0 ≤ _)⟩)
    dsimp only [Pt.U, Pt.locs, Pt.cells, Pt.slots] at X108 l108 y108 z108 st108 hQ108
    subst l108 y108 z108
    obtain ⟨rfl, Nq108, eq108⟩ := hQ108
    have N108 := Fr.app N107 Nq108
    have e108 : T108.heap = T97.heap := eq108
    refine own_go (fun t k => st108 t k) ?_
    show OG m T108 211 #[sI p0, sI p1, sI p2, sI p3, sI (3 : Int32), sR b72, sR xs_97, sI (own_ssz p0), sI (own_ssz p1), sI (own_ssz p2), sI ex, sI r1] [(.int (1 : Int32))]
    refine og (XS.ifYes X108.here hx rfl (pc0 := 211) (pc' := 216) rfl (hb hby at_211) rfl ((if0 _ _).trans (feq (by decide : ¬ ((1 : Int32) = (0 : Int32)))).2) (by decide) (by decide)) ?_
    show OG m T108 216 #[sI p0, sI p1, sI p2, sI p3, sI (3 : Int32), sR b72, sR xs_97, sI (own_ssz p0), sI (own_ssz p1), sI (own_ssz p2), sI ex, sI r1] []
    refine og (XS.iload X108.here hx rfl (hb hby at_216) rfl) ?_
    show OG m T108 218 #[sI p0, sI p1, sI p2, sI p3, sI (3 : Int32), sR b72, sR xs_97, sI (own_ssz p0), sI (own_ssz p1), sI (own_ssz p2), sI ex, sI r1] [(.int r1)]
    refine og (XS.iload X108.here hx rfl (hb hby at_218) rfl) ?_
    show OG m T108 220 #[sI p0, sI p1, sI p2, sI p3, sI (3 : Int32), sR b72, sR xs_97, sI (own_ssz p0), sI (own_ssz p1), sI (own_ssz p2), sI ex, sI r1] [(.int (own_ssz p1)), (.int r1)]
    refine og (XS.iadd X108.here hx rfl (hb hby at_220) rfl) ?_
    show OG m T108 221 #[sI p0, sI p1, sI p2, sI p3, sI (3 : Int32), sR b72, sR xs_97, sI (own_ssz p0), sI (own_ssz p1), sI (own_ssz p2), sI ex, sI r1] [(.int (r1 + (own_ssz p1)))]
    refine og (XS.istore X108.here hx rfl (hb hby at_221) rfl (l' := #[sI p0, sI p1, sI p2, sI p3, sI (3 : Int32), sR b72, sR xs_97, sI (own_ssz p0), sI (own_ssz p1), sI (own_ssz p2), sI ex, sI (r1 + (own_ssz p1))]) rfl) ?_
    show OG m T108 223 #[sI p0, sI p1, sI p2, sI p3, sI (3 : Int32), sR b72, sR xs_97, sI (own_ssz p0), sI (own_ssz p1), sI (own_ssz p2), sI ex, sI (r1 + (own_ssz p1))] []
    obtain ⟨q1, h_q1⟩ : ∃ z, z = (r1 + (own_ssz p1)) := ⟨_, rfl⟩
    rw [← h_q1]
    show OG m T108 223 #[sI p0, sI p1, sI p2, sI p3, sI (3 : Int32), sR b72, sR xs_97, sI (own_ssz p0), sI (own_ssz p1), sI (own_ssz p2), sI ex, sI q1] []
    have hq1 : q1.toInt = (((1 + (own_txt p0).length + 1 + (own_txt p1).length) : Nat) : Int) := by rw [h_q1, own_cnt hr1 (own_ssz_len p1) (by omega) (by omega)]; omega
    refine og (XS.iload X108.here hx rfl (hb hby at_223) rfl) ?_
    refine og (XS.iconst X108.here hx rfl (hb hby at_225)) ?_
    show OG m T108 226 #[sI p0, sI p1, sI p2, sI p3, sI (3 : Int32), sR b72, sR xs_97, sI (own_ssz p0), sI (own_ssz p1), sI (own_ssz p2), sI ex, sI q1] [(.int (2 : Int32)), (.int (3 : Int32))]
    refine og (XS.icmpNo X108.here hx rfl (hb hby at_226) rfl (tlt (by decide : (2 : Int32) < (3 : Int32))).2.2.2) ?_
    refine og (XS.aload X108.here hx rfl (hb hby at_229) rfl rfl) ?_
    show OG m T108 231 #[sI p0, sI p1, sI p2, sI p3, sI (3 : Int32), sR b72, sR xs_97, sI (own_ssz p0), sI (own_ssz p1), sI (own_ssz p2), sI ex, sI q1] [(.ref xs_97)]
    refine og (XS.iload X108.here hx rfl (hb hby at_231) rfl) ?_
    show OG m T108 233 #[sI p0, sI p1, sI p2, sI p3, sI (3 : Int32), sR b72, sR xs_97, sI (own_ssz p0), sI (own_ssz p1), sI (own_ssz p2), sI ex, sI q1] [(.int q1), (.ref xs_97)]
    obtain ⟨cq109, kq109, q109a, q109b, q109c⟩ := isOf hZ97 e108 Fq97_0
    obtain ⟨_, _, ⟨T109, L109, k109, n109⟩, -, X109, ⟨Lc109, hQ109, l109, y109, z109⟩, st109⟩ := X108.virtualBack hx (y := (⟨"java/lang/String", "charAt", "(I)C"⟩ : MethodName)) (z := (⟨"java/lang/String", "charAt", "(I)C"⟩ : MethodName)) hO97 (mvT hZ97 (tw hw 170 rfl)) (mvT hZ97 (tw hw 171 rfl)) (notFace_of_selects (args := #[]) (mvT hZ97 (tw hw 173 rfl))) (mvT hZ97 (tw hw 173 rfl)) (mvT hZ97 (tw hw 172 rfl)) (by decide) (backOf (W := 0) (own_ca l Z a0 hw [] xs_97 q1 xd_97 xk_97 xl_97 cs (44 : Int32) i_COMPACT_STRINGS v_SIOOBE_FORMATTER T97.heap n0 Z97 F98 S_COMPACT_STRINGS nz_i_COMPACT_STRINGS S_SIOOBE_FORMATTER ir_v_SIOOBE_FORMATTER Fq97_0 Fq97_1 Fq97_2 F99 (own_has_in hh4 hsl hq1) (own_has_at hh4 hq1) own_ok44) hZ97 (tw hw 174 rfl) (tw hw 21 rfl) (by decide) (by decide)) q109a q109c (g := (mkF m 233 #[sI p0, sI p1, sI p2, sI p3, sI (3 : Int32), sR b72, sR xs_97, sI (own_ssz p0), sI (own_ssz p1), sI (own_ssz p2), sI ex, sI q1] [(.int q1), (.ref xs_97)])) rfl (by rw [hml]; rfl) (Steps.refl _) (argsL := [(.int q1)]) (rest := []) (lenOf own_pd660 rfl) rfl (by show 2 * 0 + _ ≤ _; exact Nat.le_of_eq rfl) (hb hby at_233) (fun _ _ => ⟨rfl, e108, (by decide : 19 + 0 ≤ _), (by decide : 720 + 0 ≤ _)⟩)
    dsimp only [Pt.U, Pt.locs, Pt.cells, Pt.slots] at X109 l109 y109 z109 st109 hQ109
    subst l109 y109 z109
    obtain ⟨rfl, Nq109, eq109⟩ := hQ109
    have N109 := Fr.app N108 Nq109
    have e109 : T109.heap = T97.heap := eq109
    refine og (st109.trans) ?_
    show OG m T109 236 #[sI p0, sI p1, sI p2, sI p3, sI (3 : Int32), sR b72, sR xs_97, sI (own_ssz p0), sI (own_ssz p1), sI (own_ssz p2), sI ex, sI q1] [(.int (44 : Int32))]
    refine og (XS.bipush X109.here hx rfl (hb hby at_236)) ?_
    show OG m T109 238 #[sI p0, sI p1, sI p2, sI p3, sI (3 : Int32), sR b72, sR xs_97, sI (own_ssz p0), sI (own_ssz p1), sI (own_ssz p2), sI ex, sI q1] [(.int (44 : Int32)), (.int (44 : Int32))]
    refine og (XS.icmpYes X109.here hx rfl (pc0 := 238) (pc' := 243) rfl (hb hby at_238) rfl (teq (by decide : (44 : Int32) = (44 : Int32))).1 (by decide) (by decide)) ?_
    show OG m T109 243 #[sI p0, sI p1, sI p2, sI p3, sI (3 : Int32), sR b72, sR xs_97, sI (own_ssz p0), sI (own_ssz p1), sI (own_ssz p2), sI ex, sI q1] []
    refine og (XS.iinc X109.here hx rfl (hb hby at_243) rfl (l' := #[sI p0, sI p1, sI p2, sI p3, sI (3 : Int32), sR b72, sR xs_97, sI (own_ssz p0), sI (own_ssz p1), sI (own_ssz p2), sI ex, sI (q1 + (1 : Int32))]) rfl) ?_
    show OG m T109 246 #[sI p0, sI p1, sI p2, sI p3, sI (3 : Int32), sR b72, sR xs_97, sI (own_ssz p0), sI (own_ssz p1), sI (own_ssz p2), sI ex, sI (q1 + (1 : Int32))] []
    obtain ⟨r2, h_r2⟩ : ∃ z, z = (q1 + (1 : Int32)) := ⟨_, rfl⟩
    rw [← h_r2]
    show OG m T109 246 #[sI p0, sI p1, sI p2, sI p3, sI (3 : Int32), sR b72, sR xs_97, sI (own_ssz p0), sI (own_ssz p1), sI (own_ssz p2), sI ex, sI r2] []
    have hr2 : r2.toInt = (((1 + (own_txt p0).length + 1 + (own_txt p1).length + 1) : Nat) : Int) := by rw [h_r2, own_cnt (j := 1) hq1 rfl (by omega) (by omega)]; omega
    refine og (XS.aload X109.here hx rfl (hb hby at_246) rfl rfl) ?_
    refine og (XS.iload X109.here hx rfl (hb hby at_248) rfl) ?_
    show OG m T109 250 #[sI p0, sI p1, sI p2, sI p3, sI (3 : Int32), sR b72, sR xs_97, sI (own_ssz p0), sI (own_ssz p1), sI (own_ssz p2), sI ex, sI r2] [(.int r2), (.ref xs_97)]
    refine og (XS.iloadN X109.here hx rfl (hb hby at_250) rfl) ?_
    show OG m T109 251 #[sI p0, sI p1, sI p2, sI p3, sI (3 : Int32), sR b72, sR xs_97, sI (own_ssz p0), sI (own_ssz p1), sI (own_ssz p2), sI ex, sI r2] [(.int p2), (.int r2), (.ref xs_97)]
    obtain ⟨_, _, ⟨T110, L110, k110, n110⟩, -, X110, ⟨Lc110, hQ110, l110, y110, z110⟩, st110⟩ := Jvm.LawKit.callS X109 hx (y := (⟨"standwatch/query/ArgumentsNumbersPinLaw", "number", "(Ljava/lang/String;II)Z"⟩ : MethodName)) hO97 (mvT hZ97 (tw hw 191 rfl)) (mvT hZ97 (tw hw 192 rfl)) (mvT hZ97 (tw hw 163 rfl)) (mvT hZ97 (tw hw 193 rfl)) (by decide) (backOf (W := 0) (own_nu l Z a0 hw [] xs_97 r2 p2 xd_97 xk_97 xl_97 cs (1 + (own_txt p0).length + 1 + (own_txt p1).length + 1) i_COMPACT_STRINGS v_SIOOBE_FORMATTER T97.heap n0 Z97 F98 S_COMPACT_STRINGS nz_i_COMPACT_STRINGS S_SIOOBE_FORMATTER ir_v_SIOOBE_FORMATTER Fq97_0 Fq97_1 Fq97_2 F99 hsl hcl2 hr2 (own_has_len hh5) (own_has_sub hh5)) hZ97 (tw hw 193 rfl) (tw hw 163 rfl) (by decide) (by decide)) (g := (mkF m 251 #[sI p0, sI p1, sI p2, sI p3, sI (3 : Int32), sR b72, sR xs_97, sI (own_ssz p0), sI (own_ssz p1), sI (own_ssz p2), sI ex, sI r2] [(.int p2), (.int r2), (.ref xs_97)])) rfl (by rw [hml]; rfl) (argsL := [(.ref xs_97), (.int r2), (.int p2)]) (rest := []) (lenOf own_pd830 rfl) rfl (by show 2 * 0 + _ ≤ _; exact Nat.le_of_eq rfl) (hb hby at_251) (fun _ _ => ⟨rfl, e109, (by decide : 19 + 0 ≤ _), (by decide : 720 + 0 ≤ _)⟩)
    dsimp only [Pt.U, Pt.locs, Pt.cells, Pt.slots] at X110 l110 y110 z110 st110 hQ110
    subst l110 y110 z110
    obtain ⟨rfl, Nq110, eq110⟩ := hQ110
    have N110 := Fr.app N109 Nq110
    have e110 : T110.heap = T97.heap := eq110
    refine own_go (fun t k => st110 t k) ?_
    show OG m T110 254 #[sI p0, sI p1, sI p2, sI p3, sI (3 : Int32), sR b72, sR xs_97, sI (own_ssz p0), sI (own_ssz p1), sI (own_ssz p2), sI ex, sI r2] [(.int (1 : Int32))]
    refine og (XS.ifYes X110.here hx rfl (pc0 := 254) (pc' := 259) rfl (hb hby at_254) rfl ((if0 _ _).trans (feq (by decide : ¬ ((1 : Int32) = (0 : Int32)))).2) (by decide) (by decide)) ?_
    show OG m T110 259 #[sI p0, sI p1, sI p2, sI p3, sI (3 : Int32), sR b72, sR xs_97, sI (own_ssz p0), sI (own_ssz p1), sI (own_ssz p2), sI ex, sI r2] []
    refine og (XS.iload X110.here hx rfl (hb hby at_259) rfl) ?_
    show OG m T110 261 #[sI p0, sI p1, sI p2, sI p3, sI (3 : Int32), sR b72, sR xs_97, sI (own_ssz p0), sI (own_ssz p1), sI (own_ssz p2), sI ex, sI r2] [(.int r2)]
    refine og (XS.iload X110.here hx rfl (hb hby at_261) rfl) ?_
    show OG m T110 263 #[sI p0, sI p1, sI p2, sI p3, sI (3 : Int32), sR b72, sR xs_97, sI (own_ssz p0), sI (own_ssz p1), sI (own_ssz p2), sI ex, sI r2] [(.int (own_ssz p2)), (.int r2)]
    refine og (XS.iadd X110.here hx rfl (hb hby at_263) rfl) ?_
    show OG m T110 264 #[sI p0, sI p1, sI p2, sI p3, sI (3 : Int32), sR b72, sR xs_97, sI (own_ssz p0), sI (own_ssz p1), sI (own_ssz p2), sI ex, sI r2] [(.int (r2 + (own_ssz p2)))]
    refine og (XS.istore X110.here hx rfl (hb hby at_264) rfl (l' := #[sI p0, sI p1, sI p2, sI p3, sI (3 : Int32), sR b72, sR xs_97, sI (own_ssz p0), sI (own_ssz p1), sI (own_ssz p2), sI ex, sI (r2 + (own_ssz p2))]) rfl) ?_
    show OG m T110 266 #[sI p0, sI p1, sI p2, sI p3, sI (3 : Int32), sR b72, sR xs_97, sI (own_ssz p0), sI (own_ssz p1), sI (own_ssz p2), sI ex, sI (r2 + (own_ssz p2))] []
    obtain ⟨q2, h_q2⟩ : ∃ z, z = (r2 + (own_ssz p2)) := ⟨_, rfl⟩
    rw [← h_q2]
    show OG m T110 266 #[sI p0, sI p1, sI p2, sI p3, sI (3 : Int32), sR b72, sR xs_97, sI (own_ssz p0), sI (own_ssz p1), sI (own_ssz p2), sI ex, sI q2] []
    have hq2 : q2.toInt = (((1 + (own_txt p0).length + 1 + (own_txt p1).length + 1 + (own_txt p2).length) : Nat) : Int) := by rw [h_q2, own_cnt hr2 (own_ssz_len p2) (by omega) (by omega)]; omega
    refine og (XS.iload X110.here hx rfl (hb hby at_266) rfl) ?_
    refine og (XS.iload X110.here hx rfl (hb hby at_268) rfl) ?_
    show OG m T110 270 #[sI p0, sI p1, sI p2, sI p3, sI (3 : Int32), sR b72, sR xs_97, sI (own_ssz p0), sI (own_ssz p1), sI (own_ssz p2), sI ex, sI q2] [(.int ex), (.int q2)]
    refine og (XS.iconst X110.here hx rfl (hb hby at_270)) ?_
    refine og (XS.isub X110.here hx rfl (hb hby at_271) rfl) ?_
    show OG m T110 272 #[sI p0, sI p1, sI p2, sI p3, sI (3 : Int32), sR b72, sR xs_97, sI (own_ssz p0), sI (own_ssz p1), sI (own_ssz p2), sI ex, sI q2] [(.int (ex - (1 : Int32))), (.int q2)]
    obtain ⟨e2, h_e2⟩ : ∃ z, z = (ex - (1 : Int32)) := ⟨_, rfl⟩
    rw [← h_e2]
    show OG m T110 272 #[sI p0, sI p1, sI p2, sI p3, sI (3 : Int32), sR b72, sR xs_97, sI (own_ssz p0), sI (own_ssz p1), sI (own_ssz p2), sI ex, sI q2] [(.int e2), (.int q2)]
    have he2 : q2 = e2 := Int32.toInt_inj.mp (by rw [h_e2, ← h_e1, he1]; exact hq2)
    refine og (XS.icmpNo X110.here hx rfl (hb hby at_272) rfl (teq he2).2) ?_
    show OG m T110 275 #[sI p0, sI p1, sI p2, sI p3, sI (3 : Int32), sR b72, sR xs_97, sI (own_ssz p0), sI (own_ssz p1), sI (own_ssz p2), sI ex, sI q2] []
    refine og (XS.iconst X110.here hx rfl (hb hby at_275)) ?_
    refine og (XS.goto X110.here hx rfl (pc0 := 276) (pc' := 280) rfl (hb hby at_276) (by decide) (by decide)) ?_
    show OG m T110 280 #[sI p0, sI p1, sI p2, sI p3, sI (3 : Int32), sR b72, sR xs_97, sI (own_ssz p0), sI (own_ssz p1), sI (own_ssz p2), sI ex, sI q2] [(.int (1 : Int32))]
    obtain ⟨fs, hr, hrun, hended, ⟨-, hW2, hW3, hsame⟩⟩ := Jvm.Stand.leaveW (s := s) (vm₁ := T97.vm) X110 hS97 (show _ ≤ T110.heap.size from by rw [e110]; exact (Nat.le_refl _)) (v := some (.int (1 : Int32))) (fun h => by rw [Bd.returns] at h; cases h)
    refine ⟨_, _, retN X110 hx (t := .boolean) Bd.returns (by simp) (hb hby at_280) hr, hrun, hended, _, _, rfl, ?_, ⟨_, rfl⟩, hW2, hW3, hsame.mono (by decide) (by decide)⟩
    show Q_own_law Z p0 p1 p2 p3 i_COMPACT_STRINGS v_SIOOBE_FORMATTER o_DigitOnes o_DigitTens kc_own_ones kc_own_tens h0 n0 _ T110.heap _
    rw [e110]
    exact ⟨rfl, N110⟩
set_option maxRecDepth 65536 in
set_option maxHeartbeats 40000000 in
theorem comes_1 {Post : Tables → Env → Array Value → State → Outcome → State → Prop} (hpost : ∀ tb e args s v u, (limb_1_1.after args s (.returned v) u = true ∧ limb_1_2.after args s (.returned v) u = true ∧ True) → ReturnedEndW s (.returned v) u (Jvm.fieldLocs frame_1_writes args s ++ Jvm.arrayLocs frame_1_arrays args s ++ Jvm.staticLocs frame_1_statics s) 24 2368 → Post tb e args s (.returned v) u) :
    ArmFor flags0 classFile x code maxLocals ret World_1 tables_1 room_1 Calls_1 rest_1 Pre_1 Post := by
  intro l hfl _ _ p e ha hc hk s m args below hf hA hF happ hP
  obtain ⟨hcalls, hrest, hpre⟩ := hP
  obtain ⟨-, -, -, hnamed, -, -, -, hat⟩ := (Spec.applies_iff hf).mp happ
  obtain ⟨hg, hn⟩ := and_e (Cond.before_iff.mp (show (Jvm.Cond.and given_1 narrow_1).before args s = true from hpre))
  obtain ⟨hcount, hg⟩ := and_e hg
  obtain ⟨ga0, hg⟩ := and_e hg
  obtain ⟨ga1, hg⟩ := and_e hg
  obtain ⟨ga2, hg⟩ := and_e hg
  have ga3 := hg
  obtain ⟨w0, w1, w2, w3, rfl⟩ : ∃ w0 w1 w2 w3 : Value, args = #[w0, w1, w2, w3] := by
    have hs : args.size = 4 := by simpa [Cond.value, given_1] using hcount
    obtain ⟨L⟩ := args
    match L, hs with
    | [w0, w1, w2, w3], _ => exact ⟨w0, w1, w2, w3, rfl⟩
  have hw := fun d (hd : d ∈ tables_1) => atoms_spec (ws := Jvm.Cond.code x code maxLocals ret :: tables_1) hat d (List.mem_cons_of_mem _ hd)
  have hfit : Fit s := fun {y c} hc i hi => by
    obtain ⟨ha, rfl⟩ := Array.getElem?_eq_some_iff.mp hc
    have q := List.all_eq_true.mp ((Array.all_eq_true_iff_forall_mem.mp hF) _ (Array.getElem_mem ha)) i (List.mem_range.mpr hi)
    simpa [Array.getElem?_eq_getElem hi] using q
  obtain ⟨hsets, hown0⟩ := atoms_of _ (rest_1_c_eq ▸ (show rest_1_c.before _ s = true from hrest))
  have hr0 := Cond.before_iff.mp hown0
  obtain ⟨i0, ei0⟩ := is_v ga0
  obtain rfl : w0 = (.int i0) := Option.some.inj ei0
  obtain ⟨i1, ei1⟩ := is_v ga1
  obtain rfl : w1 = (.int i1) := Option.some.inj ei1
  obtain ⟨i2, ei2⟩ := is_v ga2
  obtain rfl : w2 = (.int i2) := Option.some.inj ei2
  obtain ⟨i3, ei3⟩ := is_v ga3
  obtain rfl : w3 = (.int i3) := Option.some.inj ei3
  obtain ⟨i_COMPACT_STRINGS, ev_i_COMPACT_STRINGS⟩ := is_v (Cond.before_iff.mp (hsets _ (List.mem_of_getElem? (i := 1) rfl)))
  have S_COMPACT_STRINGS : Sta s s.heap "java/lang/String" "COMPACT_STRINGS" "Z" (.int i_COMPACT_STRINGS) := Sta.start ev_i_COMPACT_STRINGS (Or.inl (hsets _ (List.mem_of_getElem? (i := 0) rfl)))
  have nz_i_COMPACT_STRINGS : i_COMPACT_STRINGS ≠ (0 : Int32) := own_neI (Cond.before_iff.mp (hsets _ (List.mem_of_getElem? (i := 2) rfl))) ev_i_COMPACT_STRINGS
  obtain ⟨v_SIOOBE_FORMATTER, ev_v_SIOOBE_FORMATTER, ir_v_SIOOBE_FORMATTER⟩ := isR_v (Cond.before_iff.mp (hsets _ (List.mem_of_getElem? (i := 8) rfl)))
  have S_SIOOBE_FORMATTER : Sta s s.heap "jdk/internal/util/Preconditions" "SIOOBE_FORMATTER" "Ljava/util/function/BiFunction;" v_SIOOBE_FORMATTER := Sta.start ev_v_SIOOBE_FORMATTER (Or.inl (hsets _ (List.mem_of_getElem? (i := 7) rfl)))
  obtain ⟨o_DigitOnes, ev_o_DigitOnes⟩ := exa_v (Cond.before_iff.mp (hsets _ (List.mem_of_getElem? (i := 12) rfl)))
  have S_DigitOnes : Sta s s.heap "java/lang/Integer" "DigitOnes" "[B" (.ref o_DigitOnes) := Sta.start ev_o_DigitOnes (Or.inr ⟨(tw hw 112 rfl), (hsets _ (List.mem_of_getElem? (i := 10) rfl))⟩)
  have E_o_DigitOnes : Exa s s.heap o_DigitOnes "[B" := Exa.start ev_o_DigitOnes (Cond.before_iff.mp (hsets _ (List.mem_of_getElem? (i := 12) rfl)))
  obtain ⟨o_DigitTens, ev_o_DigitTens⟩ := exa_v (Cond.before_iff.mp (hsets _ (List.mem_of_getElem? (i := 17) rfl)))
  have S_DigitTens : Sta s s.heap "java/lang/Integer" "DigitTens" "[B" (.ref o_DigitTens) := Sta.start ev_o_DigitTens (Or.inr ⟨(tw hw 112 rfl), (hsets _ (List.mem_of_getElem? (i := 15) rfl))⟩)
  have E_o_DigitTens : Exa s s.heap o_DigitTens "[B" := Exa.start ev_o_DigitTens (Cond.before_iff.mp (hsets _ (List.mem_of_getElem? (i := 17) rfl)))
  obtain ⟨kc_own_ones, V_own_ones⟩ : ∃ k, Arv s s.heap o_DigitOnes k .byte (100 : Int32) (own_B own_ones) (.int (0 : Int32)) := own_tab (f := fun i => Int32.ofNat (48 + i % 10)) ev_o_DigitOnes E_o_DigitOnes (tw hw 22 rfl) (Cond.before_iff.mp (hsets _ (List.mem_of_getElem? (i := 13) rfl))) (Cond.before_iff.mp (hsets _ (List.mem_of_getElem? (i := 14) rfl))) (own_fin (fun i => congrArg (fun z => some (Value.int z)) ((by decide +kernel : ∀ i : Fin 100, (48 : Int32) + (i.val.toInt32 % 10) = Int32.ofNat (48 + i.val % 10)) i))) (own_fin (by decide +kernel))
  obtain ⟨kc_own_tens, V_own_tens⟩ : ∃ k, Arv s s.heap o_DigitTens k .byte (100 : Int32) (own_B own_tens) (.int (0 : Int32)) := own_tab (f := fun i => Int32.ofNat (48 + i / 10)) ev_o_DigitTens E_o_DigitTens (tw hw 22 rfl) (Cond.before_iff.mp (hsets _ (List.mem_of_getElem? (i := 18) rfl))) (Cond.before_iff.mp (hsets _ (List.mem_of_getElem? (i := 19) rfl))) (own_fin (fun i => congrArg (fun z => some (Value.int z)) ((by decide +kernel : ∀ i : Fin 100, (48 : Int32) + (i.val.toInt32 / 10) = Int32.ofNat (48 + i.val / 10)) i))) (own_fin (by decide +kernel))
  have hCH : CHv s own_EL s.vm s.heap := CHv.start (own_EW s _ hw) (fun p hp => hcalls.1 p hp) (hsets _ (List.mem_of_getElem? (i := 2) rfl)) (tw hw 22 rfl) (tw hw 54 rfl)
  obtain ⟨n, o, h1, h2, h3, _, L, rfl, ⟨rfl, N⟩, hq⟩ := own_law l s _ hw tables_1 i0 i1 i2 i3 i_COMPACT_STRINGS v_SIOOBE_FORMATTER o_DigitOnes o_DigitTens kc_own_ones kc_own_tens s.heap s.heap.size (Nat.le_refl _) (Old.start s) S_COMPACT_STRINGS nz_i_COMPACT_STRINGS S_DigitOnes V_own_ones S_DigitTens V_own_tens S_SIOOBE_FORMATTER ir_v_SIOOBE_FORMATTER  p e ha hc hk s m _ below hf ((Spec.applies_iff_loose hf).mp happ).1 ⟨rfl, State.Warmed39.refl s, rfl, hCH⟩ trivial
  refine ⟨n, _, h1, h2, h3, hpost _ _ _ _ _ _ ⟨Cond.after_iff.mpr rfl, Cond.after_iff.mpr (eq_i res_at (Term.int_eval (1)) rfl), trivial⟩ ⟨hq.1, hq.2.1, hq.2.2.1, (hq.2.2.2.sift fun y hy => Or.inr (N y hy)).mono (by decide) (by decide)⟩⟩
theorem main_1_1 : Claimed_1_1 := comes_1 fun _ _ _ _ _ _ h hF => ⟨h.1, hF⟩
theorem main_1_2 : Claimed_1_2 := comes_1 fun _ _ _ _ _ _ h hF => ⟨h.2.1, hF⟩
end Jvm.Pilot.@@N@@
namespace Jvm.Pilot.@@N@@
open Jvm Jvm.ClassFile Sem Op Lib Jvm.Free Jvm.Stand Jvm.Pilot.@@N@@.Jvm.D
/-! MADE BY PROGRAM (witnessworld.py) out of the Statement's table words and the real class files: 25 classes; the members and pool entries that the words name. The judged class is class 1, her method 1. -/
namespace start1
open Jvm.ClassFile
def u (s : String) : CpInfo := .utf8 (stringToUtf16 s)
/-- a pool by its gaps: so many unusable entries, then the entry; so many at the end -/
def gap : Nat → List CpInfo → List CpInfo
  | 0, r => r
  | n + 1, r => .unusable :: gap n r
def poolList (es : List (Nat × CpInfo)) (last : Nat) : List CpInfo := es.foldr (fun e r => gap e.1 (e.2 :: r)) (gap last [])
def pool (es : List (Nat × CpInfo)) (last : Nat) : Array CpInfo := ⟨poolList es last⟩
def fileOf (pool : Array CpInfo) (this : Nat) (attrs : Array Attribute := #[]) (ms : Array MethodInfo := #[]) (fl : Nat := 33) (sup : Nat := 0) (ifs : Array Nat := #[]) (fds : Array FieldInfo := #[]) : ClassFile where
  minorVersion := 0
  majorVersion := 65
  constantPool := pool
  accessFlags := fl
  thisClass := this
  superClass := sup
  interfaces := ifs
  fields := fds
  methods := ms
  attributes := attrs
def plain (name : String) (sup : Option ClassId) : Class where
  name := name
  kind := .ordinary
  loader := none
  accessFlags := 33
  super := sup
  interfaces := #[]
  cf := none
  fields := #[]
  methods := #[]
  instanceTypes := #[]
  staticTypes := #[]
  resolved := #[]
  callSites := []
  init := .initialized
  statics := none
  mirror := none

def pool0 : Array CpInfo := pool [(5, u "<init>"), (0, u "()V"), (1, .class_ 10), (1, u "java/lang/Object"), (85, u "clone"), (0, u "()Ljava/lang/Object;")] 26

def k0c0 : Code := { maxStack := 0, maxLocals := 1, code := object_method_1_code, exceptionTable := #[], attributes := #[] }
def k0m0 : Method := { name := "<init>", desc := "()V", sig := { parameters := [], returnType := none }, accessFlags := 1, code := some k0c0 }
def k0m1 : Method := { name := "clone", desc := "()Ljava/lang/Object;", sig := { parameters := [], returnType := some (.object "java/lang/Object") }, accessFlags := 260, code := none }
/-- java/lang/Object -/
def k0 : Class := { plain "java/lang/Object" none with
  accessFlags := 33
  interfaces := #[]
  cf := some (fileOf pool0 8 #[] #[{ accessFlags := 1, nameIndex := 5, descriptorIndex := 6, attributes := #[] }, { accessFlags := 260, nameIndex := 96, descriptorIndex := 97, attributes := #[] }] 33 0 #[] #[])
  fields := #[]
  methods := #[k0m0, k0m1]
  instanceTypes := #[]
  staticTypes := #[]
  resolved := Array.replicate 124 none
  statics := none }

def pool1 : Array CpInfo := pool [(2, .class_ 4), (1, u "java/lang/Object"), (0, u "<init>"), (0, u "()V"), (0, .methodref 8 9), (0, .class_ 10), (0, .nameAndType 11 12), (0, u "standwatch/query/Arguments"), (0, u "numbers"), (0, u "([I)Ljava/lang/String;"), (0, .methodref 14 15), (0, .class_ 16), (0, .nameAndType 17 18), (0, u "standwatch/query/ArgumentsNumbersPinLaw"), (0, u "width"), (0, u "(I)I"), (0, .methodref 20 21), (0, .class_ 22), (0, .nameAndType 23 24), (0, u "java/lang/String"), (0, u "length"), (0, u "()I"), (0, .methodref 20 26), (0, .nameAndType 27 28), (0, u "charAt"), (0, u "(I)C"), (0, .methodref 14 30), (0, .nameAndType 31 32), (0, u "number"), (0, u "(Ljava/lang/String;II)Z"), (0, .long 10), (1, .long 100), (1, .long 1000), (1, .long 10000), (1, .long 100000), (1, .long 1000000), (1, .long 10000000), (1, .long 100000000), (1, .long 1000000000), (1, .methodref 14 52), (0, .nameAndType 53 54), (0, u "digits"), (0, u "(J)I"), (0, .methodref 14 56), (0, .nameAndType 57 58), (0, u "dig"), (0, u "(Ljava/lang/String;IIJIJ)Z"), (2, u "law"), (0, u "(IIII)Z")] 5

def k1m0 : Method := { name := "<init>", desc := "()V", sig := { parameters := [], returnType := none }, accessFlags := 1, code := none }
def k1c1 : Code := { maxStack := 3, maxLocals := 12, code := code, exceptionTable := #[], attributes := #[] }
def k1m1 : Method := { name := "law", desc := "(IIII)Z", sig := { parameters := [.int, .int, .int, .int], returnType := some .boolean }, accessFlags := 9, code := some k1c1 }
def k1c2 : Code := { maxStack := 4, maxLocals := 2, code := method_3_code, exceptionTable := #[], attributes := #[] }
def k1m2 : Method := { name := "digits", desc := "(J)I", sig := { parameters := [.long], returnType := some .int }, accessFlags := 10, code := some k1c2 }
def k1c3 : Code := { maxStack := 4, maxLocals := 3, code := method_4_code, exceptionTable := #[], attributes := #[] }
def k1m3 : Method := { name := "width", desc := "(I)I", sig := { parameters := [.int], returnType := some .int }, accessFlags := 10, code := some k1c3 }
def k1c4 : Code := { maxStack := 6, maxLocals := 8, code := method_5_code, exceptionTable := #[], attributes := #[] }
def k1m4 : Method := { name := "dig", desc := "(Ljava/lang/String;IIJIJ)Z", sig := { parameters := [(.object "java/lang/String"), .int, .int, .long, .int, .long], returnType := some .boolean }, accessFlags := 10, code := some k1c4 }
def k1c5 : Code := { maxStack := 8, maxLocals := 7, code := method_6_code, exceptionTable := #[], attributes := #[] }
def k1m5 : Method := { name := "number", desc := "(Ljava/lang/String;II)Z", sig := { parameters := [(.object "java/lang/String"), .int, .int], returnType := some .boolean }, accessFlags := 10, code := some k1c5 }
/-- standwatch/query/ArgumentsNumbersPinLaw -/
def k1 : Class := { plain "standwatch/query/ArgumentsNumbersPinLaw" (some 0) with
  accessFlags := 49
  interfaces := #[]
  cf := some (fileOf pool1 14 #[] #[{ accessFlags := 1, nameIndex := 5, descriptorIndex := 6, attributes := #[] }, { accessFlags := 9, nameIndex := 61, descriptorIndex := 62, attributes := #[] }, { accessFlags := 10, nameIndex := 53, descriptorIndex := 54, attributes := #[] }, { accessFlags := 10, nameIndex := 17, descriptorIndex := 18, attributes := #[] }, { accessFlags := 10, nameIndex := 57, descriptorIndex := 58, attributes := #[] }, { accessFlags := 10, nameIndex := 31, descriptorIndex := 32, attributes := #[] }] 49 2 #[] #[])
  fields := #[]
  methods := #[k1m0, k1m1, k1m2, k1m3, k1m4, k1m5]
  instanceTypes := #[]
  staticTypes := #[]
  resolved := Array.replicate 68 none
  statics := none }

def pool2 : Array CpInfo := pool [(2, .class_ 4), (1, u "java/lang/Object"), (0, u "<init>"), (0, u "()V"), (4, .class_ 13), (1, u "standwatch/query/Arguments"), (0, u "values"), (0, u "Ljava/util/Map;"), (15, u "size"), (0, u "I"), (25, .class_ 59), (0, u "java/lang/StringBuilder"), (22, .methodref 58 83), (0, .nameAndType 84 85), (0, u "append"), (0, u "(C)Ljava/lang/StringBuilder;"), (3, .methodref 58 90), (0, .nameAndType 91 92), (0, u "toString"), (0, u "()Ljava/lang/String;"), (0, .methodref 58 94), (0, .nameAndType 5 95), (0, u "(I)V"), (0, .string 97), (0, u ""), (0, .string 99), (0, u ","), (0, .methodref 58 101), (0, .nameAndType 84 102), (0, u "(Ljava/lang/String;)Ljava/lang/StringBuilder;"), (0, .methodref 58 104), (0, .nameAndType 84 105), (0, u "(I)Ljava/lang/StringBuilder;"), (13, u "numbers"), (0, u "([I)Ljava/lang/String;")] 32

def k2m0 : Method := { name := "<init>", desc := "()V", sig := { parameters := [], returnType := none }, accessFlags := 0, code := none }
def k2c1 : Code := { maxStack := 4, maxLocals := 3, code := prog_18_method_8_code, exceptionTable := #[], attributes := #[] }
def k2m1 : Method := { name := "numbers", desc := "([I)Ljava/lang/String;", sig := { parameters := [(.array .int)], returnType := some (.object "java/lang/String") }, accessFlags := 8, code := some k2c1 }
/-- standwatch/query/Arguments -/
def k2 : Class := { plain "standwatch/query/Arguments" (some 0) with
  accessFlags := 48
  interfaces := #[]
  cf := some (fileOf pool2 11 #[] #[{ accessFlags := 0, nameIndex := 5, descriptorIndex := 6, attributes := #[] }, { accessFlags := 8, nameIndex := 119, descriptorIndex := 120, attributes := #[] }] 48 2 #[] #[{ accessFlags := 18, nameIndex := 14, descriptorIndex := 15, attributes := #[] }, { accessFlags := 2, nameIndex := 31, descriptorIndex := 32, attributes := #[] }])
  fields := #[{ name := "values", type := (.object "java/util/Map"), accessFlags := 18, slot := 0, constantValue := 0 }, { name := "size", type := .int, accessFlags := 2, slot := 1, constantValue := 0 }]
  methods := #[k2m0, k2m1]
  instanceTypes := #[(.object "java/util/Map"), .int]
  staticTypes := #[]
  resolved := Array.replicate 153 none
  statics := none }

def pool3 : Array CpInfo := pool [(1, .class_ 2), (0, u "java/lang/Appendable"), (0, .class_ 4), (0, u "java/lang/Object")] 9

/-- java/lang/Appendable -/
def k3 : Class := { plain "java/lang/Appendable" (some 0) with
  accessFlags := 1537
  interfaces := #[]
  cf := some (fileOf pool3 1 #[] #[] 1537 3 #[] #[])
  fields := #[]
  methods := #[]
  instanceTypes := #[]
  staticTypes := #[]
  resolved := Array.replicate 14 none
  statics := none }

def pool4 : Array CpInfo := pool [(2, .class_ 4), (1, u "java/lang/CharSequence"), (42, .class_ 48), (0, u "java/lang/CharSequence$1CodePointIterator"), (10, .class_ 60), (0, u "java/lang/CharSequence$1CharIterator"), (5, .class_ 67), (0, u "java/lang/Object")] 63

/-- java/lang/CharSequence -/
def k4 : Class := { plain "java/lang/CharSequence" (some 0) with
  accessFlags := 1537
  interfaces := #[]
  cf := some (fileOf pool4 2 #[.nestMembers #[47, 59]] #[] 1537 66 #[] #[])
  fields := #[]
  methods := #[]
  instanceTypes := #[]
  staticTypes := #[]
  resolved := Array.replicate 131 none
  statics := none }

def pool5 : Array CpInfo := pool [(1, .class_ 2), (0, u "java/lang/String"), (0, .methodref 4 5), (0, .class_ 6), (0, .nameAndType 7 8), (0, u "java/lang/Object"), (0, u "<init>"), (0, u "()V"), (1, .class_ 12), (1, u "java/lang/AbstractStringBuilder"), (0, u "EMPTYVALUE"), (0, u "[B"), (0, .fieldref 10 16), (0, .nameAndType 17 14), (0, u "value"), (0, .fieldref 1 19), (0, .nameAndType 20 21), (0, u "COMPACT_STRINGS"), (0, u "Z"), (0, .fieldref 10 23), (0, .nameAndType 24 25), (0, u "coder"), (0, u "B"), (6, .methodref 1 33), (0, .nameAndType 34 35), (0, u "length"), (0, u "()I"), (0, .class_ 37), (0, u "java/lang/Integer"), (1, .integer 2147483647), (0, .methodref 1 41), (0, .nameAndType 24 42), (0, u "()B"), (2, u "append"), (0, u "(Ljava/lang/String;)Ljava/lang/AbstractStringBuilder;"), (1, .class_ 49), (0, u "java/lang/CharSequence"), (19, u "(Ljava/lang/String;)V"), (5, u "maybeLatin1"), (3, .fieldref 10 80), (0, .nameAndType 81 82), (0, u "count"), (0, u "I"), (0, .methodref 10 84), (0, .nameAndType 85 86), (0, u "isLatin1"), (0, u "()Z"), (1, .class_ 90), (1, u "java/lang/StringLatin1"), (9, .methodref 10 101), (0, .nameAndType 102 103), (0, u "ensureCapacityInternal"), (0, u "(I)V"), (0, .methodref 10 105), (0, .nameAndType 106 107), (0, u "newCapacity"), (0, u "(I)I"), (0, .methodref 109 110), (0, .class_ 111), (0, .nameAndType 112 113), (0, u "java/util/Arrays"), (0, u "copyOf"), (0, u "([BI)[B"), (0, .methodref 115 116), (0, .class_ 117), (0, .nameAndType 118 119), (0, u "jdk/internal/util/ArraysSupport"), (0, u "newLength"), (0, u "(III)I"), (68, u "getChars"), (2, .methodref 88 192), (0, .nameAndType 193 194), (0, u "canEncode"), (0, u "(C)Z"), (13, .methodref 10 209), (0, .nameAndType 210 211), (0, u "putStringAt"), (0, u "(ILjava/lang/String;)V"), (5, u "inflateIfNeededFor"), (2, .nameAndType 221 222), (0, u "getBytes"), (0, u "([BIB)V"), (22, .methodref 36 246), (0, .nameAndType 247 107), (0, u "stringSize"), (0, .methodref 36 249), (0, .nameAndType 188 250), (0, u "(II[B)I"), (41, u "(C)Ljava/lang/AbstractStringBuilder;"), (104, .methodref 10 398), (0, .nameAndType 217 69), (0, .methodref 1 220), (3, u "()[B"), (40, .class_ 445), (0, u "java/lang/Appendable"), (65, u "(I)Ljava/lang/AbstractStringBuilder;"), (40, u "getValue")] 56

def k5m0 : Method := { name := "<init>", desc := "()V", sig := { parameters := [], returnType := none }, accessFlags := 0, code := none }
def k5c1 : Code := { maxStack := 2, maxLocals := 2, code := jdk_68_method_2_code, exceptionTable := #[], attributes := #[] }
def k5m1 : Method := { name := "<init>", desc := "(I)V", sig := { parameters := [.int], returnType := none }, accessFlags := 0, code := some k5c1 }
def k5c2 : Code := { maxStack := 1, maxLocals := 1, code := jdk_68_method_6_code, exceptionTable := #[], attributes := #[] }
def k5m2 : Method := { name := "length", desc := "()I", sig := { parameters := [], returnType := some .int }, accessFlags := 1, code := some k5c2 }
def k5c3 : Code := { maxStack := 4, maxLocals := 3, code := jdk_68_method_9_code, exceptionTable := #[], attributes := #[] }
def k5m3 : Method := { name := "ensureCapacityInternal", desc := "(I)V", sig := { parameters := [.int], returnType := none }, accessFlags := 2, code := some k5c3 }
def k5c4 : Code := { maxStack := 5, maxLocals := 6, code := jdk_68_method_10_code, exceptionTable := #[], attributes := #[] }
def k5m4 : Method := { name := "newCapacity", desc := "(I)I", sig := { parameters := [.int], returnType := some .int }, accessFlags := 2, code := some k5c4 }
def k5c5 : Code := { maxStack := 3, maxLocals := 3, code := jdk_68_method_22_code, exceptionTable := #[], attributes := #[] }
def k5m5 : Method := { name := "append", desc := "(Ljava/lang/String;)Ljava/lang/AbstractStringBuilder;", sig := { parameters := [(.object "java/lang/String")], returnType := some (.object "java/lang/AbstractStringBuilder") }, accessFlags := 1, code := some k5c5 }
def k5c6 : Code := { maxStack := 5, maxLocals := 2, code := jdk_68_method_31_code, exceptionTable := #[], attributes := #[] }
def k5m6 : Method := { name := "append", desc := "(C)Ljava/lang/AbstractStringBuilder;", sig := { parameters := [.char], returnType := some (.object "java/lang/AbstractStringBuilder") }, accessFlags := 1, code := some k5c6 }
def k5c7 : Code := { maxStack := 4, maxLocals := 4, code := jdk_68_method_32_code, exceptionTable := #[], attributes := #[] }
def k5m7 : Method := { name := "append", desc := "(I)Ljava/lang/AbstractStringBuilder;", sig := { parameters := [.int], returnType := some (.object "java/lang/AbstractStringBuilder") }, accessFlags := 1, code := some k5c7 }
def k5c8 : Code := { maxStack := 1, maxLocals := 1, code := jdk_68_method_64_code, exceptionTable := #[], attributes := #[] }
def k5m8 : Method := { name := "getValue", desc := "()[B", sig := { parameters := [], returnType := some (.array .byte) }, accessFlags := 16, code := some k5c8 }
def k5c9 : Code := { maxStack := 1, maxLocals := 1, code := jdk_68_method_68_code, exceptionTable := #[], attributes := #[] }
def k5m9 : Method := { name := "isLatin1", desc := "()Z", sig := { parameters := [], returnType := some .boolean }, accessFlags := 16, code := some k5c9 }
def k5c10 : Code := { maxStack := 2, maxLocals := 2, code := jdk_68_method_71_code, exceptionTable := #[], attributes := #[] }
def k5m10 : Method := { name := "inflateIfNeededFor", desc := "(Ljava/lang/String;)V", sig := { parameters := [(.object "java/lang/String")], returnType := none }, accessFlags := 2, code := some k5c10 }
def k5c11 : Code := { maxStack := 4, maxLocals := 3, code := jdk_68_method_73_code, exceptionTable := #[], attributes := #[] }
def k5m11 : Method := { name := "putStringAt", desc := "(ILjava/lang/String;)V", sig := { parameters := [.int, (.object "java/lang/String")], returnType := none }, accessFlags := 2, code := some k5c11 }
/-- java/lang/AbstractStringBuilder -/
def k5 : Class := { plain "java/lang/AbstractStringBuilder" (some 0) with
  accessFlags := 1056
  interfaces := #[3, 4]
  cf := some (fileOf pool5 10 #[] #[{ accessFlags := 0, nameIndex := 7, descriptorIndex := 8, attributes := #[] }, { accessFlags := 0, nameIndex := 7, descriptorIndex := 103, attributes := #[] }, { accessFlags := 1, nameIndex := 34, descriptorIndex := 35, attributes := #[] }, { accessFlags := 2, nameIndex := 102, descriptorIndex := 103, attributes := #[] }, { accessFlags := 2, nameIndex := 106, descriptorIndex := 107, attributes := #[] }, { accessFlags := 1, nameIndex := 45, descriptorIndex := 46, attributes := #[] }, { accessFlags := 1, nameIndex := 45, descriptorIndex := 292, attributes := #[] }, { accessFlags := 1, nameIndex := 45, descriptorIndex := 511, attributes := #[] }, { accessFlags := 16, nameIndex := 552, descriptorIndex := 403, attributes := #[] }, { accessFlags := 16, nameIndex := 85, descriptorIndex := 86, attributes := #[] }, { accessFlags := 2, nameIndex := 217, descriptorIndex := 69, attributes := #[] }, { accessFlags := 2, nameIndex := 210, descriptorIndex := 211, attributes := #[] }] 1056 4 #[444, 48] #[{ accessFlags := 0, nameIndex := 17, descriptorIndex := 14, attributes := #[] }, { accessFlags := 0, nameIndex := 24, descriptorIndex := 25, attributes := #[] }, { accessFlags := 0, nameIndex := 75, descriptorIndex := 21, attributes := #[] }, { accessFlags := 0, nameIndex := 81, descriptorIndex := 82, attributes := #[] }, { accessFlags := 26, nameIndex := 13, descriptorIndex := 14, attributes := #[] }])
  fields := #[{ name := "value", type := (.array .byte), accessFlags := 0, slot := 0, constantValue := 0 }, { name := "coder", type := .byte, accessFlags := 0, slot := 1, constantValue := 0 }, { name := "maybeLatin1", type := .boolean, accessFlags := 0, slot := 2, constantValue := 0 }, { name := "count", type := .int, accessFlags := 0, slot := 3, constantValue := 0 }, { name := "EMPTYVALUE", type := (.array .byte), accessFlags := 26, slot := 0, constantValue := 0 }]
  methods := #[k5m0, k5m1, k5m2, k5m3, k5m4, k5m5, k5m6, k5m7, k5m8, k5m9, k5m10, k5m11]
  instanceTypes := #[(.array .byte), .byte, .boolean, .int]
  staticTypes := #[(.array .byte)]
  resolved := Array.replicate 609 none
  statics := none }

def pool6 : Array CpInfo := pool [(1, .class_ 2), (0, u "java/io/Serializable"), (0, .class_ 4), (0, u "java/lang/Object")] 2

/-- java/io/Serializable -/
def k6 : Class := { plain "java/io/Serializable" (some 0) with
  accessFlags := 1537
  interfaces := #[]
  cf := some (fileOf pool6 1 #[] #[] 1537 3 #[] #[])
  fields := #[]
  methods := #[]
  instanceTypes := #[]
  staticTypes := #[]
  resolved := Array.replicate 7 none
  statics := none }

def pool7 : Array CpInfo := pool [(1, .class_ 2), (0, u "java/lang/Comparable"), (0, .class_ 4), (0, u "java/lang/Object")] 7

/-- java/lang/Comparable -/
def k7 : Class := { plain "java/lang/Comparable" (some 0) with
  accessFlags := 1537
  interfaces := #[]
  cf := some (fileOf pool7 1 #[] #[] 1537 3 #[] #[])
  fields := #[]
  methods := #[]
  instanceTypes := #[]
  staticTypes := #[]
  resolved := Array.replicate 12 none
  statics := none }

def pool8 : Array CpInfo := pool [(1, .methodref 2 3), (0, .class_ 4), (0, .nameAndType 5 6), (0, u "java/lang/AbstractStringBuilder"), (0, u "<init>"), (0, u "(I)V"), (11, .class_ 20), (1, u "java/lang/String"), (3, .class_ 26), (1, u "java/lang/StringBuilder"), (0, u "append"), (0, u "(Ljava/lang/String;)Ljava/lang/StringBuilder;"), (0, .methodref 2 30), (0, .nameAndType 27 31), (0, u "(Ljava/lang/String;)Ljava/lang/AbstractStringBuilder;"), (18, .methodref 2 51), (0, .nameAndType 27 52), (0, u "(C)Ljava/lang/AbstractStringBuilder;"), (0, .methodref 2 54), (0, .nameAndType 27 55), (0, u "(I)Ljava/lang/AbstractStringBuilder;"), (81, .methodref 18 138), (0, .nameAndType 5 139), (0, u "(Ljava/lang/StringBuilder;)V"), (5, u "()V"), (10, u "()I"), (111, u "(I)Ljava/lang/StringBuilder;"), (17, u "(C)Ljava/lang/StringBuilder;"), (56, .methodref 2 344), (0, .nameAndType 345 156), (0, u "length"), (3, .class_ 350), (0, u "java/lang/Appendable"), (0, .class_ 352), (0, u "java/io/Serializable"), (0, .class_ 354), (0, u "java/lang/Comparable"), (0, .class_ 356), (0, u "java/lang/CharSequence"), (0, u "serialVersionUID"), (0, u "J"), (40, u "toString"), (0, u "()Ljava/lang/String;")] 21

def k8m0 : Method := { name := "<init>", desc := "()V", sig := { parameters := [], returnType := none }, accessFlags := 1, code := none }
def k8c1 : Code := { maxStack := 2, maxLocals := 2, code := jdk_67_method_2_code, exceptionTable := #[], attributes := #[] }
def k8m1 : Method := { name := "<init>", desc := "(I)V", sig := { parameters := [.int], returnType := none }, accessFlags := 1, code := some k8c1 }
def k8c2 : Code := { maxStack := 2, maxLocals := 2, code := jdk_67_method_7_code, exceptionTable := #[], attributes := #[] }
def k8m2 : Method := { name := "append", desc := "(Ljava/lang/String;)Ljava/lang/StringBuilder;", sig := { parameters := [(.object "java/lang/String")], returnType := some (.object "java/lang/StringBuilder") }, accessFlags := 1, code := some k8c2 }
def k8c3 : Code := { maxStack := 2, maxLocals := 2, code := jdk_67_method_14_code, exceptionTable := #[], attributes := #[] }
def k8m3 : Method := { name := "append", desc := "(C)Ljava/lang/StringBuilder;", sig := { parameters := [.char], returnType := some (.object "java/lang/StringBuilder") }, accessFlags := 1, code := some k8c3 }
def k8c4 : Code := { maxStack := 2, maxLocals := 2, code := jdk_67_method_15_code, exceptionTable := #[], attributes := #[] }
def k8m4 : Method := { name := "append", desc := "(I)Ljava/lang/StringBuilder;", sig := { parameters := [.int], returnType := some (.object "java/lang/StringBuilder") }, accessFlags := 1, code := some k8c4 }
def k8c5 : Code := { maxStack := 3, maxLocals := 1, code := jdk_67_method_42_code, exceptionTable := #[], attributes := #[] }
def k8m5 : Method := { name := "toString", desc := "()Ljava/lang/String;", sig := { parameters := [], returnType := some (.object "java/lang/String") }, accessFlags := 1, code := some k8c5 }
def k8c6 : Code := { maxStack := 1, maxLocals := 1, code := jdk_67_method_93_code, exceptionTable := #[], attributes := #[] }
def k8m6 : Method := { name := "length", desc := "()I", sig := { parameters := [], returnType := some .int }, accessFlags := 4161, code := some k8c6 }
/-- java/lang/StringBuilder -/
def k8 : Class := { plain "java/lang/StringBuilder" (some 5) with
  accessFlags := 49
  interfaces := #[3, 6, 7, 4]
  cf := some (fileOf pool8 24 #[] #[{ accessFlags := 1, nameIndex := 5, descriptorIndex := 145, attributes := #[] }, { accessFlags := 1, nameIndex := 5, descriptorIndex := 6, attributes := #[] }, { accessFlags := 1, nameIndex := 27, descriptorIndex := 28, attributes := #[] }, { accessFlags := 1, nameIndex := 27, descriptorIndex := 286, attributes := #[] }, { accessFlags := 1, nameIndex := 27, descriptorIndex := 268, attributes := #[] }, { accessFlags := 1, nameIndex := 399, descriptorIndex := 400, attributes := #[] }, { accessFlags := 4161, nameIndex := 345, descriptorIndex := 156, attributes := #[] }] 49 2 #[349, 351, 353, 355] #[{ accessFlags := 24, nameIndex := 357, descriptorIndex := 358, attributes := #[] }])
  fields := #[{ name := "serialVersionUID", type := .long, accessFlags := 24, slot := 0, constantValue := 0 }]
  methods := #[k8m0, k8m1, k8m2, k8m3, k8m4, k8m5, k8m6]
  instanceTypes := #[(.array .byte), .byte, .boolean, .int]
  staticTypes := #[.long]
  resolved := Array.replicate 422 none
  statics := none }

def pool9 : Array CpInfo := pool [(1, .class_ 2), (0, u "java/lang/constant/Constable"), (0, .class_ 4), (0, u "java/lang/Object")] 6

/-- java/lang/constant/Constable -/
def k9 : Class := { plain "java/lang/constant/Constable" (some 0) with
  accessFlags := 1537
  interfaces := #[]
  cf := some (fileOf pool9 1 #[] #[] 1537 3 #[] #[])
  fields := #[]
  methods := #[]
  instanceTypes := #[]
  staticTypes := #[]
  resolved := Array.replicate 11 none
  statics := none }

def pool10 : Array CpInfo := pool [(1, .class_ 2), (0, u "java/lang/constant/ConstantDesc"), (0, .class_ 4), (0, u "java/lang/Object")] 32

/-- java/lang/constant/ConstantDesc -/
def k10 : Class := { plain "java/lang/constant/ConstantDesc" (some 0) with
  accessFlags := 1537
  interfaces := #[]
  cf := some (fileOf pool10 1 #[] #[] 1537 3 #[] #[])
  fields := #[]
  methods := #[]
  instanceTypes := #[]
  staticTypes := #[]
  resolved := Array.replicate 37 none
  statics := none }

def pool11 : Array CpInfo := pool [(1, .methodref 2 3), (0, .class_ 4), (0, .nameAndType 5 6), (0, u "java/lang/Object"), (0, u "<init>"), (0, u "()V"), (2, .fieldref 10 11), (0, .class_ 12), (0, .nameAndType 13 14), (0, u "java/lang/String"), (0, u "value"), (0, u "[B"), (0, .fieldref 10 16), (0, .nameAndType 17 18), (0, u "coder"), (0, u "B"), (2, u "hash"), (0, u "I"), (2, u "hashIsZero"), (0, u "Z"), (11, .fieldref 10 39), (0, .nameAndType 40 26), (0, u "COMPACT_STRINGS"), (13, .methodref 55 56), (0, .class_ 57), (0, .nameAndType 58 59), (0, u "java/util/Arrays"), (0, u "copyOfRange"), (0, u "([BII)[B"), (47, .class_ 109), (1, u "java/lang/StringLatin1"), (32, u "()Z"), (50, .class_ 195), (1, u "java/lang/System"), (16, .methodref 193 213), (0, .nameAndType 214 215), (0, u "arraycopy"), (0, u "(Ljava/lang/Object;ILjava/lang/Object;II)V"), (118, u "()I"), (0, .methodref 10 336), (0, .nameAndType 17 337), (0, u "()B"), (2, u "()[B"), (22, u "([BI)C"), (27, u "(II)V"), (35, u "(I)C"), (61, .methodref 10 490), (0, .nameAndType 5 491), (0, u "(Ljava/lang/AbstractStringBuilder;Ljava/lang/Void;)V"), (0, .methodref 10 493), (0, .nameAndType 494 142), (0, u "isLatin1"), (0, .methodref 107 496), (0, .nameAndType 497 363), (0, u "charAt"), (3, u "checkIndex"), (4, .nameAndType 507 334), (0, u "length"), (24, u "getBytes"), (16, .methodref 550 506), (0, .class_ 551), (0, u "java/lang/AbstractStringBuilder"), (0, .methodref 550 553), (0, .nameAndType 554 340), (0, u "getValue"), (20, .class_ 576), (0, u "java/lang/CharSequence"), (22, u "CASE_INSENSITIVE_ORDER"), (0, u "Ljava/util/Comparator;"), (220, u "([BIB)V"), (225, .methodref 550 493), (5, .fieldref 1054 1055), (0, .class_ 1056), (0, .nameAndType 1057 1058), (0, u "jdk/internal/util/Preconditions"), (0, u "SIOOBE_FORMATTER"), (0, u "Ljava/util/function/BiFunction;"), (0, .methodref 1054 1060), (0, .nameAndType 501 1061), (0, u "(IILjava/util/function/BiFunction;)I"), (39, u "serialPersistentFields"), (0, u "[Ljava/io/ObjectStreamField;"), (0, .class_ 1104), (0, u "java/lang/String$CaseInsensitiveComparator"), (1, .class_ 1107), (0, u "java/io/Serializable"), (0, .class_ 1109), (0, u "java/lang/Comparable"), (0, .class_ 1111), (0, u "java/lang/constant/Constable"), (0, .class_ 1113), (0, u "java/lang/constant/ConstantDesc"), (2, u "serialVersionUID"), (0, u "J"), (3, u "REPL"), (0, u "C"), (2, u "LATIN1"), (1, u "UTF16"), (105, u "(Ljava/lang/StringBuilder;)V")] 217

def k11m0 : Method := { name := "<init>", desc := "()V", sig := { parameters := [], returnType := none }, accessFlags := 1, code := none }
def k11c1 : Code := { maxStack := 3, maxLocals := 2, code := jdk_42_method_53_code, exceptionTable := #[], attributes := #[] }
def k11m1 : Method := { name := "<init>", desc := "(Ljava/lang/StringBuilder;)V", sig := { parameters := [(.object "java/lang/StringBuilder")], returnType := none }, accessFlags := 1, code := some k11c1 }
def k11c2 : Code := { maxStack := 2, maxLocals := 1, code := jdk_42_method_54_code, exceptionTable := #[], attributes := #[] }
def k11m2 : Method := { name := "length", desc := "()I", sig := { parameters := [], returnType := some .int }, accessFlags := 1, code := some k11c2 }
def k11c3 : Code := { maxStack := 2, maxLocals := 2, code := jdk_42_method_56_code, exceptionTable := #[], attributes := #[] }
def k11m3 : Method := { name := "charAt", desc := "(I)C", sig := { parameters := [.int], returnType := some .char }, accessFlags := 1, code := some k11c3 }
def k11c4 : Code := { maxStack := 5, maxLocals := 4, code := jdk_42_method_147_code, exceptionTable := #[], attributes := #[] }
def k11m4 : Method := { name := "getBytes", desc := "([BIB)V", sig := { parameters := [(.array .byte), .int, .byte], returnType := none }, accessFlags := 0, code := some k11c4 }
def k11c5 : Code := { maxStack := 5, maxLocals := 5, code := jdk_42_method_150_code, exceptionTable := #[], attributes := #[] }
def k11m5 : Method := { name := "<init>", desc := "(Ljava/lang/AbstractStringBuilder;Ljava/lang/Void;)V", sig := { parameters := [(.object "java/lang/AbstractStringBuilder"), (.object "java/lang/Void")], returnType := none }, accessFlags := 0, code := some k11c5 }
def k11c6 : Code := { maxStack := 1, maxLocals := 1, code := jdk_42_method_152_code, exceptionTable := #[], attributes := #[] }
def k11m6 : Method := { name := "coder", desc := "()B", sig := { parameters := [], returnType := some .byte }, accessFlags := 0, code := some k11c6 }
def k11c7 : Code := { maxStack := 1, maxLocals := 1, code := jdk_42_method_154_code, exceptionTable := #[], attributes := #[] }
def k11m7 : Method := { name := "isLatin1", desc := "()Z", sig := { parameters := [], returnType := some .boolean }, accessFlags := 0, code := some k11c7 }
def k11c8 : Code := { maxStack := 3, maxLocals := 2, code := jdk_42_method_155_code, exceptionTable := #[], attributes := #[] }
def k11m8 : Method := { name := "checkIndex", desc := "(II)V", sig := { parameters := [.int, .int], returnType := none }, accessFlags := 8, code := some k11c8 }
/-- java/lang/String -/
def k11 : Class := { plain "java/lang/String" (some 0) with
  accessFlags := 49
  interfaces := #[6, 7, 4, 9, 10]
  cf := some (fileOf pool11 10 #[.nestMembers #[1103]] #[{ accessFlags := 1, nameIndex := 5, descriptorIndex := 6, attributes := #[] }, { accessFlags := 1, nameIndex := 5, descriptorIndex := 1233, attributes := #[] }, { accessFlags := 1, nameIndex := 507, descriptorIndex := 334, attributes := #[] }, { accessFlags := 1, nameIndex := 497, descriptorIndex := 427, attributes := #[] }, { accessFlags := 0, nameIndex := 532, descriptorIndex := 821, attributes := #[] }, { accessFlags := 0, nameIndex := 5, descriptorIndex := 491, attributes := #[] }, { accessFlags := 0, nameIndex := 17, descriptorIndex := 337, attributes := #[] }, { accessFlags := 0, nameIndex := 494, descriptorIndex := 142, attributes := #[] }, { accessFlags := 8, nameIndex := 501, descriptorIndex := 391, attributes := #[] }] 49 2 #[1106, 1108, 575, 1110, 1112] #[{ accessFlags := 18, nameIndex := 13, descriptorIndex := 14, attributes := #[] }, { accessFlags := 18, nameIndex := 17, descriptorIndex := 18, attributes := #[] }, { accessFlags := 2, nameIndex := 21, descriptorIndex := 22, attributes := #[] }, { accessFlags := 2, nameIndex := 25, descriptorIndex := 26, attributes := #[] }, { accessFlags := 26, nameIndex := 1116, descriptorIndex := 1117, attributes := #[] }, { accessFlags := 24, nameIndex := 40, descriptorIndex := 26, attributes := #[] }, { accessFlags := 26, nameIndex := 1101, descriptorIndex := 1102, attributes := #[] }, { accessFlags := 26, nameIndex := 1121, descriptorIndex := 1122, attributes := #[] }, { accessFlags := 25, nameIndex := 599, descriptorIndex := 600, attributes := #[] }, { accessFlags := 24, nameIndex := 1125, descriptorIndex := 18, attributes := #[] }, { accessFlags := 24, nameIndex := 1127, descriptorIndex := 18, attributes := #[] }])
  fields := #[{ name := "value", type := (.array .byte), accessFlags := 18, slot := 0, constantValue := 0 }, { name := "coder", type := .byte, accessFlags := 18, slot := 1, constantValue := 0 }, { name := "hash", type := .int, accessFlags := 2, slot := 2, constantValue := 0 }, { name := "hashIsZero", type := .boolean, accessFlags := 2, slot := 3, constantValue := 0 }, { name := "serialVersionUID", type := .long, accessFlags := 26, slot := 0, constantValue := 0 }, { name := "COMPACT_STRINGS", type := .boolean, accessFlags := 24, slot := 1, constantValue := 0 }, { name := "serialPersistentFields", type := (.array (.object "java/io/ObjectStreamField")), accessFlags := 26, slot := 2, constantValue := 0 }, { name := "REPL", type := .char, accessFlags := 26, slot := 3, constantValue := 0 }, { name := "CASE_INSENSITIVE_ORDER", type := (.object "java/util/Comparator"), accessFlags := 25, slot := 4, constantValue := 0 }, { name := "LATIN1", type := .byte, accessFlags := 24, slot := 5, constantValue := 0 }, { name := "UTF16", type := .byte, accessFlags := 24, slot := 6, constantValue := 0 }]
  methods := #[k11m0, k11m1, k11m2, k11m3, k11m4, k11m5, k11m6, k11m7, k11m8]
  instanceTypes := #[(.array .byte), .byte, .int, .boolean]
  staticTypes := #[.long, .boolean, (.array (.object "java/io/ObjectStreamField")), .char, (.object "java/util/Comparator"), .byte, .byte]
  resolved := Array.replicate 1451 none
  statics := some 0 }

def pool12 : Array CpInfo := pool [(1, .class_ 2), (0, u "java/lang/String"), (1, .class_ 6), (1, u "java/lang/Object"), (0, u "<init>"), (0, u "()V"), (0, .methodref 1 10), (0, .nameAndType 11 12), (0, u "checkIndex"), (0, u "(II)V"), (1, .class_ 16), (1, u "java/lang/StringLatin1"), (36, u "([BI)C"), (36, u "canEncode"), (14, u "(C)Z"), (15, u "$assertionsDisabled"), (0, u "Z"), (98, .class_ 223), (1, u "java/lang/StringLatin1$LinesSpliterator"), (28, u "charAt"), (137, .class_ 391), (0, u "java/lang/StringLatin1$CharsSpliterator")] 3

def k12m0 : Method := { name := "<init>", desc := "()V", sig := { parameters := [], returnType := none }, accessFlags := 0, code := none }
def k12c1 : Code := { maxStack := 2, maxLocals := 2, code := jdk_43_method_2_code, exceptionTable := #[], attributes := #[] }
def k12m1 : Method := { name := "charAt", desc := "([BI)C", sig := { parameters := [(.array .byte), .int], returnType := some .char }, accessFlags := 9, code := some k12c1 }
def k12c2 : Code := { maxStack := 2, maxLocals := 1, code := jdk_43_method_3_code, exceptionTable := #[], attributes := #[] }
def k12m2 : Method := { name := "canEncode", desc := "(C)Z", sig := { parameters := [.char], returnType := some .boolean }, accessFlags := 9, code := some k12c2 }
/-- java/lang/StringLatin1 -/
def k12 : Class := { plain "java/lang/StringLatin1" (some 0) with
  accessFlags := 48
  interfaces := #[]
  cf := some (fileOf pool12 14 #[.nestMembers #[390, 221]] #[{ accessFlags := 0, nameIndex := 7, descriptorIndex := 8, attributes := #[] }, { accessFlags := 9, nameIndex := 252, descriptorIndex := 53, attributes := #[] }, { accessFlags := 9, nameIndex := 90, descriptorIndex := 105, attributes := #[] }] 48 4 #[] #[{ accessFlags := 4120, nameIndex := 121, descriptorIndex := 122, attributes := #[] }])
  fields := #[{ name := "$assertionsDisabled", type := .boolean, accessFlags := 4120, slot := 0, constantValue := 0 }]
  methods := #[k12m0, k12m1, k12m2]
  instanceTypes := #[]
  staticTypes := #[.boolean]
  resolved := Array.replicate 395 none
  statics := none }

def pool13 : Array CpInfo := pool [(2, .class_ 4), (1, u "java/lang/Object"), (0, u "<init>"), (0, u "()V"), (1, .class_ 10), (1, u "java/lang/System"), (0, u "allowSecurityManager"), (0, u "I"), (16, u "cons"), (0, u "Ljava/io/Console;"), (77, .class_ 110), (1, u "java/lang/System$CallersHolder"), (43, u "initialErrStream"), (0, u "Ljava/io/PrintStream;"), (19, u "security"), (0, u "Ljava/lang/SecurityManager;"), (31, .class_ 209), (0, u "java/lang/System$1"), (7, u "props"), (0, u "Ljava/util/Properties;"), (2, u "lineSeparator"), (0, u "Ljava/lang/String;"), (96, .class_ 321), (1, u "java/lang/System$LoggerFinder"), (5, .class_ 328), (0, u "java/lang/System$Logger"), (67, u "err"), (2, u "out"), (91, u "notSupportedJnuEncoding"), (15, u "in"), (17, u "initialIn"), (0, u "Ljava/io/InputStream;"), (35, u "bootLayer"), (0, u "Ljava/lang/ModuleLayer;"), (99, .class_ 664), (0, u "java/lang/System$2"), (9, u "NEVER"), (2, u "MAYBE"), (49, u "arraycopy"), (0, u "(Ljava/lang/Object;ILjava/lang/Object;II)V"), (72, .class_ 802), (0, u "java/lang/System$Logger$Level")] 31

def k13m0 : Method := { name := "<init>", desc := "()V", sig := { parameters := [], returnType := none }, accessFlags := 2, code := none }
def k13m1 : Method := { name := "arraycopy", desc := "(Ljava/lang/Object;ILjava/lang/Object;II)V", sig := { parameters := [(.object "java/lang/Object"), .int, (.object "java/lang/Object"), .int, .int], returnType := none }, accessFlags := 265, code := none }
/-- java/lang/System -/
def k13 : Class := { plain "java/lang/System" (some 0) with
  accessFlags := 49
  interfaces := #[]
  cf := some (fileOf pool13 8 #[.nestMembers #[319, 327, 801, 108, 663, 208]] #[{ accessFlags := 2, nameIndex := 5, descriptorIndex := 6, attributes := #[] }, { accessFlags := 265, nameIndex := 727, descriptorIndex := 728, attributes := #[] }] 49 2 #[] #[{ accessFlags := 25, nameIndex := 507, descriptorIndex := 526, attributes := #[] }, { accessFlags := 25, nameIndex := 399, descriptorIndex := 155, attributes := #[] }, { accessFlags := 25, nameIndex := 396, descriptorIndex := 155, attributes := #[] }, { accessFlags := 10, nameIndex := 525, descriptorIndex := 526, attributes := #[] }, { accessFlags := 26, nameIndex := 674, descriptorIndex := 12, attributes := #[] }, { accessFlags := 26, nameIndex := 677, descriptorIndex := 12, attributes := #[] }, { accessFlags := 10, nameIndex := 11, descriptorIndex := 12, attributes := #[] }, { accessFlags := 74, nameIndex := 175, descriptorIndex := 176, attributes := #[] }, { accessFlags := 10, nameIndex := 491, descriptorIndex := 222, attributes := #[] }, { accessFlags := 74, nameIndex := 29, descriptorIndex := 30, attributes := #[] }, { accessFlags := 74, nameIndex := 154, descriptorIndex := 155, attributes := #[] }, { accessFlags := 10, nameIndex := 217, descriptorIndex := 218, attributes := #[] }, { accessFlags := 10, nameIndex := 221, descriptorIndex := 222, attributes := #[] }, { accessFlags := 8, nameIndex := 562, descriptorIndex := 563, attributes := #[] }])
  fields := #[{ name := "in", type := (.object "java/io/InputStream"), accessFlags := 25, slot := 0, constantValue := 0 }, { name := "out", type := (.object "java/io/PrintStream"), accessFlags := 25, slot := 1, constantValue := 0 }, { name := "err", type := (.object "java/io/PrintStream"), accessFlags := 25, slot := 2, constantValue := 0 }, { name := "initialIn", type := (.object "java/io/InputStream"), accessFlags := 10, slot := 3, constantValue := 0 }, { name := "NEVER", type := .int, accessFlags := 26, slot := 4, constantValue := 0 }, { name := "MAYBE", type := .int, accessFlags := 26, slot := 5, constantValue := 0 }, { name := "allowSecurityManager", type := .int, accessFlags := 10, slot := 6, constantValue := 0 }, { name := "security", type := (.object "java/lang/SecurityManager"), accessFlags := 74, slot := 7, constantValue := 0 }, { name := "notSupportedJnuEncoding", type := (.object "java/lang/String"), accessFlags := 10, slot := 8, constantValue := 0 }, { name := "cons", type := (.object "java/io/Console"), accessFlags := 74, slot := 9, constantValue := 0 }, { name := "initialErrStream", type := (.object "java/io/PrintStream"), accessFlags := 74, slot := 10, constantValue := 0 }, { name := "props", type := (.object "java/util/Properties"), accessFlags := 10, slot := 11, constantValue := 0 }, { name := "lineSeparator", type := (.object "java/lang/String"), accessFlags := 10, slot := 12, constantValue := 0 }, { name := "bootLayer", type := (.object "java/lang/ModuleLayer"), accessFlags := 8, slot := 13, constantValue := 0 }]
  methods := #[k13m0, k13m1]
  instanceTypes := #[]
  staticTypes := #[(.object "java/io/InputStream"), (.object "java/io/PrintStream"), (.object "java/io/PrintStream"), (.object "java/io/InputStream"), .int, .int, .int, (.object "java/lang/SecurityManager"), (.object "java/lang/String"), (.object "java/io/Console"), (.object "java/io/PrintStream"), (.object "java/util/Properties"), (.object "java/lang/String"), (.object "java/lang/ModuleLayer")]
  resolved := Array.replicate 834 none
  statics := none }

def pool14 : Array CpInfo := pool [(2, .class_ 4), (1, u "java/lang/Object"), (0, u "<init>"), (0, u "()V"), (1, .class_ 10), (1, u "java/lang/Number"), (2, .class_ 14), (0, u "java/io/Serializable"), (0, u "serialVersionUID"), (0, u "J")] 20

def k14m0 : Method := { name := "<init>", desc := "()V", sig := { parameters := [], returnType := none }, accessFlags := 1, code := none }
/-- java/lang/Number -/
def k14 : Class := { plain "java/lang/Number" (some 0) with
  accessFlags := 1057
  interfaces := #[6]
  cf := some (fileOf pool14 8 #[] #[{ accessFlags := 1, nameIndex := 5, descriptorIndex := 6, attributes := #[] }] 1057 2 #[13] #[{ accessFlags := 26, nameIndex := 15, descriptorIndex := 16, attributes := #[] }])
  fields := #[{ name := "serialVersionUID", type := .long, accessFlags := 26, slot := 0, constantValue := 0 }]
  methods := #[k14m0]
  instanceTypes := #[]
  staticTypes := #[.long]
  resolved := Array.replicate 37 none
  statics := none }

def pool15 : Array CpInfo := pool [(1, .class_ 2), (0, u "java/lang/Integer"), (16, u "digits"), (0, u "[C"), (33, u "(I)I"), (19, u "stringSize"), (2, u "getChars"), (0, u "(II[B)I"), (4, .fieldref 1 84), (0, .nameAndType 85 86), (0, u "DigitOnes"), (0, u "[B"), (0, .fieldref 1 88), (0, .nameAndType 89 86), (0, u "DigitTens"), (99, .class_ 190), (0, u "java/lang/Integer$IntegerCache"), (3, u "I"), (8, .class_ 204), (0, u "java/lang/Number"), (2, u "value"), (94, u "TYPE"), (0, u "Ljava/lang/Class;"), (0, .class_ 305), (0, u "java/lang/Comparable"), (0, .class_ 307), (0, u "java/lang/constant/Constable"), (0, .class_ 309), (0, u "java/lang/constant/ConstantDesc"), (0, u "MIN_VALUE"), (1, u "MAX_VALUE"), (3, u "SIZE"), (1, u "BYTES"), (1, u "serialVersionUID"), (0, u "J")] 131

def k15c0 : Code := { maxStack := 4, maxLocals := 7, code := jdk_33_method_12_code, exceptionTable := #[], attributes := #[] }
def k15m0 : Method := { name := "getChars", desc := "(II[B)I", sig := { parameters := [.int, .int, (.array .byte)], returnType := some .int }, accessFlags := 8, code := some k15c0 }
def k15c1 : Code := { maxStack := 2, maxLocals := 4, code := jdk_33_method_13_code, exceptionTable := #[], attributes := #[] }
def k15m1 : Method := { name := "stringSize", desc := "(I)I", sig := { parameters := [.int], returnType := some .int }, accessFlags := 8, code := some k15c1 }
/-- java/lang/Integer -/
def k15 : Class := { plain "java/lang/Integer" (some 14) with
  accessFlags := 49
  interfaces := #[7, 9, 10]
  cf := some (fileOf pool15 1 #[.nestMembers #[189]] #[{ accessFlags := 8, nameIndex := 77, descriptorIndex := 78, attributes := #[] }, { accessFlags := 8, nameIndex := 74, descriptorIndex := 54, attributes := #[] }] 49 203 #[304, 306, 308] #[{ accessFlags := 25, nameIndex := 310, descriptorIndex := 194, attributes := #[] }, { accessFlags := 25, nameIndex := 312, descriptorIndex := 194, attributes := #[] }, { accessFlags := 25, nameIndex := 302, descriptorIndex := 303, attributes := #[] }, { accessFlags := 24, nameIndex := 19, descriptorIndex := 20, attributes := #[] }, { accessFlags := 24, nameIndex := 89, descriptorIndex := 86, attributes := #[] }, { accessFlags := 24, nameIndex := 85, descriptorIndex := 86, attributes := #[] }, { accessFlags := 18, nameIndex := 207, descriptorIndex := 194, attributes := #[] }, { accessFlags := 25, nameIndex := 316, descriptorIndex := 194, attributes := #[] }, { accessFlags := 25, nameIndex := 318, descriptorIndex := 194, attributes := #[] }, { accessFlags := 26, nameIndex := 320, descriptorIndex := 321, attributes := #[] }])
  fields := #[{ name := "MIN_VALUE", type := .int, accessFlags := 25, slot := 0, constantValue := 0 }, { name := "MAX_VALUE", type := .int, accessFlags := 25, slot := 1, constantValue := 0 }, { name := "TYPE", type := (.object "java/lang/Class"), accessFlags := 25, slot := 2, constantValue := 0 }, { name := "digits", type := (.array .char), accessFlags := 24, slot := 3, constantValue := 0 }, { name := "DigitTens", type := (.array .byte), accessFlags := 24, slot := 4, constantValue := 0 }, { name := "DigitOnes", type := (.array .byte), accessFlags := 24, slot := 5, constantValue := 0 }, { name := "value", type := .int, accessFlags := 18, slot := 0, constantValue := 0 }, { name := "SIZE", type := .int, accessFlags := 25, slot := 6, constantValue := 0 }, { name := "BYTES", type := .int, accessFlags := 25, slot := 7, constantValue := 0 }, { name := "serialVersionUID", type := .long, accessFlags := 26, slot := 8, constantValue := 0 }]
  methods := #[k15m0, k15m1]
  instanceTypes := #[.int]
  staticTypes := #[.int, .int, (.object "java/lang/Class"), (.array .char), (.array .byte), (.array .byte), .int, .int, .long]
  resolved := Array.replicate 453 none
  statics := some 1 }

def pool16 : Array CpInfo := pool [(2, .class_ 4), (1, u "java/lang/Object"), (0, u "<init>"), (0, u "()V"), (7, .class_ 16), (1, u "java/util/Arrays"), (57, .class_ 76), (1, u "java/util/Arrays$NaturalOrder"), (32, u "()Ljava/lang/Object;"), (3, .class_ 115), (1, u "java/util/Arrays$LegacyMergeSort"), (1, u "Z"), (10, .nameAndType 129 109), (0, u "clone"), (9, u "copyOfRange"), (10, .methodref 151 152), (0, .class_ 153), (0, .nameAndType 154 155), (0, u "java/lang/System"), (0, u "arraycopy"), (0, u "(Ljava/lang/Object;ILjava/lang/Object;II)V"), (146, u "copyOf"), (1, .methodref 305 306), (0, .class_ 307), (0, .nameAndType 308 309), (0, u "java/lang/Math"), (0, u "min"), (0, u "(II)I"), (0, .methodref 311 128), (0, .class_ 312), (0, u "[B"), (26, .methodref 14 340), (0, .nameAndType 341 342), (0, u "copyOfRangeByte"), (0, u "([BII)[B"), (0, .methodref 14 344), (0, .nameAndType 345 346), (0, u "checkLength"), (0, u "(II)V"), (28, .class_ 376), (0, u "java/util/Arrays$ArrayList"), (68, u "$assertionsDisabled"), (269, u "MIN_ARRAY_SORT_GRAN"), (0, u "I"), (2, u "INSERTIONSORT_THRESHOLD"), (149, u "([BI)[B"), (105, .class_ 976), (0, u "java/util/Arrays$ArrayItr")] 52

def k16m0 : Method := { name := "<init>", desc := "()V", sig := { parameters := [], returnType := none }, accessFlags := 2, code := none }
def k16c1 : Code := { maxStack := 6, maxLocals := 3, code := jdk_65_method_121_code, exceptionTable := #[], attributes := #[] }
def k16m1 : Method := { name := "copyOf", desc := "([BI)[B", sig := { parameters := [(.array .byte), .int], returnType := some (.array .byte) }, accessFlags := 9, code := some k16c1 }
def k16c2 : Code := { maxStack := 4, maxLocals := 2, code := jdk_65_method_131_code, exceptionTable := #[], attributes := #[] }
def k16m2 : Method := { name := "checkLength", desc := "(II)V", sig := { parameters := [.int, .int], returnType := none }, accessFlags := 10, code := some k16c2 }
def k16c3 : Code := { maxStack := 3, maxLocals := 3, code := jdk_65_method_132_code, exceptionTable := #[], attributes := #[] }
def k16m3 : Method := { name := "copyOfRange", desc := "([BII)[B", sig := { parameters := [(.array .byte), .int, .int], returnType := some (.array .byte) }, accessFlags := 9, code := some k16c3 }
def k16c4 : Code := { maxStack := 6, maxLocals := 5, code := jdk_65_method_133_code, exceptionTable := #[], attributes := #[] }
def k16m4 : Method := { name := "copyOfRangeByte", desc := "([BII)[B", sig := { parameters := [(.array .byte), .int, .int], returnType := some (.array .byte) }, accessFlags := 10, code := some k16c4 }
/-- java/util/Arrays -/
def k16 : Class := { plain "java/util/Arrays" (some 0) with
  accessFlags := 49
  interfaces := #[]
  cf := some (fileOf pool16 14 #[.nestMembers #[975, 375, 113, 74]] #[{ accessFlags := 2, nameIndex := 5, descriptorIndex := 6, attributes := #[] }, { accessFlags := 9, nameIndex := 302, descriptorIndex := 869, attributes := #[] }, { accessFlags := 10, nameIndex := 345, descriptorIndex := 346, attributes := #[] }, { accessFlags := 9, nameIndex := 139, descriptorIndex := 342, attributes := #[] }, { accessFlags := 10, nameIndex := 341, descriptorIndex := 342, attributes := #[] }] 49 2 #[] #[{ accessFlags := 26, nameIndex := 715, descriptorIndex := 716, attributes := #[] }, { accessFlags := 26, nameIndex := 719, descriptorIndex := 716, attributes := #[] }, { accessFlags := 4120, nameIndex := 445, descriptorIndex := 117, attributes := #[] }])
  fields := #[{ name := "MIN_ARRAY_SORT_GRAN", type := .int, accessFlags := 26, slot := 0, constantValue := 0 }, { name := "INSERTIONSORT_THRESHOLD", type := .int, accessFlags := 26, slot := 1, constantValue := 0 }, { name := "$assertionsDisabled", type := .boolean, accessFlags := 4120, slot := 2, constantValue := 0 }]
  methods := #[k16m0, k16m1, k16m2, k16m3, k16m4]
  instanceTypes := #[]
  staticTypes := #[.int, .int, .boolean]
  resolved := Array.replicate 1029 none
  statics := none }

def pool17 : Array CpInfo := pool [(1, .class_ 2), (0, u "java/lang/Math"), (1, .class_ 6), (1, u "java/lang/Object"), (0, u "<init>"), (0, u "()V"), (89, .class_ 100), (1, u "java/lang/Math$RandomNumberGeneratorHolder"), (71, u "negativeZeroFloatBits"), (0, u "J"), (2, u "negativeZeroDoubleBits"), (21, u "max"), (2, u "min"), (43, u "$assertionsDisabled"), (0, u "Z"), (88, u "(II)I"), (2, u "twoToTheDoubleScaleDown"), (0, u "D"), (4, u "twoToTheDoubleScaleUp"), (9, u "E"), (3, u "PI"), (2, u "TAU"), (2, u "DEGREES_TO_RADIANS"), (0, u "RADIANS_TO_DEGREES")] 94

def k17m0 : Method := { name := "<init>", desc := "()V", sig := { parameters := [], returnType := none }, accessFlags := 2, code := none }
def k17c1 : Code := { maxStack := 2, maxLocals := 2, code := jdk_29_method_65_code, exceptionTable := #[], attributes := #[] }
def k17m1 : Method := { name := "max", desc := "(II)I", sig := { parameters := [.int, .int], returnType := some .int }, accessFlags := 9, code := some k17c1 }
def k17c2 : Code := { maxStack := 2, maxLocals := 2, code := jdk_29_method_69_code, exceptionTable := #[], attributes := #[] }
def k17m2 : Method := { name := "min", desc := "(II)I", sig := { parameters := [.int, .int], returnType := some .int }, accessFlags := 9, code := some k17c2 }
/-- java/lang/Math -/
def k17 : Class := { plain "java/lang/Math" (some 0) with
  accessFlags := 49
  interfaces := #[]
  cf := some (fileOf pool17 1 #[.nestMembers #[98]] #[{ accessFlags := 2, nameIndex := 7, descriptorIndex := 8, attributes := #[] }, { accessFlags := 9, nameIndex := 198, descriptorIndex := 335, attributes := #[] }, { accessFlags := 9, nameIndex := 201, descriptorIndex := 335, attributes := #[] }] 49 4 #[] #[{ accessFlags := 25, nameIndex := 354, descriptorIndex := 339, attributes := #[] }, { accessFlags := 25, nameIndex := 358, descriptorIndex := 339, attributes := #[] }, { accessFlags := 25, nameIndex := 361, descriptorIndex := 339, attributes := #[] }, { accessFlags := 26, nameIndex := 364, descriptorIndex := 339, attributes := #[] }, { accessFlags := 26, nameIndex := 365, descriptorIndex := 339, attributes := #[] }, { accessFlags := 26, nameIndex := 172, descriptorIndex := 173, attributes := #[] }, { accessFlags := 26, nameIndex := 176, descriptorIndex := 173, attributes := #[] }, { accessFlags := 8, nameIndex := 344, descriptorIndex := 339, attributes := #[] }, { accessFlags := 8, nameIndex := 338, descriptorIndex := 339, attributes := #[] }, { accessFlags := 4120, nameIndex := 245, descriptorIndex := 246, attributes := #[] }])
  fields := #[{ name := "E", type := .double, accessFlags := 25, slot := 0, constantValue := 0 }, { name := "PI", type := .double, accessFlags := 25, slot := 1, constantValue := 0 }, { name := "TAU", type := .double, accessFlags := 25, slot := 2, constantValue := 0 }, { name := "DEGREES_TO_RADIANS", type := .double, accessFlags := 26, slot := 3, constantValue := 0 }, { name := "RADIANS_TO_DEGREES", type := .double, accessFlags := 26, slot := 4, constantValue := 0 }, { name := "negativeZeroFloatBits", type := .long, accessFlags := 26, slot := 5, constantValue := 0 }, { name := "negativeZeroDoubleBits", type := .long, accessFlags := 26, slot := 6, constantValue := 0 }, { name := "twoToTheDoubleScaleUp", type := .double, accessFlags := 8, slot := 7, constantValue := 0 }, { name := "twoToTheDoubleScaleDown", type := .double, accessFlags := 8, slot := 8, constantValue := 0 }, { name := "$assertionsDisabled", type := .boolean, accessFlags := 4120, slot := 9, constantValue := 0 }]
  methods := #[k17m0, k17m1, k17m2]
  instanceTypes := #[]
  staticTypes := #[.double, .double, .double, .double, .double, .long, .long, .double, .double, .boolean]
  resolved := Array.replicate 460 none
  statics := none }

def pool18 : Array CpInfo := pool [(2, .class_ 4), (1, u "java/lang/Object"), (0, u "<init>"), (0, u "()V"), (17, .class_ 26), (1, u "jdk/internal/util/Preconditions"), (6, u "checkIndex"), (21, .class_ 56), (0, u "jdk/internal/util/Preconditions$4"), (57, .class_ 115), (0, u "jdk/internal/util/Preconditions$1"), (7, u "SIOOBE_FORMATTER"), (0, u "Ljava/util/function/BiFunction;"), (0, .class_ 126), (0, u "jdk/internal/util/Preconditions$2"), (3, u "AIOOBE_FORMATTER"), (0, .class_ 132), (0, u "jdk/internal/util/Preconditions$3"), (3, u "IOOBE_FORMATTER"), (41, u "(IILjava/util/function/BiFunction;)I")] 15

def k18m0 : Method := { name := "<init>", desc := "()V", sig := { parameters := [], returnType := none }, accessFlags := 1, code := none }
def k18c1 : Code := { maxStack := 3, maxLocals := 3, code := jdk_41_method_11_code, exceptionTable := #[], attributes := #[] }
def k18m1 : Method := { name := "checkIndex", desc := "(IILjava/util/function/BiFunction;)I", sig := { parameters := [.int, .int, (.object "java/util/function/BiFunction")], returnType := some .int }, accessFlags := 9, code := some k18c1 }
/-- jdk/internal/util/Preconditions -/
def k18 : Class := { plain "jdk/internal/util/Preconditions" (some 0) with
  accessFlags := 33
  interfaces := #[]
  cf := some (fileOf pool18 24 #[.nestMembers #[55, 131, 125, 114]] #[{ accessFlags := 1, nameIndex := 5, descriptorIndex := 6, attributes := #[] }, { accessFlags := 9, nameIndex := 33, descriptorIndex := 178, attributes := #[] }] 33 2 #[] #[{ accessFlags := 25, nameIndex := 123, descriptorIndex := 124, attributes := #[] }, { accessFlags := 25, nameIndex := 130, descriptorIndex := 124, attributes := #[] }, { accessFlags := 25, nameIndex := 136, descriptorIndex := 124, attributes := #[] }])
  fields := #[{ name := "SIOOBE_FORMATTER", type := (.object "java/util/function/BiFunction"), accessFlags := 25, slot := 0, constantValue := 0 }, { name := "AIOOBE_FORMATTER", type := (.object "java/util/function/BiFunction"), accessFlags := 25, slot := 1, constantValue := 0 }, { name := "IOOBE_FORMATTER", type := (.object "java/util/function/BiFunction"), accessFlags := 25, slot := 2, constantValue := 0 }]
  methods := #[k18m0, k18m1]
  instanceTypes := #[]
  staticTypes := #[(.object "java/util/function/BiFunction"), (.object "java/util/function/BiFunction"), (.object "java/util/function/BiFunction")]
  resolved := Array.replicate 194 none
  statics := some 2 }

def pool19 : Array CpInfo := pool [(1, .class_ 2), (0, u "java/lang/Cloneable"), (0, .class_ 4), (0, u "java/lang/Object")] 2

/-- java/lang/Cloneable -/
def k19 : Class := { plain "java/lang/Cloneable" (some 0) with
  accessFlags := 1537
  interfaces := #[]
  cf := some (fileOf pool19 1 #[] #[] 1537 3 #[] #[])
  fields := #[]
  methods := #[]
  instanceTypes := #[]
  staticTypes := #[]
  resolved := Array.replicate 7 none
  statics := none }

def pool20 : Array CpInfo := pool [(9, u "<init>"), (6, .class_ 18), (1, u "java/lang/Object"), (0, u "()V"), (1, .class_ 23), (1, u "jdk/internal/util/ArraysSupport"), (0, u "LOG2_ARRAY_LONG_INDEX_SCALE"), (0, u "I"), (2, u "U"), (0, u "Ljdk/internal/misc/Unsafe;"), (8, u "BIG_ENDIAN"), (0, u "Z"), (8, u "LOG2_BYTE_BIT_SIZE"), (4, u "LOG2_ARRAY_INT_INDEX_SCALE"), (54, u "JLA"), (0, u "Ljdk/internal/access/JavaLangAccess;"), (11, u "LOG2_ARRAY_BOOLEAN_INDEX_SCALE"), (9, u "LOG2_ARRAY_BYTE_INDEX_SCALE"), (5, u "LOG2_ARRAY_CHAR_INDEX_SCALE"), (5, u "LOG2_ARRAY_SHORT_INDEX_SCALE"), (18, u "LOG2_ARRAY_FLOAT_INDEX_SCALE"), (24, u "LOG2_ARRAY_DOUBLE_INDEX_SCALE"), (6, .methodref 195 196), (0, .class_ 197), (0, .nameAndType 198 199), (0, u "java/lang/Math"), (0, u "max"), (0, u "(II)I"), (0, .integer 2147483639), (76, u "T_BOOLEAN"), (2, u "T_CHAR"), (1, u "T_FLOAT"), (1, u "T_DOUBLE"), (1, u "T_BYTE"), (1, u "T_SHORT"), (1, u "T_INT"), (1, u "T_LONG"), (1, u "SOFT_MAX_ARRAY_LENGTH"), (56, u "newLength"), (0, u "(III)I")] 25

def k20m0 : Method := { name := "<init>", desc := "()V", sig := { parameters := [], returnType := none }, accessFlags := 2, code := none }
def k20c1 : Code := { maxStack := 3, maxLocals := 4, code := jdk_48_method_27_code, exceptionTable := #[], attributes := #[] }
def k20m1 : Method := { name := "newLength", desc := "(III)I", sig := { parameters := [.int, .int, .int], returnType := some .int }, accessFlags := 9, code := some k20c1 }
/-- jdk/internal/util/ArraysSupport -/
def k20 : Class := { plain "jdk/internal/util/ArraysSupport" (some 0) with
  accessFlags := 33
  interfaces := #[]
  cf := some (fileOf pool20 21 #[] #[{ accessFlags := 2, nameIndex := 9, descriptorIndex := 19, attributes := #[] }, { accessFlags := 9, nameIndex := 351, descriptorIndex := 352, attributes := #[] }] 33 16 #[] #[{ accessFlags := 24, nameIndex := 28, descriptorIndex := 29, attributes := #[] }, { accessFlags := 26, nameIndex := 38, descriptorIndex := 39, attributes := #[] }, { accessFlags := 25, nameIndex := 121, descriptorIndex := 25, attributes := #[] }, { accessFlags := 25, nameIndex := 131, descriptorIndex := 25, attributes := #[] }, { accessFlags := 25, nameIndex := 137, descriptorIndex := 25, attributes := #[] }, { accessFlags := 25, nameIndex := 143, descriptorIndex := 25, attributes := #[] }, { accessFlags := 25, nameIndex := 53, descriptorIndex := 25, attributes := #[] }, { accessFlags := 25, nameIndex := 24, descriptorIndex := 25, attributes := #[] }, { accessFlags := 25, nameIndex := 162, descriptorIndex := 25, attributes := #[] }, { accessFlags := 25, nameIndex := 187, descriptorIndex := 25, attributes := #[] }, { accessFlags := 26, nameIndex := 48, descriptorIndex := 25, attributes := #[] }, { accessFlags := 25, nameIndex := 277, descriptorIndex := 25, attributes := #[] }, { accessFlags := 25, nameIndex := 280, descriptorIndex := 25, attributes := #[] }, { accessFlags := 25, nameIndex := 282, descriptorIndex := 25, attributes := #[] }, { accessFlags := 25, nameIndex := 284, descriptorIndex := 25, attributes := #[] }, { accessFlags := 25, nameIndex := 286, descriptorIndex := 25, attributes := #[] }, { accessFlags := 25, nameIndex := 288, descriptorIndex := 25, attributes := #[] }, { accessFlags := 25, nameIndex := 290, descriptorIndex := 25, attributes := #[] }, { accessFlags := 25, nameIndex := 292, descriptorIndex := 25, attributes := #[] }, { accessFlags := 26, nameIndex := 108, descriptorIndex := 109, attributes := #[] }, { accessFlags := 25, nameIndex := 294, descriptorIndex := 25, attributes := #[] }])
  fields := #[{ name := "U", type := (.object "jdk/internal/misc/Unsafe"), accessFlags := 24, slot := 0, constantValue := 0 }, { name := "BIG_ENDIAN", type := .boolean, accessFlags := 26, slot := 1, constantValue := 0 }, { name := "LOG2_ARRAY_BOOLEAN_INDEX_SCALE", type := .int, accessFlags := 25, slot := 2, constantValue := 0 }, { name := "LOG2_ARRAY_BYTE_INDEX_SCALE", type := .int, accessFlags := 25, slot := 3, constantValue := 0 }, { name := "LOG2_ARRAY_CHAR_INDEX_SCALE", type := .int, accessFlags := 25, slot := 4, constantValue := 0 }, { name := "LOG2_ARRAY_SHORT_INDEX_SCALE", type := .int, accessFlags := 25, slot := 5, constantValue := 0 }, { name := "LOG2_ARRAY_INT_INDEX_SCALE", type := .int, accessFlags := 25, slot := 6, constantValue := 0 }, { name := "LOG2_ARRAY_LONG_INDEX_SCALE", type := .int, accessFlags := 25, slot := 7, constantValue := 0 }, { name := "LOG2_ARRAY_FLOAT_INDEX_SCALE", type := .int, accessFlags := 25, slot := 8, constantValue := 0 }, { name := "LOG2_ARRAY_DOUBLE_INDEX_SCALE", type := .int, accessFlags := 25, slot := 9, constantValue := 0 }, { name := "LOG2_BYTE_BIT_SIZE", type := .int, accessFlags := 26, slot := 10, constantValue := 0 }, { name := "T_BOOLEAN", type := .int, accessFlags := 25, slot := 11, constantValue := 0 }, { name := "T_CHAR", type := .int, accessFlags := 25, slot := 12, constantValue := 0 }, { name := "T_FLOAT", type := .int, accessFlags := 25, slot := 13, constantValue := 0 }, { name := "T_DOUBLE", type := .int, accessFlags := 25, slot := 14, constantValue := 0 }, { name := "T_BYTE", type := .int, accessFlags := 25, slot := 15, constantValue := 0 }, { name := "T_SHORT", type := .int, accessFlags := 25, slot := 16, constantValue := 0 }, { name := "T_INT", type := .int, accessFlags := 25, slot := 17, constantValue := 0 }, { name := "T_LONG", type := .int, accessFlags := 25, slot := 18, constantValue := 0 }, { name := "JLA", type := (.object "jdk/internal/access/JavaLangAccess"), accessFlags := 26, slot := 19, constantValue := 0 }, { name := "SOFT_MAX_ARRAY_LENGTH", type := .int, accessFlags := 25, slot := 20, constantValue := 0 }]
  methods := #[k20m0, k20m1]
  instanceTypes := #[]
  staticTypes := #[(.object "jdk/internal/misc/Unsafe"), .boolean, .int, .int, .int, .int, .int, .int, .int, .int, .int, .int, .int, .int, .int, .int, .int, .int, .int, (.object "jdk/internal/access/JavaLangAccess"), .int]
  resolved := Array.replicate 378 none
  statics := none }

/-- the primitive byte -/
def k21 : Class := { plain "byte" none with kind := .primitive 'B', accessFlags := 0x411 }
/-- [B -/
def k22 : Class := { plain "[B" (some 0) with kind := .array 21 .byte, interfaces := #[19, 6], accessFlags := 1041 }

/-- the primitive int -/
def k23 : Class := { plain "int" none with kind := .primitive 'I', accessFlags := 0x411 }
/-- [I -/
def k24 : Class := { plain "[I" (some 0) with kind := .array 23 .int, interfaces := #[19, 6], accessFlags := 1041 }

def heap : Heap := #[{ cls := 11, slots := #[.long 0, .int 1, .null, .int 0, .null, .int 0, .int 0], vm := .statics 11 },
  { cls := 15, slots := #[.int 0, .int 0, .null, .null, .ref 4, .ref 3, .int 0, .int 0, .long 0], vm := .statics 15 },
  { cls := 18, slots := #[.null, .null, .null], vm := .statics 18 },
  { cls := 22, slots := #[.int 48, .int 49, .int 50, .int 51, .int 52, .int 53, .int 54, .int 55, .int 56, .int 57, .int 48, .int 49, .int 50, .int 51, .int 52, .int 53, .int 54, .int 55, .int 56, .int 57, .int 48, .int 49, .int 50, .int 51, .int 52, .int 53, .int 54, .int 55, .int 56, .int 57, .int 48, .int 49, .int 50, .int 51, .int 52, .int 53, .int 54, .int 55, .int 56, .int 57, .int 48, .int 49, .int 50, .int 51, .int 52, .int 53, .int 54, .int 55, .int 56, .int 57, .int 48, .int 49, .int 50, .int 51, .int 52, .int 53, .int 54, .int 55, .int 56, .int 57, .int 48, .int 49, .int 50, .int 51, .int 52, .int 53, .int 54, .int 55, .int 56, .int 57, .int 48, .int 49, .int 50, .int 51, .int 52, .int 53, .int 54, .int 55, .int 56, .int 57, .int 48, .int 49, .int 50, .int 51, .int 52, .int 53, .int 54, .int 55, .int 56, .int 57, .int 48, .int 49, .int 50, .int 51, .int 52, .int 53, .int 54, .int 55, .int 56, .int 57], vm := .none },
  { cls := 22, slots := #[.int 48, .int 48, .int 48, .int 48, .int 48, .int 48, .int 48, .int 48, .int 48, .int 48, .int 49, .int 49, .int 49, .int 49, .int 49, .int 49, .int 49, .int 49, .int 49, .int 49, .int 50, .int 50, .int 50, .int 50, .int 50, .int 50, .int 50, .int 50, .int 50, .int 50, .int 51, .int 51, .int 51, .int 51, .int 51, .int 51, .int 51, .int 51, .int 51, .int 51, .int 52, .int 52, .int 52, .int 52, .int 52, .int 52, .int 52, .int 52, .int 52, .int 52, .int 53, .int 53, .int 53, .int 53, .int 53, .int 53, .int 53, .int 53, .int 53, .int 53, .int 54, .int 54, .int 54, .int 54, .int 54, .int 54, .int 54, .int 54, .int 54, .int 54, .int 55, .int 55, .int 55, .int 55, .int 55, .int 55, .int 55, .int 55, .int 55, .int 55, .int 56, .int 56, .int 56, .int 56, .int 56, .int 56, .int 56, .int 56, .int 56, .int 56, .int 57, .int 57, .int 57, .int 57, .int 57, .int 57, .int 57, .int 57, .int 57, .int 57], vm := .none }]
def classes : Array Class := #[k0, k1, k2, k3, k4, k5, k6, k7, k8, k9, k10, k11, k12, k13, k14, k15, k16, k17, k18, k19, k20, k21, k22, k23, k24]
def interned : List (Array UInt16 × Addr) := []
def slotsUsed : Nat := 219
def theMethod : MethodId := ⟨1, 1⟩
def args0 : Array Value := #[.int 5, .int 6, .int 7, .int 3]
def aboutOver (below : List Frame) : State where
  vm := { classes := classes, interned := interned.toArray }
  heap := heap
  slotsUsed := slotsUsed
  threads := #[{ frames := .invoking theMethod args0 :: below }]
def below0 : List Frame := [.native { method := ⟨0, 0⟩, args := #[] }]
def about1 : State := aboutOver below0
def p0 : Program := .bare "" "" ""
def e0 : Env := launch0.env 0 0 0
theorem w_frames : about1.frames = Frame.invoking theMethod args0 :: below0 := rfl
set_option maxRecDepth 65536 in
theorem w_args : argsFit about1.vm theMethod args0 = true := by decide +kernel
set_option maxRecDepth 65536 in
theorem w_heap : heapFits about1 = true := by decide +kernel
set_option maxRecDepth 65536 in
theorem w_runnable : about1.curStatus? = some .runnable := by decide +kernel
set_option maxRecDepth 65536 in
theorem w_alone : about1.alone = true := by decide +kernel
set_option maxRecDepth 65536 in
theorem w_named : about1.methodNamed? x = some theMethod := by decide +kernel
set_option maxRecDepth 65536 in
theorem w_hears : about1.hears theMethod below0 = true := by decide +kernel
set_option maxRecDepth 65536 in
theorem w_ripe : about1.ripe theMethod args0 below0 = true := by decide +kernel
theorem w_running : about1.status = .running := rfl
set_option maxRecDepth 65536 in
theorem w_room : about1.hasRoom e0.platform room_1 = true :=
  launch0.hasRoom_least _ room_1 (by decide +kernel) (by decide +kernel) (by decide +kernel) (by decide +kernel) (by decide +kernel) (by decide +kernel)
theorem allAtoms_all (ts : List Jvm.Cond) (a : Array Jvm.Value) (st : Jvm.State) : (allAtoms ts).before a st = ts.all (fun c => c.before a st) := by
  induction ts with
  | nil => rfl
  | cons c t ih =>
    show (Jvm.Cond.and c (allAtoms t)).before a st = _
    rw [Jvm.Cond.before_and, ih, List.all_cons]
def words1 : List Jvm.Cond := Jvm.Cond.code x code maxLocals ret :: tables_1
/-- a 'code' word, met by the world's own term for the bytes: nothing is compared byte by byte -/
theorem code_word {y : MethodName} {bytes : ByteArray} {mx : Nat} {rt : Option FieldType} {a : Array Value} {s : State} {m : MethodId} {meth : Method} {c : Code} (h1 : s.methodNamed? y = some m) (h2 : s.vm.method? m = some meth) (h3 : meth.code = some c) (h4 : c.code = bytes)
    (h5 : (c.maxLocals == mx && c.exceptionTable.isEmpty && decide (c.maxStack ≤ mostOperands) && decide (meth.sig.returnType = rt) && !meth.locks && decide (parseMethodDescriptor y.desc = some meth.sig)) = true) : (Jvm.Cond.code y bytes mx rt).before a s = true := by
  simp only [Bool.and_eq_true, beq_iff_eq, Bool.not_eq_true', decide_eq_true_eq] at h5
  obtain ⟨⟨⟨⟨⟨g1, g2⟩, g3⟩, g4⟩, g5⟩, g6⟩ := h5
  simp [Cond.before, Cond.holds, Cond.value, h1, h2, h3, h4, g1, g2, g3, g4, g5, g6]
def isCode : Jvm.Cond → Bool
  | .code _ _ _ _ => true
  | _ => false
theorem all_split {L : List Jvm.Cond} {P : Jvm.Cond → Bool} (h1 : L.all (fun c => isCode c || P c) = true) (h2 : ∀ c ∈ L.filter isCode, P c = true) : L.all P = true := by
  refine List.all_eq_true.mpr fun c hc => ?_
  have h := List.all_eq_true.mp h1 c hc
  rcases Bool.eq_false_or_eq_true (isCode c) with hi | hi
  · exact h2 c (List.mem_filter.mpr ⟨hc, hi⟩)
  · simpa [hi] using h
set_option maxRecDepth 65536 in
theorem w_c0 : (Jvm.Cond.code x code maxLocals ret).before args0 about1 = true := code_word (m := ⟨1, 1⟩) (meth := k1m1) (c := k1c1) (by decide +kernel) rfl rfl rfl (by decide +kernel)
set_option maxRecDepth 65536 in
theorem w_c1 : (Jvm.Cond.code ({ cls := "standwatch/query/Arguments", name := "numbers", desc := "([I)Ljava/lang/String;" } : Jvm.MethodName) prog_18_method_8_code (3 : Nat) (Option.some (Jvm.ClassFile.FieldType.object "java/lang/String"))).before args0 about1 = true := code_word (m := ⟨2, 1⟩) (meth := k2m1) (c := k2c1) (by decide +kernel) rfl rfl rfl (by decide +kernel)
set_option maxRecDepth 65536 in
theorem w_c2 : (Jvm.Cond.code ({ cls := "java/lang/StringBuilder", name := "<init>", desc := "(I)V" } : Jvm.MethodName) jdk_67_method_2_code (2 : Nat) (Option.none : Option Jvm.ClassFile.FieldType)).before args0 about1 = true := code_word (m := ⟨8, 1⟩) (meth := k8m1) (c := k8c1) (by decide +kernel) rfl rfl rfl (by decide +kernel)
set_option maxRecDepth 65536 in
theorem w_c3 : (Jvm.Cond.code ({ cls := "java/lang/AbstractStringBuilder", name := "<init>", desc := "(I)V" } : Jvm.MethodName) jdk_68_method_2_code (2 : Nat) (Option.none : Option Jvm.ClassFile.FieldType)).before args0 about1 = true := code_word (m := ⟨5, 1⟩) (meth := k5m1) (c := k5c1) (by decide +kernel) rfl rfl rfl (by decide +kernel)
set_option maxRecDepth 65536 in
theorem w_c4 : (Jvm.Cond.code ({ cls := "java/lang/Object", name := "<init>", desc := "()V" } : Jvm.MethodName) object_method_1_code (1 : Nat) (Option.none : Option Jvm.ClassFile.FieldType)).before args0 about1 = true := code_word (m := ⟨0, 0⟩) (meth := k0m0) (c := k0c0) (by decide +kernel) rfl rfl rfl (by decide +kernel)
set_option maxRecDepth 65536 in
theorem w_c5 : (Jvm.Cond.code ({ cls := "java/lang/StringBuilder", name := "append", desc := "(C)Ljava/lang/StringBuilder;" } : Jvm.MethodName) jdk_67_method_14_code (2 : Nat) (Option.some (Jvm.ClassFile.FieldType.object "java/lang/StringBuilder"))).before args0 about1 = true := code_word (m := ⟨8, 3⟩) (meth := k8m3) (c := k8c3) (by decide +kernel) rfl rfl rfl (by decide +kernel)
set_option maxRecDepth 65536 in
theorem w_c6 : (Jvm.Cond.code ({ cls := "java/lang/AbstractStringBuilder", name := "append", desc := "(C)Ljava/lang/AbstractStringBuilder;" } : Jvm.MethodName) jdk_68_method_31_code (2 : Nat) (Option.some (Jvm.ClassFile.FieldType.object "java/lang/AbstractStringBuilder"))).before args0 about1 = true := code_word (m := ⟨5, 6⟩) (meth := k5m6) (c := k5c6) (by decide +kernel) rfl rfl rfl (by decide +kernel)
set_option maxRecDepth 65536 in
theorem w_c7 : (Jvm.Cond.code ({ cls := "java/lang/AbstractStringBuilder", name := "ensureCapacityInternal", desc := "(I)V" } : Jvm.MethodName) jdk_68_method_9_code (3 : Nat) (Option.none : Option Jvm.ClassFile.FieldType)).before args0 about1 = true := code_word (m := ⟨5, 3⟩) (meth := k5m3) (c := k5c3) (by decide +kernel) rfl rfl rfl (by decide +kernel)
set_option maxRecDepth 65536 in
theorem w_c8 : (Jvm.Cond.code ({ cls := "java/lang/AbstractStringBuilder", name := "isLatin1", desc := "()Z" } : Jvm.MethodName) jdk_68_method_68_code (1 : Nat) (Option.some Jvm.ClassFile.FieldType.boolean)).before args0 about1 = true := code_word (m := ⟨5, 9⟩) (meth := k5m9) (c := k5c9) (by decide +kernel) rfl rfl rfl (by decide +kernel)
set_option maxRecDepth 65536 in
theorem w_c9 : (Jvm.Cond.code ({ cls := "java/lang/StringLatin1", name := "canEncode", desc := "(C)Z" } : Jvm.MethodName) jdk_43_method_3_code (1 : Nat) (Option.some Jvm.ClassFile.FieldType.boolean)).before args0 about1 = true := code_word (m := ⟨12, 2⟩) (meth := k12m2) (c := k12c2) (by decide +kernel) rfl rfl rfl (by decide +kernel)
set_option maxRecDepth 65536 in
theorem w_c10 : (Jvm.Cond.code ({ cls := "java/lang/StringBuilder", name := "append", desc := "(Ljava/lang/String;)Ljava/lang/StringBuilder;" } : Jvm.MethodName) jdk_67_method_7_code (2 : Nat) (Option.some (Jvm.ClassFile.FieldType.object "java/lang/StringBuilder"))).before args0 about1 = true := code_word (m := ⟨8, 2⟩) (meth := k8m2) (c := k8c2) (by decide +kernel) rfl rfl rfl (by decide +kernel)
set_option maxRecDepth 65536 in
theorem w_c11 : (Jvm.Cond.code ({ cls := "java/lang/AbstractStringBuilder", name := "append", desc := "(Ljava/lang/String;)Ljava/lang/AbstractStringBuilder;" } : Jvm.MethodName) jdk_68_method_22_code (3 : Nat) (Option.some (Jvm.ClassFile.FieldType.object "java/lang/AbstractStringBuilder"))).before args0 about1 = true := code_word (m := ⟨5, 5⟩) (meth := k5m5) (c := k5c5) (by decide +kernel) rfl rfl rfl (by decide +kernel)
set_option maxRecDepth 65536 in
theorem w_c12 : (Jvm.Cond.code ({ cls := "java/lang/String", name := "length", desc := "()I" } : Jvm.MethodName) jdk_42_method_54_code (1 : Nat) (Option.some Jvm.ClassFile.FieldType.int)).before args0 about1 = true := code_word (m := ⟨11, 2⟩) (meth := k11m2) (c := k11c2) (by decide +kernel) rfl rfl rfl (by decide +kernel)
set_option maxRecDepth 65536 in
theorem w_c13 : (Jvm.Cond.code ({ cls := "java/lang/String", name := "coder", desc := "()B" } : Jvm.MethodName) jdk_42_method_152_code (1 : Nat) (Option.some Jvm.ClassFile.FieldType.byte)).before args0 about1 = true := code_word (m := ⟨11, 6⟩) (meth := k11m6) (c := k11c6) (by decide +kernel) rfl rfl rfl (by decide +kernel)
set_option maxRecDepth 65536 in
theorem w_c14 : (Jvm.Cond.code ({ cls := "java/lang/AbstractStringBuilder", name := "putStringAt", desc := "(ILjava/lang/String;)V" } : Jvm.MethodName) jdk_68_method_73_code (3 : Nat) (Option.none : Option Jvm.ClassFile.FieldType)).before args0 about1 = true := code_word (m := ⟨5, 11⟩) (meth := k5m11) (c := k5c11) (by decide +kernel) rfl rfl rfl (by decide +kernel)
set_option maxRecDepth 65536 in
theorem w_c15 : (Jvm.Cond.code ({ cls := "java/lang/AbstractStringBuilder", name := "inflateIfNeededFor", desc := "(Ljava/lang/String;)V" } : Jvm.MethodName) jdk_68_method_71_code (2 : Nat) (Option.none : Option Jvm.ClassFile.FieldType)).before args0 about1 = true := code_word (m := ⟨5, 10⟩) (meth := k5m10) (c := k5c10) (by decide +kernel) rfl rfl rfl (by decide +kernel)
set_option maxRecDepth 65536 in
theorem w_c16 : (Jvm.Cond.code ({ cls := "java/lang/String", name := "getBytes", desc := "([BIB)V" } : Jvm.MethodName) jdk_42_method_147_code (4 : Nat) (Option.none : Option Jvm.ClassFile.FieldType)).before args0 about1 = true := code_word (m := ⟨11, 4⟩) (meth := k11m4) (c := k11c4) (by decide +kernel) rfl rfl rfl (by decide +kernel)
set_option maxRecDepth 65536 in
theorem w_c17 : (Jvm.Cond.code ({ cls := "java/lang/StringBuilder", name := "append", desc := "(I)Ljava/lang/StringBuilder;" } : Jvm.MethodName) jdk_67_method_15_code (2 : Nat) (Option.some (Jvm.ClassFile.FieldType.object "java/lang/StringBuilder"))).before args0 about1 = true := code_word (m := ⟨8, 4⟩) (meth := k8m4) (c := k8c4) (by decide +kernel) rfl rfl rfl (by decide +kernel)
set_option maxRecDepth 65536 in
theorem w_c18 : (Jvm.Cond.code ({ cls := "java/lang/AbstractStringBuilder", name := "append", desc := "(I)Ljava/lang/AbstractStringBuilder;" } : Jvm.MethodName) jdk_68_method_32_code (4 : Nat) (Option.some (Jvm.ClassFile.FieldType.object "java/lang/AbstractStringBuilder"))).before args0 about1 = true := code_word (m := ⟨5, 7⟩) (meth := k5m7) (c := k5c7) (by decide +kernel) rfl rfl rfl (by decide +kernel)
set_option maxRecDepth 65536 in
theorem w_c19 : (Jvm.Cond.code ({ cls := "java/lang/Integer", name := "stringSize", desc := "(I)I" } : Jvm.MethodName) jdk_33_method_13_code (4 : Nat) (Option.some Jvm.ClassFile.FieldType.int)).before args0 about1 = true := code_word (m := ⟨15, 1⟩) (meth := k15m1) (c := k15c1) (by decide +kernel) rfl rfl rfl (by decide +kernel)
set_option maxRecDepth 65536 in
theorem w_c20 : (Jvm.Cond.code ({ cls := "java/lang/Integer", name := "getChars", desc := "(II[B)I" } : Jvm.MethodName) jdk_33_method_12_code (7 : Nat) (Option.some Jvm.ClassFile.FieldType.int)).before args0 about1 = true := code_word (m := ⟨15, 0⟩) (meth := k15m0) (c := k15c0) (by decide +kernel) rfl rfl rfl (by decide +kernel)
set_option maxRecDepth 65536 in
theorem w_c21 : (Jvm.Cond.code ({ cls := "java/lang/StringBuilder", name := "toString", desc := "()Ljava/lang/String;" } : Jvm.MethodName) jdk_67_method_42_code (1 : Nat) (Option.some (Jvm.ClassFile.FieldType.object "java/lang/String"))).before args0 about1 = true := code_word (m := ⟨8, 5⟩) (meth := k8m5) (c := k8c5) (by decide +kernel) rfl rfl rfl (by decide +kernel)
set_option maxRecDepth 65536 in
theorem w_c22 : (Jvm.Cond.code ({ cls := "java/lang/String", name := "<init>", desc := "(Ljava/lang/StringBuilder;)V" } : Jvm.MethodName) jdk_42_method_53_code (2 : Nat) (Option.none : Option Jvm.ClassFile.FieldType)).before args0 about1 = true := code_word (m := ⟨11, 1⟩) (meth := k11m1) (c := k11c1) (by decide +kernel) rfl rfl rfl (by decide +kernel)
set_option maxRecDepth 65536 in
theorem w_c23 : (Jvm.Cond.code ({ cls := "java/lang/String", name := "<init>", desc := "(Ljava/lang/AbstractStringBuilder;Ljava/lang/Void;)V" } : Jvm.MethodName) jdk_42_method_150_code (5 : Nat) (Option.none : Option Jvm.ClassFile.FieldType)).before args0 about1 = true := code_word (m := ⟨11, 5⟩) (meth := k11m5) (c := k11c5) (by decide +kernel) rfl rfl rfl (by decide +kernel)
set_option maxRecDepth 65536 in
theorem w_c24 : (Jvm.Cond.code ({ cls := "java/lang/AbstractStringBuilder", name := "getValue", desc := "()[B" } : Jvm.MethodName) jdk_68_method_64_code (1 : Nat) (Option.some (Jvm.ClassFile.FieldType.array Jvm.ClassFile.FieldType.byte))).before args0 about1 = true := code_word (m := ⟨5, 8⟩) (meth := k5m8) (c := k5c8) (by decide +kernel) rfl rfl rfl (by decide +kernel)
set_option maxRecDepth 65536 in
theorem w_c25 : (Jvm.Cond.code ({ cls := "java/lang/StringBuilder", name := "length", desc := "()I" } : Jvm.MethodName) jdk_67_method_93_code (1 : Nat) (Option.some Jvm.ClassFile.FieldType.int)).before args0 about1 = true := code_word (m := ⟨8, 6⟩) (meth := k8m6) (c := k8c6) (by decide +kernel) rfl rfl rfl (by decide +kernel)
set_option maxRecDepth 65536 in
theorem w_c26 : (Jvm.Cond.code ({ cls := "java/lang/AbstractStringBuilder", name := "length", desc := "()I" } : Jvm.MethodName) jdk_68_method_6_code (1 : Nat) (Option.some Jvm.ClassFile.FieldType.int)).before args0 about1 = true := code_word (m := ⟨5, 2⟩) (meth := k5m2) (c := k5c2) (by decide +kernel) rfl rfl rfl (by decide +kernel)
set_option maxRecDepth 65536 in
theorem w_c27 : (Jvm.Cond.code ({ cls := "java/util/Arrays", name := "copyOfRange", desc := "([BII)[B" } : Jvm.MethodName) jdk_65_method_132_code (3 : Nat) (Option.some (Jvm.ClassFile.FieldType.array Jvm.ClassFile.FieldType.byte))).before args0 about1 = true := code_word (m := ⟨16, 3⟩) (meth := k16m3) (c := k16c3) (by decide +kernel) rfl rfl rfl (by decide +kernel)
set_option maxRecDepth 65536 in
theorem w_c28 : (Jvm.Cond.code ({ cls := "java/util/Arrays", name := "copyOfRangeByte", desc := "([BII)[B" } : Jvm.MethodName) jdk_65_method_133_code (5 : Nat) (Option.some (Jvm.ClassFile.FieldType.array Jvm.ClassFile.FieldType.byte))).before args0 about1 = true := code_word (m := ⟨16, 4⟩) (meth := k16m4) (c := k16c4) (by decide +kernel) rfl rfl rfl (by decide +kernel)
set_option maxRecDepth 65536 in
theorem w_c29 : (Jvm.Cond.code ({ cls := "java/util/Arrays", name := "checkLength", desc := "(II)V" } : Jvm.MethodName) jdk_65_method_131_code (2 : Nat) (Option.none : Option Jvm.ClassFile.FieldType)).before args0 about1 = true := code_word (m := ⟨16, 2⟩) (meth := k16m2) (c := k16c2) (by decide +kernel) rfl rfl rfl (by decide +kernel)
set_option maxRecDepth 65536 in
theorem w_c30 : (Jvm.Cond.code ({ cls := "java/lang/Math", name := "min", desc := "(II)I" } : Jvm.MethodName) jdk_29_method_69_code (2 : Nat) (Option.some Jvm.ClassFile.FieldType.int)).before args0 about1 = true := code_word (m := ⟨17, 2⟩) (meth := k17m2) (c := k17c2) (by decide +kernel) rfl rfl rfl (by decide +kernel)
set_option maxRecDepth 65536 in
theorem w_c31 : (Jvm.Cond.code ({ cls := "standwatch/query/ArgumentsNumbersPinLaw", name := "width", desc := "(I)I" } : Jvm.MethodName) method_4_code (3 : Nat) (Option.some Jvm.ClassFile.FieldType.int)).before args0 about1 = true := code_word (m := ⟨1, 3⟩) (meth := k1m3) (c := k1c3) (by decide +kernel) rfl rfl rfl (by decide +kernel)
set_option maxRecDepth 65536 in
theorem w_c32 : (Jvm.Cond.code ({ cls := "standwatch/query/ArgumentsNumbersPinLaw", name := "digits", desc := "(J)I" } : Jvm.MethodName) method_3_code (2 : Nat) (Option.some Jvm.ClassFile.FieldType.int)).before args0 about1 = true := code_word (m := ⟨1, 2⟩) (meth := k1m2) (c := k1c2) (by decide +kernel) rfl rfl rfl (by decide +kernel)
set_option maxRecDepth 65536 in
theorem w_c33 : (Jvm.Cond.code ({ cls := "java/lang/String", name := "charAt", desc := "(I)C" } : Jvm.MethodName) jdk_42_method_56_code (2 : Nat) (Option.some Jvm.ClassFile.FieldType.char)).before args0 about1 = true := code_word (m := ⟨11, 3⟩) (meth := k11m3) (c := k11c3) (by decide +kernel) rfl rfl rfl (by decide +kernel)
set_option maxRecDepth 65536 in
theorem w_c34 : (Jvm.Cond.code ({ cls := "java/lang/String", name := "isLatin1", desc := "()Z" } : Jvm.MethodName) jdk_42_method_154_code (1 : Nat) (Option.some Jvm.ClassFile.FieldType.boolean)).before args0 about1 = true := code_word (m := ⟨11, 7⟩) (meth := k11m7) (c := k11c7) (by decide +kernel) rfl rfl rfl (by decide +kernel)
set_option maxRecDepth 65536 in
theorem w_c35 : (Jvm.Cond.code ({ cls := "java/lang/StringLatin1", name := "charAt", desc := "([BI)C" } : Jvm.MethodName) jdk_43_method_2_code (2 : Nat) (Option.some Jvm.ClassFile.FieldType.char)).before args0 about1 = true := code_word (m := ⟨12, 1⟩) (meth := k12m1) (c := k12c1) (by decide +kernel) rfl rfl rfl (by decide +kernel)
set_option maxRecDepth 65536 in
theorem w_c36 : (Jvm.Cond.code ({ cls := "java/lang/String", name := "checkIndex", desc := "(II)V" } : Jvm.MethodName) jdk_42_method_155_code (2 : Nat) (Option.none : Option Jvm.ClassFile.FieldType)).before args0 about1 = true := code_word (m := ⟨11, 8⟩) (meth := k11m8) (c := k11c8) (by decide +kernel) rfl rfl rfl (by decide +kernel)
set_option maxRecDepth 65536 in
theorem w_c37 : (Jvm.Cond.code ({ cls := "jdk/internal/util/Preconditions", name := "checkIndex", desc := "(IILjava/util/function/BiFunction;)I" } : Jvm.MethodName) jdk_41_method_11_code (3 : Nat) (Option.some Jvm.ClassFile.FieldType.int)).before args0 about1 = true := code_word (m := ⟨18, 1⟩) (meth := k18m1) (c := k18c1) (by decide +kernel) rfl rfl rfl (by decide +kernel)
set_option maxRecDepth 65536 in
theorem w_c38 : (Jvm.Cond.code ({ cls := "standwatch/query/ArgumentsNumbersPinLaw", name := "number", desc := "(Ljava/lang/String;II)Z" } : Jvm.MethodName) method_6_code (7 : Nat) (Option.some Jvm.ClassFile.FieldType.boolean)).before args0 about1 = true := code_word (m := ⟨1, 5⟩) (meth := k1m5) (c := k1c5) (by decide +kernel) rfl rfl rfl (by decide +kernel)
set_option maxRecDepth 65536 in
theorem w_c39 : (Jvm.Cond.code ({ cls := "standwatch/query/ArgumentsNumbersPinLaw", name := "dig", desc := "(Ljava/lang/String;IIJIJ)Z" } : Jvm.MethodName) method_5_code (8 : Nat) (Option.some Jvm.ClassFile.FieldType.boolean)).before args0 about1 = true := code_word (m := ⟨1, 4⟩) (meth := k1m4) (c := k1c4) (by decide +kernel) rfl rfl rfl (by decide +kernel)
set_option maxRecDepth 65536 in
theorem w_c40 : (Jvm.Cond.code ({ cls := "java/lang/AbstractStringBuilder", name := "newCapacity", desc := "(I)I" } : Jvm.MethodName) jdk_68_method_10_code (6 : Nat) (Option.some Jvm.ClassFile.FieldType.int)).before args0 about1 = true := code_word (m := ⟨5, 4⟩) (meth := k5m4) (c := k5c4) (by decide +kernel) rfl rfl rfl (by decide +kernel)
set_option maxRecDepth 65536 in
theorem w_c41 : (Jvm.Cond.code ({ cls := "jdk/internal/util/ArraysSupport", name := "newLength", desc := "(III)I" } : Jvm.MethodName) jdk_48_method_27_code (4 : Nat) (Option.some Jvm.ClassFile.FieldType.int)).before args0 about1 = true := code_word (m := ⟨20, 1⟩) (meth := k20m1) (c := k20c1) (by decide +kernel) rfl rfl rfl (by decide +kernel)
set_option maxRecDepth 65536 in
theorem w_c42 : (Jvm.Cond.code ({ cls := "java/lang/Math", name := "max", desc := "(II)I" } : Jvm.MethodName) jdk_29_method_65_code (2 : Nat) (Option.some Jvm.ClassFile.FieldType.int)).before args0 about1 = true := code_word (m := ⟨17, 1⟩) (meth := k17m1) (c := k17c1) (by decide +kernel) rfl rfl rfl (by decide +kernel)
set_option maxRecDepth 65536 in
theorem w_c43 : (Jvm.Cond.code ({ cls := "java/util/Arrays", name := "copyOf", desc := "([BI)[B" } : Jvm.MethodName) jdk_65_method_121_code (3 : Nat) (Option.some (Jvm.ClassFile.FieldType.array Jvm.ClassFile.FieldType.byte))).before args0 about1 = true := code_word (m := ⟨16, 1⟩) (meth := k16m1) (c := k16c1) (by decide +kernel) rfl rfl rfl (by decide +kernel)
def codes1 : List Jvm.Cond := [Jvm.Cond.code x code maxLocals ret, Jvm.Cond.code ({ cls := "standwatch/query/Arguments", name := "numbers", desc := "([I)Ljava/lang/String;" } : Jvm.MethodName) prog_18_method_8_code (3 : Nat) (Option.some (Jvm.ClassFile.FieldType.object "java/lang/String")), Jvm.Cond.code ({ cls := "java/lang/StringBuilder", name := "<init>", desc := "(I)V" } : Jvm.MethodName) jdk_67_method_2_code (2 : Nat) (Option.none : Option Jvm.ClassFile.FieldType), Jvm.Cond.code ({ cls := "java/lang/AbstractStringBuilder", name := "<init>", desc := "(I)V" } : Jvm.MethodName) jdk_68_method_2_code (2 : Nat) (Option.none : Option Jvm.ClassFile.FieldType), Jvm.Cond.code ({ cls := "java/lang/Object", name := "<init>", desc := "()V" } : Jvm.MethodName) object_method_1_code (1 : Nat) (Option.none : Option Jvm.ClassFile.FieldType), Jvm.Cond.code ({ cls := "java/lang/StringBuilder", name := "append", desc := "(C)Ljava/lang/StringBuilder;" } : Jvm.MethodName) jdk_67_method_14_code (2 : Nat) (Option.some (Jvm.ClassFile.FieldType.object "java/lang/StringBuilder")), Jvm.Cond.code ({ cls := "java/lang/AbstractStringBuilder", name := "append", desc := "(C)Ljava/lang/AbstractStringBuilder;" } : Jvm.MethodName) jdk_68_method_31_code (2 : Nat) (Option.some (Jvm.ClassFile.FieldType.object "java/lang/AbstractStringBuilder")), Jvm.Cond.code ({ cls := "java/lang/AbstractStringBuilder", name := "ensureCapacityInternal", desc := "(I)V" } : Jvm.MethodName) jdk_68_method_9_code (3 : Nat) (Option.none : Option Jvm.ClassFile.FieldType), Jvm.Cond.code ({ cls := "java/lang/AbstractStringBuilder", name := "isLatin1", desc := "()Z" } : Jvm.MethodName) jdk_68_method_68_code (1 : Nat) (Option.some Jvm.ClassFile.FieldType.boolean), Jvm.Cond.code ({ cls := "java/lang/StringLatin1", name := "canEncode", desc := "(C)Z" } : Jvm.MethodName) jdk_43_method_3_code (1 : Nat) (Option.some Jvm.ClassFile.FieldType.boolean), Jvm.Cond.code ({ cls := "java/lang/StringBuilder", name := "append", desc := "(Ljava/lang/String;)Ljava/lang/StringBuilder;" } : Jvm.MethodName) jdk_67_method_7_code (2 : Nat) (Option.some (Jvm.ClassFile.FieldType.object "java/lang/StringBuilder")), Jvm.Cond.code ({ cls := "java/lang/AbstractStringBuilder", name := "append", desc := "(Ljava/lang/String;)Ljava/lang/AbstractStringBuilder;" } : Jvm.MethodName) jdk_68_method_22_code (3 : Nat) (Option.some (Jvm.ClassFile.FieldType.object "java/lang/AbstractStringBuilder")), Jvm.Cond.code ({ cls := "java/lang/String", name := "length", desc := "()I" } : Jvm.MethodName) jdk_42_method_54_code (1 : Nat) (Option.some Jvm.ClassFile.FieldType.int), Jvm.Cond.code ({ cls := "java/lang/String", name := "coder", desc := "()B" } : Jvm.MethodName) jdk_42_method_152_code (1 : Nat) (Option.some Jvm.ClassFile.FieldType.byte), Jvm.Cond.code ({ cls := "java/lang/AbstractStringBuilder", name := "putStringAt", desc := "(ILjava/lang/String;)V" } : Jvm.MethodName) jdk_68_method_73_code (3 : Nat) (Option.none : Option Jvm.ClassFile.FieldType), Jvm.Cond.code ({ cls := "java/lang/AbstractStringBuilder", name := "inflateIfNeededFor", desc := "(Ljava/lang/String;)V" } : Jvm.MethodName) jdk_68_method_71_code (2 : Nat) (Option.none : Option Jvm.ClassFile.FieldType), Jvm.Cond.code ({ cls := "java/lang/String", name := "getBytes", desc := "([BIB)V" } : Jvm.MethodName) jdk_42_method_147_code (4 : Nat) (Option.none : Option Jvm.ClassFile.FieldType), Jvm.Cond.code ({ cls := "java/lang/StringBuilder", name := "append", desc := "(I)Ljava/lang/StringBuilder;" } : Jvm.MethodName) jdk_67_method_15_code (2 : Nat) (Option.some (Jvm.ClassFile.FieldType.object "java/lang/StringBuilder")), Jvm.Cond.code ({ cls := "java/lang/AbstractStringBuilder", name := "append", desc := "(I)Ljava/lang/AbstractStringBuilder;" } : Jvm.MethodName) jdk_68_method_32_code (4 : Nat) (Option.some (Jvm.ClassFile.FieldType.object "java/lang/AbstractStringBuilder")), Jvm.Cond.code ({ cls := "java/lang/Integer", name := "stringSize", desc := "(I)I" } : Jvm.MethodName) jdk_33_method_13_code (4 : Nat) (Option.some Jvm.ClassFile.FieldType.int), Jvm.Cond.code ({ cls := "java/lang/Integer", name := "getChars", desc := "(II[B)I" } : Jvm.MethodName) jdk_33_method_12_code (7 : Nat) (Option.some Jvm.ClassFile.FieldType.int), Jvm.Cond.code ({ cls := "java/lang/StringBuilder", name := "toString", desc := "()Ljava/lang/String;" } : Jvm.MethodName) jdk_67_method_42_code (1 : Nat) (Option.some (Jvm.ClassFile.FieldType.object "java/lang/String")), Jvm.Cond.code ({ cls := "java/lang/String", name := "<init>", desc := "(Ljava/lang/StringBuilder;)V" } : Jvm.MethodName) jdk_42_method_53_code (2 : Nat) (Option.none : Option Jvm.ClassFile.FieldType), Jvm.Cond.code ({ cls := "java/lang/String", name := "<init>", desc := "(Ljava/lang/AbstractStringBuilder;Ljava/lang/Void;)V" } : Jvm.MethodName) jdk_42_method_150_code (5 : Nat) (Option.none : Option Jvm.ClassFile.FieldType), Jvm.Cond.code ({ cls := "java/lang/AbstractStringBuilder", name := "getValue", desc := "()[B" } : Jvm.MethodName) jdk_68_method_64_code (1 : Nat) (Option.some (Jvm.ClassFile.FieldType.array Jvm.ClassFile.FieldType.byte)), Jvm.Cond.code ({ cls := "java/lang/StringBuilder", name := "length", desc := "()I" } : Jvm.MethodName) jdk_67_method_93_code (1 : Nat) (Option.some Jvm.ClassFile.FieldType.int), Jvm.Cond.code ({ cls := "java/lang/AbstractStringBuilder", name := "length", desc := "()I" } : Jvm.MethodName) jdk_68_method_6_code (1 : Nat) (Option.some Jvm.ClassFile.FieldType.int), Jvm.Cond.code ({ cls := "java/util/Arrays", name := "copyOfRange", desc := "([BII)[B" } : Jvm.MethodName) jdk_65_method_132_code (3 : Nat) (Option.some (Jvm.ClassFile.FieldType.array Jvm.ClassFile.FieldType.byte)), Jvm.Cond.code ({ cls := "java/util/Arrays", name := "copyOfRangeByte", desc := "([BII)[B" } : Jvm.MethodName) jdk_65_method_133_code (5 : Nat) (Option.some (Jvm.ClassFile.FieldType.array Jvm.ClassFile.FieldType.byte)), Jvm.Cond.code ({ cls := "java/util/Arrays", name := "checkLength", desc := "(II)V" } : Jvm.MethodName) jdk_65_method_131_code (2 : Nat) (Option.none : Option Jvm.ClassFile.FieldType), Jvm.Cond.code ({ cls := "java/lang/Math", name := "min", desc := "(II)I" } : Jvm.MethodName) jdk_29_method_69_code (2 : Nat) (Option.some Jvm.ClassFile.FieldType.int), Jvm.Cond.code ({ cls := "standwatch/query/ArgumentsNumbersPinLaw", name := "width", desc := "(I)I" } : Jvm.MethodName) method_4_code (3 : Nat) (Option.some Jvm.ClassFile.FieldType.int), Jvm.Cond.code ({ cls := "standwatch/query/ArgumentsNumbersPinLaw", name := "digits", desc := "(J)I" } : Jvm.MethodName) method_3_code (2 : Nat) (Option.some Jvm.ClassFile.FieldType.int), Jvm.Cond.code ({ cls := "java/lang/String", name := "charAt", desc := "(I)C" } : Jvm.MethodName) jdk_42_method_56_code (2 : Nat) (Option.some Jvm.ClassFile.FieldType.char), Jvm.Cond.code ({ cls := "java/lang/String", name := "isLatin1", desc := "()Z" } : Jvm.MethodName) jdk_42_method_154_code (1 : Nat) (Option.some Jvm.ClassFile.FieldType.boolean), Jvm.Cond.code ({ cls := "java/lang/StringLatin1", name := "charAt", desc := "([BI)C" } : Jvm.MethodName) jdk_43_method_2_code (2 : Nat) (Option.some Jvm.ClassFile.FieldType.char), Jvm.Cond.code ({ cls := "java/lang/String", name := "checkIndex", desc := "(II)V" } : Jvm.MethodName) jdk_42_method_155_code (2 : Nat) (Option.none : Option Jvm.ClassFile.FieldType), Jvm.Cond.code ({ cls := "jdk/internal/util/Preconditions", name := "checkIndex", desc := "(IILjava/util/function/BiFunction;)I" } : Jvm.MethodName) jdk_41_method_11_code (3 : Nat) (Option.some Jvm.ClassFile.FieldType.int), Jvm.Cond.code ({ cls := "standwatch/query/ArgumentsNumbersPinLaw", name := "number", desc := "(Ljava/lang/String;II)Z" } : Jvm.MethodName) method_6_code (7 : Nat) (Option.some Jvm.ClassFile.FieldType.boolean), Jvm.Cond.code ({ cls := "standwatch/query/ArgumentsNumbersPinLaw", name := "dig", desc := "(Ljava/lang/String;IIJIJ)Z" } : Jvm.MethodName) method_5_code (8 : Nat) (Option.some Jvm.ClassFile.FieldType.boolean), Jvm.Cond.code ({ cls := "java/lang/AbstractStringBuilder", name := "newCapacity", desc := "(I)I" } : Jvm.MethodName) jdk_68_method_10_code (6 : Nat) (Option.some Jvm.ClassFile.FieldType.int), Jvm.Cond.code ({ cls := "jdk/internal/util/ArraysSupport", name := "newLength", desc := "(III)I" } : Jvm.MethodName) jdk_48_method_27_code (4 : Nat) (Option.some Jvm.ClassFile.FieldType.int), Jvm.Cond.code ({ cls := "java/lang/Math", name := "max", desc := "(II)I" } : Jvm.MethodName) jdk_29_method_65_code (2 : Nat) (Option.some Jvm.ClassFile.FieldType.int), Jvm.Cond.code ({ cls := "java/util/Arrays", name := "copyOf", desc := "([BI)[B" } : Jvm.MethodName) jdk_65_method_121_code (3 : Nat) (Option.some (Jvm.ClassFile.FieldType.array Jvm.ClassFile.FieldType.byte))]
set_option maxRecDepth 65536 in
theorem codes_eq : words1.filter isCode = codes1 := rfl
theorem w_codes : ∀ c ∈ words1.filter isCode, c.before args0 about1 = true := by
  rw [codes_eq]
  intro c hc
  simp only [codes1, List.mem_cons, List.not_mem_nil, or_false] at hc
  rcases hc with rfl | rfl | rfl | rfl | rfl | rfl | rfl | rfl | rfl | rfl | rfl | rfl | rfl | rfl | rfl | rfl | rfl | rfl | rfl | rfl | rfl | rfl | rfl | rfl | rfl | rfl | rfl | rfl | rfl | rfl | rfl | rfl | rfl | rfl | rfl | rfl | rfl | rfl | rfl | rfl | rfl | rfl | rfl | rfl
  · exact w_c0
  · exact w_c1
  · exact w_c2
  · exact w_c3
  · exact w_c4
  · exact w_c5
  · exact w_c6
  · exact w_c7
  · exact w_c8
  · exact w_c9
  · exact w_c10
  · exact w_c11
  · exact w_c12
  · exact w_c13
  · exact w_c14
  · exact w_c15
  · exact w_c16
  · exact w_c17
  · exact w_c18
  · exact w_c19
  · exact w_c20
  · exact w_c21
  · exact w_c22
  · exact w_c23
  · exact w_c24
  · exact w_c25
  · exact w_c26
  · exact w_c27
  · exact w_c28
  · exact w_c29
  · exact w_c30
  · exact w_c31
  · exact w_c32
  · exact w_c33
  · exact w_c34
  · exact w_c35
  · exact w_c36
  · exact w_c37
  · exact w_c38
  · exact w_c39
  · exact w_c40
  · exact w_c41
  · exact w_c42
  · exact w_c43
set_option maxRecDepth 65536 in
theorem w_t1 : (words1.take 24).all (fun c => isCode c || c.before args0 about1) = true := by decide +kernel
set_option maxRecDepth 65536 in
theorem w_t2 : ((words1.drop 24).take 24).all (fun c => isCode c || c.before args0 about1) = true := by decide +kernel
set_option maxRecDepth 65536 in
theorem w_t3 : (((words1.drop 24).drop 24).take 24).all (fun c => isCode c || c.before args0 about1) = true := by decide +kernel
set_option maxRecDepth 65536 in
theorem w_t4 : ((((words1.drop 24).drop 24).drop 24).take 24).all (fun c => isCode c || c.before args0 about1) = true := by decide +kernel
set_option maxRecDepth 65536 in
theorem w_t5 : (((((words1.drop 24).drop 24).drop 24).drop 24).take 24).all (fun c => isCode c || c.before args0 about1) = true := by decide +kernel
set_option maxRecDepth 65536 in
theorem w_t6 : ((((((words1.drop 24).drop 24).drop 24).drop 24).drop 24).take 24).all (fun c => isCode c || c.before args0 about1) = true := by decide +kernel
set_option maxRecDepth 65536 in
theorem w_t7 : (((((((words1.drop 24).drop 24).drop 24).drop 24).drop 24).drop 24).take 24).all (fun c => isCode c || c.before args0 about1) = true := by decide +kernel
set_option maxRecDepth 65536 in
theorem w_t8 : ((((((((words1.drop 24).drop 24).drop 24).drop 24).drop 24).drop 24).drop 24).take 24).all (fun c => isCode c || c.before args0 about1) = true := by decide +kernel
set_option maxRecDepth 65536 in
theorem w_t9 : (((((((((words1.drop 24).drop 24).drop 24).drop 24).drop 24).drop 24).drop 24).drop 24).take 24).all (fun c => isCode c || c.before args0 about1) = true := by decide +kernel
set_option maxRecDepth 65536 in
theorem w_t10 : (((((((((words1.drop 24).drop 24).drop 24).drop 24).drop 24).drop 24).drop 24).drop 24).drop 24).all (fun c => isCode c || c.before args0 about1) = true := by decide +kernel
theorem w_tables : (allAtoms (Jvm.Cond.code x code maxLocals ret :: tables_1)).before args0 about1 = true := by
  rw [allAtoms_all]
  show words1.all (fun c => c.before args0 about1) = true
  refine all_split ?_ w_codes
  rw [← List.take_append_drop 24 words1, List.all_append, w_t1, ← List.take_append_drop 24 (words1.drop 24), List.all_append, w_t2, ← List.take_append_drop 24 ((words1.drop 24).drop 24), List.all_append, w_t3, ← List.take_append_drop 24 (((words1.drop 24).drop 24).drop 24), List.all_append, w_t4, ← List.take_append_drop 24 ((((words1.drop 24).drop 24).drop 24).drop 24), List.all_append, w_t5, ← List.take_append_drop 24 (((((words1.drop 24).drop 24).drop 24).drop 24).drop 24), List.all_append, w_t6, ← List.take_append_drop 24 ((((((words1.drop 24).drop 24).drop 24).drop 24).drop 24).drop 24), List.all_append, w_t7, ← List.take_append_drop 24 (((((((words1.drop 24).drop 24).drop 24).drop 24).drop 24).drop 24).drop 24), List.all_append, w_t8, ← List.take_append_drop 24 ((((((((words1.drop 24).drop 24).drop 24).drop 24).drop 24).drop 24).drop 24).drop 24), List.all_append, w_t9, w_t10]
  rfl
set_option maxRecDepth 65536 in
theorem w_rest : rest_1_c.before args0 about1 = true := by decide +kernel
set_option maxRecDepth 65536 in
theorem w_case : (Jvm.Cond.and given_1 narrow_1).before args0 about1 = true := by decide +kernel
set_option maxRecDepth 65536 in
theorem w_consts : constsHeld consts_1 about1 := Jvm.Lit.constsHeldB_iff.mp (by decide +kernel)
theorem w_applies : (headSpec (Jvm.Cond.code x code maxLocals ret :: tables_1) room_1).applies x e0.platform about1 = true :=
  (Spec.applies_iff w_frames).mpr ⟨w_running, w_runnable, w_alone, w_named, w_hears, w_ripe, w_room, w_tables⟩
theorem atStart : AtStart classFile x code maxLocals ret World_1 tables_1 room_1 Calls_1 rest_1 Pre_1 launch0 p0 e0 about1 theMethod args0 below0 :=
  ⟨lists_1, trivial, launch0.admits_env _ _ _, launch0.least_env, fairChoices_fair.cas, fairChoices_fair.clock, w_frames, w_args, w_heap, w_applies, ⟨w_consts, trivial⟩, w_rest, w_case⟩
end start1
theorem witness_1 : WitnessClaimed_1 := ⟨start1.p0, start1.e0, start1.about1, start1.theMethod, start1.args0, start1.below0, start1.atStart⟩
end Jvm.Pilot.@@N@@
