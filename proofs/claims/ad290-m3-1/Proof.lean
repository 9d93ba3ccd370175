import JvmDerived
import JvmDerived.Pilot.@@N@@Statement
import JvmDerived.Pilot.@@N@@Code
set_option linter.unusedVariables false
set_option linter.unusedSimpArgs false
@@BLOCK:HandJ.lean.txt@@
@@BLOCK:HandW.lean.txt@@
@@BLOCK:HandBits.lean.txt@@
@@BLOCK:SymRun.lean.txt@@
@@BLOCK:RowBasics.lean.txt@@
@@BLOCK:Bridge.lean.txt@@
@@BLOCK:SymKit.lean.txt@@
@@BLOCK:NumsL.lean.txt@@
namespace Jvm.Pilot.@@N@@
open Jvm Jvm.ClassFile Sem Op Jvm.Sym Jvm.Pilot.@@N@@.Jvm.D

def y1 : MethodName := ⟨"com/example/caddisfly/caddisfly/UriReference", "isIprivate", "(I)Z"⟩
def y1code : ByteArray := prog_39_method_20_code
def y1I : Info := { own := "com/example/caddisfly/caddisfly/UriReference", ret := some .boolean, ints := [(207, 57344), (208, 63743), (204, 983040), (197, 65535), (203, 65533)] }
def y1w := walkTo y1I y1code [] 400 true (entry [.int] 1)
theorem y1w_some : y1w.isSome = true := by decide +kernel
/-! own: what a tree returns, guard by guard; the needs, linearly -/
theorem own_vf {A : Array Value} {s : State} {G : Cond} {a b : STree} {P : Prop} [Decidable P] (h : G.value A s none s [] = some (decide P)) :
    Kit.valueOf A s (.fork G a b) = if P then Kit.valueOf A s a else Kit.valueOf A s b := by
  simp only [Kit.valueOf, h]
  by_cases p : P <;> simp [p]
theorem own_not {A : Array Value} {s : State} {G : Cond} {P : Prop} [Decidable P] (h : G.value A s none s [] = some (decide P)) : (Cond.not G).value A s none s [] = some (decide (¬ P)) := by
  simp [Cond.value, h]
theorem own_lt {A : Array Value} {s : State} {a b : Term} {x y : Int32} {p q : Int} (ha : a.eval A s none [] s = some (.int x)) (hb : b.eval A s none [] s = some (.int y)) (hx : x.toInt = p) (hy : y.toInt = q) :
    (Cond.lt a b).value A s none s [] = some (decide (p < q)) := by
  rw [Cond.lt_ints ha hb]; subst hx hy; simp only [Int32.lt_iff_toInt_lt]
theorem own_le {A : Array Value} {s : State} {a b : Term} {x y : Int32} {p q : Int} (ha : a.eval A s none [] s = some (.int x)) (hb : b.eval A s none [] s = some (.int y)) (hx : x.toInt = p) (hy : y.toInt = q) :
    (Cond.le a b).value A s none s [] = some (decide (p ≤ q)) := by
  rw [Cond.le_ints ha hb]; subst hx hy; simp only [Int32.le_iff_toInt_le]
theorem own_eq {A : Array Value} {s : State} {a b : Term} {x y : Int32} {p q : Int} (ha : a.eval A s none [] s = some (.int x)) (hb : b.eval A s none [] s = some (.int y)) (hx : x.toInt = p) (hy : y.toInt = q) :
    (Cond.eq a b).value A s none s [] = some (decide (p = q)) := by
  rw [Cond.eq_ints ha hb]; subst hx hy; simp only [Int32.toInt_inj]
def own_def (D : List Cond) (q : Cond) : Bool :=
  D.contains q || match q with
  | .tt => true
  | .not c => own_def D c
  | .and a b => own_def D a && own_def D b
  | .or a b => own_def D a && own_def D b
  | _ => false
theorem own_def_sound {D : List Cond} {A : Array Value} {s : State} (hD : ∀ c ∈ D, ∃ b, c.value A s none s [] = some b) (q : Cond) : own_def D q = true → ∃ b, q.value A s none s [] = some b := by
  induction q with
  | tt => intro _; exact ⟨true, rfl⟩
  | not c ih =>
    intro h; unfold own_def at h; simp only [Bool.or_eq_true] at h
    rcases h with h | h
    · exact hD _ (List.contains_iff_mem.mp h)
    · obtain ⟨b, hb⟩ := ih h; exact ⟨!b, by simp [Cond.value, hb]⟩
  | and a b iha ihb =>
    intro h; unfold own_def at h; simp only [Bool.or_eq_true, Bool.and_eq_true] at h
    rcases h with h | h
    · exact hD _ (List.contains_iff_mem.mp h)
    · obtain ⟨x, hx⟩ := iha h.1; obtain ⟨y, hy⟩ := ihb h.2
      cases x with
      | true => exact ⟨y, by simp [Cond.value, hx, hy]⟩
      | false => exact ⟨false, by simp [Cond.value, hx]⟩
  | or a b iha ihb =>
    intro h; unfold own_def at h; simp only [Bool.or_eq_true, Bool.and_eq_true] at h
    rcases h with h | h
    · exact hD _ (List.contains_iff_mem.mp h)
    · obtain ⟨x, hx⟩ := iha h.1; obtain ⟨y, hy⟩ := ihb h.2
      cases x with
      | true => exact ⟨true, by simp [Cond.value, hx]⟩
      | false => exact ⟨y, by simp [Cond.value, hx, hy]⟩
  | _ =>
    intro h; unfold own_def at h; simp only [Bool.or_false] at h
    exact hD _ (List.contains_iff_mem.mp h)
def own_tru (T D : List Cond) (q : Cond) : Bool :=
  T.contains q || match q with
  | .tt => true
  | .and a b => own_tru T D a && own_tru T D b
  | .or a b => own_def D a && own_tru T D b
  | _ => false
theorem own_tru_sound {T D : List Cond} {A : Array Value} {s : State} (hT : ∀ c ∈ T, c.value A s none s [] = some true) (hD : ∀ c ∈ D, ∃ b, c.value A s none s [] = some b) (q : Cond) : own_tru T D q = true → q.value A s none s [] = some true := by
  induction q with
  | tt => intro _; rfl
  | and a b iha ihb =>
    intro h; unfold own_tru at h; simp only [Bool.or_eq_true, Bool.and_eq_true] at h
    rcases h with h | h
    · exact hT _ (List.contains_iff_mem.mp h)
    · simp [Cond.value, iha h.1, ihb h.2]
  | or a b iha ihb =>
    intro h; unfold own_tru at h; simp only [Bool.or_eq_true, Bool.and_eq_true] at h
    rcases h with h | h
    · exact hT _ (List.contains_iff_mem.mp h)
    · obtain ⟨x, hx⟩ := own_def_sound hD a h.1
      cases x with
      | true => simp [Cond.value, hx]
      | false => simp [Cond.value, hx, ihb h.2]
  | _ =>
    intro h; unfold own_tru at h; simp only [Bool.or_false] at h
    exact hT _ (List.contains_iff_mem.mp h)
theorem own_needs {L T D : List Cond} {A : Array Value} {s : State} (hT : ∀ c ∈ T, c.value A s none s [] = some true) (hD : ∀ c ∈ D, ∃ b, c.value A s none s [] = some b) (h : L.all (own_tru T D) = true) : ∀ q ∈ L, q.before A s = true :=
  fun q hq => before_of_value (own_tru_sound hT hD q (List.all_eq_true.mp h q hq))
/-- a boolean's return -/
def R (k : Int32) : STree := .ret (some ⟨.op2 .iand (.int k) (.int 1), .int⟩) []
def B (k : Int32) : Term := .old (.op2 .iand (.int k) (.int 1))
theorem own_and {A : Array Value} {s : State} {G H : Cond} {P Q : Prop} [Decidable P] [Decidable Q] (h : G.value A s none s [] = some (decide P)) (h' : H.value A s none s [] = some (decide Q)) : (Cond.and G H).value A s none s [] = some (decide (P ∧ Q)) := by
  by_cases p : P <;> simp [Cond.value, h, h', p]
theorem own_or {A : Array Value} {s : State} {G H : Cond} {P Q : Prop} [Decidable P] [Decidable Q] (h : G.value A s none s [] = some (decide P)) (h' : H.value A s none s [] = some (decide Q)) : (Cond.or G H).value A s none s [] = some (decide (P ∨ Q)) := by
  by_cases p : P <;> simp [Cond.value, h, h', p]
/-- a contract with one guard: 1 where it holds, else 0 -/
def own_P (G : Cond) : Cond := .or (.and G (.and .returned (.eq .result (.old (.int 1))))) (.and (.not G) (.and .returned (.eq .result (.old (.int 0)))))
theorem own_P_after {A : Array Value} {s E : State} {G : Cond} {P : Prop} [Decidable P] (he : G.early = true) (h : G.value A s none s [] = some (decide P)) : (own_P G).after A s (.returned (some (.int (if P then 1 else 0)))) E = true := by
  have hG : ∀ o, G.value A s o E [] = some (decide P) := fun o => (Cond.value_early o none E s G [] [] he).trans h
  by_cases p : P <;> simp [own_P, Cond.after, Cond.holds, Cond.value, Term.eval, hG, p]
def X0 : Term := .old (.arg 0)
def K (k : Int32) : Term := .old (.int k)
def M0 : Term := .old (.op2 .iand (.arg 0) (.int 65535))
/-- what isIprivate asks -/
def own_G : Cond := .or (.and (.le (K 57344) X0) (.le X0 (K 63743))) (.and (.le (K 983040) X0) (.le M0 (K 65533)))
abbrev own_is (c : Int) : Prop := (57344 ≤ c ∧ c ≤ 63743) ∨ (983040 ≤ c ∧ c % 65536 ≤ 65533)
theorem own_m16 (a : Int32) : (a &&& 65535).toInt = a.toInt % 65536 := Jvm.Kit.i32_mask a 65535 (k := 16) (by decide) (by decide)
theorem own_G_val (a : Int32) (s : State) : own_G.value #[.int a] s none s [] = some (decide (own_is a.toInt)) := by
  have lo (n : Int32) : (Cond.le (K n) X0).value #[.int a] s none s [] = some (decide (n.toInt ≤ a.toInt)) := own_le (x := n) (y := a) rfl rfl rfl rfl
  have hi (n : Int32) : (Cond.le X0 (K n)).value #[.int a] s none s [] = some (decide (a.toInt ≤ n.toInt)) := own_le (x := a) (y := n) rfl rfl rfl rfl
  have m : (Cond.le M0 (K 65533)).value #[.int a] s none s [] = some (decide (a.toInt % 65536 ≤ 65533)) := own_le (x := a &&& 65535) (y := 65533) rfl rfl (own_m16 a) (by decide)
  have q := own_or (own_and (lo 57344) (hi 63743)) (own_and (lo 983040) m)
  have e : decide (own_is a.toInt) = decide (((57344 : Int32).toInt ≤ a.toInt ∧ a.toInt ≤ (63743 : Int32).toInt) ∨ ((983040 : Int32).toInt ≤ a.toInt ∧ a.toInt % 65536 ≤ 65533)) := rfl
  rw [e]; exact q
def D1 : STree := .fork (.lt X0 (K 983040)) (R 0) (.fork (.lt (K 65533) M0) (R 0) (R 1))
def T1 : STree := .fork (.lt X0 (K 57344)) D1 (.fork (.le X0 (K 63743)) (R 1) D1)
theorem y1tree : (y1w.get y1w_some).1 = T1 := by decide +kernel
theorem y1entry : walkTo y1I y1code [] 400 true (entry [.int] 1) = some (T1, (y1w.get y1w_some).2.1, (y1w.get y1w_some).2.2) := by
  rw [← y1tree]; exact (Option.some_get y1w_some).symm
theorem own_val1 (a : Int32) (s : State) : Kit.valueOf #[.int a] s T1 = some (.int (if own_is a.toInt then 1 else 0)) := by
  have lt (n : Int32) : (Cond.lt X0 (K n)).value #[.int a] s none s [] = some (decide (a.toInt < n.toInt)) := own_lt (x := a) (y := n) rfl rfl rfl rfl
  have le (n : Int32) : (Cond.le X0 (K n)).value #[.int a] s none s [] = some (decide (a.toInt ≤ n.toInt)) := own_le (x := a) (y := n) rfl rfl rfl rfl
  have m : (Cond.lt (K 65533) M0).value #[.int a] s none s [] = some (decide (65533 < a.toInt % 65536)) := own_lt (x := 65533) (y := a &&& 65535) rfl rfl (by decide) (own_m16 a)
  have c1 : (57344 : Int32).toInt = 57344 := by decide
  have c2 : (63743 : Int32).toInt = 63743 := by decide
  have c3 : (983040 : Int32).toInt = 983040 := by decide
  have r0 : Kit.valueOf #[.int a] s (R 0) = some (.int 0) := rfl
  have r1 : Kit.valueOf #[.int a] s (R 1) = some (.int 1) := rfl
  simp only [T1, D1, own_vf (lt _), own_vf m, own_vf (le _), c1, c2, c3, r0, r1]
  by_cases hp : own_is a.toInt
  · rw [if_pos hp]; unfold own_is at hp
    repeat' split
    all_goals first | rfl | (exfalso; omega)
  · rw [if_neg hp]; unfold own_is at hp
    repeat' split
    all_goals first | rfl | (exfalso; omega)
def y1spec : Spec := specOf y1 y1code 1 (some .boolean) [.int] (own_P own_G) (y1w.get y1w_some).2.1 []
theorem y1meets (l : Launch) : MeetsLoose l y1 y1spec := by
  refine loops_meets (I := y1I) (ks0 := [.int]) (cuts := []) (fields := []) (by decide) rfl rfl rfl rfl rfl (fun args s h => conj_before h _ List.mem_cons_self) y1entry (fun _ => none) (fun _ _ _ _ _ => False) (fun _ _ _ => 0) (fun args s h => ?_) (fun args s _ h ks hks => by cases hks)
  have hp := conj_before h
  obtain ⟨a, rfl⟩ := Cond.one_int (hp (.count 1) (by simp)) (hp (.isInt (.arg 0)) (by simp [Sym.sorts, isK]))
  exact ⟨rfl, fun q hq => hp q (by simp [hq]), fun q hq => hp q (by simp [hq]), own_needs (T := []) (D := []) (fun _ q => by cases q) (fun _ q => by cases q) (by decide +kernel), Kit.vc_of_value (w₀ := .int (if own_is a.toInt then 1 else 0)) (fun E => own_P_after (by decide) (own_G_val a s)) T1 (by decide +kernel) (own_val1 a s)⟩
theorem y1cold : y1spec.Cold := Spec.cold_of_keeps (by decide +kernel)
def c_y1 : Callee := { y := y1, S := y1spec, bytes := y1code, maxL := 1, ret := some .boolean, static := true, params := 1, res := some .int }
/-! the law -/
def I : Info := { own := x.cls, ret := ret, ints := [(7, 2147483647), (8, 1114112), (9, 57344), (10, 63743), (11, 983040), (12, 1048573), (13, 1048576), (14, 1114109)], calls := [(15, c_y1)], maxLocals := maxLocals, room := room_1 }
theorem callsOk (l : Launch) : CallsOk l I maxLocals room_1 := fun q hq => by
  simp only [I, List.mem_cons, List.not_mem_nil, or_false] at hq
  rcases hq with rfl
  exact ⟨rfl, rfl, y1meets l, y1cold⟩
def w := walkTo I code [] 400 true (entry [.int] maxLocals)
theorem w_some : w.isSome = true := by decide +kernel
def C : Term := .rem (.op2 .iand (.arg 0) (.int 2147483647)) (.int 1114112)
def oC : Term := .old C
def oM : Term := .old (.op2 .iand C (.int 65535))
def own_G1 : Cond := .or (.and (.le (K 57344) oC) (.le oC (K 63743))) (.and (.le (K 983040) oC) (.le oM (K 65533)))
def E2 (p q : Int32) : STree := .fork (.not (.eq (K p) (K q))) (R 0) (R 1)
def Y (e : Int32) : STree := .fork own_G1 (E2 1 e) (E2 0 e)
def LB : STree := .fork (.lt oC (K 1048576)) (Y 0) (.fork (.lt (K 1114109) oC) (Y 0) (Y 1))
def LA : STree := .fork (.lt oC (K 983040)) LB (.fork (.le oC (K 1048573)) (Y 1) LB)
def t0 : STree := .fork (.lt oC (K 57344)) LA (.fork (.le oC (K 63743)) (Y 1) LA)
theorem tree : (w.get w_some).1 = t0 := by decide +kernel
theorem entry_walk : walkTo I code [] 400 true (entry [.int] maxLocals) = some (t0, (w.get w_some).2.1, (w.get w_some).2.2) := by
  rw [← tree]; exact (Option.some_get w_some).symm
theorem sorts_ok {a : Int32} {s : State} : ∀ q ∈ Sym.sorts 0 [.int], q.before #[.int a] s = true := by
  intro q hq
  simp only [Sym.sorts, List.mem_cons, List.not_mem_nil, or_false] at hq
  rcases hq with rfl; simp [isK, Cond.before, Cond.holds, Cond.value, Term.eval]
theorem own_C (a : Int32) (s : State) : C.eval #[.int a] s none [] s = some (.int ((a &&& 2147483647) % 1114112)) := rfl
theorem own_oC (a : Int32) (s : State) : oC.eval #[.int a] s none [] s = some (.int ((a &&& 2147483647) % 1114112)) := rfl
theorem own_oM (a : Int32) (s : State) : oM.eval #[.int a] s none [] s = some (.int (((a &&& 2147483647) % 1114112) &&& 65535)) := rfl
def own_D : List Cond := [.lt oC (K 57344), .le oC (K 63743), .lt oC (K 983040), .le oC (K 1048573), .lt oC (K 1048576), .lt (K 1114109) oC, .le (K 57344) oC, .le (K 983040) oC, .le oM (K 65533), .eq (K 1) (K 1), .eq (K 1) (K 0), .eq (K 0) (K 1), .eq (K 0) (K 0)]
theorem own_D_ok (a : Int32) (s : State) : ∀ c ∈ own_D, ∃ z, c.value #[.int a] s none s [] = some z := fun q hq => by
  simp only [own_D, List.mem_cons, List.not_mem_nil, or_false] at hq
  rcases hq with rfl | rfl | rfl | rfl | rfl | rfl | rfl | rfl | rfl | rfl | rfl | rfl | rfl <;> first | exact ⟨_, Cond.eq_ints rfl rfl⟩ | exact ⟨_, Cond.le_ints (own_oC a s) rfl⟩ | exact ⟨_, Cond.le_ints rfl (own_oC a s)⟩ | exact ⟨_, Cond.lt_ints (own_oC a s) rfl⟩ | exact ⟨_, Cond.lt_ints rfl (own_oC a s)⟩ | exact ⟨_, Cond.le_ints (own_oM a s) rfl⟩
theorem own_val (a : Int32) (s : State) : Kit.valueOf #[.int a] s t0 = some (.int 1) := by
  have hm : (a &&& 2147483647).toInt = a.toInt % 2 ^ 31 := Jvm.Kit.i32_mask a 2147483647 (k := 31) (by decide) (by decide)
  have k0 : (1114112 : Int32).toInt = 1114112 := by decide
  have hc : ((a &&& 2147483647) % 1114112).toInt = (a &&& 2147483647).toInt % (1114112 : Int32).toInt := Jvm.Kit.i32_rem_nonneg (by omega)
  rw [k0] at hc
  have h16 := own_m16 ((a &&& 2147483647) % 1114112)
  have oc := own_oC a s
  have om := own_oM a s
  generalize ((a &&& 2147483647) % 1114112) = c at *
  have lt (n : Int32) : (Cond.lt oC (K n)).value #[.int a] s none s [] = some (decide (c.toInt < n.toInt)) := own_lt oc (y := n) rfl rfl rfl
  have gt (n : Int32) : (Cond.lt (K n) oC).value #[.int a] s none s [] = some (decide (n.toInt < c.toInt)) := own_lt (x := n) rfl oc rfl rfl
  have le (n : Int32) : (Cond.le oC (K n)).value #[.int a] s none s [] = some (decide (c.toInt ≤ n.toInt)) := own_le oc (y := n) rfl rfl rfl
  have ge (n : Int32) : (Cond.le (K n) oC).value #[.int a] s none s [] = some (decide (n.toInt ≤ c.toInt)) := own_le (x := n) rfl oc rfl rfl
  have m : (Cond.le oM (K 65533)).value #[.int a] s none s [] = some (decide (c.toInt % 65536 ≤ 65533)) := own_le om (y := 65533) rfl h16 (by decide)
  have gG : own_G1.value #[.int a] s none s [] = some (decide (((57344 : Int32).toInt ≤ c.toInt ∧ c.toInt ≤ (63743 : Int32).toInt) ∨ ((983040 : Int32).toInt ≤ c.toInt ∧ c.toInt % 65536 ≤ 65533))) := own_or (own_and (ge 57344) (le 63743)) (own_and (ge 983040) m)
  have c1 : (57344 : Int32).toInt = 57344 := by decide
  have c2 : (63743 : Int32).toInt = 63743 := by decide
  have c3 : (983040 : Int32).toInt = 983040 := by decide
  have c4 : (1048573 : Int32).toInt = 1048573 := by decide
  have c5 : (1048576 : Int32).toInt = 1048576 := by decide
  have c6 : (1114109 : Int32).toInt = 1114109 := by decide
  have e11 : Kit.valueOf #[.int a] s (E2 1 1) = some (.int 1) := rfl
  have e00 : Kit.valueOf #[.int a] s (E2 0 0) = some (.int 1) := rfl
  have e10 : Kit.valueOf #[.int a] s (E2 1 0) = some (.int 0) := rfl
  have e01 : Kit.valueOf #[.int a] s (E2 0 1) = some (.int 0) := rfl
  simp only [t0, LA, LB, Y, own_vf (lt _), own_vf (gt _), own_vf (le _), own_vf gG, e11, e00, e10, e01, c1, c2, c3, c4, c5, c6]
  clear lt gt le ge m gG oc om
  generalize c.toInt = v at *
  repeat' split
  all_goals first | rfl | (exfalso; omega)
def post_1 : Cond := .and limb_1_1 limb_1_2
theorem met_1 (l : Launch) : MeetsLoose l x (armSpec x code maxLocals ret tables_1 room_1 .tt (.and given_1 narrow_1) post_1 frame_1_writes frame_1_arrays frame_1_statics) := by
  refine loops_meets (I := I) (ks0 := [.int]) (cuts := []) (by decide) rfl rfl rfl rfl rfl (fun args s h => ?_) entry_walk (fun _ => none) (fun _ _ _ _ _ => False) (fun _ _ _ => 0) (fun args s h => ?_) (fun args s _ h ks hks => by cases hks) (callsOk l)
  · simp only [armSpec, allAtoms, List.foldr_cons, Cond.before_and, Bool.and_eq_true] at h; exact h.1.1
  · have hts : (allAtoms (Cond.code x code maxLocals ret :: tables_1)).before args s = true := by simp only [armSpec, Cond.before_and, Bool.and_eq_true] at h; exact h.1
    have hK : (Cond.and .tt (.and given_1 narrow_1)).before args s = true := by simp only [armSpec, Cond.before_and, Bool.and_eq_true] at h ⊢; exact h.2
    simp only [armSpec, given_1, Cond.before_and, Bool.and_eq_true] at h
    obtain ⟨-, -, ⟨hc, h0⟩, hn⟩ := h
    obtain ⟨a, rfl⟩ := Cond.one_int hc h0
    have hT := known3 (Gt := [.isInt C, .isInt (.int 1), .isInt (.int 0), .isInt (.op2 .iand (.int 0) (.int 1)), .isInt (.op2 .iand (.int 1) (.int 1))]) hts hK (by
      intro q hq
      simp only [List.mem_cons, List.not_mem_nil, or_false] at hq
      rcases hq with rfl | rfl | rfl | rfl | rfl
      · exact Cond.isInt_int (own_C a s)
      · rfl
      · rfl
      · rfl
      · rfl)
    refine ⟨rfl, sorts_ok, tabs_of_sub hts (by decide +kernel), own_needs hT (own_D_ok a s) (by decide +kernel), Kit.vc_of_value (w₀ := .int 1) (fun E => ?_) t0 (by decide +kernel) (own_val a s)⟩
    simp [armSpec, post_1, limb_1_1, limb_1_2, Cond.after, Cond.holds, Cond.value, Term.eval]
theorem main_1_1 : Claimed_1_1 := armFor_of_meets0 (fun l => (met_1 l).meets) (fun _ _ _ _ h => by simp only [post_1, Cond.after_and, Bool.and_eq_true] at h; exact h.1)
theorem main_1_2 : Claimed_1_2 := armFor_of_meets0 (fun l => (met_1 l).meets) (fun _ _ _ _ h => by simp only [post_1, Cond.after_and, Bool.and_eq_true] at h; exact h.2)
end Jvm.Pilot.@@N@@
namespace Jvm.Pilot.@@N@@
open Jvm Jvm.ClassFile Sem Op Lib Jvm.Free Jvm.Stand Jvm.Pilot.@@N@@.Jvm.D
/-! MADE BY PROGRAM (witnessworld.py) out of the Statement's table words and the real class files: 9 classes; the members and pool entries that the words name. The judged class is class 1, her method 1. -/
namespace start1
open Jvm.ClassFile
def u (s : String) : CpInfo := .utf8 (stringToUtf16 s)
/-- a pool by its gaps: so many unusable entries, then the entry; so many at the end -/
def gap : Nat → List CpInfo → List CpInfo
  | 0, r => r
  | n + 1, r => .unusable :: gap n r
def poolList (es : List (Nat × CpInfo)) (last : Nat) : List CpInfo := es.foldr (fun e r => gap e.1 (e.2 :: r)) (gap last [])
def pool (es : List (Nat × CpInfo)) (last : Nat) : Array CpInfo := ⟨poolList es last⟩
def fileOf (pool : Array CpInfo) (this : Nat) (attrs : Array Attribute := #[]) (ms : Array MethodInfo := #[]) (fl : Nat := 33) (sup : Nat := 0) (ifs : Array Nat := #[]) (fds : Array FieldInfo := #[]) : ClassFile where
  minorVersion := 0
  majorVersion := 65
  constantPool := pool
  accessFlags := fl
  thisClass := this
  superClass := sup
  interfaces := ifs
  fields := fds
  methods := ms
  attributes := attrs
def plain (name : String) (sup : Option ClassId) : Class where
  name := name
  kind := .ordinary
  loader := none
  accessFlags := 33
  super := sup
  interfaces := #[]
  cf := none
  fields := #[]
  methods := #[]
  instanceTypes := #[]
  staticTypes := #[]
  resolved := #[]
  callSites := []
  init := .initialized
  statics := none
  mirror := none

def pool0 : Array CpInfo := pool [(5, u "<init>"), (0, u "()V"), (1, .class_ 10), (1, u "java/lang/Object")] 113

def k0m0 : Method := { name := "<init>", desc := "()V", sig := { parameters := [], returnType := none }, accessFlags := 1, code := none }
/-- java/lang/Object -/
def k0 : Class := { plain "java/lang/Object" none with
  accessFlags := 33
  interfaces := #[]
  cf := some (fileOf pool0 8 #[] #[{ accessFlags := 1, nameIndex := 5, descriptorIndex := 6, attributes := #[] }] 33 0 #[] #[])
  fields := #[]
  methods := #[k0m0]
  instanceTypes := #[]
  staticTypes := #[]
  resolved := Array.replicate 124 none
  statics := none }

def pool1 : Array CpInfo := pool [(2, .class_ 4), (1, u "java/lang/Object"), (0, u "<init>"), (0, u "()V"), (0, .integer 2147483647), (0, .integer 1114112), (0, .integer 57344), (0, .integer 63743), (0, .integer 983040), (0, .integer 1048573), (0, .integer 1048576), (0, .integer 1114109), (0, .methodref 16 17), (0, .class_ 18), (0, .nameAndType 19 20), (0, u "com/example/caddisfly/caddisfly/UriReference"), (0, u "isIprivate"), (0, u "(I)Z"), (0, .class_ 22), (0, u "com/example/caddisfly/caddisfly/UriReferenceIsIprivatePinLaw"), (2, u "law")] 3

def k1m0 : Method := { name := "<init>", desc := "()V", sig := { parameters := [], returnType := none }, accessFlags := 1, code := none }
def k1c1 : Code := { maxStack := 2, maxLocals := 3, code := code, exceptionTable := #[], attributes := #[] }
def k1m1 : Method := { name := "law", desc := "(I)Z", sig := { parameters := [.int], returnType := some .boolean }, accessFlags := 9, code := some k1c1 }
/-- com/example/caddisfly/caddisfly/UriReferenceIsIprivatePinLaw -/
def k1 : Class := { plain "com/example/caddisfly/caddisfly/UriReferenceIsIprivatePinLaw" (some 0) with
  accessFlags := 49
  interfaces := #[]
  cf := some (fileOf pool1 21 #[] #[{ accessFlags := 1, nameIndex := 5, descriptorIndex := 6, attributes := #[] }, { accessFlags := 9, nameIndex := 25, descriptorIndex := 20, attributes := #[] }] 49 2 #[] #[])
  fields := #[]
  methods := #[k1m0, k1m1]
  instanceTypes := #[]
  staticTypes := #[]
  resolved := Array.replicate 29 none
  statics := none }

def pool2 : Array CpInfo := pool [(1, .class_ 2), (0, u "com/example/caddisfly/caddisfly/UriReference"), (1, .class_ 6), (1, u "java/lang/Object"), (4, u "scheme"), (0, u "Ljava/lang/String;"), (2, u "authority"), (2, u "path"), (2, u "query"), (2, u "fragment"), (116, u "(I)Z"), (55, .integer 65535), (5, .integer 65533), (0, .integer 983040), (2, .integer 57344), (0, .integer 63743), (132, u "HEX"), (0, u "Ljava/util/HexFormat;"), (14, u "isIprivate"), (2, u "EMPTY"), (0, u "Lcom/example/caddisfly/caddisfly/UriReference;"), (7, u "UNRESERVED_PUNCTUATION"), (1, u "SUB_DELIMS"), (2, u "REG_NAME_PUNCTUATION"), (0, u "USERINFO_PUNCTUATION"), (0, u "PCHAR_PUNCTUATION"), (2, u "PATH_PUNCTUATION"), (0, u "FRAGMENT_PUNCTUATION"), (0, u "URI_PUNCTUATION"), (0, u "SCHEME_PUNCTUATION")] 68

def k2c0 : Code := { maxStack := 2, maxLocals := 1, code := prog_39_method_20_code, exceptionTable := #[], attributes := #[] }
def k2m0 : Method := { name := "isIprivate", desc := "(I)Z", sig := { parameters := [.int], returnType := some .boolean }, accessFlags := 8, code := some k2c0 }
/-- com/example/caddisfly/caddisfly/UriReference -/
def k2 : Class := { plain "com/example/caddisfly/caddisfly/UriReference" (some 0) with
  accessFlags := 48
  interfaces := #[]
  cf := some (fileOf pool2 1 #[] #[{ accessFlags := 8, nameIndex := 357, descriptorIndex := 141, attributes := #[] }] 48 4 #[] #[{ accessFlags := 24, nameIndex := 360, descriptorIndex := 361, attributes := #[] }, { accessFlags := 26, nameIndex := 369, descriptorIndex := 12, attributes := #[] }, { accessFlags := 26, nameIndex := 371, descriptorIndex := 12, attributes := #[] }, { accessFlags := 26, nameIndex := 374, descriptorIndex := 12, attributes := #[] }, { accessFlags := 26, nameIndex := 375, descriptorIndex := 12, attributes := #[] }, { accessFlags := 26, nameIndex := 376, descriptorIndex := 12, attributes := #[] }, { accessFlags := 26, nameIndex := 379, descriptorIndex := 12, attributes := #[] }, { accessFlags := 26, nameIndex := 380, descriptorIndex := 12, attributes := #[] }, { accessFlags := 26, nameIndex := 381, descriptorIndex := 12, attributes := #[] }, { accessFlags := 26, nameIndex := 382, descriptorIndex := 12, attributes := #[] }, { accessFlags := 26, nameIndex := 341, descriptorIndex := 342, attributes := #[] }, { accessFlags := 18, nameIndex := 11, descriptorIndex := 12, attributes := #[] }, { accessFlags := 18, nameIndex := 15, descriptorIndex := 12, attributes := #[] }, { accessFlags := 18, nameIndex := 18, descriptorIndex := 12, attributes := #[] }, { accessFlags := 18, nameIndex := 21, descriptorIndex := 12, attributes := #[] }, { accessFlags := 18, nameIndex := 24, descriptorIndex := 12, attributes := #[] }])
  fields := #[{ name := "EMPTY", type := (.object "com/example/caddisfly/caddisfly/UriReference"), accessFlags := 24, slot := 0, constantValue := 0 }, { name := "UNRESERVED_PUNCTUATION", type := (.object "java/lang/String"), accessFlags := 26, slot := 1, constantValue := 0 }, { name := "SUB_DELIMS", type := (.object "java/lang/String"), accessFlags := 26, slot := 2, constantValue := 0 }, { name := "REG_NAME_PUNCTUATION", type := (.object "java/lang/String"), accessFlags := 26, slot := 3, constantValue := 0 }, { name := "USERINFO_PUNCTUATION", type := (.object "java/lang/String"), accessFlags := 26, slot := 4, constantValue := 0 }, { name := "PCHAR_PUNCTUATION", type := (.object "java/lang/String"), accessFlags := 26, slot := 5, constantValue := 0 }, { name := "PATH_PUNCTUATION", type := (.object "java/lang/String"), accessFlags := 26, slot := 6, constantValue := 0 }, { name := "FRAGMENT_PUNCTUATION", type := (.object "java/lang/String"), accessFlags := 26, slot := 7, constantValue := 0 }, { name := "URI_PUNCTUATION", type := (.object "java/lang/String"), accessFlags := 26, slot := 8, constantValue := 0 }, { name := "SCHEME_PUNCTUATION", type := (.object "java/lang/String"), accessFlags := 26, slot := 9, constantValue := 0 }, { name := "HEX", type := (.object "java/util/HexFormat"), accessFlags := 26, slot := 10, constantValue := 0 }, { name := "scheme", type := (.object "java/lang/String"), accessFlags := 18, slot := 0, constantValue := 0 }, { name := "authority", type := (.object "java/lang/String"), accessFlags := 18, slot := 1, constantValue := 0 }, { name := "path", type := (.object "java/lang/String"), accessFlags := 18, slot := 2, constantValue := 0 }, { name := "query", type := (.object "java/lang/String"), accessFlags := 18, slot := 3, constantValue := 0 }, { name := "fragment", type := (.object "java/lang/String"), accessFlags := 18, slot := 4, constantValue := 0 }]
  methods := #[k2m0]
  instanceTypes := #[(.object "java/lang/String"), (.object "java/lang/String"), (.object "java/lang/String"), (.object "java/lang/String"), (.object "java/lang/String")]
  staticTypes := #[(.object "com/example/caddisfly/caddisfly/UriReference"), (.object "java/lang/String"), (.object "java/lang/String"), (.object "java/lang/String"), (.object "java/lang/String"), (.object "java/lang/String"), (.object "java/lang/String"), (.object "java/lang/String"), (.object "java/lang/String"), (.object "java/lang/String"), (.object "java/util/HexFormat")]
  resolved := Array.replicate 451 none
  statics := none }

def pool3 : Array CpInfo := pool [(1, u "java/lang/Cloneable"), (0, .class_ 1), (0, u "java/lang/Object"), (0, .class_ 3)] 3

/-- java/lang/Cloneable -/
def k3 : Class := { plain "java/lang/Cloneable" (some 0) with
  accessFlags := 1537
  interfaces := #[]
  cf := some (fileOf pool3 2 #[] #[] 1537 4 #[] #[])
  fields := #[]
  methods := #[]
  instanceTypes := #[]
  staticTypes := #[]
  resolved := Array.replicate 8 none
  statics := none }

def pool4 : Array CpInfo := pool [(1, u "java/io/Serializable"), (0, .class_ 1), (0, u "java/lang/Object"), (0, .class_ 3)] 3

/-- java/io/Serializable -/
def k4 : Class := { plain "java/io/Serializable" (some 0) with
  accessFlags := 1537
  interfaces := #[]
  cf := some (fileOf pool4 2 #[] #[] 1537 4 #[] #[])
  fields := #[]
  methods := #[]
  instanceTypes := #[]
  staticTypes := #[]
  resolved := Array.replicate 8 none
  statics := none }

/-- the primitive byte -/
def k5 : Class := { plain "byte" none with kind := .primitive 'B', accessFlags := 0x411 }
/-- [B -/
def k6 : Class := { plain "[B" (some 0) with kind := .array 5 .byte, interfaces := #[3, 4], accessFlags := 1041 }

/-- the primitive int -/
def k7 : Class := { plain "int" none with kind := .primitive 'I', accessFlags := 0x411 }
/-- [I -/
def k8 : Class := { plain "[I" (some 0) with kind := .array 7 .int, interfaces := #[3, 4], accessFlags := 1041 }

def heap : Heap := #[]
def classes : Array Class := #[k0, k1, k2, k3, k4, k5, k6, k7, k8]
def interned : List (Array UInt16 × Addr) := []
def slotsUsed : Nat := 0
def theMethod : MethodId := ⟨1, 1⟩
def args0 : Array Value := #[.int 75]
def aboutOver (below : List Frame) : State where
  vm := { classes := classes, interned := interned.toArray }
  heap := heap
  slotsUsed := slotsUsed
  threads := #[{ frames := .invoking theMethod args0 :: below }]
def below0 : List Frame := [.native { method := ⟨0, 0⟩, args := #[] }]
def about1 : State := aboutOver below0
def p0 : Program := .bare "" "" ""
def e0 : Env := launch0.env 0 0 0
theorem w_frames : about1.frames = Frame.invoking theMethod args0 :: below0 := rfl
set_option maxRecDepth 65536 in
theorem w_args : argsFit about1.vm theMethod args0 = true := by decide +kernel
set_option maxRecDepth 65536 in
theorem w_heap : heapFits about1 = true := by decide +kernel
set_option maxRecDepth 65536 in
theorem w_runnable : about1.curStatus? = some .runnable := by decide +kernel
set_option maxRecDepth 65536 in
theorem w_alone : about1.alone = true := by decide +kernel
set_option maxRecDepth 65536 in
theorem w_named : about1.methodNamed? x = some theMethod := by decide +kernel
set_option maxRecDepth 65536 in
theorem w_hears : about1.hears theMethod below0 = true := by decide +kernel
set_option maxRecDepth 65536 in
theorem w_ripe : about1.ripe theMethod args0 below0 = true := by decide +kernel
theorem w_running : about1.status = .running := rfl
set_option maxRecDepth 65536 in
theorem w_room : about1.hasRoom e0.platform room_1 = true :=
  launch0.hasRoom_least _ room_1 (by decide +kernel) (by decide +kernel) (by decide +kernel) (by decide +kernel) (by decide +kernel) (by decide +kernel)
theorem allAtoms_all (ts : List Jvm.Cond) (a : Array Jvm.Value) (st : Jvm.State) : (allAtoms ts).before a st = ts.all (fun c => c.before a st) := by
  induction ts with
  | nil => rfl
  | cons c t ih =>
    show (Jvm.Cond.and c (allAtoms t)).before a st = _
    rw [Jvm.Cond.before_and, ih, List.all_cons]
def words1 : List Jvm.Cond := Jvm.Cond.code x code maxLocals ret :: tables_1
/-- a 'code' word, met by the world's own term for the bytes: nothing is compared byte by byte -/
theorem code_word {y : MethodName} {bytes : ByteArray} {mx : Nat} {rt : Option FieldType} {a : Array Value} {s : State} {m : MethodId} {meth : Method} {c : Code} (h1 : s.methodNamed? y = some m) (h2 : s.vm.method? m = some meth) (h3 : meth.code = some c) (h4 : c.code = bytes)
    (h5 : (c.maxLocals == mx && c.exceptionTable.isEmpty && decide (c.maxStack ≤ mostOperands) && decide (meth.sig.returnType = rt) && !meth.locks && decide (parseMethodDescriptor y.desc = some meth.sig)) = true) : (Jvm.Cond.code y bytes mx rt).before a s = true := by
  simp only [Bool.and_eq_true, beq_iff_eq, Bool.not_eq_true', decide_eq_true_eq] at h5
  obtain ⟨⟨⟨⟨⟨g1, g2⟩, g3⟩, g4⟩, g5⟩, g6⟩ := h5
  simp [Cond.before, Cond.holds, Cond.value, h1, h2, h3, h4, g1, g2, g3, g4, g5, g6]
def isCode : Jvm.Cond → Bool
  | .code _ _ _ _ => true
  | _ => false
theorem all_split {L : List Jvm.Cond} {P : Jvm.Cond → Bool} (h1 : L.all (fun c => isCode c || P c) = true) (h2 : ∀ c ∈ L.filter isCode, P c = true) : L.all P = true := by
  refine List.all_eq_true.mpr fun c hc => ?_
  have h := List.all_eq_true.mp h1 c hc
  rcases Bool.eq_false_or_eq_true (isCode c) with hi | hi
  · exact h2 c (List.mem_filter.mpr ⟨hc, hi⟩)
  · simpa [hi] using h
set_option maxRecDepth 65536 in
theorem w_c0 : (Jvm.Cond.code x code maxLocals ret).before args0 about1 = true := code_word (m := ⟨1, 1⟩) (meth := k1m1) (c := k1c1) (by decide +kernel) rfl rfl rfl (by decide +kernel)
set_option maxRecDepth 65536 in
theorem w_c1 : (Jvm.Cond.code ({ cls := "com/example/caddisfly/caddisfly/UriReference", name := "isIprivate", desc := "(I)Z" } : Jvm.MethodName) prog_39_method_20_code (1 : Nat) (Option.some Jvm.ClassFile.FieldType.boolean)).before args0 about1 = true := code_word (m := ⟨2, 0⟩) (meth := k2m0) (c := k2c0) (by decide +kernel) rfl rfl rfl (by decide +kernel)
def codes1 : List Jvm.Cond := [Jvm.Cond.code x code maxLocals ret, Jvm.Cond.code ({ cls := "com/example/caddisfly/caddisfly/UriReference", name := "isIprivate", desc := "(I)Z" } : Jvm.MethodName) prog_39_method_20_code (1 : Nat) (Option.some Jvm.ClassFile.FieldType.boolean)]
set_option maxRecDepth 65536 in
theorem codes_eq : words1.filter isCode = codes1 := rfl
theorem w_codes : ∀ c ∈ words1.filter isCode, c.before args0 about1 = true := by
  rw [codes_eq]
  intro c hc
  simp only [codes1, List.mem_cons, List.not_mem_nil, or_false] at hc
  rcases hc with rfl | rfl
  · exact w_c0
  · exact w_c1
set_option maxRecDepth 65536 in
theorem w_t1 : words1.all (fun c => isCode c || c.before args0 about1) = true := by decide +kernel
theorem w_tables : (allAtoms (Jvm.Cond.code x code maxLocals ret :: tables_1)).before args0 about1 = true := by
  rw [allAtoms_all]
  show words1.all (fun c => c.before args0 about1) = true
  refine all_split ?_ w_codes
  rw [w_t1]
set_option maxRecDepth 65536 in
theorem w_case : (Jvm.Cond.and given_1 narrow_1).before args0 about1 = true := by decide +kernel
theorem w_applies : (headSpec (Jvm.Cond.code x code maxLocals ret :: tables_1) room_1).applies x e0.platform about1 = true :=
  (Spec.applies_iff w_frames).mpr ⟨w_running, w_runnable, w_alone, w_named, w_hears, w_ripe, w_room, w_tables⟩
theorem atStart : AtStart classFile x code maxLocals ret World_1 tables_1 room_1 Calls_1 rest_1 Pre_1 launch0 p0 e0 about1 theMethod args0 below0 :=
  ⟨lists_1, trivial, launch0.admits_env _ _ _, launch0.least_env, fairChoices_fair.cas, fairChoices_fair.clock, w_frames, w_args, w_heap, w_applies, trivial, trivial, w_case⟩
end start1
theorem witness_1 : WitnessClaimed_1 := ⟨start1.p0, start1.e0, start1.about1, start1.theMethod, start1.args0, start1.below0, start1.atStart⟩
end Jvm.Pilot.@@N@@
