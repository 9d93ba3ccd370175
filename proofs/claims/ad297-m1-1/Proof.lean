import JvmDerived
import JvmDerived.Pilot.@@N@@Statement
import JvmDerived.Pilot.@@N@@Code
set_option linter.unusedVariables false
set_option linter.unusedSimpArgs false
@@BLOCK:HandJ.lean.txt@@
@@BLOCK:HandW.lean.txt@@
@@BLOCK:HandBits.lean.txt@@
@@BLOCK:SymRun.lean.txt@@
@@BLOCK:RowBasics.lean.txt@@
@@BLOCK:Bridge.lean.txt@@
@@BLOCK:SymKit.lean.txt@@
@@BLOCK:NumsL.lean.txt@@
namespace Jvm.Pilot.@@N@@
open Jvm Jvm.ClassFile Sem Op Jvm.Sym Jvm.Pilot.@@N@@.Jvm.D

def y1 : MethodName := ⟨"com/example/gate3/gate3/rest/PathSegments", "isAsciiLetterOrDigit", "(C)Z"⟩
def y1code : ByteArray := prog_24_method_9_code
def y1I : Info := { own := "com/example/gate3/gate3/rest/PathSegments", ret := some .boolean }
def y1w := walkTo y1I y1code [] 400 true (entry [.int] 1)
theorem y1w_some : y1w.isSome = true := by decide +kernel
def y2 : MethodName := ⟨"com/example/gate3/gate3/rest/PathSegmentsIsAsciiLetterOrDigitPinLaw", "reference", "(C)Z"⟩
def y2code : ByteArray := method_2_code
def y2I : Info := { own := "com/example/gate3/gate3/rest/PathSegmentsIsAsciiLetterOrDigitPinLaw", ret := some .boolean }
def y2w := walkTo y2I y2code [] 400 true (entry [.int] 5)
theorem y2w_some : y2w.isSome = true := by decide +kernel
/-! own: what a tree returns, guard by guard; the needs, linearly -/
theorem own_vf {A : Array Value} {s : State} {G : Cond} {a b : STree} {P : Prop} [Decidable P] (h : G.value A s none s [] = some (decide P)) :
    Kit.valueOf A s (.fork G a b) = if P then Kit.valueOf A s a else Kit.valueOf A s b := by
  simp only [Kit.valueOf, h]
  by_cases p : P <;> simp [p]
theorem own_not {A : Array Value} {s : State} {G : Cond} {P : Prop} [Decidable P] (h : G.value A s none s [] = some (decide P)) : (Cond.not G).value A s none s [] = some (decide (¬ P)) := by
  simp [Cond.value, h]
theorem own_lt {A : Array Value} {s : State} {a b : Term} {x y : Int32} {p q : Int} (ha : a.eval A s none [] s = some (.int x)) (hb : b.eval A s none [] s = some (.int y)) (hx : x.toInt = p) (hy : y.toInt = q) :
    (Cond.lt a b).value A s none s [] = some (decide (p < q)) := by
  rw [Cond.lt_ints ha hb]; subst hx hy; simp only [Int32.lt_iff_toInt_lt]
theorem own_le {A : Array Value} {s : State} {a b : Term} {x y : Int32} {p q : Int} (ha : a.eval A s none [] s = some (.int x)) (hb : b.eval A s none [] s = some (.int y)) (hx : x.toInt = p) (hy : y.toInt = q) :
    (Cond.le a b).value A s none s [] = some (decide (p ≤ q)) := by
  rw [Cond.le_ints ha hb]; subst hx hy; simp only [Int32.le_iff_toInt_le]
theorem own_eq {A : Array Value} {s : State} {a b : Term} {x y : Int32} {p q : Int} (ha : a.eval A s none [] s = some (.int x)) (hb : b.eval A s none [] s = some (.int y)) (hx : x.toInt = p) (hy : y.toInt = q) :
    (Cond.eq a b).value A s none s [] = some (decide (p = q)) := by
  rw [Cond.eq_ints ha hb]; subst hx hy; simp only [Int32.toInt_inj]
def own_def (D : List Cond) (q : Cond) : Bool :=
  D.contains q || match q with
  | .tt => true
  | .not c => own_def D c
  | .and a b => own_def D a && own_def D b
  | .or a b => own_def D a && own_def D b
  | _ => false
theorem own_def_sound {D : List Cond} {A : Array Value} {s : State} (hD : ∀ c ∈ D, ∃ b, c.value A s none s [] = some b) (q : Cond) : own_def D q = true → ∃ b, q.value A s none s [] = some b := by
  induction q with
  | tt => intro _; exact ⟨true, rfl⟩
  | not c ih =>
    intro h; unfold own_def at h; simp only [Bool.or_eq_true] at h
    rcases h with h | h
    · exact hD _ (List.contains_iff_mem.mp h)
    · obtain ⟨b, hb⟩ := ih h; exact ⟨!b, by simp [Cond.value, hb]⟩
  | and a b iha ihb =>
    intro h; unfold own_def at h; simp only [Bool.or_eq_true, Bool.and_eq_true] at h
    rcases h with h | h
    · exact hD _ (List.contains_iff_mem.mp h)
    · obtain ⟨x, hx⟩ := iha h.1; obtain ⟨y, hy⟩ := ihb h.2
      cases x with
      | true => exact ⟨y, by simp [Cond.value, hx, hy]⟩
      | false => exact ⟨false, by simp [Cond.value, hx]⟩
  | or a b iha ihb =>
    intro h; unfold own_def at h; simp only [Bool.or_eq_true, Bool.and_eq_true] at h
    rcases h with h | h
    · exact hD _ (List.contains_iff_mem.mp h)
    · obtain ⟨x, hx⟩ := iha h.1; obtain ⟨y, hy⟩ := ihb h.2
      cases x with
      | true => exact ⟨true, by simp [Cond.value, hx]⟩
      | false => exact ⟨y, by simp [Cond.value, hx, hy]⟩
  | _ =>
    intro h; unfold own_def at h; simp only [Bool.or_false] at h
    exact hD _ (List.contains_iff_mem.mp h)
def own_tru (T D : List Cond) (q : Cond) : Bool :=
  T.contains q || match q with
  | .tt => true
  | .and a b => own_tru T D a && own_tru T D b
  | .or a b => own_def D a && own_tru T D b
  | _ => false
theorem own_tru_sound {T D : List Cond} {A : Array Value} {s : State} (hT : ∀ c ∈ T, c.value A s none s [] = some true) (hD : ∀ c ∈ D, ∃ b, c.value A s none s [] = some b) (q : Cond) : own_tru T D q = true → q.value A s none s [] = some true := by
  induction q with
  | tt => intro _; rfl
  | and a b iha ihb =>
    intro h; unfold own_tru at h; simp only [Bool.or_eq_true, Bool.and_eq_true] at h
    rcases h with h | h
    · exact hT _ (List.contains_iff_mem.mp h)
    · simp [Cond.value, iha h.1, ihb h.2]
  | or a b iha ihb =>
    intro h; unfold own_tru at h; simp only [Bool.or_eq_true, Bool.and_eq_true] at h
    rcases h with h | h
    · exact hT _ (List.contains_iff_mem.mp h)
    · obtain ⟨x, hx⟩ := own_def_sound hD a h.1
      cases x with
      | true => simp [Cond.value, hx]
      | false => simp [Cond.value, hx, ihb h.2]
  | _ =>
    intro h; unfold own_tru at h; simp only [Bool.or_false] at h
    exact hT _ (List.contains_iff_mem.mp h)
theorem own_needs {L T D : List Cond} {A : Array Value} {s : State} (hT : ∀ c ∈ T, c.value A s none s [] = some true) (hD : ∀ c ∈ D, ∃ b, c.value A s none s [] = some b) (h : L.all (own_tru T D) = true) : ∀ q ∈ L, q.before A s = true :=
  fun q hq => before_of_value (own_tru_sound hT hD q (List.all_eq_true.mp h q hq))
/-- a boolean's return -/
def R (k : Int32) : STree := .ret (some ⟨.op2 .iand (.int k) (.int 1), .int⟩) []
def B (k : Int32) : Term := .old (.op2 .iand (.int k) (.int 1))
theorem own_and {A : Array Value} {s : State} {G H : Cond} {P Q : Prop} [Decidable P] [Decidable Q] (h : G.value A s none s [] = some (decide P)) (h' : H.value A s none s [] = some (decide Q)) : (Cond.and G H).value A s none s [] = some (decide (P ∧ Q)) := by
  by_cases p : P <;> simp [Cond.value, h, h', p]
theorem own_or {A : Array Value} {s : State} {G H : Cond} {P Q : Prop} [Decidable P] [Decidable Q] (h : G.value A s none s [] = some (decide P)) (h' : H.value A s none s [] = some (decide Q)) : (Cond.or G H).value A s none s [] = some (decide (P ∨ Q)) := by
  by_cases p : P <;> simp [Cond.value, h, h', p]
/-- a contract with one guard: 1 where it holds, else 0 -/
def own_P (G : Cond) : Cond := .or (.and G (.and .returned (.eq .result (.old (.int 1))))) (.and (.not G) (.and .returned (.eq .result (.old (.int 0)))))
theorem own_P_after {A : Array Value} {s E : State} {G : Cond} {P : Prop} [Decidable P] (he : G.early = true) (h : G.value A s none s [] = some (decide P)) : (own_P G).after A s (.returned (some (.int (if P then 1 else 0)))) E = true := by
  have hG : ∀ o, G.value A s o E [] = some (decide P) := fun o => (Cond.value_early o none E s G [] [] he).trans h
  by_cases p : P <;> simp [own_P, Cond.after, Cond.holds, Cond.value, Term.eval, hG, p]
def X0 : Term := .old (.arg 0)
def K (k : Int32) : Term := .old (.int k)
/-- a letter or a digit -/
def own_G : Cond := .or (.or (.and (.le (K 97) X0) (.le X0 (K 122))) (.and (.le (K 65) X0) (.le X0 (K 90)))) (.and (.le (K 48) X0) (.le X0 (K 57)))
abbrev own_is (c : Int) : Prop := ((97 ≤ c ∧ c ≤ 122) ∨ (65 ≤ c ∧ c ≤ 90)) ∨ (48 ≤ c ∧ c ≤ 57)
theorem own_G_val (a : Int32) (s : State) : own_G.value #[.int a] s none s [] = some (decide (own_is a.toInt)) := by
  have lo (n : Int32) : (Cond.le (K n) X0).value #[.int a] s none s [] = some (decide (n.toInt ≤ a.toInt)) := own_le (x := n) (y := a) rfl rfl rfl rfl
  have hi (n : Int32) : (Cond.le X0 (K n)).value #[.int a] s none s [] = some (decide (a.toInt ≤ n.toInt)) := own_le (x := a) (y := n) rfl rfl rfl rfl
  have q := own_or (own_or (own_and (lo 97) (hi 122)) (own_and (lo 65) (hi 90))) (own_and (lo 48) (hi 57))
  have e : decide (own_is a.toInt) = decide ((((97 : Int32).toInt ≤ a.toInt ∧ a.toInt ≤ (122 : Int32).toInt) ∨ ((65 : Int32).toInt ≤ a.toInt ∧ a.toInt ≤ (90 : Int32).toInt)) ∨ ((48 : Int32).toInt ≤ a.toInt ∧ a.toInt ≤ (57 : Int32).toInt)) := rfl
  rw [e]; exact q
/-! isAsciiLetterOrDigit -/
def D1 : STree := .fork (.lt X0 (K 48)) (R 0) (.fork (.lt (K 57) X0) (R 0) (R 1))
def U1 : STree := .fork (.lt X0 (K 65)) D1 (.fork (.le X0 (K 90)) (R 1) D1)
def T1 : STree := .fork (.lt X0 (K 97)) U1 (.fork (.le X0 (K 122)) (R 1) U1)
theorem y1tree : (y1w.get y1w_some).1 = T1 := by decide +kernel
theorem y1entry : walkTo y1I y1code [] 400 true (entry [.int] 1) = some (T1, (y1w.get y1w_some).2.1, (y1w.get y1w_some).2.2) := by
  rw [← y1tree]; exact (Option.some_get y1w_some).symm
theorem own_R (A : Array Value) (s : State) (k : Int32) : Kit.valueOf A s (R k) = some (.int (k &&& 1)) := rfl
theorem own_val1 (a : Int32) (s : State) : Kit.valueOf #[.int a] s T1 = some (.int (if own_is a.toInt then 1 else 0)) := by
  have lt (n : Int32) : (Cond.lt X0 (K n)).value #[.int a] s none s [] = some (decide (a.toInt < n.toInt)) := own_lt (x := a) (y := n) rfl rfl rfl rfl
  have gt (n : Int32) : (Cond.lt (K n) X0).value #[.int a] s none s [] = some (decide (n.toInt < a.toInt)) := own_lt (x := n) (y := a) rfl rfl rfl rfl
  have le (n : Int32) : (Cond.le X0 (K n)).value #[.int a] s none s [] = some (decide (a.toInt ≤ n.toInt)) := own_le (x := a) (y := n) rfl rfl rfl rfl
  have c1 : (97 : Int32).toInt = 97 := by decide
  have c2 : (122 : Int32).toInt = 122 := by decide
  have c3 : (65 : Int32).toInt = 65 := by decide
  have c4 : (90 : Int32).toInt = 90 := by decide
  have c5 : (48 : Int32).toInt = 48 := by decide
  have c6 : (57 : Int32).toInt = 57 := by decide
  have r0 : Kit.valueOf #[.int a] s (R 0) = some (.int 0) := rfl
  have r1 : Kit.valueOf #[.int a] s (R 1) = some (.int 1) := rfl
  simp only [T1, U1, D1, own_vf (lt _), own_vf (gt _), own_vf (le _), c1, c2, c3, c4, c5, c6, r0, r1]
  by_cases hp : own_is a.toInt
  · rw [if_pos hp]; unfold own_is at hp
    repeat' split
    all_goals first | rfl | (exfalso; omega)
  · rw [if_neg hp]; unfold own_is at hp
    repeat' split
    all_goals first | rfl | (exfalso; omega)
def y1spec : Spec := specOf y1 y1code 1 (some .boolean) [.int] (own_P own_G) (y1w.get y1w_some).2.1 []
theorem y1meets (l : Launch) : MeetsLoose l y1 y1spec := by
  refine loops_meets (I := y1I) (ks0 := [.int]) (cuts := []) (fields := []) (by decide) rfl rfl rfl rfl rfl (fun args s h => conj_before h _ List.mem_cons_self) y1entry (fun _ => none) (fun _ _ _ _ _ => False) (fun _ _ _ => 0) (fun args s h => ?_) (fun args s _ h ks hks => by cases hks)
  have hp := conj_before h
  obtain ⟨a, rfl⟩ := Cond.one_int (hp (.count 1) (by simp)) (hp (.isInt (.arg 0)) (by simp [Sym.sorts, isK]))
  exact ⟨rfl, fun q hq => hp q (by simp [hq]), fun q hq => hp q (by simp [hq]), own_needs (T := []) (D := []) (fun _ q => by cases q) (fun _ q => by cases q) (by decide +kernel), Kit.vc_of_value (w₀ := .int (if own_is a.toInt then 1 else 0)) (fun E => own_P_after (by decide) (own_G_val a s)) T1 (by decide +kernel) (own_val1 a s)⟩
theorem y1cold : y1spec.Cold := Spec.cold_of_keeps (by decide +kernel)
def c_y1 : Callee := { y := y1, S := y1spec, bytes := y1code, maxL := 1, ret := some .boolean, static := true, params := 1, res := some .int }
/-! reference -/
def F2 : Term := .old (.sub (.op2 .ior (.arg 0) (.int 32)) (.int 97))
def N2 : Term := .old (.sub (.arg 0) (.int 48))
def W2 (p q : Int32) : STree := .fork (.not (.eq (K p) (.int 0))) (R 1) (.fork (.eq (K q) (.int 0)) (R 0) (R 1))
def D2 (p : Int32) : STree := .fork (.lt N2 (.int 0)) (W2 p 0) (.fork (.le (K 10) N2) (W2 p 0) (W2 p 1))
def T2 : STree := .fork (.lt F2 (.int 0)) (D2 0) (.fork (.le (K 26) F2) (D2 0) (D2 1))
theorem y2tree : (y2w.get y2w_some).1 = T2 := by decide +kernel
theorem y2entry : walkTo y2I y2code [] 400 true (entry [.int] 5) = some (T2, (y2w.get y2w_some).2.1, (y2w.get y2w_some).2.2) := by
  rw [← y2tree]; exact (Option.some_get y2w_some).symm
theorem own_or1 (m : Nat) : m ||| 1 = 2 * (m / 2) + 1 := by
  have h1 : (m ||| 1) / 2 = m / 2 := by
    have := Nat.or_div_two_pow (a := m) (b := 1) (n := 1)
    simpa using this
  have h2 : (m ||| 1) % 2 = 1 := by
    have h := Nat.or_mod_two_pow (a := m) (b := 1) (n := 1)
    have h' : (m ||| 1) % 2 = (m % 2) ||| 1 := by simpa using h
    rcases Nat.mod_two_eq_zero_or_one m with q | q <;> rw [h', q] <;> decide
  omega
theorem own_or32 (n : Nat) : n ||| 32 = 32 * (2 * (n / 64) + 1) + n % 32 := by
  have h1 : (n ||| 32) / 32 = (n / 32) ||| 1 := by
    have := Nat.or_div_two_pow (a := n) (b := 32) (n := 5)
    simpa using this
  have h2 : (n ||| 32) % 32 = n % 32 := by
    have := Nat.or_mod_two_pow (a := n) (b := 32) (n := 5)
    simpa using this
  rw [own_or1] at h1
  omega
theorem own_ior (a : Int32) : (a ||| 32).toInt = a.toInt + 32 - 32 * ((a.toInt / 32) % 2) := by
  have hn : (a ||| 32).toBitVec.toNat = a.toBitVec.toNat ||| 32 := by
    rw [Int32.toBitVec_or, BitVec.toNat_or]; rfl
  have h1 : (a ||| 32).toInt = (a ||| 32).toBitVec.toInt := rfl
  have h2 : a.toInt = a.toBitVec.toInt := rfl
  rw [h1, h2, BitVec.toInt_eq_toNat_cond, BitVec.toInt_eq_toNat_cond, hn, own_or32]
  have hlt := a.toBitVec.isLt
  split <;> split <;> omega
theorem own_val2 (a : Int32) (s : State) : Kit.valueOf #[.int a] s T2 = some (.int (if own_is a.toInt then 1 else 0)) := by
  have gF : (Cond.lt F2 (.int 0)).value #[.int a] s none s [] = some (decide (((a ||| 32) - 97).toInt < 0)) := own_lt (x := (a ||| 32) - 97) (y := 0) rfl rfl rfl (by decide)
  have gF2 : (Cond.le (K 26) F2).value #[.int a] s none s [] = some (decide (26 ≤ ((a ||| 32) - 97).toInt)) := own_le (x := 26) (y := (a ||| 32) - 97) rfl rfl (by decide) rfl
  have gN : (Cond.lt N2 (.int 0)).value #[.int a] s none s [] = some (decide ((a - 48).toInt < 0)) := own_lt (x := a - 48) (y := 0) rfl rfl rfl (by decide)
  have gN2 : (Cond.le (K 10) N2).value #[.int a] s none s [] = some (decide (10 ≤ (a - 48).toInt)) := own_le (x := 10) (y := a - 48) rfl rfl (by decide) rfl
  have w00 : Kit.valueOf #[.int a] s (W2 0 0) = some (.int 0) := rfl
  have w01 : Kit.valueOf #[.int a] s (W2 0 1) = some (.int 1) := rfl
  have w10 : Kit.valueOf #[.int a] s (W2 1 0) = some (.int 1) := rfl
  have w11 : Kit.valueOf #[.int a] s (W2 1 1) = some (.int 1) := rfl
  have e1 := own_ior a
  have e2 := Jvm.RoadKit.c_isub (a ||| 32) 97
  have e3 := Jvm.RoadKit.c_isub a 48
  have b1 := Jvm.RoadKit.rng32 ((a ||| 32) - 97)
  have b2 := Jvm.RoadKit.rng32 (a - 48)
  have b3 := Jvm.RoadKit.rng32 a
  have k1 : (97 : Int32).toInt = 97 := by decide
  have k2 : (48 : Int32).toInt = 48 := by decide
  rw [e1, k1] at e2
  rw [k2] at e3
  simp only [T2, D2, own_vf gF, own_vf gF2, own_vf gN, own_vf gN2, w00, w01, w10, w11]
  clear gF gF2 gN gN2 w00 w01 w10 w11 e1
  generalize ((a ||| 32) - 97).toInt = f at *
  generalize (a - 48).toInt = d at *
  generalize a.toInt = v at *
  by_cases hp : own_is v
  · rw [if_pos hp]; unfold own_is at hp
    repeat' split
    all_goals first | rfl | (exfalso; omega)
  · rw [if_neg hp]; unfold own_is at hp
    repeat' split
    all_goals first | rfl | (exfalso; omega)
def y2spec : Spec := specOf y2 y2code 5 (some .boolean) [.int] (own_P own_G) (y2w.get y2w_some).2.1 []
theorem y2meets (l : Launch) : MeetsLoose l y2 y2spec := by
  refine loops_meets (I := y2I) (ks0 := [.int]) (cuts := []) (fields := []) (by decide) rfl rfl rfl rfl rfl (fun args s h => conj_before h _ List.mem_cons_self) y2entry (fun _ => none) (fun _ _ _ _ _ => False) (fun _ _ _ => 0) (fun args s h => ?_) (fun args s _ h ks hks => by cases hks)
  have hp := conj_before h
  obtain ⟨a, rfl⟩ := Cond.one_int (hp (.count 1) (by simp)) (hp (.isInt (.arg 0)) (by simp [Sym.sorts, isK]))
  exact ⟨rfl, fun q hq => hp q (by simp [hq]), fun q hq => hp q (by simp [hq]), own_needs (T := []) (D := []) (fun _ q => by cases q) (fun _ q => by cases q) (by decide +kernel), Kit.vc_of_value (w₀ := .int (if own_is a.toInt then 1 else 0)) (fun E => own_P_after (by decide) (own_G_val a s)) T2 (by decide +kernel) (own_val2 a s)⟩
theorem y2cold : y2spec.Cold := Spec.cold_of_keeps (by decide +kernel)
def c_y2 : Callee := { y := y2, S := y2spec, bytes := y2code, maxL := 5, ret := some .boolean, static := true, params := 1, res := some .int }
/-! the law -/
def I : Info := { own := x.cls, ret := ret, ints := [(7, 65535)], calls := [(8, c_y1), (14, c_y2)], maxLocals := maxLocals, room := room_1 }
theorem callsOk (l : Launch) : CallsOk l I maxLocals room_1 := fun q hq => by
  simp only [I, List.mem_cons, List.not_mem_nil, or_false] at hq
  rcases hq with rfl | rfl
  · exact ⟨rfl, rfl, y1meets l, y1cold⟩
  · exact ⟨rfl, rfl, y2meets l, y2cold⟩
def w := walkTo I code [] 400 true (entry [.int] maxLocals)
theorem w_some : w.isSome = true := by decide +kernel
def C : Term := .op1 .i2c (.op2 .iand (.arg 0) (.int 65535))
def own_G1 : Cond := .or (.or (.and (.le (K 97) (.old C)) (.le (.old C) (K 122))) (.and (.le (K 65) (.old C)) (.le (.old C) (K 90)))) (.and (.le (K 48) (.old C)) (.le (.old C) (K 57)))
def E2 (p q : Int32) : STree := .fork (.not (.eq (K p) (K q))) (R 0) (R 1)
def t0 : STree := .fork own_G1 (.fork own_G1 (E2 1 1) (E2 1 0)) (.fork own_G1 (E2 0 1) (E2 0 0))
theorem tree : (w.get w_some).1 = t0 := by decide +kernel
theorem entry_walk : walkTo I code [] 400 true (entry [.int] maxLocals) = some (t0, (w.get w_some).2.1, (w.get w_some).2.2) := by
  rw [← tree]; exact (Option.some_get w_some).symm
theorem sorts_ok {a : Int32} {s : State} : ∀ q ∈ Sym.sorts 0 [.int], q.before #[.int a] s = true := by
  intro q hq
  simp only [Sym.sorts, List.mem_cons, List.not_mem_nil, or_false] at hq
  rcases hq with rfl; simp [isK, Cond.before, Cond.holds, Cond.value, Term.eval]
def own_D : List Cond := [.le (K 97) (.old C), .le (.old C) (K 122), .le (K 65) (.old C), .le (.old C) (K 90), .le (K 48) (.old C), .le (.old C) (K 57), .eq (K 1) (K 1), .eq (K 1) (K 0), .eq (K 0) (K 1), .eq (K 0) (K 0)]
theorem own_D_ok (a : Int32) (s : State) : ∀ c ∈ own_D, ∃ z, c.value #[.int a] s none s [] = some z := fun q hq => by
  simp only [own_D, List.mem_cons, List.not_mem_nil, or_false] at hq
  rcases hq with rfl | rfl | rfl | rfl | rfl | rfl | rfl | rfl | rfl | rfl <;> first | exact ⟨_, Cond.eq_ints rfl rfl⟩ | exact ⟨_, Cond.le_ints rfl rfl⟩
theorem own_val (a : Int32) (s : State) : Kit.valueOf #[.int a] s t0 = some (.int 1) := by
  obtain ⟨b, hb⟩ := own_def_sound (own_D_ok a s) own_G1 (by decide +kernel)
  have e11 : Kit.valueOf #[.int a] s (E2 1 1) = some (.int 1) := rfl
  have e00 : Kit.valueOf #[.int a] s (E2 0 0) = some (.int 1) := rfl
  cases b <;> simp only [t0, Kit.valueOf, hb, e11, e00]
def post_1 : Cond := .and limb_1_1 limb_1_2
theorem met_1 (l : Launch) : MeetsLoose l x (armSpec x code maxLocals ret tables_1 room_1 .tt (.and given_1 narrow_1) post_1 frame_1_writes frame_1_arrays frame_1_statics) := by
  refine loops_meets (I := I) (ks0 := [.int]) (cuts := []) (by decide) rfl rfl rfl rfl rfl (fun args s h => ?_) entry_walk (fun _ => none) (fun _ _ _ _ _ => False) (fun _ _ _ => 0) (fun args s h => ?_) (fun args s _ h ks hks => by cases hks) (callsOk l)
  · simp only [armSpec, allAtoms, List.foldr_cons, Cond.before_and, Bool.and_eq_true] at h; exact h.1.1
  · have hts : (allAtoms (Cond.code x code maxLocals ret :: tables_1)).before args s = true := by simp only [armSpec, Cond.before_and, Bool.and_eq_true] at h; exact h.1
    have hK : (Cond.and .tt (.and given_1 narrow_1)).before args s = true := by simp only [armSpec, Cond.before_and, Bool.and_eq_true] at h ⊢; exact h.2
    simp only [armSpec, given_1, Cond.before_and, Bool.and_eq_true] at h
    obtain ⟨-, -, ⟨hc, h0⟩, hn⟩ := h
    obtain ⟨a, rfl⟩ := Cond.one_int hc h0
    have hT := known3 (Gt := [.isInt C, .isInt (.int 1), .isInt (.int 0), .isInt (.op2 .iand (.int 0) (.int 1)), .isInt (.op2 .iand (.int 1) (.int 1))]) hts hK (by
      intro q hq
      simp only [List.mem_cons, List.not_mem_nil, or_false] at hq
      rcases hq with rfl | rfl | rfl | rfl | rfl <;> rfl)
    refine ⟨rfl, sorts_ok, tabs_of_sub hts (by decide +kernel), own_needs hT (own_D_ok a s) (by decide +kernel), Kit.vc_of_value (w₀ := .int 1) (fun E => ?_) t0 (by decide +kernel) (own_val a s)⟩
    simp [armSpec, post_1, limb_1_1, limb_1_2, Cond.after, Cond.holds, Cond.value, Term.eval]
theorem main_1_1 : Claimed_1_1 := armFor_of_meets0 (fun l => (met_1 l).meets) (fun _ _ _ _ h => by simp only [post_1, Cond.after_and, Bool.and_eq_true] at h; exact h.1)
theorem main_1_2 : Claimed_1_2 := armFor_of_meets0 (fun l => (met_1 l).meets) (fun _ _ _ _ h => by simp only [post_1, Cond.after_and, Bool.and_eq_true] at h; exact h.2)
end Jvm.Pilot.@@N@@
namespace Jvm.Pilot.@@N@@
open Jvm Jvm.ClassFile Sem Op Lib Jvm.Free Jvm.Stand Jvm.Pilot.@@N@@.Jvm.D
/-! MADE BY PROGRAM (witnessworld.py) out of the Statement's table words and the real class files: 9 classes; the members and pool entries that the words name. The judged class is class 1, her method 2. -/
namespace start1
open Jvm.ClassFile
def u (s : String) : CpInfo := .utf8 (stringToUtf16 s)
/-- a pool by its gaps: so many unusable entries, then the entry; so many at the end -/
def gap : Nat → List CpInfo → List CpInfo
  | 0, r => r
  | n + 1, r => .unusable :: gap n r
def poolList (es : List (Nat × CpInfo)) (last : Nat) : List CpInfo := es.foldr (fun e r => gap e.1 (e.2 :: r)) (gap last [])
def pool (es : List (Nat × CpInfo)) (last : Nat) : Array CpInfo := ⟨poolList es last⟩
def fileOf (pool : Array CpInfo) (this : Nat) (attrs : Array Attribute := #[]) (ms : Array MethodInfo := #[]) (fl : Nat := 33) (sup : Nat := 0) (ifs : Array Nat := #[]) (fds : Array FieldInfo := #[]) : ClassFile where
  minorVersion := 0
  majorVersion := 65
  constantPool := pool
  accessFlags := fl
  thisClass := this
  superClass := sup
  interfaces := ifs
  fields := fds
  methods := ms
  attributes := attrs
def plain (name : String) (sup : Option ClassId) : Class where
  name := name
  kind := .ordinary
  loader := none
  accessFlags := 33
  super := sup
  interfaces := #[]
  cf := none
  fields := #[]
  methods := #[]
  instanceTypes := #[]
  staticTypes := #[]
  resolved := #[]
  callSites := []
  init := .initialized
  statics := none
  mirror := none

def pool0 : Array CpInfo := pool [(5, u "<init>"), (0, u "()V"), (1, .class_ 10), (1, u "java/lang/Object")] 113

def k0m0 : Method := { name := "<init>", desc := "()V", sig := { parameters := [], returnType := none }, accessFlags := 1, code := none }
/-- java/lang/Object -/
def k0 : Class := { plain "java/lang/Object" none with
  accessFlags := 33
  interfaces := #[]
  cf := some (fileOf pool0 8 #[] #[{ accessFlags := 1, nameIndex := 5, descriptorIndex := 6, attributes := #[] }] 33 0 #[] #[])
  fields := #[]
  methods := #[k0m0]
  instanceTypes := #[]
  staticTypes := #[]
  resolved := Array.replicate 124 none
  statics := none }

def pool1 : Array CpInfo := pool [(2, .class_ 4), (1, u "java/lang/Object"), (0, u "<init>"), (0, u "()V"), (0, .integer 65535), (0, .methodref 9 10), (0, .class_ 11), (0, .nameAndType 12 13), (0, u "com/example/gate3/gate3/rest/PathSegments"), (0, u "isAsciiLetterOrDigit"), (0, u "(C)Z"), (0, .methodref 15 16), (0, .class_ 17), (0, .nameAndType 18 13), (0, u "com/example/gate3/gate3/rest/PathSegmentsIsAsciiLetterOrDigitPinLaw"), (0, u "reference"), (3, u "law"), (0, u "(I)Z")] 2

def k1m0 : Method := { name := "<init>", desc := "()V", sig := { parameters := [], returnType := none }, accessFlags := 2, code := none }
def k1c1 : Code := { maxStack := 2, maxLocals := 5, code := method_2_code, exceptionTable := #[], attributes := #[] }
def k1m1 : Method := { name := "reference", desc := "(C)Z", sig := { parameters := [.char], returnType := some .boolean }, accessFlags := 10, code := some k1c1 }
def k1c2 : Code := { maxStack := 2, maxLocals := 2, code := code, exceptionTable := #[], attributes := #[] }
def k1m2 : Method := { name := "law", desc := "(I)Z", sig := { parameters := [.int], returnType := some .boolean }, accessFlags := 9, code := some k1c2 }
/-- com/example/gate3/gate3/rest/PathSegmentsIsAsciiLetterOrDigitPinLaw -/
def k1 : Class := { plain "com/example/gate3/gate3/rest/PathSegmentsIsAsciiLetterOrDigitPinLaw" (some 0) with
  accessFlags := 49
  interfaces := #[]
  cf := some (fileOf pool1 15 #[] #[{ accessFlags := 2, nameIndex := 5, descriptorIndex := 6, attributes := #[] }, { accessFlags := 10, nameIndex := 18, descriptorIndex := 13, attributes := #[] }, { accessFlags := 9, nameIndex := 22, descriptorIndex := 23, attributes := #[] }] 49 2 #[] #[])
  fields := #[]
  methods := #[k1m0, k1m1, k1m2]
  instanceTypes := #[]
  staticTypes := #[]
  resolved := Array.replicate 26 none
  statics := none }

def pool2 : Array CpInfo := pool [(1, .class_ 2), (0, u "com/example/gate3/gate3/rest/PathSegments"), (1, .class_ 6), (1, u "java/lang/Object"), (0, u "<init>"), (0, u "()V"), (35, u "(C)Z"), (43, u "isAsciiLetterOrDigit"), (6, u "HEX"), (0, u "[C"), (66, u "UNRESERVED"), (0, u "Ljava/lang/String;"), (1, u "KEPT"), (0, u "NUL"), (0, u "C"), (1, u "RESOURCE_NAME")] 28

def k2m0 : Method := { name := "<init>", desc := "()V", sig := { parameters := [], returnType := none }, accessFlags := 2, code := none }
def k2c1 : Code := { maxStack := 2, maxLocals := 1, code := prog_24_method_9_code, exceptionTable := #[], attributes := #[] }
def k2m1 : Method := { name := "isAsciiLetterOrDigit", desc := "(C)Z", sig := { parameters := [.char], returnType := some .boolean }, accessFlags := 8, code := some k2c1 }
/-- com/example/gate3/gate3/rest/PathSegments -/
def k2 : Class := { plain "com/example/gate3/gate3/rest/PathSegments" (some 0) with
  accessFlags := 33
  interfaces := #[]
  cf := some (fileOf pool2 1 #[] #[{ accessFlags := 2, nameIndex := 7, descriptorIndex := 8, attributes := #[] }, { accessFlags := 8, nameIndex := 88, descriptorIndex := 44, attributes := #[] }] 33 4 #[] #[{ accessFlags := 26, nameIndex := 95, descriptorIndex := 96, attributes := #[] }, { accessFlags := 26, nameIndex := 163, descriptorIndex := 164, attributes := #[] }, { accessFlags := 26, nameIndex := 166, descriptorIndex := 164, attributes := #[] }, { accessFlags := 26, nameIndex := 167, descriptorIndex := 168, attributes := #[] }, { accessFlags := 25, nameIndex := 170, descriptorIndex := 164, attributes := #[] }])
  fields := #[{ name := "HEX", type := (.array .char), accessFlags := 26, slot := 0, constantValue := 0 }, { name := "UNRESERVED", type := (.object "java/lang/String"), accessFlags := 26, slot := 1, constantValue := 0 }, { name := "KEPT", type := (.object "java/lang/String"), accessFlags := 26, slot := 2, constantValue := 0 }, { name := "NUL", type := .char, accessFlags := 26, slot := 3, constantValue := 0 }, { name := "RESOURCE_NAME", type := (.object "java/lang/String"), accessFlags := 25, slot := 4, constantValue := 0 }]
  methods := #[k2m0, k2m1]
  instanceTypes := #[]
  staticTypes := #[(.array .char), (.object "java/lang/String"), (.object "java/lang/String"), .char, (.object "java/lang/String")]
  resolved := Array.replicate 199 none
  statics := none }

def pool3 : Array CpInfo := pool [(1, u "java/lang/Cloneable"), (0, .class_ 1), (0, u "java/lang/Object"), (0, .class_ 3)] 3

/-- java/lang/Cloneable -/
def k3 : Class := { plain "java/lang/Cloneable" (some 0) with
  accessFlags := 1537
  interfaces := #[]
  cf := some (fileOf pool3 2 #[] #[] 1537 4 #[] #[])
  fields := #[]
  methods := #[]
  instanceTypes := #[]
  staticTypes := #[]
  resolved := Array.replicate 8 none
  statics := none }

def pool4 : Array CpInfo := pool [(1, u "java/io/Serializable"), (0, .class_ 1), (0, u "java/lang/Object"), (0, .class_ 3)] 3

/-- java/io/Serializable -/
def k4 : Class := { plain "java/io/Serializable" (some 0) with
  accessFlags := 1537
  interfaces := #[]
  cf := some (fileOf pool4 2 #[] #[] 1537 4 #[] #[])
  fields := #[]
  methods := #[]
  instanceTypes := #[]
  staticTypes := #[]
  resolved := Array.replicate 8 none
  statics := none }

/-- the primitive byte -/
def k5 : Class := { plain "byte" none with kind := .primitive 'B', accessFlags := 0x411 }
/-- [B -/
def k6 : Class := { plain "[B" (some 0) with kind := .array 5 .byte, interfaces := #[3, 4], accessFlags := 1041 }

/-- the primitive int -/
def k7 : Class := { plain "int" none with kind := .primitive 'I', accessFlags := 0x411 }
/-- [I -/
def k8 : Class := { plain "[I" (some 0) with kind := .array 7 .int, interfaces := #[3, 4], accessFlags := 1041 }

def heap : Heap := #[]
def classes : Array Class := #[k0, k1, k2, k3, k4, k5, k6, k7, k8]
def interned : List (Array UInt16 × Addr) := []
def slotsUsed : Nat := 0
def theMethod : MethodId := ⟨1, 2⟩
def args0 : Array Value := #[.int 75]
def aboutOver (below : List Frame) : State where
  vm := { classes := classes, interned := interned.toArray }
  heap := heap
  slotsUsed := slotsUsed
  threads := #[{ frames := .invoking theMethod args0 :: below }]
def below0 : List Frame := [.native { method := ⟨0, 0⟩, args := #[] }]
def about1 : State := aboutOver below0
def p0 : Program := .bare "" "" ""
def e0 : Env := launch0.env 0 0 0
theorem w_frames : about1.frames = Frame.invoking theMethod args0 :: below0 := rfl
set_option maxRecDepth 65536 in
theorem w_args : argsFit about1.vm theMethod args0 = true := by decide +kernel
set_option maxRecDepth 65536 in
theorem w_heap : heapFits about1 = true := by decide +kernel
set_option maxRecDepth 65536 in
theorem w_runnable : about1.curStatus? = some .runnable := by decide +kernel
set_option maxRecDepth 65536 in
theorem w_alone : about1.alone = true := by decide +kernel
set_option maxRecDepth 65536 in
theorem w_named : about1.methodNamed? x = some theMethod := by decide +kernel
set_option maxRecDepth 65536 in
theorem w_hears : about1.hears theMethod below0 = true := by decide +kernel
set_option maxRecDepth 65536 in
theorem w_ripe : about1.ripe theMethod args0 below0 = true := by decide +kernel
theorem w_running : about1.status = .running := rfl
set_option maxRecDepth 65536 in
theorem w_room : about1.hasRoom e0.platform room_1 = true :=
  launch0.hasRoom_least _ room_1 (by decide +kernel) (by decide +kernel) (by decide +kernel) (by decide +kernel) (by decide +kernel) (by decide +kernel)
theorem allAtoms_all (ts : List Jvm.Cond) (a : Array Jvm.Value) (st : Jvm.State) : (allAtoms ts).before a st = ts.all (fun c => c.before a st) := by
  induction ts with
  | nil => rfl
  | cons c t ih =>
    show (Jvm.Cond.and c (allAtoms t)).before a st = _
    rw [Jvm.Cond.before_and, ih, List.all_cons]
def words1 : List Jvm.Cond := Jvm.Cond.code x code maxLocals ret :: tables_1
/-- a 'code' word, met by the world's own term for the bytes: nothing is compared byte by byte -/
theorem code_word {y : MethodName} {bytes : ByteArray} {mx : Nat} {rt : Option FieldType} {a : Array Value} {s : State} {m : MethodId} {meth : Method} {c : Code} (h1 : s.methodNamed? y = some m) (h2 : s.vm.method? m = some meth) (h3 : meth.code = some c) (h4 : c.code = bytes)
    (h5 : (c.maxLocals == mx && c.exceptionTable.isEmpty && decide (c.maxStack ≤ mostOperands) && decide (meth.sig.returnType = rt) && !meth.locks && decide (parseMethodDescriptor y.desc = some meth.sig)) = true) : (Jvm.Cond.code y bytes mx rt).before a s = true := by
  simp only [Bool.and_eq_true, beq_iff_eq, Bool.not_eq_true', decide_eq_true_eq] at h5
  obtain ⟨⟨⟨⟨⟨g1, g2⟩, g3⟩, g4⟩, g5⟩, g6⟩ := h5
  simp [Cond.before, Cond.holds, Cond.value, h1, h2, h3, h4, g1, g2, g3, g4, g5, g6]
def isCode : Jvm.Cond → Bool
  | .code _ _ _ _ => true
  | _ => false
theorem all_split {L : List Jvm.Cond} {P : Jvm.Cond → Bool} (h1 : L.all (fun c => isCode c || P c) = true) (h2 : ∀ c ∈ L.filter isCode, P c = true) : L.all P = true := by
  refine List.all_eq_true.mpr fun c hc => ?_
  have h := List.all_eq_true.mp h1 c hc
  rcases Bool.eq_false_or_eq_true (isCode c) with hi | hi
  · exact h2 c (List.mem_filter.mpr ⟨hc, hi⟩)
  · simpa [hi] using h
set_option maxRecDepth 65536 in
theorem w_c0 : (Jvm.Cond.code x code maxLocals ret).before args0 about1 = true := code_word (m := ⟨1, 2⟩) (meth := k1m2) (c := k1c2) (by decide +kernel) rfl rfl rfl (by decide +kernel)
set_option maxRecDepth 65536 in
theorem w_c1 : (Jvm.Cond.code ({ cls := "com/example/gate3/gate3/rest/PathSegments", name := "isAsciiLetterOrDigit", desc := "(C)Z" } : Jvm.MethodName) prog_24_method_9_code (1 : Nat) (Option.some Jvm.ClassFile.FieldType.boolean)).before args0 about1 = true := code_word (m := ⟨2, 1⟩) (meth := k2m1) (c := k2c1) (by decide +kernel) rfl rfl rfl (by decide +kernel)
set_option maxRecDepth 65536 in
theorem w_c2 : (Jvm.Cond.code ({ cls := "com/example/gate3/gate3/rest/PathSegmentsIsAsciiLetterOrDigitPinLaw", name := "reference", desc := "(C)Z" } : Jvm.MethodName) method_2_code (5 : Nat) (Option.some Jvm.ClassFile.FieldType.boolean)).before args0 about1 = true := code_word (m := ⟨1, 1⟩) (meth := k1m1) (c := k1c1) (by decide +kernel) rfl rfl rfl (by decide +kernel)
def codes1 : List Jvm.Cond := [Jvm.Cond.code x code maxLocals ret, Jvm.Cond.code ({ cls := "com/example/gate3/gate3/rest/PathSegments", name := "isAsciiLetterOrDigit", desc := "(C)Z" } : Jvm.MethodName) prog_24_method_9_code (1 : Nat) (Option.some Jvm.ClassFile.FieldType.boolean), Jvm.Cond.code ({ cls := "com/example/gate3/gate3/rest/PathSegmentsIsAsciiLetterOrDigitPinLaw", name := "reference", desc := "(C)Z" } : Jvm.MethodName) method_2_code (5 : Nat) (Option.some Jvm.ClassFile.FieldType.boolean)]
set_option maxRecDepth 65536 in
theorem codes_eq : words1.filter isCode = codes1 := rfl
theorem w_codes : ∀ c ∈ words1.filter isCode, c.before args0 about1 = true := by
  rw [codes_eq]
  intro c hc
  simp only [codes1, List.mem_cons, List.not_mem_nil, or_false] at hc
  rcases hc with rfl | rfl | rfl
  · exact w_c0
  · exact w_c1
  · exact w_c2
set_option maxRecDepth 65536 in
theorem w_t1 : words1.all (fun c => isCode c || c.before args0 about1) = true := by decide +kernel
theorem w_tables : (allAtoms (Jvm.Cond.code x code maxLocals ret :: tables_1)).before args0 about1 = true := by
  rw [allAtoms_all]
  show words1.all (fun c => c.before args0 about1) = true
  refine all_split ?_ w_codes
  rw [w_t1]
set_option maxRecDepth 65536 in
theorem w_case : (Jvm.Cond.and given_1 narrow_1).before args0 about1 = true := by decide +kernel
theorem w_applies : (headSpec (Jvm.Cond.code x code maxLocals ret :: tables_1) room_1).applies x e0.platform about1 = true :=
  (Spec.applies_iff w_frames).mpr ⟨w_running, w_runnable, w_alone, w_named, w_hears, w_ripe, w_room, w_tables⟩
theorem atStart : AtStart classFile x code maxLocals ret World_1 tables_1 room_1 Calls_1 rest_1 Pre_1 launch0 p0 e0 about1 theMethod args0 below0 :=
  ⟨lists_1, trivial, launch0.admits_env _ _ _, launch0.least_env, fairChoices_fair.cas, fairChoices_fair.clock, w_frames, w_args, w_heap, w_applies, trivial, trivial, w_case⟩
end start1
theorem witness_1 : WitnessClaimed_1 := ⟨start1.p0, start1.e0, start1.about1, start1.theMethod, start1.args0, start1.below0, start1.atStart⟩
end Jvm.Pilot.@@N@@
