import JvmDerived
import JvmDerived.Pilot.@@N@@Statement
import JvmDerived.Pilot.@@N@@Code
set_option linter.unusedVariables false
set_option linter.unusedSimpArgs false
@@BLOCK:HandJ.lean.txt@@
@@BLOCK:HandW.lean.txt@@
@@BLOCK:HandBits.lean.txt@@
@@BLOCK:SymRun.lean.txt@@
@@BLOCK:RowBasics.lean.txt@@
@@BLOCK:Bridge.lean.txt@@
@@BLOCK:SymKit.lean.txt@@
@@BLOCK:NumsL.lean.txt@@
namespace Jvm.Pilot.@@N@@
open Jvm Jvm.ClassFile Sem Op Jvm.Sym Jvm.Pilot.@@N@@.Jvm.D

def y1 : MethodName := ⟨"com/example/good_standing/goodstanding/Condition", "isWhitespace", "(I)Z"⟩
def y1code : ByteArray := prog_11_method_1_code
def y1I : Info := { own := "com/example/good_standing/goodstanding/Condition", ret := some .boolean }
def y1out : Option (Cond × List Cond × List Cond) := walk y1I y1code 400 (entry [.int] 1)
theorem y1walks : y1out.isSome = true := by decide +kernel
def y1got : Cond × List Cond × List Cond := y1out.get y1walks
def y1spec : Spec := specOf y1 y1code 1 (some .boolean) [.int] y1got.1 y1got.2.1 y1got.2.2
theorem y1meets (l : Launch) : MeetsLoose l y1 y1spec :=
  walk_meets (n := 400) (I := y1I) (by decide) rfl rfl (show walk y1I y1code 400 (entry [.int] 1) = some (y1got.1, y1got.2.1, y1got.2.2) from (Option.some_get y1walks).symm)
theorem y1cold : y1spec.Cold := Spec.cold_of_keeps (by decide +kernel)
def c_y1 : Callee := { y := y1, S := y1spec, bytes := y1code, maxL := 1, ret := some .boolean, static := true, params := 1, res := some .int }
def y2 : MethodName := ⟨"com/example/good_standing/goodstanding/ConditionIsWhitespacePinLaw", "expected", "(I)Z"⟩
def y2code : ByteArray := method_2_code
def y2I : Info := { own := "com/example/good_standing/goodstanding/ConditionIsWhitespacePinLaw", ret := some .boolean }
def y2out : Option (Cond × List Cond × List Cond) := walk y2I y2code 400 (entry [.int] 1)
theorem y2walks : y2out.isSome = true := by decide +kernel
def y2got : Cond × List Cond × List Cond := y2out.get y2walks
def y2spec : Spec := specOf y2 y2code 1 (some .boolean) [.int] y2got.1 y2got.2.1 y2got.2.2
theorem y2meets (l : Launch) : MeetsLoose l y2 y2spec :=
  walk_meets (n := 400) (I := y2I) (by decide) rfl rfl (show walk y2I y2code 400 (entry [.int] 1) = some (y2got.1, y2got.2.1, y2got.2.2) from (Option.some_get y2walks).symm)
theorem y2cold : y2spec.Cold := Spec.cold_of_keeps (by decide +kernel)
def c_y2 : Callee := { y := y2, S := y2spec, bytes := y2code, maxL := 1, ret := some .boolean, static := true, params := 1, res := some .int }
def y3 : MethodName := ⟨"com/example/good_standing/goodstanding/ConditionIsWhitespacePinLaw", "agrees", "(I)Z"⟩
def y3code : ByteArray := method_3_code
def y3room : Room := { frames := 1, cells := 0, slots := 0, locals := 13 }
def y3I : Info := { own := "com/example/good_standing/goodstanding/ConditionIsWhitespacePinLaw", ret := some .boolean, calls := [(7, c_y1), (13, c_y2)], maxLocals := 1, room := y3room }
def y3w := walkTo y3I y3code [] 400 true (entry [.int] 1)
theorem y3w_some : y3w.isSome = true := by decide +kernel
/-! own: what a tree returns, guard by guard; the needs, linearly -/
theorem own_vf {A : Array Value} {s : State} {G : Cond} {a b : STree} {P : Prop} [Decidable P] (h : G.value A s none s [] = some (decide P)) :
    Kit.valueOf A s (.fork G a b) = if P then Kit.valueOf A s a else Kit.valueOf A s b := by
  simp only [Kit.valueOf, h]
  by_cases p : P <;> simp [p]
theorem own_not {A : Array Value} {s : State} {G : Cond} {P : Prop} [Decidable P] (h : G.value A s none s [] = some (decide P)) : (Cond.not G).value A s none s [] = some (decide (¬ P)) := by
  simp [Cond.value, h]
theorem own_lt {A : Array Value} {s : State} {a b : Term} {x y : Int32} {p q : Int} (ha : a.eval A s none [] s = some (.int x)) (hb : b.eval A s none [] s = some (.int y)) (hx : x.toInt = p) (hy : y.toInt = q) :
    (Cond.lt a b).value A s none s [] = some (decide (p < q)) := by
  rw [Cond.lt_ints ha hb]; subst hx hy; simp only [Int32.lt_iff_toInt_lt]
theorem own_le {A : Array Value} {s : State} {a b : Term} {x y : Int32} {p q : Int} (ha : a.eval A s none [] s = some (.int x)) (hb : b.eval A s none [] s = some (.int y)) (hx : x.toInt = p) (hy : y.toInt = q) :
    (Cond.le a b).value A s none s [] = some (decide (p ≤ q)) := by
  rw [Cond.le_ints ha hb]; subst hx hy; simp only [Int32.le_iff_toInt_le]
theorem own_eq {A : Array Value} {s : State} {a b : Term} {x y : Int32} {p q : Int} (ha : a.eval A s none [] s = some (.int x)) (hb : b.eval A s none [] s = some (.int y)) (hx : x.toInt = p) (hy : y.toInt = q) :
    (Cond.eq a b).value A s none s [] = some (decide (p = q)) := by
  rw [Cond.eq_ints ha hb]; subst hx hy; simp only [Int32.toInt_inj]
def own_def (D : List Cond) (q : Cond) : Bool :=
  D.contains q || match q with
  | .tt => true
  | .not c => own_def D c
  | .and a b => own_def D a && own_def D b
  | .or a b => own_def D a && own_def D b
  | _ => false
theorem own_def_sound {D : List Cond} {A : Array Value} {s : State} (hD : ∀ c ∈ D, ∃ b, c.value A s none s [] = some b) (q : Cond) : own_def D q = true → ∃ b, q.value A s none s [] = some b := by
  induction q with
  | tt => intro _; exact ⟨true, rfl⟩
  | not c ih =>
    intro h; unfold own_def at h; simp only [Bool.or_eq_true] at h
    rcases h with h | h
    · exact hD _ (List.contains_iff_mem.mp h)
    · obtain ⟨b, hb⟩ := ih h; exact ⟨!b, by simp [Cond.value, hb]⟩
  | and a b iha ihb =>
    intro h; unfold own_def at h; simp only [Bool.or_eq_true, Bool.and_eq_true] at h
    rcases h with h | h
    · exact hD _ (List.contains_iff_mem.mp h)
    · obtain ⟨x, hx⟩ := iha h.1; obtain ⟨y, hy⟩ := ihb h.2
      cases x with
      | true => exact ⟨y, by simp [Cond.value, hx, hy]⟩
      | false => exact ⟨false, by simp [Cond.value, hx]⟩
  | or a b iha ihb =>
    intro h; unfold own_def at h; simp only [Bool.or_eq_true, Bool.and_eq_true] at h
    rcases h with h | h
    · exact hD _ (List.contains_iff_mem.mp h)
    · obtain ⟨x, hx⟩ := iha h.1; obtain ⟨y, hy⟩ := ihb h.2
      cases x with
      | true => exact ⟨true, by simp [Cond.value, hx]⟩
      | false => exact ⟨y, by simp [Cond.value, hx, hy]⟩
  | _ =>
    intro h; unfold own_def at h; simp only [Bool.or_false] at h
    exact hD _ (List.contains_iff_mem.mp h)
def own_tru (T D : List Cond) (q : Cond) : Bool :=
  T.contains q || match q with
  | .tt => true
  | .and a b => own_tru T D a && own_tru T D b
  | .or a b => own_def D a && own_tru T D b
  | _ => false
theorem own_tru_sound {T D : List Cond} {A : Array Value} {s : State} (hT : ∀ c ∈ T, c.value A s none s [] = some true) (hD : ∀ c ∈ D, ∃ b, c.value A s none s [] = some b) (q : Cond) : own_tru T D q = true → q.value A s none s [] = some true := by
  induction q with
  | tt => intro _; rfl
  | and a b iha ihb =>
    intro h; unfold own_tru at h; simp only [Bool.or_eq_true, Bool.and_eq_true] at h
    rcases h with h | h
    · exact hT _ (List.contains_iff_mem.mp h)
    · simp [Cond.value, iha h.1, ihb h.2]
  | or a b iha ihb =>
    intro h; unfold own_tru at h; simp only [Bool.or_eq_true, Bool.and_eq_true] at h
    rcases h with h | h
    · exact hT _ (List.contains_iff_mem.mp h)
    · obtain ⟨x, hx⟩ := own_def_sound hD a h.1
      cases x with
      | true => simp [Cond.value, hx]
      | false => simp [Cond.value, hx, ihb h.2]
  | _ =>
    intro h; unfold own_tru at h; simp only [Bool.or_false] at h
    exact hT _ (List.contains_iff_mem.mp h)
theorem own_needs {L T D : List Cond} {A : Array Value} {s : State} (hT : ∀ c ∈ T, c.value A s none s [] = some true) (hD : ∀ c ∈ D, ∃ b, c.value A s none s [] = some b) (h : L.all (own_tru T D) = true) : ∀ q ∈ L, q.before A s = true :=
  fun q hq => before_of_value (own_tru_sound hT hD q (List.all_eq_true.mp h q hq))
/-- a boolean's return -/
def R (k : Int32) : STree := .ret (some ⟨.op2 .iand (.int k) (.int 1), .int⟩) []
def B (k : Int32) : Term := .old (.op2 .iand (.int k) (.int 1))
def X0 : Term := .old (.arg 0)
def K (k : Int32) : Term := .old (.int k)
/-- isWhitespace's tree, going on with what it returned -/
def T1 (k : Int32 → STree) : STree :=
  .fork (.eq X0 (K 32)) (k 1) (.fork (.eq X0 (K 9)) (k 1) (.fork (.eq X0 (K 10)) (k 1) (.fork (.eq X0 (K 13)) (k 1) (.fork (.eq X0 (K 12)) (k 1) (.fork (.not (.eq X0 (K 11))) (k 0) (k 1))))))
/-- expected's -/
def T2 (k : Int32 → STree) : STree :=
  .fork (.not (.eq X0 (K 32))) (.fork (.le (K 9) X0) (.fork (.le X0 (K 13)) (k 1) (k 0)) (k 0)) (k 1)
def T3 : STree := T1 fun r1 => T2 fun r2 => .fork (.not (.eq (B r1) (B r2))) (R 0) (R 1)
theorem y3tree : (y3w.get y3w_some).1 = T3 := by decide +kernel
theorem y3entry : walkTo y3I y3code [] 400 true (entry [.int] 1) = some (T3, (y3w.get y3w_some).2.1, (y3w.get y3w_some).2.2) := by
  rw [← y3tree]; exact (Option.some_get y3w_some).symm
theorem own_val (a : Int32) (s : State) : Kit.valueOf #[.int a] s T3 = some (.int 1) := by
  have g (n : Int32) : (Cond.eq X0 (K n)).value #[.int a] s none s [] = some (decide (a.toInt = n.toInt)) := own_eq (x := a) (y := n) rfl rfl rfl rfl
  have g9 : (Cond.le (K 9) X0).value #[.int a] s none s [] = some (decide (9 ≤ a.toInt)) := own_le (x := 9) (y := a) rfl rfl (by decide) rfl
  have g13 : (Cond.le X0 (K 13)).value #[.int a] s none s [] = some (decide (a.toInt ≤ 13)) := own_le (x := a) (y := 13) rfl rfl rfl (by decide)
  have e11 : Kit.valueOf #[.int a] s (.fork (.not (.eq (B 1) (B 1))) (R 0) (R 1)) = some (.int 1) := rfl
  have e00 : Kit.valueOf #[.int a] s (.fork (.not (.eq (B 0) (B 0))) (R 0) (R 1)) = some (.int 1) := rfl
  have c32 : (32 : Int32).toInt = 32 := by decide
  have c9 : (9 : Int32).toInt = 9 := by decide
  have c10 : (10 : Int32).toInt = 10 := by decide
  have c13 : (13 : Int32).toInt = 13 := by decide
  have c12 : (12 : Int32).toInt = 12 := by decide
  have c11 : (11 : Int32).toInt = 11 := by decide
  simp only [T3, T1, T2, own_vf (g _), own_vf (own_not (g _)), own_vf g9, own_vf g13, c32, c9, c10, c13, c12, c11]
  repeat' split
  all_goals first | rfl | (exfalso; omega)
def own_D : List Cond := [.eq X0 (K 32), .eq X0 (K 9), .eq X0 (K 10), .eq X0 (K 13), .eq X0 (K 12), .eq X0 (K 11), .le (K 9) X0, .le X0 (K 13), .eq (B 1) (B 1), .eq (B 1) (B 0), .eq (B 0) (B 1), .eq (B 0) (B 0)]
def own_T : List Cond := [.isInt (.arg 0), .isInt (.op2 .iand (.int 1) (.int 1)), .isInt (.op2 .iand (.int 0) (.int 1)), .code y1 y1code 1 (some .boolean), .code y2 y2code 1 (some .boolean)]
def y3P : Cond := .and .returned (.eq .result (.old (.int 1)))
def y3spec : Spec := specOf y3 y3code 1 (some .boolean) [.int] y3P (y3w.get y3w_some).2.1 [] y3room
theorem y3calls (l : Launch) : CallsOk l y3I 1 y3room := fun q hq => by
  simp only [y3I, List.mem_cons, List.not_mem_nil, or_false] at hq
  rcases hq with rfl | rfl
  · exact ⟨rfl, rfl, y1meets l, y1cold⟩
  · exact ⟨rfl, rfl, y2meets l, y2cold⟩
theorem y3meets (l : Launch) : MeetsLoose l y3 y3spec := by
  refine loops_meets (I := y3I) (ks0 := [.int]) (cuts := []) (fields := []) (by decide) rfl rfl rfl rfl rfl (fun args s h => conj_before h _ List.mem_cons_self) y3entry (fun _ => none) (fun _ _ _ _ _ => False) (fun _ _ _ => 0) (fun args s h => ?_) (fun args s _ h ks hks => by cases hks) (y3calls l)
  have hp := conj_before h
  have hc : (Cond.count 1).before args s = true := hp _ (by simp)
  have hi : (Cond.isInt (.arg 0)).before args s = true := hp _ (by simp [Sym.sorts, isK])
  have ht : ∀ q ∈ (y3w.get y3w_some).2.1, q.before args s = true := fun q hq => hp q (by simp [hq])
  obtain ⟨a, rfl⟩ := Cond.one_int hc hi
  refine ⟨rfl, fun q hq => hp q (by simp [hq]), ht, own_needs (T := own_T) (D := own_D) ?_ ?_ (by decide +kernel), Kit.vc_of_value (w₀ := .int 1) (fun E => ?_) T3 (by decide +kernel) (own_val a s)⟩
  · intro c hcm
    simp only [own_T, List.mem_cons, List.not_mem_nil, or_false] at hcm
    rcases hcm with rfl | rfl | rfl | rfl | rfl
    · rfl
    · rfl
    · rfl
    · exact value_of_before (ht _ (by decide +kernel))
    · exact value_of_before (ht _ (by decide +kernel))
  · intro c hcm
    simp only [own_D, List.mem_cons, List.not_mem_nil, or_false] at hcm
    rcases hcm with rfl | rfl | rfl | rfl | rfl | rfl | rfl | rfl | rfl | rfl | rfl | rfl <;> first | exact ⟨_, Cond.eq_ints rfl rfl⟩ | exact ⟨_, Cond.le_ints rfl rfl⟩
  · simp [y3spec, specOf, y3P, Cond.after, Cond.holds, Cond.value, Term.eval]
theorem y3cold : y3spec.Cold := Spec.cold_of_keeps (by decide +kernel)
def c_y3 : Callee := { y := y3, S := y3spec, bytes := y3code, maxL := 1, ret := some .boolean, static := true, params := 1, res := some .int }
/-! the law -/
def I : Info := { own := x.cls, ret := ret, calls := [(18, c_y3)], maxLocals := maxLocals, room := room_1 }
theorem callsOk (l : Launch) : CallsOk l I maxLocals room_1 := fun q hq => by
  obtain rfl : q = (18, c_y3) := by simpa [I] using hq
  exact ⟨rfl, rfl, y3meets l, y3cold⟩
def w := walkTo I code [] 400 true (entry [.int, .int] maxLocals)
theorem w_some : w.isSome = true := by decide +kernel
def t0 : STree := .fork (.eq (.old (.int 1)) (.int 0)) (R 0) (.fork (.eq (.old (.int 1)) (.int 0)) (R 0) (R 1))
theorem tree : (w.get w_some).1 = t0 := by decide +kernel
theorem entry_walk : walkTo I code [] 400 true (entry [.int, .int] maxLocals) = some (t0, (w.get w_some).2.1, (w.get w_some).2.2) := by
  rw [← tree]; exact (Option.some_get w_some).symm
theorem sorts_ok {a b : Int32} {s : State} : ∀ q ∈ Sym.sorts 0 [.int, .int], q.before #[.int a, .int b] s = true := by
  intro q hq
  simp only [Sym.sorts, List.mem_cons, List.not_mem_nil, or_false] at hq
  rcases hq with rfl | rfl <;> simp [isK, Cond.before, Cond.holds, Cond.value, Term.eval]
def post_1 : Cond := .and limb_1_1 limb_1_2
theorem met_1 (l : Launch) : MeetsLoose l x (armSpec x code maxLocals ret tables_1 room_1 .tt (.and given_1 narrow_1) post_1 frame_1_writes frame_1_arrays frame_1_statics) := by
  refine loops_meets (I := I) (ks0 := [.int, .int]) (cuts := []) (by decide) rfl rfl rfl rfl rfl (fun args s h => ?_) entry_walk (fun _ => none) (fun _ _ _ _ _ => False) (fun _ _ _ => 0) (fun args s h => ?_) (fun args s _ h ks hks => by cases hks) (callsOk l)
  · simp only [armSpec, allAtoms, List.foldr_cons, Cond.before_and, Bool.and_eq_true] at h; exact h.1.1
  · have hts : (allAtoms (Cond.code x code maxLocals ret :: tables_1)).before args s = true := by simp only [armSpec, Cond.before_and, Bool.and_eq_true] at h; exact h.1
    have hK : (Cond.and .tt (.and given_1 narrow_1)).before args s = true := by simp only [armSpec, Cond.before_and, Bool.and_eq_true] at h ⊢; exact h.2
    simp only [armSpec, given_1, Cond.before_and, Bool.and_eq_true] at h
    obtain ⟨-, -, ⟨hc, h0, h1⟩, hn⟩ := h
    obtain ⟨a, b, rfl⟩ := Cond.two_ints hc h0 h1
    have hT := known3 (Gt := [.isInt (.int 1), .isInt (.op2 .iand (.arg 1) (.int 63)), .isInt (.op2 .iand (.int 0) (.int 1)), .isInt (.op2 .iand (.int 1) (.int 1))]) hts hK (by
      intro q hq
      simp only [List.mem_cons, List.not_mem_nil, or_false] at hq
      rcases hq with rfl | rfl | rfl | rfl <;> rfl)
    have hD : ∀ c ∈ [Cond.eq (.old (.int 1)) (.int 0)], ∃ z, c.value #[.int a, .int b] s none s [] = some z := fun q hq => by
      simp only [List.mem_cons, List.not_mem_nil, or_false] at hq
      rcases hq with rfl; exact ⟨_, Cond.eq_ints rfl rfl⟩
    refine ⟨rfl, sorts_ok, tabs_of_sub hts (by decide +kernel), own_needs hT hD (by decide +kernel), Kit.vc_of_value (w₀ := .int 1) (fun E => ?_) t0 (by decide +kernel) rfl⟩
    simp [armSpec, post_1, limb_1_1, limb_1_2, Cond.after, Cond.holds, Cond.value, Term.eval]
theorem main_1_1 : Claimed_1_1 := armFor_of_meets0 (fun l => (met_1 l).meets) (fun _ _ _ _ h => by simp only [post_1, Cond.after_and, Bool.and_eq_true] at h; exact h.1)
theorem main_1_2 : Claimed_1_2 := armFor_of_meets0 (fun l => (met_1 l).meets) (fun _ _ _ _ h => by simp only [post_1, Cond.after_and, Bool.and_eq_true] at h; exact h.2)
end Jvm.Pilot.@@N@@
namespace Jvm.Pilot.@@N@@
open Jvm Jvm.ClassFile Sem Op Lib Jvm.Free Jvm.Stand Jvm.Pilot.@@N@@.Jvm.D
/-! MADE BY PROGRAM (witnessworld.py) out of the Statement's table words and the real class files: 9 classes; the members and pool entries that the words name. The judged class is class 1, her method 3. -/
namespace start1
open Jvm.ClassFile
def u (s : String) : CpInfo := .utf8 (stringToUtf16 s)
/-- a pool by its gaps: so many unusable entries, then the entry; so many at the end -/
def gap : Nat → List CpInfo → List CpInfo
  | 0, r => r
  | n + 1, r => .unusable :: gap n r
def poolList (es : List (Nat × CpInfo)) (last : Nat) : List CpInfo := es.foldr (fun e r => gap e.1 (e.2 :: r)) (gap last [])
def pool (es : List (Nat × CpInfo)) (last : Nat) : Array CpInfo := ⟨poolList es last⟩
def fileOf (pool : Array CpInfo) (this : Nat) (attrs : Array Attribute := #[]) (ms : Array MethodInfo := #[]) (fl : Nat := 33) (sup : Nat := 0) (ifs : Array Nat := #[]) (fds : Array FieldInfo := #[]) : ClassFile where
  minorVersion := 0
  majorVersion := 65
  constantPool := pool
  accessFlags := fl
  thisClass := this
  superClass := sup
  interfaces := ifs
  fields := fds
  methods := ms
  attributes := attrs
def plain (name : String) (sup : Option ClassId) : Class where
  name := name
  kind := .ordinary
  loader := none
  accessFlags := 33
  super := sup
  interfaces := #[]
  cf := none
  fields := #[]
  methods := #[]
  instanceTypes := #[]
  staticTypes := #[]
  resolved := #[]
  callSites := []
  init := .initialized
  statics := none
  mirror := none

def pool0 : Array CpInfo := pool [(5, u "<init>"), (0, u "()V"), (1, .class_ 10), (1, u "java/lang/Object")] 113

def k0m0 : Method := { name := "<init>", desc := "()V", sig := { parameters := [], returnType := none }, accessFlags := 1, code := none }
/-- java/lang/Object -/
def k0 : Class := { plain "java/lang/Object" none with
  accessFlags := 33
  interfaces := #[]
  cf := some (fileOf pool0 8 #[] #[{ accessFlags := 1, nameIndex := 5, descriptorIndex := 6, attributes := #[] }] 33 0 #[] #[])
  fields := #[]
  methods := #[k0m0]
  instanceTypes := #[]
  staticTypes := #[]
  resolved := Array.replicate 124 none
  statics := none }

def pool1 : Array CpInfo := pool [(2, .class_ 4), (1, u "java/lang/Object"), (0, u "<init>"), (0, u "()V"), (0, .interfaceMethodref 8 9), (0, .class_ 10), (0, .nameAndType 11 12), (0, u "com/example/good_standing/goodstanding/Condition"), (0, u "isWhitespace"), (0, u "(I)Z"), (0, .methodref 14 15), (0, .class_ 16), (0, .nameAndType 17 12), (0, u "com/example/good_standing/goodstanding/ConditionIsWhitespacePinLaw"), (0, u "expected"), (0, .methodref 14 19), (0, .nameAndType 20 12), (0, u "agrees"), (3, u "law"), (0, u "(II)Z")] 2

def k1m0 : Method := { name := "<init>", desc := "()V", sig := { parameters := [], returnType := none }, accessFlags := 2, code := none }
def k1c1 : Code := { maxStack := 2, maxLocals := 1, code := method_2_code, exceptionTable := #[], attributes := #[] }
def k1m1 : Method := { name := "expected", desc := "(I)Z", sig := { parameters := [.int], returnType := some .boolean }, accessFlags := 10, code := some k1c1 }
def k1c2 : Code := { maxStack := 2, maxLocals := 1, code := method_3_code, exceptionTable := #[], attributes := #[] }
def k1m2 : Method := { name := "agrees", desc := "(I)Z", sig := { parameters := [.int], returnType := some .boolean }, accessFlags := 10, code := some k1c2 }
def k1c3 : Code := { maxStack := 2, maxLocals := 4, code := code, exceptionTable := #[], attributes := #[] }
def k1m3 : Method := { name := "law", desc := "(II)Z", sig := { parameters := [.int, .int], returnType := some .boolean }, accessFlags := 9, code := some k1c3 }
/-- com/example/good_standing/goodstanding/ConditionIsWhitespacePinLaw -/
def k1 : Class := { plain "com/example/good_standing/goodstanding/ConditionIsWhitespacePinLaw" (some 0) with
  accessFlags := 49
  interfaces := #[]
  cf := some (fileOf pool1 14 #[] #[{ accessFlags := 2, nameIndex := 5, descriptorIndex := 6, attributes := #[] }, { accessFlags := 10, nameIndex := 17, descriptorIndex := 12, attributes := #[] }, { accessFlags := 10, nameIndex := 20, descriptorIndex := 12, attributes := #[] }, { accessFlags := 9, nameIndex := 24, descriptorIndex := 25, attributes := #[] }] 49 2 #[] #[])
  fields := #[]
  methods := #[k1m0, k1m1, k1m2, k1m3]
  instanceTypes := #[]
  staticTypes := #[]
  resolved := Array.replicate 28 none
  statics := none }

def pool2 : Array CpInfo := pool [(1, .class_ 2), (0, u "com/example/good_standing/goodstanding/Condition"), (0, .class_ 4), (0, u "java/lang/Object"), (0, u "isWhitespace"), (0, u "(I)Z")] 13

def k2c0 : Code := { maxStack := 2, maxLocals := 1, code := prog_11_method_1_code, exceptionTable := #[], attributes := #[] }
def k2m0 : Method := { name := "isWhitespace", desc := "(I)Z", sig := { parameters := [.int], returnType := some .boolean }, accessFlags := 9, code := some k2c0 }
/-- com/example/good_standing/goodstanding/Condition -/
def k2 : Class := { plain "com/example/good_standing/goodstanding/Condition" (some 0) with
  accessFlags := 1536
  interfaces := #[]
  cf := some (fileOf pool2 1 #[] #[{ accessFlags := 9, nameIndex := 5, descriptorIndex := 6, attributes := #[] }] 1536 3 #[] #[])
  fields := #[]
  methods := #[k2m0]
  instanceTypes := #[]
  staticTypes := #[]
  resolved := Array.replicate 20 none
  statics := none }

def pool3 : Array CpInfo := pool [(1, u "java/lang/Cloneable"), (0, .class_ 1), (0, u "java/lang/Object"), (0, .class_ 3)] 3

/-- java/lang/Cloneable -/
def k3 : Class := { plain "java/lang/Cloneable" (some 0) with
  accessFlags := 1537
  interfaces := #[]
  cf := some (fileOf pool3 2 #[] #[] 1537 4 #[] #[])
  fields := #[]
  methods := #[]
  instanceTypes := #[]
  staticTypes := #[]
  resolved := Array.replicate 8 none
  statics := none }

def pool4 : Array CpInfo := pool [(1, u "java/io/Serializable"), (0, .class_ 1), (0, u "java/lang/Object"), (0, .class_ 3)] 3

/-- java/io/Serializable -/
def k4 : Class := { plain "java/io/Serializable" (some 0) with
  accessFlags := 1537
  interfaces := #[]
  cf := some (fileOf pool4 2 #[] #[] 1537 4 #[] #[])
  fields := #[]
  methods := #[]
  instanceTypes := #[]
  staticTypes := #[]
  resolved := Array.replicate 8 none
  statics := none }

/-- the primitive byte -/
def k5 : Class := { plain "byte" none with kind := .primitive 'B', accessFlags := 0x411 }
/-- [B -/
def k6 : Class := { plain "[B" (some 0) with kind := .array 5 .byte, interfaces := #[3, 4], accessFlags := 1041 }

/-- the primitive int -/
def k7 : Class := { plain "int" none with kind := .primitive 'I', accessFlags := 0x411 }
/-- [I -/
def k8 : Class := { plain "[I" (some 0) with kind := .array 7 .int, interfaces := #[3, 4], accessFlags := 1041 }

def heap : Heap := #[]
def classes : Array Class := #[k0, k1, k2, k3, k4, k5, k6, k7, k8]
def interned : List (Array UInt16 × Addr) := []
def slotsUsed : Nat := 0
def theMethod : MethodId := ⟨1, 3⟩
def args0 : Array Value := #[.int 5, .int 300]
def aboutOver (below : List Frame) : State where
  vm := { classes := classes, interned := interned.toArray }
  heap := heap
  slotsUsed := slotsUsed
  threads := #[{ frames := .invoking theMethod args0 :: below }]
def below0 : List Frame := [.native { method := ⟨0, 0⟩, args := #[] }]
def about1 : State := aboutOver below0
def p0 : Program := .bare "" "" ""
def e0 : Env := launch0.env 0 0 0
theorem w_frames : about1.frames = Frame.invoking theMethod args0 :: below0 := rfl
set_option maxRecDepth 65536 in
theorem w_args : argsFit about1.vm theMethod args0 = true := by decide +kernel
set_option maxRecDepth 65536 in
theorem w_heap : heapFits about1 = true := by decide +kernel
set_option maxRecDepth 65536 in
theorem w_runnable : about1.curStatus? = some .runnable := by decide +kernel
set_option maxRecDepth 65536 in
theorem w_alone : about1.alone = true := by decide +kernel
set_option maxRecDepth 65536 in
theorem w_named : about1.methodNamed? x = some theMethod := by decide +kernel
set_option maxRecDepth 65536 in
theorem w_hears : about1.hears theMethod below0 = true := by decide +kernel
set_option maxRecDepth 65536 in
theorem w_ripe : about1.ripe theMethod args0 below0 = true := by decide +kernel
theorem w_running : about1.status = .running := rfl
set_option maxRecDepth 65536 in
theorem w_room : about1.hasRoom e0.platform room_1 = true :=
  launch0.hasRoom_least _ room_1 (by decide +kernel) (by decide +kernel) (by decide +kernel) (by decide +kernel) (by decide +kernel) (by decide +kernel)
theorem allAtoms_all (ts : List Jvm.Cond) (a : Array Jvm.Value) (st : Jvm.State) : (allAtoms ts).before a st = ts.all (fun c => c.before a st) := by
  induction ts with
  | nil => rfl
  | cons c t ih =>
    show (Jvm.Cond.and c (allAtoms t)).before a st = _
    rw [Jvm.Cond.before_and, ih, List.all_cons]
def words1 : List Jvm.Cond := Jvm.Cond.code x code maxLocals ret :: tables_1
/-- a 'code' word, met by the world's own term for the bytes: nothing is compared byte by byte -/
theorem code_word {y : MethodName} {bytes : ByteArray} {mx : Nat} {rt : Option FieldType} {a : Array Value} {s : State} {m : MethodId} {meth : Method} {c : Code} (h1 : s.methodNamed? y = some m) (h2 : s.vm.method? m = some meth) (h3 : meth.code = some c) (h4 : c.code = bytes)
    (h5 : (c.maxLocals == mx && c.exceptionTable.isEmpty && decide (c.maxStack ≤ mostOperands) && decide (meth.sig.returnType = rt) && !meth.locks && decide (parseMethodDescriptor y.desc = some meth.sig)) = true) : (Jvm.Cond.code y bytes mx rt).before a s = true := by
  simp only [Bool.and_eq_true, beq_iff_eq, Bool.not_eq_true', decide_eq_true_eq] at h5
  obtain ⟨⟨⟨⟨⟨g1, g2⟩, g3⟩, g4⟩, g5⟩, g6⟩ := h5
  simp [Cond.before, Cond.holds, Cond.value, h1, h2, h3, h4, g1, g2, g3, g4, g5, g6]
def isCode : Jvm.Cond → Bool
  | .code _ _ _ _ => true
  | _ => false
theorem all_split {L : List Jvm.Cond} {P : Jvm.Cond → Bool} (h1 : L.all (fun c => isCode c || P c) = true) (h2 : ∀ c ∈ L.filter isCode, P c = true) : L.all P = true := by
  refine List.all_eq_true.mpr fun c hc => ?_
  have h := List.all_eq_true.mp h1 c hc
  rcases Bool.eq_false_or_eq_true (isCode c) with hi | hi
  · exact h2 c (List.mem_filter.mpr ⟨hc, hi⟩)
  · simpa [hi] using h
set_option maxRecDepth 65536 in
theorem w_c0 : (Jvm.Cond.code x code maxLocals ret).before args0 about1 = true := code_word (m := ⟨1, 3⟩) (meth := k1m3) (c := k1c3) (by decide +kernel) rfl rfl rfl (by decide +kernel)
set_option maxRecDepth 65536 in
theorem w_c1 : (Jvm.Cond.code ({ cls := "com/example/good_standing/goodstanding/ConditionIsWhitespacePinLaw", name := "agrees", desc := "(I)Z" } : Jvm.MethodName) method_3_code (1 : Nat) (Option.some Jvm.ClassFile.FieldType.boolean)).before args0 about1 = true := code_word (m := ⟨1, 2⟩) (meth := k1m2) (c := k1c2) (by decide +kernel) rfl rfl rfl (by decide +kernel)
set_option maxRecDepth 65536 in
theorem w_c2 : (Jvm.Cond.code ({ cls := "com/example/good_standing/goodstanding/Condition", name := "isWhitespace", desc := "(I)Z" } : Jvm.MethodName) prog_11_method_1_code (1 : Nat) (Option.some Jvm.ClassFile.FieldType.boolean)).before args0 about1 = true := code_word (m := ⟨2, 0⟩) (meth := k2m0) (c := k2c0) (by decide +kernel) rfl rfl rfl (by decide +kernel)
set_option maxRecDepth 65536 in
theorem w_c3 : (Jvm.Cond.code ({ cls := "com/example/good_standing/goodstanding/ConditionIsWhitespacePinLaw", name := "expected", desc := "(I)Z" } : Jvm.MethodName) method_2_code (1 : Nat) (Option.some Jvm.ClassFile.FieldType.boolean)).before args0 about1 = true := code_word (m := ⟨1, 1⟩) (meth := k1m1) (c := k1c1) (by decide +kernel) rfl rfl rfl (by decide +kernel)
def codes1 : List Jvm.Cond := [Jvm.Cond.code x code maxLocals ret, Jvm.Cond.code ({ cls := "com/example/good_standing/goodstanding/ConditionIsWhitespacePinLaw", name := "agrees", desc := "(I)Z" } : Jvm.MethodName) method_3_code (1 : Nat) (Option.some Jvm.ClassFile.FieldType.boolean), Jvm.Cond.code ({ cls := "com/example/good_standing/goodstanding/Condition", name := "isWhitespace", desc := "(I)Z" } : Jvm.MethodName) prog_11_method_1_code (1 : Nat) (Option.some Jvm.ClassFile.FieldType.boolean), Jvm.Cond.code ({ cls := "com/example/good_standing/goodstanding/ConditionIsWhitespacePinLaw", name := "expected", desc := "(I)Z" } : Jvm.MethodName) method_2_code (1 : Nat) (Option.some Jvm.ClassFile.FieldType.boolean)]
set_option maxRecDepth 65536 in
theorem codes_eq : words1.filter isCode = codes1 := rfl
theorem w_codes : ∀ c ∈ words1.filter isCode, c.before args0 about1 = true := by
  rw [codes_eq]
  intro c hc
  simp only [codes1, List.mem_cons, List.not_mem_nil, or_false] at hc
  rcases hc with rfl | rfl | rfl | rfl
  · exact w_c0
  · exact w_c1
  · exact w_c2
  · exact w_c3
set_option maxRecDepth 65536 in
theorem w_t1 : words1.all (fun c => isCode c || c.before args0 about1) = true := by decide +kernel
theorem w_tables : (allAtoms (Jvm.Cond.code x code maxLocals ret :: tables_1)).before args0 about1 = true := by
  rw [allAtoms_all]
  show words1.all (fun c => c.before args0 about1) = true
  refine all_split ?_ w_codes
  rw [w_t1]
set_option maxRecDepth 65536 in
theorem w_case : (Jvm.Cond.and given_1 narrow_1).before args0 about1 = true := by decide +kernel
theorem w_applies : (headSpec (Jvm.Cond.code x code maxLocals ret :: tables_1) room_1).applies x e0.platform about1 = true :=
  (Spec.applies_iff w_frames).mpr ⟨w_running, w_runnable, w_alone, w_named, w_hears, w_ripe, w_room, w_tables⟩
theorem atStart : AtStart classFile x code maxLocals ret World_1 tables_1 room_1 Calls_1 rest_1 Pre_1 launch0 p0 e0 about1 theMethod args0 below0 :=
  ⟨lists_1, trivial, launch0.admits_env _ _ _, launch0.least_env, fairChoices_fair.cas, fairChoices_fair.clock, w_frames, w_args, w_heap, w_applies, trivial, trivial, w_case⟩
end start1
theorem witness_1 : WitnessClaimed_1 := ⟨start1.p0, start1.e0, start1.about1, start1.theMethod, start1.args0, start1.below0, start1.atStart⟩
end Jvm.Pilot.@@N@@
