import JvmDerived
import JvmDerived.Pilot.@@N@@Statement
import JvmDerived.Pilot.@@N@@Code
set_option linter.unusedVariables false
set_option linter.unusedSimpArgs false
@@BLOCK:HandJ.lean.txt@@
@@BLOCK:HandW.lean.txt@@
@@BLOCK:HandBits.lean.txt@@
@@BLOCK:SymRun.lean.txt@@
@@BLOCK:RowBasics.lean.txt@@
@@BLOCK:Bridge.lean.txt@@
@@BLOCK:SymKit.lean.txt@@
@@BLOCK:NumsL.lean.txt@@
namespace Jvm.Pilot.@@N@@
open Jvm Jvm.ClassFile Sem Op Jvm.Sym Jvm.Pilot.@@N@@.Jvm.D

def y1 : MethodName := ⟨"com/example/bare_xml_reader/barexmlreader/Utf8", "plainOfTwo", "(BB)I"⟩
def y1code : ByteArray := prog_74_method_6_code
def y1I : Info := { own := "com/example/bare_xml_reader/barexmlreader/Utf8", ret := some .int }
def y1out : Option (Cond × List Cond × List Cond) := walk y1I y1code 400 (entry [.int, .int] 4)
theorem y1walks : y1out.isSome = true := by decide +kernel
def y1got : Cond × List Cond × List Cond := y1out.get y1walks
def y1spec : Spec := specOf y1 y1code 4 (some .int) [.int, .int] y1got.1 y1got.2.1 y1got.2.2
theorem y1meets (l : Launch) : MeetsLoose l y1 y1spec :=
  walk_meets (n := 400) (I := y1I) (by decide) rfl rfl (show walk y1I y1code 400 (entry [.int, .int] 4) = some (y1got.1, y1got.2.1, y1got.2.2) from (Option.some_get y1walks).symm)
theorem y1cold : y1spec.Cold := Spec.cold_of_keeps (by decide +kernel)
def c_y1 : Callee := { y := y1, S := y1spec, bytes := y1code, maxL := 4, ret := some .int, static := true, params := 2, res := some .int }
def I : Info := { own := x.cls, ret := ret, calls := [(7, c_y1)], maxLocals := maxLocals, room := room_1 }
def w := walkTo I code [] 400 true (entry [.int, .int] maxLocals)
theorem w_some : w.isSome = true := by decide +kernel
/-! own: what a tree returns, guard by guard; the needs, linearly -/
theorem own_vf {A : Array Value} {s : State} {G : Cond} {a b : STree} {P : Prop} [Decidable P] (h : G.value A s none s [] = some (decide P)) :
    Kit.valueOf A s (.fork G a b) = if P then Kit.valueOf A s a else Kit.valueOf A s b := by
  simp only [Kit.valueOf, h]
  by_cases p : P <;> simp [p]
theorem own_not {A : Array Value} {s : State} {G : Cond} {P : Prop} [Decidable P] (h : G.value A s none s [] = some (decide P)) : (Cond.not G).value A s none s [] = some (decide (¬ P)) := by
  simp [Cond.value, h]
theorem own_lt {A : Array Value} {s : State} {a b : Term} {x y : Int32} {p q : Int} (ha : a.eval A s none [] s = some (.int x)) (hb : b.eval A s none [] s = some (.int y)) (hx : x.toInt = p) (hy : y.toInt = q) :
    (Cond.lt a b).value A s none s [] = some (decide (p < q)) := by
  rw [Cond.lt_ints ha hb]; subst hx hy; simp only [Int32.lt_iff_toInt_lt]
theorem own_le {A : Array Value} {s : State} {a b : Term} {x y : Int32} {p q : Int} (ha : a.eval A s none [] s = some (.int x)) (hb : b.eval A s none [] s = some (.int y)) (hx : x.toInt = p) (hy : y.toInt = q) :
    (Cond.le a b).value A s none s [] = some (decide (p ≤ q)) := by
  rw [Cond.le_ints ha hb]; subst hx hy; simp only [Int32.le_iff_toInt_le]
theorem own_eq {A : Array Value} {s : State} {a b : Term} {x y : Int32} {p q : Int} (ha : a.eval A s none [] s = some (.int x)) (hb : b.eval A s none [] s = some (.int y)) (hx : x.toInt = p) (hy : y.toInt = q) :
    (Cond.eq a b).value A s none s [] = some (decide (p = q)) := by
  rw [Cond.eq_ints ha hb]; subst hx hy; simp only [Int32.toInt_inj]
def own_def (D : List Cond) (q : Cond) : Bool :=
  D.contains q || match q with
  | .tt => true
  | .not c => own_def D c
  | .and a b => own_def D a && own_def D b
  | .or a b => own_def D a && own_def D b
  | _ => false
theorem own_def_sound {D : List Cond} {A : Array Value} {s : State} (hD : ∀ c ∈ D, ∃ b, c.value A s none s [] = some b) (q : Cond) : own_def D q = true → ∃ b, q.value A s none s [] = some b := by
  induction q with
  | tt => intro _; exact ⟨true, rfl⟩
  | not c ih =>
    intro h; unfold own_def at h; simp only [Bool.or_eq_true] at h
    rcases h with h | h
    · exact hD _ (List.contains_iff_mem.mp h)
    · obtain ⟨b, hb⟩ := ih h; exact ⟨!b, by simp [Cond.value, hb]⟩
  | and a b iha ihb =>
    intro h; unfold own_def at h; simp only [Bool.or_eq_true, Bool.and_eq_true] at h
    rcases h with h | h
    · exact hD _ (List.contains_iff_mem.mp h)
    · obtain ⟨x, hx⟩ := iha h.1; obtain ⟨y, hy⟩ := ihb h.2
      cases x with
      | true => exact ⟨y, by simp [Cond.value, hx, hy]⟩
      | false => exact ⟨false, by simp [Cond.value, hx]⟩
  | or a b iha ihb =>
    intro h; unfold own_def at h; simp only [Bool.or_eq_true, Bool.and_eq_true] at h
    rcases h with h | h
    · exact hD _ (List.contains_iff_mem.mp h)
    · obtain ⟨x, hx⟩ := iha h.1; obtain ⟨y, hy⟩ := ihb h.2
      cases x with
      | true => exact ⟨true, by simp [Cond.value, hx]⟩
      | false => exact ⟨y, by simp [Cond.value, hx, hy]⟩
  | _ =>
    intro h; unfold own_def at h; simp only [Bool.or_false] at h
    exact hD _ (List.contains_iff_mem.mp h)
def own_tru (T D : List Cond) (q : Cond) : Bool :=
  T.contains q || match q with
  | .tt => true
  | .and a b => own_tru T D a && own_tru T D b
  | .or a b => own_def D a && own_tru T D b
  | _ => false
theorem own_tru_sound {T D : List Cond} {A : Array Value} {s : State} (hT : ∀ c ∈ T, c.value A s none s [] = some true) (hD : ∀ c ∈ D, ∃ b, c.value A s none s [] = some b) (q : Cond) : own_tru T D q = true → q.value A s none s [] = some true := by
  induction q with
  | tt => intro _; rfl
  | and a b iha ihb =>
    intro h; unfold own_tru at h; simp only [Bool.or_eq_true, Bool.and_eq_true] at h
    rcases h with h | h
    · exact hT _ (List.contains_iff_mem.mp h)
    · simp [Cond.value, iha h.1, ihb h.2]
  | or a b iha ihb =>
    intro h; unfold own_tru at h; simp only [Bool.or_eq_true, Bool.and_eq_true] at h
    rcases h with h | h
    · exact hT _ (List.contains_iff_mem.mp h)
    · obtain ⟨x, hx⟩ := own_def_sound hD a h.1
      cases x with
      | true => simp [Cond.value, hx]
      | false => simp [Cond.value, hx, ihb h.2]
  | _ =>
    intro h; unfold own_tru at h; simp only [Bool.or_false] at h
    exact hT _ (List.contains_iff_mem.mp h)
theorem own_needs {L T D : List Cond} {A : Array Value} {s : State} (hT : ∀ c ∈ T, c.value A s none s [] = some true) (hD : ∀ c ∈ D, ∃ b, c.value A s none s [] = some b) (h : L.all (own_tru T D) = true) : ∀ q ∈ L, q.before A s = true :=
  fun q hq => before_of_value (own_tru_sound hT hD q (List.all_eq_true.mp h q hq))
/-- a boolean's return -/
def R (k : Int32) : STree := .ret (some ⟨.op2 .iand (.int k) (.int 1), .int⟩) []
def B (k : Int32) : Term := .old (.op2 .iand (.int k) (.int 1))
theorem own_and {A : Array Value} {s : State} {G H : Cond} {P Q : Prop} [Decidable P] [Decidable Q] (h : G.value A s none s [] = some (decide P)) (h' : H.value A s none s [] = some (decide Q)) : (Cond.and G H).value A s none s [] = some (decide (P ∧ Q)) := by
  by_cases p : P <;> simp [Cond.value, h, h', p]
theorem own_or {A : Array Value} {s : State} {G H : Cond} {P Q : Prop} [Decidable P] [Decidable Q] (h : G.value A s none s [] = some (decide P)) (h' : H.value A s none s [] = some (decide Q)) : (Cond.or G H).value A s none s [] = some (decide (P ∨ Q)) := by
  by_cases p : P <;> simp [Cond.value, h, h', p]
/-- a contract with one guard: 1 where it holds, else 0 -/
def own_P (G : Cond) : Cond := .or (.and G (.and .returned (.eq .result (.old (.int 1))))) (.and (.not G) (.and .returned (.eq .result (.old (.int 0)))))
theorem own_P_after {A : Array Value} {s E : State} {G : Cond} {P : Prop} [Decidable P] (he : G.early = true) (h : G.value A s none s [] = some (decide P)) : (own_P G).after A s (.returned (some (.int (if P then 1 else 0)))) E = true := by
  have hG : ∀ o, G.value A s o E [] = some (decide P) := fun o => (Cond.value_early o none E s G [] [] he).trans h
  by_cases p : P <;> simp [own_P, Cond.after, Cond.holds, Cond.value, Term.eval, hG, p]
theorem callsOk (l : Launch) : CallsOk l I maxLocals room_1 := fun q hq => by
  simp only [I, List.mem_cons, List.not_mem_nil, or_false] at hq
  rcases hq with rfl
  exact ⟨rfl, rfl, y1meets l, y1cold⟩
def K (k : Int32) : Term := .old (.int k)
def L : Term := .op2 .iand (.arg 0) (.int 255)
def S : Term := .op2 .iand (.arg 1) (.int 255)
def bA : Term := .op1 .i2b (.arg 0)
def bB : Term := .op1 .i2b (.arg 1)
def V : Term := .op2 .ior (.op2 .ishl (.op2 .iand bA (.int 31)) (.int 6)) (.op2 .iand bB (.int 63))
def X : Term := .add (.mul (.sub L (.int 192)) (.int 64)) (.sub S (.int 128))
/-- the law's own word, going on with it -/
def kE (k : Term → STree) : STree :=
  .fork (.lt (.old L) (K 194)) (k (.int (-1))) (.fork (.lt (K 223) (.old L)) (k (.int (-1))) (.fork (.lt (.old S) (K 128)) (k (.int (-1))) (.fork (.lt (K 191) (.old S)) (k (.int (-1)))
    (.fork (.lt (K 194) (.old L)) (k X) (.fork (.lt (.old S) (K 160)) (k (.int (-1))) (k X))))))
/-- plainOfTwo's tree, going on with what it returned -/
def kz (b : Int32) (k : Term → STree) : STree := .fork (.eq (K b) (.int 0)) (k (.int (-1))) (k V)
def kY (k : Term → STree) : STree :=
  .fork (.not (.eq (.old (.op2 .iand bA (.int 224))) (K 192))) (kz 0 k) (.fork (.not (.eq (.old (.op2 .iand bB (.int 192))) (K 128))) (kz 0 k) (.fork (.lt (.old V) (K 160)) (kz 0 k) (kz 1 k)))
def E2 (r e : Term) : STree := .fork (.not (.eq (.old r) (.old e))) (R 0) (R 1)
def t0 : STree := kE fun e => kY fun r => E2 r e
theorem tree : (w.get w_some).1 = t0 := by decide +kernel
theorem entry_walk : walkTo I code [] 400 true (entry [.int, .int] maxLocals) = some (t0, (w.get w_some).2.1, (w.get w_some).2.2) := by
  rw [← tree]; exact (Option.some_get w_some).symm
theorem sorts_ok {a b : Int32} {s : State} : ∀ q ∈ Sym.sorts 0 [.int, .int], q.before #[.int a, .int b] s = true := by
  intro q hq
  simp only [Sym.sorts, List.mem_cons, List.not_mem_nil, or_false] at hq
  rcases hq with rfl | rfl <;> simp [isK, Cond.before, Cond.holds, Cond.value, Term.eval]
/-! numbers -/
theorem own_m255 (a : Int32) : (a &&& 255).toInt = a.toInt % 256 := Jvm.Kit.i32_mask a 255 (k := 8) (by decide) (by decide)
theorem own_m31 (a : Int32) : (a &&& 31).toInt = a.toInt % 32 := Jvm.Kit.i32_mask a 31 (k := 5) (by decide) (by decide)
theorem own_m63 (a : Int32) : (a &&& 63).toInt = a.toInt % 64 := Jvm.Kit.i32_mask a 63 (k := 6) (by decide) (by decide)
theorem own_tab224 : ∀ k : Fin 256, (Int32.ofNat k.1 &&& 224).toInt = ((k.1 / 32 * 32 : Nat) : Int) := by decide +kernel
theorem own_tab192 : ∀ k : Fin 256, (Int32.ofNat k.1 &&& 192).toInt = ((k.1 / 64 * 64 : Nat) : Int) := by decide +kernel
theorem own_low (a : Int32) : ∃ k : Fin 256, (k.1 : Int) = a.toInt % 256 ∧ (a &&& 255) = Int32.ofNat k.1 := by
  have h := own_m255 a
  refine ⟨⟨(a.toInt % 256).toNat, by omega⟩, by show ((a.toInt % 256).toNat : Int) = _; omega, ?_⟩
  apply Int32.toInt_inj.mp
  show _ = (Int32.ofNat (a.toInt % 256).toNat).toInt
  rw [Int32.toInt_ofNat_small (by omega), h]
  omega
theorem own_m224 (a : Int32) : (a &&& 224).toInt = a.toInt % 256 / 32 * 32 := by
  obtain ⟨k, h1, h2⟩ := own_low a
  have e : a &&& 224 = (a &&& 255) &&& 224 := by rw [Int32.and_assoc]; rfl
  rw [e, h2, own_tab224 k]
  omega
theorem own_m192 (a : Int32) : (a &&& 192).toInt = a.toInt % 256 / 64 * 64 := by
  obtain ⟨k, h1, h2⟩ := own_low a
  have e : a &&& 192 = (a &&& 255) &&& 192 := by rw [Int32.and_assoc]; rfl
  rw [e, h2, own_tab192 k]
  omega
theorem own_v (p q : Int32) (hp : 0 ≤ p.toInt) (hp2 : p.toInt < 32) (hq : 0 ≤ q.toInt) (hq2 : q.toInt < 64) : ((p <<< ((6 : Int32) &&& 31)) ||| q).toInt = p.toInt * 64 + q.toInt := by
  have h1 := Jvm.RoadKit.c_ishl p 6 6 (by decide)
  have r1 := Jvm.RoadKit.rng32 (p <<< ((6 : Int32) &&& 31))
  have h2 : (p <<< ((6 : Int32) &&& 31)).toInt = p.toInt * 64 := by omega
  have h3 := Jvm.RoadKit.c_or (p <<< ((6 : Int32) &&& 31)) q 6 (by decide) 64 (by decide) (by omega) hq hq2
  have r2 := Jvm.RoadKit.rng32 ((p <<< ((6 : Int32) &&& 31)) ||| q)
  omega
theorem own_x (p q : Int32) (hp : 0 ≤ p.toInt) (hp2 : p.toInt < 256) (hq : 0 ≤ q.toInt) (hq2 : q.toInt < 256) : ((p - 192) * 64 + (q - 128)).toInt = (p.toInt - 192) * 64 + (q.toInt - 128) := by
  have k1 : (192 : Int32).toInt = 192 := by decide
  have k2 : (64 : Int32).toInt = 64 := by decide
  have k3 : (128 : Int32).toInt = 128 := by decide
  have h1 : (p - 192).toInt = p.toInt - (192 : Int32).toInt := Jvm.Kit.i32_sub (by omega) (by omega)
  have h2 : (q - 128).toInt = q.toInt - (128 : Int32).toInt := Jvm.Kit.i32_sub (by omega) (by omega)
  have h3 : ((p - 192) * 64).toInt = (p - 192).toInt * (64 : Int32).toInt := Jvm.Kit.i32_mul (by rw [h1, k1, k2]; omega) (by rw [h1, k1, k2]; omega)
  have h4 : ((p - 192) * 64 + (q - 128)).toInt = ((p - 192) * 64).toInt + (q - 128).toInt := Jvm.Kit.i32_add (by rw [h3, h1, h2, k1, k2, k3]; omega) (by rw [h3, h1, h2, k1, k2, k3]; omega)
  rw [h4, h3, h1, h2, k1, k2, k3]
theorem own_ite {P : Prop} [Decidable P] {α : Type} {x y z : α} (h1 : P → x = y) (h2 : ¬ P → z = y) : (if P then x else z) = y := by
  by_cases h : P
  · rw [if_pos h]; exact h1 h
  · rw [if_neg h]; exact h2 h
def own_D : List Cond := [.lt (.old L) (K 194), .lt (K 223) (.old L), .lt (.old S) (K 128), .lt (K 191) (.old S), .lt (K 194) (.old L), .lt (.old S) (K 160), .eq (K 0) (.int 0), .eq (K 1) (.int 0), .eq (.old (.op2 .iand bA (.int 224))) (K 192), .eq (.old (.op2 .iand bB (.int 192))) (K 128), .lt (.old V) (K 160),
  .eq (.old (.int (-1))) (.old (.int (-1))), .eq (.old (.int (-1))) (.old X), .eq (.old V) (.old (.int (-1))), .eq (.old V) (.old X)]
theorem own_D_ok (a b : Int32) (s : State) : ∀ c ∈ own_D, ∃ z, c.value #[.int a, .int b] s none s [] = some z := fun q hq => by
  simp only [own_D, List.mem_cons, List.not_mem_nil, or_false] at hq
  rcases hq with rfl | rfl | rfl | rfl | rfl | rfl | rfl | rfl | rfl | rfl | rfl | rfl | rfl | rfl | rfl <;> first | exact ⟨_, Cond.eq_ints rfl rfl⟩ | exact ⟨_, Cond.lt_ints rfl rfl⟩
theorem own_val (a b : Int32) (s : State) : Kit.valueOf #[.int a, .int b] s t0 = some (.int 1) := by
  have hL := own_m255 a
  have hS := own_m255 b
  have iA := Jvm.RoadKit.c_i2b a
  have iB := Jvm.RoadKit.c_i2b b
  have h224 := own_m224 a.toInt8.toInt32
  have h192 := own_m192 b.toInt8.toInt32
  have h31 := own_m31 a.toInt8.toInt32
  have h63 := own_m63 b.toInt8.toInt32
  have hV := own_v (a.toInt8.toInt32 &&& 31) (b.toInt8.toInt32 &&& 63) (by omega) (by omega) (by omega) (by omega)
  have hX := own_x (a &&& 255) (b &&& 255) (by omega) (by omega) (by omega) (by omega)
  have g1 : (Cond.lt (.old L) (K 194)).value #[.int a, .int b] s none s [] = some (decide ((a &&& 255).toInt < 194)) := own_lt (x := a &&& 255) (y := 194) rfl rfl rfl (by decide)
  have g2 : (Cond.lt (K 223) (.old L)).value #[.int a, .int b] s none s [] = some (decide (223 < (a &&& 255).toInt)) := own_lt (x := 223) (y := a &&& 255) rfl rfl (by decide) rfl
  have g3 : (Cond.lt (.old S) (K 128)).value #[.int a, .int b] s none s [] = some (decide ((b &&& 255).toInt < 128)) := own_lt (x := b &&& 255) (y := 128) rfl rfl rfl (by decide)
  have g4 : (Cond.lt (K 191) (.old S)).value #[.int a, .int b] s none s [] = some (decide (191 < (b &&& 255).toInt)) := own_lt (x := 191) (y := b &&& 255) rfl rfl (by decide) rfl
  have g5 : (Cond.lt (K 194) (.old L)).value #[.int a, .int b] s none s [] = some (decide (194 < (a &&& 255).toInt)) := own_lt (x := 194) (y := a &&& 255) rfl rfl (by decide) rfl
  have g6 : (Cond.lt (.old S) (K 160)).value #[.int a, .int b] s none s [] = some (decide ((b &&& 255).toInt < 160)) := own_lt (x := b &&& 255) (y := 160) rfl rfl rfl (by decide)
  have g7 : (Cond.eq (.old (.op2 .iand bA (.int 224))) (K 192)).value #[.int a, .int b] s none s [] = some (decide ((a.toInt8.toInt32 &&& 224).toInt = 192)) := own_eq (x := a.toInt8.toInt32 &&& 224) (y := 192) rfl rfl rfl (by decide)
  have g8 : (Cond.eq (.old (.op2 .iand bB (.int 192))) (K 128)).value #[.int a, .int b] s none s [] = some (decide ((b.toInt8.toInt32 &&& 192).toInt = 128)) := own_eq (x := b.toInt8.toInt32 &&& 192) (y := 128) rfl rfl rfl (by decide)
  have eV : (Term.old V).eval #[.int a, .int b] s none [] s = some (.int (((a.toInt8.toInt32 &&& 31) <<< ((6 : Int32) &&& 31)) ||| (b.toInt8.toInt32 &&& 63))) := rfl
  have eX : (Term.old X).eval #[.int a, .int b] s none [] s = some (.int (((a &&& 255) - 192) * 64 + ((b &&& 255) - 128))) := rfl
  have g9 : (Cond.lt (.old V) (K 160)).value #[.int a, .int b] s none s [] = some (decide ((((a.toInt8.toInt32 &&& 31) <<< ((6 : Int32) &&& 31)) ||| (b.toInt8.toInt32 &&& 63)).toInt < 160)) := own_lt eV (y := 160) rfl rfl (by decide)
  have z0 (k : Term → STree) : Kit.valueOf #[.int a, .int b] s (kz 0 k) = Kit.valueOf #[.int a, .int b] s (k (.int (-1))) := rfl
  have z1 (k : Term → STree) : Kit.valueOf #[.int a, .int b] s (kz 1 k) = Kit.valueOf #[.int a, .int b] s (k V) := rfl
  have e1 : Kit.valueOf #[.int a, .int b] s (E2 (.int (-1)) (.int (-1))) = some (.int 1) := rfl
  have f2 : (Cond.eq (.old (.int (-1))) (.old X)).value #[.int a, .int b] s none s [] = some (decide (-1 = (((a &&& 255) - 192) * 64 + ((b &&& 255) - 128)).toInt)) := own_eq (x := -1) rfl eX (by decide) rfl
  have f3 : (Cond.eq (.old V) (.old (.int (-1)))).value #[.int a, .int b] s none s [] = some (decide ((((a.toInt8.toInt32 &&& 31) <<< ((6 : Int32) &&& 31)) ||| (b.toInt8.toInt32 &&& 63)).toInt = -1)) := own_eq eV (y := -1) rfl rfl (by decide)
  have f4 : (Cond.eq (.old V) (.old X)).value #[.int a, .int b] s none s [] = some (decide ((((a.toInt8.toInt32 &&& 31) <<< ((6 : Int32) &&& 31)) ||| (b.toInt8.toInt32 &&& 63)).toInt = (((a &&& 255) - 192) * 64 + ((b &&& 255) - 128)).toInt)) := own_eq eV eX rfl rfl
  have r0 : Kit.valueOf #[.int a, .int b] s (R 0) = some (.int 0) := rfl
  have r1 : Kit.valueOf #[.int a, .int b] s (R 1) = some (.int 1) := rfl
  have e2 := own_vf (a := R 0) (b := R 1) (own_not f2)
  have e3 := own_vf (a := R 0) (b := R 1) (own_not f3)
  have e4 := own_vf (a := R 0) (b := R 1) (own_not f4)
  have e2' : Kit.valueOf #[.int a, .int b] s (E2 (.int (-1)) X) = _ := e2
  have e3' : Kit.valueOf #[.int a, .int b] s (E2 V (.int (-1))) = _ := e3
  have e4' : Kit.valueOf #[.int a, .int b] s (E2 V X) = _ := e4
  rw [hX, r0, r1] at e2'
  rw [hV, r0, r1] at e3'
  rw [hX, hV, r0, r1] at e4'
  rw [hV] at g9
  simp only [t0, kE, kY, own_vf g1, own_vf g2, own_vf g3, own_vf g4, own_vf g5, own_vf g6, own_vf (own_not g7), own_vf (own_not g8), own_vf g9, z0, z1, e1, e2', e3', e4']
  clear e2 e3 e4 e2' e3' e4' g1 g2 g3 g4 g5 g6 g7 g8 g9 f2 f3 f4 eV eX z0 z1 e1 hV hX r0 r1
  rw [h224, h192, h31, h63, hL, hS]
  generalize a.toInt8.toInt32.toInt = u at *
  generalize b.toInt8.toInt32.toInt = v at *
  generalize a.toInt = p at *
  generalize b.toInt = q at *
  have hu : u % 256 = p % 256 := by omega
  have hv : v % 256 = q % 256 := by omega
  have hu2 : u % 32 = p % 256 % 32 := by omega
  have hv2 : v % 64 = q % 256 % 64 := by omega
  rw [hu, hv, hu2, hv2]
  clear hu hv hu2 hv2 iA iB h224 h192 h31 h63 hL hS
  have l1 : 0 ≤ p % 256 ∧ p % 256 < 256 := by omega
  have l2 : 0 ≤ q % 256 ∧ q % 256 < 256 := by omega
  generalize p % 256 = l at *
  generalize q % 256 = r at *
  repeat' (refine own_ite (fun _ => ?_) (fun _ => ?_))
  all_goals first | rfl | (exfalso; omega)
def post_1 : Cond := .and limb_1_1 limb_1_2
theorem met_1 (l : Launch) : MeetsLoose l x (armSpec x code maxLocals ret tables_1 room_1 .tt (.and given_1 narrow_1) post_1 frame_1_writes frame_1_arrays frame_1_statics) := by
  refine loops_meets (I := I) (ks0 := [.int, .int]) (cuts := []) (by decide) rfl rfl rfl rfl rfl (fun args s h => ?_) entry_walk (fun _ => none) (fun _ _ _ _ _ => False) (fun _ _ _ => 0) (fun args s h => ?_) (fun args s _ h ks hks => by cases hks) (callsOk l)
  · simp only [armSpec, allAtoms, List.foldr_cons, Cond.before_and, Bool.and_eq_true] at h; exact h.1.1
  · have hts : (allAtoms (Cond.code x code maxLocals ret :: tables_1)).before args s = true := by simp only [armSpec, Cond.before_and, Bool.and_eq_true] at h; exact h.1
    have hK : (Cond.and .tt (.and given_1 narrow_1)).before args s = true := by simp only [armSpec, Cond.before_and, Bool.and_eq_true] at h ⊢; exact h.2
    simp only [armSpec, given_1, Cond.before_and, Bool.and_eq_true] at h
    obtain ⟨-, -, ⟨hc, h0, h1⟩, hn⟩ := h
    obtain ⟨a, b, rfl⟩ := Cond.two_ints hc h0 h1
    have hT := known3 (Gt := [.isInt L, .isInt S, .isInt bA, .isInt bB, .isInt V, .isInt X, .isInt (.int (-1)), .isInt (.int 1), .isInt (.int 0), .isInt (.op2 .iand (.int 0) (.int 1)), .isInt (.op2 .iand (.int 1) (.int 1))]) hts hK (by
      intro q hq
      simp only [List.mem_cons, List.not_mem_nil, or_false] at hq
      rcases hq with rfl | rfl | rfl | rfl | rfl | rfl | rfl | rfl | rfl | rfl | rfl <;> rfl)
    refine ⟨rfl, sorts_ok, tabs_of_sub hts (by decide +kernel), own_needs hT (own_D_ok a b s) (by decide +kernel), Kit.vc_of_value (w₀ := .int 1) (fun E => ?_) t0 (by decide +kernel) (own_val a b s)⟩
    simp [armSpec, post_1, limb_1_1, limb_1_2, Cond.after, Cond.holds, Cond.value, Term.eval]
theorem main_1_1 : Claimed_1_1 := armFor_of_meets0 (fun l => (met_1 l).meets) (fun _ _ _ _ h => by simp only [post_1, Cond.after_and, Bool.and_eq_true] at h; exact h.1)
theorem main_1_2 : Claimed_1_2 := armFor_of_meets0 (fun l => (met_1 l).meets) (fun _ _ _ _ h => by simp only [post_1, Cond.after_and, Bool.and_eq_true] at h; exact h.2)
end Jvm.Pilot.@@N@@
namespace Jvm.Pilot.@@N@@
open Jvm Jvm.ClassFile Sem Op Lib Jvm.Free Jvm.Stand Jvm.Pilot.@@N@@.Jvm.D
/-! MADE BY PROGRAM (witnessworld.py) out of the Statement's table words and the real class files: 9 classes; the members and pool entries that the words name. The judged class is class 1, her method 1. -/
namespace start1
open Jvm.ClassFile
def u (s : String) : CpInfo := .utf8 (stringToUtf16 s)
/-- a pool by its gaps: so many unusable entries, then the entry; so many at the end -/
def gap : Nat → List CpInfo → List CpInfo
  | 0, r => r
  | n + 1, r => .unusable :: gap n r
def poolList (es : List (Nat × CpInfo)) (last : Nat) : List CpInfo := es.foldr (fun e r => gap e.1 (e.2 :: r)) (gap last [])
def pool (es : List (Nat × CpInfo)) (last : Nat) : Array CpInfo := ⟨poolList es last⟩
def fileOf (pool : Array CpInfo) (this : Nat) (attrs : Array Attribute := #[]) (ms : Array MethodInfo := #[]) (fl : Nat := 33) (sup : Nat := 0) (ifs : Array Nat := #[]) (fds : Array FieldInfo := #[]) : ClassFile where
  minorVersion := 0
  majorVersion := 65
  constantPool := pool
  accessFlags := fl
  thisClass := this
  superClass := sup
  interfaces := ifs
  fields := fds
  methods := ms
  attributes := attrs
def plain (name : String) (sup : Option ClassId) : Class where
  name := name
  kind := .ordinary
  loader := none
  accessFlags := 33
  super := sup
  interfaces := #[]
  cf := none
  fields := #[]
  methods := #[]
  instanceTypes := #[]
  staticTypes := #[]
  resolved := #[]
  callSites := []
  init := .initialized
  statics := none
  mirror := none

def pool0 : Array CpInfo := pool [(5, u "<init>"), (0, u "()V"), (1, .class_ 10), (1, u "java/lang/Object")] 113

def k0m0 : Method := { name := "<init>", desc := "()V", sig := { parameters := [], returnType := none }, accessFlags := 1, code := none }
/-- java/lang/Object -/
def k0 : Class := { plain "java/lang/Object" none with
  accessFlags := 33
  interfaces := #[]
  cf := some (fileOf pool0 8 #[] #[{ accessFlags := 1, nameIndex := 5, descriptorIndex := 6, attributes := #[] }] 33 0 #[] #[])
  fields := #[]
  methods := #[k0m0]
  instanceTypes := #[]
  staticTypes := #[]
  resolved := Array.replicate 124 none
  statics := none }

def pool1 : Array CpInfo := pool [(2, .class_ 4), (1, u "java/lang/Object"), (0, u "<init>"), (0, u "()V"), (0, .methodref 8 9), (0, .class_ 10), (0, .nameAndType 11 12), (0, u "com/example/bare_xml_reader/barexmlreader/Utf8"), (0, u "plainOfTwo"), (0, u "(BB)I"), (0, .class_ 14), (0, u "com/example/bare_xml_reader/barexmlreader/Utf8PlainOfTwoPinLaw"), (2, u "law"), (0, u "(II)Z")] 3

def k1m0 : Method := { name := "<init>", desc := "()V", sig := { parameters := [], returnType := none }, accessFlags := 1, code := none }
def k1c1 : Code := { maxStack := 3, maxLocals := 7, code := code, exceptionTable := #[], attributes := #[] }
def k1m1 : Method := { name := "law", desc := "(II)Z", sig := { parameters := [.int, .int], returnType := some .boolean }, accessFlags := 9, code := some k1c1 }
/-- com/example/bare_xml_reader/barexmlreader/Utf8PlainOfTwoPinLaw -/
def k1 : Class := { plain "com/example/bare_xml_reader/barexmlreader/Utf8PlainOfTwoPinLaw" (some 0) with
  accessFlags := 49
  interfaces := #[]
  cf := some (fileOf pool1 13 #[] #[{ accessFlags := 1, nameIndex := 5, descriptorIndex := 6, attributes := #[] }, { accessFlags := 9, nameIndex := 17, descriptorIndex := 18, attributes := #[] }] 49 2 #[] #[])
  fields := #[]
  methods := #[k1m0, k1m1]
  instanceTypes := #[]
  staticTypes := #[]
  resolved := Array.replicate 22 none
  statics := none }

def pool2 : Array CpInfo := pool [(2, .class_ 4), (1, u "java/lang/Object"), (0, u "<init>"), (0, u "()V"), (1, .class_ 10), (1, u "com/example/bare_xml_reader/barexmlreader/Utf8"), (0, u "LENGTHS"), (0, u "[B"), (6, u "plainOfTwo"), (0, u "(BB)I"), (15, u "ONE_CHARACTER"), (0, u "[Ljava/lang/String;"), (28, u "LEAST"), (0, u "[I"), (2, u "MOST")] 41

def k2m0 : Method := { name := "<init>", desc := "()V", sig := { parameters := [], returnType := none }, accessFlags := 2, code := none }
def k2c1 : Code := { maxStack := 3, maxLocals := 4, code := prog_74_method_6_code, exceptionTable := #[], attributes := #[] }
def k2m1 : Method := { name := "plainOfTwo", desc := "(BB)I", sig := { parameters := [.byte, .byte], returnType := some .int }, accessFlags := 8, code := some k2c1 }
/-- com/example/bare_xml_reader/barexmlreader/Utf8 -/
def k2 : Class := { plain "com/example/bare_xml_reader/barexmlreader/Utf8" (some 0) with
  accessFlags := 48
  interfaces := #[]
  cf := some (fileOf pool2 8 #[] #[{ accessFlags := 2, nameIndex := 5, descriptorIndex := 6, attributes := #[] }, { accessFlags := 8, nameIndex := 19, descriptorIndex := 20, attributes := #[] }] 48 2 #[] #[{ accessFlags := 26, nameIndex := 36, descriptorIndex := 37, attributes := #[] }, { accessFlags := 26, nameIndex := 11, descriptorIndex := 12, attributes := #[] }, { accessFlags := 26, nameIndex := 66, descriptorIndex := 67, attributes := #[] }, { accessFlags := 26, nameIndex := 70, descriptorIndex := 67, attributes := #[] }])
  fields := #[{ name := "ONE_CHARACTER", type := (.array (.object "java/lang/String")), accessFlags := 26, slot := 0, constantValue := 0 }, { name := "LENGTHS", type := (.array .byte), accessFlags := 26, slot := 1, constantValue := 0 }, { name := "LEAST", type := (.array .int), accessFlags := 26, slot := 2, constantValue := 0 }, { name := "MOST", type := (.array .int), accessFlags := 26, slot := 3, constantValue := 0 }]
  methods := #[k2m0, k2m1]
  instanceTypes := #[]
  staticTypes := #[(.array (.object "java/lang/String")), (.array .byte), (.array .int), (.array .int)]
  resolved := Array.replicate 112 none
  statics := none }

def pool3 : Array CpInfo := pool [(1, u "java/lang/Cloneable"), (0, .class_ 1), (0, u "java/lang/Object"), (0, .class_ 3)] 3

/-- java/lang/Cloneable -/
def k3 : Class := { plain "java/lang/Cloneable" (some 0) with
  accessFlags := 1537
  interfaces := #[]
  cf := some (fileOf pool3 2 #[] #[] 1537 4 #[] #[])
  fields := #[]
  methods := #[]
  instanceTypes := #[]
  staticTypes := #[]
  resolved := Array.replicate 8 none
  statics := none }

def pool4 : Array CpInfo := pool [(1, u "java/io/Serializable"), (0, .class_ 1), (0, u "java/lang/Object"), (0, .class_ 3)] 3

/-- java/io/Serializable -/
def k4 : Class := { plain "java/io/Serializable" (some 0) with
  accessFlags := 1537
  interfaces := #[]
  cf := some (fileOf pool4 2 #[] #[] 1537 4 #[] #[])
  fields := #[]
  methods := #[]
  instanceTypes := #[]
  staticTypes := #[]
  resolved := Array.replicate 8 none
  statics := none }

/-- the primitive byte -/
def k5 : Class := { plain "byte" none with kind := .primitive 'B', accessFlags := 0x411 }
/-- [B -/
def k6 : Class := { plain "[B" (some 0) with kind := .array 5 .byte, interfaces := #[3, 4], accessFlags := 1041 }

/-- the primitive int -/
def k7 : Class := { plain "int" none with kind := .primitive 'I', accessFlags := 0x411 }
/-- [I -/
def k8 : Class := { plain "[I" (some 0) with kind := .array 7 .int, interfaces := #[3, 4], accessFlags := 1041 }

def heap : Heap := #[]
def classes : Array Class := #[k0, k1, k2, k3, k4, k5, k6, k7, k8]
def interned : List (Array UInt16 × Addr) := []
def slotsUsed : Nat := 0
def theMethod : MethodId := ⟨1, 1⟩
def args0 : Array Value := #[.int 195, .int 168]
def aboutOver (below : List Frame) : State where
  vm := { classes := classes, interned := interned.toArray }
  heap := heap
  slotsUsed := slotsUsed
  threads := #[{ frames := .invoking theMethod args0 :: below }]
def below0 : List Frame := [.native { method := ⟨0, 0⟩, args := #[] }]
def about1 : State := aboutOver below0
def p0 : Program := .bare "" "" ""
def e0 : Env := launch0.env 0 0 0
theorem w_frames : about1.frames = Frame.invoking theMethod args0 :: below0 := rfl
set_option maxRecDepth 65536 in
theorem w_args : argsFit about1.vm theMethod args0 = true := by decide +kernel
set_option maxRecDepth 65536 in
theorem w_heap : heapFits about1 = true := by decide +kernel
set_option maxRecDepth 65536 in
theorem w_runnable : about1.curStatus? = some .runnable := by decide +kernel
set_option maxRecDepth 65536 in
theorem w_alone : about1.alone = true := by decide +kernel
set_option maxRecDepth 65536 in
theorem w_named : about1.methodNamed? x = some theMethod := by decide +kernel
set_option maxRecDepth 65536 in
theorem w_hears : about1.hears theMethod below0 = true := by decide +kernel
set_option maxRecDepth 65536 in
theorem w_ripe : about1.ripe theMethod args0 below0 = true := by decide +kernel
theorem w_running : about1.status = .running := rfl
set_option maxRecDepth 65536 in
theorem w_room : about1.hasRoom e0.platform room_1 = true :=
  launch0.hasRoom_least _ room_1 (by decide +kernel) (by decide +kernel) (by decide +kernel) (by decide +kernel) (by decide +kernel) (by decide +kernel)
theorem allAtoms_all (ts : List Jvm.Cond) (a : Array Jvm.Value) (st : Jvm.State) : (allAtoms ts).before a st = ts.all (fun c => c.before a st) := by
  induction ts with
  | nil => rfl
  | cons c t ih =>
    show (Jvm.Cond.and c (allAtoms t)).before a st = _
    rw [Jvm.Cond.before_and, ih, List.all_cons]
def words1 : List Jvm.Cond := Jvm.Cond.code x code maxLocals ret :: tables_1
/-- a 'code' word, met by the world's own term for the bytes: nothing is compared byte by byte -/
theorem code_word {y : MethodName} {bytes : ByteArray} {mx : Nat} {rt : Option FieldType} {a : Array Value} {s : State} {m : MethodId} {meth : Method} {c : Code} (h1 : s.methodNamed? y = some m) (h2 : s.vm.method? m = some meth) (h3 : meth.code = some c) (h4 : c.code = bytes)
    (h5 : (c.maxLocals == mx && c.exceptionTable.isEmpty && decide (c.maxStack ≤ mostOperands) && decide (meth.sig.returnType = rt) && !meth.locks && decide (parseMethodDescriptor y.desc = some meth.sig)) = true) : (Jvm.Cond.code y bytes mx rt).before a s = true := by
  simp only [Bool.and_eq_true, beq_iff_eq, Bool.not_eq_true', decide_eq_true_eq] at h5
  obtain ⟨⟨⟨⟨⟨g1, g2⟩, g3⟩, g4⟩, g5⟩, g6⟩ := h5
  simp [Cond.before, Cond.holds, Cond.value, h1, h2, h3, h4, g1, g2, g3, g4, g5, g6]
def isCode : Jvm.Cond → Bool
  | .code _ _ _ _ => true
  | _ => false
theorem all_split {L : List Jvm.Cond} {P : Jvm.Cond → Bool} (h1 : L.all (fun c => isCode c || P c) = true) (h2 : ∀ c ∈ L.filter isCode, P c = true) : L.all P = true := by
  refine List.all_eq_true.mpr fun c hc => ?_
  have h := List.all_eq_true.mp h1 c hc
  rcases Bool.eq_false_or_eq_true (isCode c) with hi | hi
  · exact h2 c (List.mem_filter.mpr ⟨hc, hi⟩)
  · simpa [hi] using h
set_option maxRecDepth 65536 in
theorem w_c0 : (Jvm.Cond.code x code maxLocals ret).before args0 about1 = true := code_word (m := ⟨1, 1⟩) (meth := k1m1) (c := k1c1) (by decide +kernel) rfl rfl rfl (by decide +kernel)
set_option maxRecDepth 65536 in
theorem w_c1 : (Jvm.Cond.code ({ cls := "com/example/bare_xml_reader/barexmlreader/Utf8", name := "plainOfTwo", desc := "(BB)I" } : Jvm.MethodName) prog_74_method_6_code (4 : Nat) (Option.some Jvm.ClassFile.FieldType.int)).before args0 about1 = true := code_word (m := ⟨2, 1⟩) (meth := k2m1) (c := k2c1) (by decide +kernel) rfl rfl rfl (by decide +kernel)
def codes1 : List Jvm.Cond := [Jvm.Cond.code x code maxLocals ret, Jvm.Cond.code ({ cls := "com/example/bare_xml_reader/barexmlreader/Utf8", name := "plainOfTwo", desc := "(BB)I" } : Jvm.MethodName) prog_74_method_6_code (4 : Nat) (Option.some Jvm.ClassFile.FieldType.int)]
set_option maxRecDepth 65536 in
theorem codes_eq : words1.filter isCode = codes1 := rfl
theorem w_codes : ∀ c ∈ words1.filter isCode, c.before args0 about1 = true := by
  rw [codes_eq]
  intro c hc
  simp only [codes1, List.mem_cons, List.not_mem_nil, or_false] at hc
  rcases hc with rfl | rfl
  · exact w_c0
  · exact w_c1
set_option maxRecDepth 65536 in
theorem w_t1 : words1.all (fun c => isCode c || c.before args0 about1) = true := by decide +kernel
theorem w_tables : (allAtoms (Jvm.Cond.code x code maxLocals ret :: tables_1)).before args0 about1 = true := by
  rw [allAtoms_all]
  show words1.all (fun c => c.before args0 about1) = true
  refine all_split ?_ w_codes
  rw [w_t1]
set_option maxRecDepth 65536 in
theorem w_case : (Jvm.Cond.and given_1 narrow_1).before args0 about1 = true := by decide +kernel
theorem w_applies : (headSpec (Jvm.Cond.code x code maxLocals ret :: tables_1) room_1).applies x e0.platform about1 = true :=
  (Spec.applies_iff w_frames).mpr ⟨w_running, w_runnable, w_alone, w_named, w_hears, w_ripe, w_room, w_tables⟩
theorem atStart : AtStart classFile x code maxLocals ret World_1 tables_1 room_1 Calls_1 rest_1 Pre_1 launch0 p0 e0 about1 theMethod args0 below0 :=
  ⟨lists_1, trivial, launch0.admits_env _ _ _, launch0.least_env, fairChoices_fair.cas, fairChoices_fair.clock, w_frames, w_args, w_heap, w_applies, trivial, trivial, w_case⟩
end start1
theorem witness_1 : WitnessClaimed_1 := ⟨start1.p0, start1.e0, start1.about1, start1.theMethod, start1.args0, start1.below0, start1.atStart⟩
end Jvm.Pilot.@@N@@
