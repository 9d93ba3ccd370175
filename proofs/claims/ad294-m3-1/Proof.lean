import JvmDerived
import JvmDerived.Pilot.@@N@@Statement
import JvmDerived.Pilot.@@N@@Code
set_option linter.unusedVariables false
set_option linter.unusedSimpArgs false
namespace Jvm.RoadKit
open Sem ClassFile Op Lib Jvm.Stand Jvm.Free Jvm.LawKit
section New
variable {p : Program} {l : Launch} {e : Env} {R : Room} {s : State} {m : MethodId} {args : Array Value} {below : List Frame} {meth : Method} {c : Code} {T : State} {locs : List Loc} {cells slots : Nat}
theorem retI (X : Stand p l e R s m args below meth c T locs cells slots) (hx : p.tables.exec = Jvm.exec) {pc : Nat} {Ls : Array Slot} {z : Int32} {rest : List Value} (hret : meth.sig.returnType = some .int) (hd : decode c.code pc = .ok (.ireturn, 1)) {fs : List Frame}
    (hl : ∀ (f : JFrame) (acts : List Action), f.method = m → f.locked = none → f.entered = [] → (doReturn e (T.setTop f) acts (some (.int z))).1 = T.setFrames fs) : Steps p.tables e below (T.setTop (mkF m pc Ls (.int z :: rest))) (T.setFrames fs) := by
  have hm' : T.vm.method? m = some meth := X.method'
  have hn : narrow .int (.int z) = .int z := rfl
  show Steps p.tables e below (T.setTop { method := m, pc := pc, locals := Ls, stack := _ :: rest, locked := none }) _
  jvm_step X.here [X.here.top, hx, hd, hm', hret, hn]
  first | (intro acts; rw [hl _ acts rfl rfl rfl]) | rw [hl _ _ rfl rfl rfl]
  exact Steps.refl _
end New
end Jvm.RoadKit
namespace Jvm.Pilot.@@N@@
open Jvm Jvm.ClassFile Sem Op Lib Jvm.Free Jvm.Stand Jvm.LawKit Jvm.RoadKit Bundle Jvm.Pilot.@@N@@.Jvm.D
theorem own_keep_put {h0 h : Heap} {T T' : State} {b : Addr} {B : Cell} (K : Keep h0 h []) (eT : T.heap = h) (P : Jvm.Free.XT.Put b B T T') (hb : h0.size ≤ b) : Keep h0 T'.heap [] := by
  have hne : ∀ (y : Addr) (c : Cell), h0[y]? = some c → y ≠ b := fun y c q e => by
    have := (Array.getElem?_eq_some_iff.mp q).1
    exact absurd (Nat.lt_of_lt_of_le this hb) (by rw [e]; exact Nat.lt_irrefl _)
  have hk : ∀ (y : Addr) (c : Cell), h0[y]? = some c → T'.heap[y]? = some c := fun y c q => by
    rw [P.2.1 y (hne y c q), eT]; exact K.2.1 y c q (by simp)
  exact ⟨by rw [P.2.2, eT]; exact K.1, fun y c q _ => hk y c q, fun y c q => ⟨c, hk y c q, rfl, rfl, rfl⟩⟩
theorem own_fr_copy {n0 : Nat} {b : Addr} {n : Nat} (g : n0 ≤ b) : Fr n0 (copyLocs b 0 n) := fun y hy => by
  simp only [copyLocs, List.mem_map] at hy
  obtain ⟨i, -, rfl⟩ := hy
  exact g
theorem own_n32 {k : Nat} (h : k < 2 ^ 31) : (Int32.ofNat k).toNatClampNeg = k := Int32.toNatClampNeg_ofNat_of_lt h
theorem own_nn {k : Nat} (h : k < 2 ^ 31) : ¬ Int32.ofNat k < 0 := Int32.ofNat_not_neg h
theorem own_getD {c : Cell} {i : Nat} {v : Value} (h : c.slots[i]? = some v) : c.slots.getD i .null = v := by simp [Array.getD_eq_getD_getElem?, h]
theorem own_mul2 {k : Nat} (h : k ≤ 4) : Int32.ofNat k * 2 = Int32.ofNat (2 * k) := by
  match k, h with
  | 0, _ => decide
  | 1, _ => decide
  | 2, _ => decide
  | 3, _ => decide
  | 4, _ => decide
/-- the list at a: k numbers in it, the last of them x -/
def IL (Z : State) (h : Heap) (n0 : Nat) (a : Addr) (k : Nat) (x : Int32) : Prop := n0 ≤ h.size ∧ Exa Z h a "com/example/hale_query/halequery/IntList" ∧ n0 ≤ a ∧ ∃ (t : Addr) (cl : Cell) (N : Nat), Fld Z h a "com/example/hale_query/halequery/IntList" "elements" "[I" (.ref t) ∧ Fld Z h a "com/example/hale_query/halequery/IntList" "size" "I" (.int (Int32.ofNat k)) ∧ n0 ≤ t ∧ Arr Z h t cl .int ∧ cl.slots.size = N ∧ (∀ i, i < N → fits .int (cl.slots.getD i .null) = true) ∧ (0 < k → cl.slots[k - 1]? = some (.int x)) ∧ k ≤ N ∧ 1 ≤ N ∧ N ≤ 4
theorem d5_0 : decode jdk_29_method_69_code 0 = .ok (.iload_n 0, 1) := by decide +kernel
theorem d5_1 : decode jdk_29_method_69_code 1 = .ok (.iload_n 1, 1) := by decide +kernel
theorem d5_2 : decode jdk_29_method_69_code 2 = .ok (.if_icmp .gt 7, 3) := by decide +kernel
theorem d5_5 : decode jdk_29_method_69_code 5 = .ok (.iload_n 0, 1) := by decide +kernel
theorem d5_6 : decode jdk_29_method_69_code 6 = .ok (.goto 4, 3) := by decide +kernel
theorem d5_10 : decode jdk_29_method_69_code 10 = .ok (.ireturn, 1) := by decide +kernel
theorem ef_5 (m : MethodId) (x0 : Int32) (x1 : Int32) : entryFrame m #[(.int x0), (.int x1)] 2 = mkF m 0 #[.val (.int x0), .val (.int x1)] [] := by first | (simp [entryFrame, mkF, argsToLocals, Value.category]; done) | rfl
def Q5 (Z : State) (p1 : Int32) (p2 : Int32) (h0 : Heap) (n0 : Nat) (v : Option Value) (h : Heap) (L : List Loc) : Prop := v = some (.int p1) ∧ Fr n0 L ∧ h = h0
set_option maxRecDepth 65536 in
set_option maxHeartbeats 40000000 in
theorem rm5 (l : Launch) (Z : State) (a0 : Array Value) (hw : ∀ d ∈ tables_1, d.before a0 Z = true) (ws : List Jvm.Cond) (p1 : Int32) (p2 : Int32) (h0 : Heap) (n0 : Nat) (Z0 : n0 ≤ h0.size) (hc2 : ¬ (p2 < p1)) :
    MetFree l (⟨"java/lang/Math", "min", "(II)I"⟩ : MethodName) (head1 (Jvm.Cond.code (⟨"java/lang/Math", "min", "(II)I"⟩ : MethodName) jdk_29_method_69_code 2 (some .int) :: ws) ({ frames := 0, cells := 0, slots := 0, locals := 0 } : Room)) (fun a U => a = #[(.int p1), (.int p2)] ∧ Z.Warmed39 U.vm ∧ U.heap = h0) (fun _ _ _ _ _ => True) (fun _ U o U' => ∃ v L, o = .returned v ∧ Q5 Z p1 p2 h0 n0 v U'.heap L ∧ FrameEnd U o U' L ({ frames := 0, cells := 0, slots := 0, locals := 0 } : Room).cells ({ frames := 0, cells := 0, slots := 0, locals := 0 } : Room).slots) := by
  refine MetFree.of_bodySF (Jvm.Free.JP.mathPlain rfl (by decide +kernel)) hisR ?_
  intro p e s m args below meth c s₁ Bd hml0 hP hK
  obtain ⟨rfl, hZ, hh⟩ := hP
  have hx := Bd.exec
  have hby := Bd.bytes
  have hml : c.maxLocals = 2 := hml0
  have hown : s.vm.findClass "java/lang/Math" = some m.cls := findClass_of_methodNamed Bd.named
  have hnm := (name_of_methodNamed Bd.named Bd.method).1
  have X0 : Stand p l e ({ frames := 0, cells := 0, slots := 0, locals := 0 } : Room) s m #[(.int p1), (.int p2)] below meth c s₁ [] 0 0 := Stand.of_body Bd
  have e0 : s₁.heap = h0 := by rw [← hh, Bd.state]; rfl
  have N0 := Fr.nil n0
  have pre0 : ∀ t, Steps p.tables e below (s₁.setTop (mkF m 0 #[.val (.int p1), .val (.int p2)] [])) t → Steps p.tables e below (s₁.setTop (entryFrame m #[(.int p1), (.int p2)] 2)) t := fun t k => castTop (ef_5 m p1 p2) k
  obtain ⟨fs, hr, hrun, hended, hW, hsame⟩ := X0.leave (v := some (.int p1)) (fun h => by rw [Bd.returns] at h; cases h)
  refine ⟨_, _, pre0 _ ?_, hrun, hended, _, _, rfl, ?_, ⟨_, rfl⟩, hW, hsame.mono (by decide) (by decide)⟩
  · show Steps p.tables e below (s₁.setTop (mkF m 0 #[.val (.int p1), .val (.int p2)] [])) _
    refine XS.iloadN X0.here hx rfl (hb hby d5_0) rfl ?_
    show Steps p.tables e below (s₁.setTop (mkF m 1 #[.val (.int p1), .val (.int p2)] [(.int p1)])) _
    refine XS.iloadN X0.here hx rfl (hb hby d5_1) rfl ?_
    show Steps p.tables e below (s₁.setTop (mkF m 2 #[.val (.int p1), .val (.int p2)] [(.int p2), (.int p1)])) _
    refine XS.icmpNo X0.here hx rfl (hb hby d5_2) rfl (flt hc2).2.2.1 ?_
    show Steps p.tables e below (s₁.setTop (mkF m 5 #[.val (.int p1), .val (.int p2)] [])) _
    refine XS.iloadN X0.here hx rfl (hb hby d5_5) rfl ?_
    show Steps p.tables e below (s₁.setTop (mkF m 6 #[.val (.int p1), .val (.int p2)] [(.int p1)])) _
    refine XS.goto X0.here hx rfl (pc0 := 6) (pc' := 10) rfl (hb hby d5_6) (by decide) (by decide) ?_
    show Steps p.tables e below (s₁.setTop (mkF m 10 #[.val (.int p1), .val (.int p2)] [(.int p1)])) _
    exact retI X0 hx Bd.returns (hb hby d5_10) hr
  · show Q5 Z p1 p2 h0 n0 _ s₁.heap _
    rw [e0]
    exact ⟨rfl, N0, rfl⟩
theorem d4_0 : decode jdk_65_method_123_code 0 = .ok (.iload_n 1, 1) := by decide +kernel
theorem d4_1 : decode jdk_65_method_123_code 1 = .ok (.aload_n 0, 1) := by decide +kernel
theorem d4_2 : decode jdk_65_method_123_code 2 = .ok (.arraylength, 1) := by decide +kernel
theorem d4_3 : decode jdk_65_method_123_code 3 = .ok (.if_icmp .ne 11, 3) := by decide +kernel
theorem d4_14 : decode jdk_65_method_123_code 14 = .ok (.iload_n 1, 1) := by decide +kernel
theorem d4_15 : decode jdk_65_method_123_code 15 = .ok (.newarray .int, 2) := by decide +kernel
theorem d4_17 : decode jdk_65_method_123_code 17 = .ok (.astore_n 2, 1) := by decide +kernel
theorem d4_18 : decode jdk_65_method_123_code 18 = .ok (.aload_n 0, 1) := by decide +kernel
theorem d4_19 : decode jdk_65_method_123_code 19 = .ok (.iconst 0, 1) := by decide +kernel
theorem d4_20 : decode jdk_65_method_123_code 20 = .ok (.aload_n 2, 1) := by decide +kernel
theorem d4_21 : decode jdk_65_method_123_code 21 = .ok (.iconst 0, 1) := by decide +kernel
theorem d4_22 : decode jdk_65_method_123_code 22 = .ok (.aload_n 0, 1) := by decide +kernel
theorem d4_23 : decode jdk_65_method_123_code 23 = .ok (.arraylength, 1) := by decide +kernel
theorem d4_24 : decode jdk_65_method_123_code 24 = .ok (.iload_n 1, 1) := by decide +kernel
theorem d4_25 : decode jdk_65_method_123_code 25 = .ok (.invokestatic 304, 3) := by decide +kernel
theorem d4_28 : decode jdk_65_method_123_code 28 = .ok (.invokestatic 150, 3) := by decide +kernel
theorem d4_31 : decode jdk_65_method_123_code 31 = .ok (.aload_n 2, 1) := by decide +kernel
theorem d4_32 : decode jdk_65_method_123_code 32 = .ok (.areturn, 1) := by decide +kernel
theorem pn_4 : plainName "java/util/Arrays" = true := by first | (simp [plainName, overriddenIn]; done) | decide +kernel
theorem pd_4_3 : parseMethodDescriptor "(II)I" = some ⟨[.int, .int], some .int⟩ := by decide +kernel
theorem pd_4_4 : parseMethodDescriptor "(Ljava/lang/Object;ILjava/lang/Object;II)V" = some ⟨[(.object "java/lang/Object"), .int, (.object "java/lang/Object"), .int, .int], none⟩ := by decide +kernel
theorem ef_4 (m : MethodId) (x0 : Addr) (x1 : Int32) : entryFrame m #[(.ref x0), (.int x1)] 3 = mkF m 0 #[.val (.ref x0), .val (.int x1), .unset] [] := by first | (simp [entryFrame, mkF, argsToLocals, Value.category]; done) | rfl
def Q4 (Z : State) (a1 : Addr) (N n : Nat) (cl_a1 : Cell) (h0 : Heap) (n0 : Nat) (v : Option Value) (h : Heap) (L : List Loc) : Prop := v = some (.ref h0.size) ∧ Fr n0 L ∧ Keep h0 h [] ∧ ∃ B : Cell, Arr Z h h0.size B .int ∧ B.slots.size = n ∧ ∀ j, j < n → B.slots[j]? = some (if j < N then cl_a1.slots.getD j .null else defaultValue .int)
set_option maxRecDepth 65536 in
set_option maxHeartbeats 40000000 in
theorem rm4 (l : Launch) (Z : State) (a0 : Array Value) (hw : ∀ d ∈ tables_1, d.before a0 Z = true) (ws : List Jvm.Cond) (a1 : Addr) (N n : Nat) (cl_a1 : Cell) (h0 : Heap) (n0 : Nat) (Z0 : n0 ≤ h0.size) (Ar_a1 : Arr Z h0 a1 cl_a1 .int) (S : cl_a1.slots.size = N) (hNn : N < n) (hn : n ≤ 8) (G : ∀ i, i < N → fits .int (cl_a1.slots.getD i .null) = true) :
    MetFree l (⟨"java/util/Arrays", "copyOf", "([II)[I"⟩ : MethodName) (head1 (Jvm.Cond.code (⟨"java/util/Arrays", "copyOf", "([II)[I"⟩ : MethodName) jdk_65_method_123_code 3 (some (.array .int)) :: ws) ({ frames := 1, cells := 1, slots := n, locals := 40 } : Room)) (fun a U => a = #[(.ref a1), (.int (Int32.ofNat n))] ∧ Z.Warmed39 U.vm ∧ U.heap = h0) (fun _ _ _ _ _ => True) (fun _ U o U' => ∃ v L, o = .returned v ∧ Q4 Z a1 N n cl_a1 h0 n0 v U'.heap L ∧ FrameEnd U o U' L ({ frames := 1, cells := 1, slots := n, locals := 40 } : Room).cells ({ frames := 1, cells := 1, slots := n, locals := 40 } : Room).slots) := by
  refine MetFree.of_bodySF (plainFor_of_name pn_4) hisR ?_
  intro p e s m args below meth c s₁ Bd hml0 hP hK
  obtain ⟨rfl, hZ, hh⟩ := hP
  have hx := Bd.exec
  have hby := Bd.bytes
  have hml : c.maxLocals = 3 := hml0
  have hown : s.vm.findClass "java/util/Arrays" = some m.cls := findClass_of_methodNamed Bd.named
  have hnm := (name_of_methodNamed Bd.named Bd.method).1
  have X0 : Stand p l e ({ frames := 1, cells := 1, slots := n, locals := 40 } : Room) s m #[(.ref a1), (.int (Int32.ofNat n))] below meth c s₁ [] 0 0 := Stand.of_body Bd
  have e0 : s₁.heap = h0 := by rw [← hh, Bd.state]; rfl
  have N0 := Fr.nil n0
  have nn : ¬ Int32.ofNat n < 0 := own_nn (by omega)
  have zn : (Int32.ofNat n).toNatClampNeg = n := own_n32 (by omega)
  have S_a1 : cl_a1.slots.size = (Int32.ofNat N).toNatClampNeg := by rw [own_n32 (by omega), S]
  have N_a1 : ¬ Int32.ofNat N < 0 := own_nn (by omega)
  have hc3 : ¬ ((Int32.ofNat n) = (Int32.ofNat N)) := Jvm.Free.XT.ne32 (by omega) (by omega) (by omega)
  have pre0 : ∀ t, Steps p.tables e below (s₁.setTop (mkF m 0 #[.val (.ref a1), .val (.int (Int32.ofNat n)), .unset] [])) t → Steps p.tables e below (s₁.setTop (entryFrame m #[(.ref a1), (.int (Int32.ofNat n))] 3)) t := fun t k => castTop (ef_4 m a1 (Int32.ofNat n)) k
  obtain ⟨T3, h3, k3, X3, e3, E3, A3, st3⟩ := newP X0 hx hZ (hw _ (List.mem_of_getElem? (i := 9) rfl)) e0 (g := (mkF m 15 #[.val (.ref a1), .val (.int (Int32.ofNat n)), .unset] [(.int (Int32.ofNat n))])) rfl (hb hby d4_15) rfl nn (cap := n) (Nat.le_of_eq zn) (by omega) (by show 0 + 1 ≤ 1; decide) (by show 0 + n ≤ n; omega)
  obtain ⟨b3, g3⟩ : ∃ z, z = h0.size := ⟨_, rfl⟩
  rw [← g3] at A3 st3
  have g_b3 : n0 ≤ b3 := Nat.le_trans Z0 (Nat.le_of_eq g3.symm)
  have sz_b3 : h0.size ≤ b3 := (Nat.le_trans (Keep.refl h0 []).1 (Nat.le_of_eq g3.symm))
  have K3 : Keep h0 h3 [] := (Keep.refl h0 []).ext E3
  have Z3 : n0 ≤ h3.size := Nat.le_trans Z0 E3.1
  have Ar3 := Ar_a1.ext E3
  obtain ⟨_, _, ⟨T4, L4, k4, n4⟩, -, X4, ⟨Lc4, hQ4, l4, y4, z4⟩, st4⟩ := Jvm.LawKit.callS X3 hx (y := (⟨"java/lang/Math", "min", "(II)I"⟩ : MethodName)) hown (mvT hZ (hw _ (List.mem_of_getElem? (i := 23) rfl))) (mvT hZ (hw _ (List.mem_of_getElem? (i := 24) rfl))) (mvT hZ (hw _ (List.mem_of_getElem? (i := 25) rfl))) (mvT hZ (hw _ (List.mem_of_getElem? (i := 26) rfl))) (by decide) (backOf (W := 4) (rm5 l Z a0 hw [] (Int32.ofNat N) (Int32.ofNat n) h3 n0 Z3 (Jvm.Free.XT.nlt32 (by omega) (by omega))) hZ (hw _ (List.mem_of_getElem? (i := 26) rfl)) (hw _ (List.mem_of_getElem? (i := 25) rfl)) (by show 0 + 1 ≤ 1; decide) (by show 4 + (2 + 11) + 0 ≤ 40; decide)) (g := (mkF m 25 #[.val (.ref a1), .val (.int (Int32.ofNat n)), .val (.ref b3)] [(.int (Int32.ofNat n)), (.int (Int32.ofNat N)), (.int (0 : Int32)), (.ref b3), (.int (0 : Int32)), (.ref a1)])) rfl (by rw [hml]; rfl) (argsL := [(.int (Int32.ofNat N)), (.int (Int32.ofNat n))]) (rest := [(.int (0 : Int32)), (.ref b3), (.int (0 : Int32)), (.ref a1)]) (lenOf pd_4_3 rfl) rfl (by show 2 * 0 + _ ≤ _; exact Nat.le_of_eq rfl) (hb hby d4_25) (fun _ _ => ⟨rfl, e3, (by show 0 + 1 + 0 ≤ 1; decide), (by show 0 + n + 0 ≤ n; omega)⟩)
  dsimp only [Pt.U, Pt.locs, Pt.cells, Pt.slots] at X4 l4 y4 z4 st4 hQ4
  subst l4 y4 z4
  obtain ⟨rfl, N4q, q4⟩ := hQ4
  have N4 := Fr.app N0 N4q
  have hA4 : Jvm.Free.XT.Arr .int a1 cl_a1 T4 := ⟨by rw [q4]; exact Ar3.1, State.isArrayOf_alike (hZ.alike.trans X4.warmed.alike) Ar3.2.1, Ar3.2.2, by omega⟩
  have sB : (newA k3 .int (Int32.ofNat n)).slots.size = n := (sz_new _ _ _).trans zn
  have hB4 : Jvm.Free.XT.Arr .int b3 (newA k3 .int (Int32.ofNat n)) T4 := ⟨by rw [q4]; exact A3.1, State.isArrayOf_alike (hZ.alike.trans X4.warmed.alike) A3.2.1, A3.2.2, by rw [sB]; omega⟩
  have hac : ∀ w ∈ Jvm.Free.XT.acW "java/util/Arrays" 150, w.before #[(.ref a1), (.int (Int32.ofNat n))] s = true := by
    intro w hw'
    simp only [Jvm.Free.XT.acW, List.mem_cons, List.not_mem_nil, or_false] at hw'
    rcases hw' with rfl | rfl | rfl | rfl
    · exact mvT hZ (hw _ (List.mem_of_getElem? (i := 27) rfl))
    · exact mvT hZ (hw _ (List.mem_of_getElem? (i := 30) rfl))
    · exact mvT hZ (hw _ (List.mem_of_getElem? (i := 28) rfl))
    · exact mvT hZ (hw _ (List.mem_of_getElem? (i := 29) rfl))
  obtain ⟨T5, B5, X5, P5, bc5, bv5, bs5, bg5, st5⟩ := X4.acopy hx (o := 0) (q := 0) (n := N) hown hac hA4 hB4 rfl (jo := (0 : Int32)) (jq := (0 : Int32)) (jn := Int32.ofNat N) rfl rfl rfl (by omega) (by omega) (fun i hi => ⟨by rw [Nat.zero_add]; exact G i hi, fun h => by cases h⟩) (g := (mkF m 28 #[.val (.ref a1), .val (.int (Int32.ofNat n)), .val (.ref b3)] [(.int (Int32.ofNat N)), (.int (0 : Int32)), (.ref b3), (.int (0 : Int32)), (.ref a1)])) rfl (by rw [hml]; rfl) (rest := []) rfl (hb hby d4_28) (W := 0) (by show 2 * 0 + 0 ≤ _; decide) (by show 1 ≤ 1; decide) (by show 0 + 40 ≤ 40; decide)
  have N5 := Fr.app N4 (own_fr_copy (n := N) g_b3)
  have K5 : Keep h0 T5.heap [] := own_keep_put K3 q4 P5 sz_b3
  have Ar5 : Arr Z T5.heap b3 B5 .int := ⟨P5.1, State.isArrayOf_alike (hZ.alike.trans X5.warmed.alike).symm (hB4.like (X4.warmed.alike.symm.trans X5.warmed.alike) P5.1 bc5 bv5 bs5).2.1, by rw [bv5]; exact A3.2.2⟩
  have V5 : ∀ j, j < n → B5.slots[j]? = some (if j < N then cl_a1.slots.getD j .null else defaultValue .int) := fun j hj => by
    rw [bg5 j]
    by_cases hin : j < N
    · rw [if_pos ⟨Nat.zero_le _, by omega⟩, if_pos hin, Nat.zero_add, Nat.sub_zero]
    · rw [if_neg (fun q => hin (by omega)), if_neg hin]
      have : (newA k3 .int (Int32.ofNat n)).slots[j]? = some (defaultValue .int) := by simp [newA, zn, hj]
      exact this
  obtain ⟨fs, hr, hrun, hended, hW, hsame⟩ := X5.leave (v := some (.ref b3)) (fun h => by rw [Bd.returns] at h; cases h)
  refine ⟨_, _, pre0 _ ?_, hrun, hended, _, _, rfl, ?_, ⟨_, rfl⟩, hW, hsame.mono (by show 0 + 1 + 0 ≤ 1; decide) (by show 0 + n + 0 ≤ n; omega)⟩
  · show Steps p.tables e below (s₁.setTop (mkF m 0 #[.val (.ref a1), .val (.int (Int32.ofNat n)), .unset] [])) _
    refine XS.iloadN X0.here hx rfl (hb hby d4_0) rfl ?_
    show Steps p.tables e below (s₁.setTop (mkF m 1 #[.val (.ref a1), .val (.int (Int32.ofNat n)), .unset] [(.int (Int32.ofNat n))])) _
    refine XS.aloadN X0.here hx rfl (hb hby d4_1) rfl rfl ?_
    show Steps p.tables e below (s₁.setTop (mkF m 2 #[.val (.ref a1), .val (.int (Int32.ofNat n)), .unset] [(.ref a1), (.int (Int32.ofNat n))])) _
    refine X0.arraylength hx (by rw [e0]; exact Ar_a1.1) (State.isArrayOf_alike hZ.alike Ar_a1.2.1) (g := (mkF m 2 #[.val (.ref a1), .val (.int (Int32.ofNat n)), .unset] [(.ref a1), (.int (Int32.ofNat n))])) rfl rfl (hb hby d4_2) _ ?_
    rw [len_of S_a1 N_a1]
    show Steps p.tables e below (s₁.setTop (mkF m 3 #[.val (.ref a1), .val (.int (Int32.ofNat n)), .unset] [(.int (Int32.ofNat N)), (.int (Int32.ofNat n))])) _
    refine XS.icmpYes X0.here hx rfl (pc0 := 3) (pc' := 14) rfl (hb hby d4_3) rfl (feq hc3).2 (by decide) (by decide) ?_
    show Steps p.tables e below (s₁.setTop (mkF m 14 #[.val (.ref a1), .val (.int (Int32.ofNat n)), .unset] [])) _
    refine XS.iloadN X0.here hx rfl (hb hby d4_14) rfl ?_
    show Steps p.tables e below (s₁.setTop (mkF m 15 #[.val (.ref a1), .val (.int (Int32.ofNat n)), .unset] [(.int (Int32.ofNat n))])) _
    refine st3 _ ?_
    show Steps p.tables e below (T3.setTop (mkF m 17 #[.val (.ref a1), .val (.int (Int32.ofNat n)), .unset] [(.ref b3)])) _
    refine XS.astoreN X3.here hx rfl (hb hby d4_17) rfl rfl (l' := #[.val (.ref a1), .val (.int (Int32.ofNat n)), .val (.ref b3)]) rfl ?_
    show Steps p.tables e below (T3.setTop (mkF m 18 #[.val (.ref a1), .val (.int (Int32.ofNat n)), .val (.ref b3)] [])) _
    refine XS.aloadN X3.here hx rfl (hb hby d4_18) rfl rfl ?_
    show Steps p.tables e below (T3.setTop (mkF m 19 #[.val (.ref a1), .val (.int (Int32.ofNat n)), .val (.ref b3)] [(.ref a1)])) _
    refine XS.iconst X3.here hx rfl (hb hby d4_19) ?_
    show Steps p.tables e below (T3.setTop (mkF m 20 #[.val (.ref a1), .val (.int (Int32.ofNat n)), .val (.ref b3)] [(.int (0 : Int32)), (.ref a1)])) _
    refine XS.aloadN X3.here hx rfl (hb hby d4_20) rfl rfl ?_
    show Steps p.tables e below (T3.setTop (mkF m 21 #[.val (.ref a1), .val (.int (Int32.ofNat n)), .val (.ref b3)] [(.ref b3), (.int (0 : Int32)), (.ref a1)])) _
    refine XS.iconst X3.here hx rfl (hb hby d4_21) ?_
    show Steps p.tables e below (T3.setTop (mkF m 22 #[.val (.ref a1), .val (.int (Int32.ofNat n)), .val (.ref b3)] [(.int (0 : Int32)), (.ref b3), (.int (0 : Int32)), (.ref a1)])) _
    refine XS.aloadN X3.here hx rfl (hb hby d4_22) rfl rfl ?_
    show Steps p.tables e below (T3.setTop (mkF m 23 #[.val (.ref a1), .val (.int (Int32.ofNat n)), .val (.ref b3)] [(.ref a1), (.int (0 : Int32)), (.ref b3), (.int (0 : Int32)), (.ref a1)])) _
    refine X3.arraylength hx (by rw [e3]; exact Ar3.1) (State.isArrayOf_alike hZ.alike Ar3.2.1) (g := (mkF m 23 #[.val (.ref a1), .val (.int (Int32.ofNat n)), .val (.ref b3)] [(.ref a1), (.int (0 : Int32)), (.ref b3), (.int (0 : Int32)), (.ref a1)])) rfl rfl (hb hby d4_23) _ ?_
    rw [len_of S_a1 N_a1]
    show Steps p.tables e below (T3.setTop (mkF m 24 #[.val (.ref a1), .val (.int (Int32.ofNat n)), .val (.ref b3)] [(.int (Int32.ofNat N)), (.int (0 : Int32)), (.ref b3), (.int (0 : Int32)), (.ref a1)])) _
    refine XS.iloadN X3.here hx rfl (hb hby d4_24) rfl ?_
    show Steps p.tables e below (T3.setTop (mkF m 25 #[.val (.ref a1), .val (.int (Int32.ofNat n)), .val (.ref b3)] [(.int (Int32.ofNat n)), (.int (Int32.ofNat N)), (.int (0 : Int32)), (.ref b3), (.int (0 : Int32)), (.ref a1)])) _
    refine st4 _ ?_
    show Steps p.tables e below (T4.setTop (mkF m 28 #[.val (.ref a1), .val (.int (Int32.ofNat n)), .val (.ref b3)] [(.int (Int32.ofNat N)), (.int (0 : Int32)), (.ref b3), (.int (0 : Int32)), (.ref a1)])) _
    refine st5 _ ?_
    show Steps p.tables e below (T5.setTop (mkF m 31 #[.val (.ref a1), .val (.int (Int32.ofNat n)), .val (.ref b3)] [])) _
    refine XS.aloadN X5.here hx rfl (hb hby d4_31) rfl rfl ?_
    show Steps p.tables e below (T5.setTop (mkF m 32 #[.val (.ref a1), .val (.int (Int32.ofNat n)), .val (.ref b3)] [(.ref b3)])) _
    jvm_step X5.here [X5.here.top, hx, (hb hby d4_32), X5.method', Bd.returns, Value.isRef, FieldType.isReference]
    first | (intro acts; rw [hr _ acts rfl rfl rfl]) | rw [hr _ _ rfl rfl rfl]
    exact Steps.refl _
  · show Q4 Z a1 N n cl_a1 h0 n0 _ T5.heap _
    exact ⟨by rw [g3], N5, K5, B5, by rw [← g3]; exact Ar5, bs5.trans sB, V5⟩
theorem own_new_fits {k : ClassId} {z : Int32} {N : Nat} : ∀ i, i < N → fits .int ((newA k .int z).slots.getD i .null) = true ∨ (newA k .int z).slots.size ≤ i := fun i _ => by
  by_cases h : i < (newA k .int z).slots.size
  · left
    have h' : i < z.toNatClampNeg := by rw [← sz_new k .int z]; exact h
    have : (newA k .int z).slots[i]? = some (defaultValue .int) := by simp [newA, h']
    rw [own_getD this]; decide
  · exact Or.inr (Nat.le_of_not_lt h)
theorem d1_0 : decode prog_15_method_2_code 0 = .ok (.aload_n 0, 1) := by decide +kernel
theorem d1_1 : decode prog_15_method_2_code 1 = .ok (.invokespecial 7, 3) := by decide +kernel
theorem d1_4 : decode prog_15_method_2_code 4 = .ok (.aload_n 0, 1) := by decide +kernel
theorem d1_5 : decode prog_15_method_2_code 5 = .ok (.iload_n 1, 1) := by decide +kernel
theorem d1_6 : decode prog_15_method_2_code 6 = .ok (.newarray .int, 2) := by decide +kernel
theorem d1_8 : decode prog_15_method_2_code 8 = .ok (.putfield 12, 3) := by decide +kernel
theorem d1_11 : decode prog_15_method_2_code 11 = .ok (.return_, 1) := by decide +kernel
theorem pn_1 : plainName "com/example/hale_query/halequery/IntList" = true := by first | (simp [plainName, overriddenIn]; done) | decide +kernel
theorem ef_1 (m : MethodId) (x0 : Addr) (x1 : Int32) : entryFrame m #[(.ref x0), (.int x1)] 2 = mkF m 0 #[.val (.ref x0), .val (.int x1)] [] := by first | (simp [entryFrame, mkF, argsToLocals, Value.category]; done) | rfl
def Q1 (Z : State) (a1 : Addr) (h0 : Heap) (n0 : Nat) (v : Option Value) (h : Heap) (L : List Loc) : Prop := v = none ∧ Fr n0 L ∧ IL Z h n0 a1 0 0
set_option maxRecDepth 65536 in
set_option maxHeartbeats 40000000 in
theorem rm1 (l : Launch) (Z : State) (a0 : Array Value) (hw : ∀ d ∈ tables_1, d.before a0 Z = true) (ws : List Jvm.Cond) (a1 : Addr) (N : Nat) (u_elements_a1 : Value) (h0 : Heap) (n0 : Nat) (Z0 : n0 ≤ h0.size) (E_a1 : Exa Z h0 a1 "com/example/hale_query/halequery/IntList") (F_elements_a1 : Fld Z h0 a1 "com/example/hale_query/halequery/IntList" "elements" "[I" u_elements_a1) (g_a1 : n0 ≤ a1) (F_size_a1 : Fld Z h0 a1 "com/example/hale_query/halequery/IntList" "size" "I" (.int (0 : Int32))) (hN1 : 1 ≤ N) (hN4 : N ≤ 4) :
    MetFree l (⟨"com/example/hale_query/halequery/IntList", "<init>", "(I)V"⟩ : MethodName) (head1 (Jvm.Cond.code (⟨"com/example/hale_query/halequery/IntList", "<init>", "(I)V"⟩ : MethodName) prog_15_method_2_code 2 none :: ws) ({ frames := 1, cells := 1, slots := 4, locals := 12 } : Room)) (fun a U => a = #[(.ref a1), (.int (Int32.ofNat N))] ∧ Z.Warmed39 U.vm ∧ U.heap = h0) (fun _ _ _ _ _ => True) (fun _ U o U' => ∃ v L, o = .returned v ∧ Q1 Z a1 h0 n0 v U'.heap L ∧ FrameEnd U o U' L ({ frames := 1, cells := 1, slots := 4, locals := 12 } : Room).cells ({ frames := 1, cells := 1, slots := 4, locals := 12 } : Room).slots) := by
  refine MetFree.of_bodySF (plainFor_of_name pn_1) hisR ?_
  intro p e s m args below meth c s₁ Bd hml0 hP hK
  obtain ⟨rfl, hZ, hh⟩ := hP
  have hx := Bd.exec
  have hby := Bd.bytes
  have hml : c.maxLocals = 2 := hml0
  have hown : s.vm.findClass "com/example/hale_query/halequery/IntList" = some m.cls := findClass_of_methodNamed Bd.named
  have hnm := (name_of_methodNamed Bd.named Bd.method).1
  have X0 : Stand p l e ({ frames := 1, cells := 1, slots := 4, locals := 12 } : Room) s m #[(.ref a1), (.int (Int32.ofNat N))] below meth c s₁ [] 0 0 := Stand.of_body Bd
  have e0 : s₁.heap = h0 := by rw [← hh, Bd.state]; rfl
  have N0 := Fr.nil n0
  have pre0 : ∀ t, Steps p.tables e below (s₁.setTop (mkF m 0 #[.val (.ref a1), .val (.int (Int32.ofNat N))] [])) t → Steps p.tables e below (s₁.setTop (entryFrame m #[(.ref a1), (.int (Int32.ofNat N))] 2)) t := fun t k => castTop (ef_1 m a1 (Int32.ofNat N)) k
  obtain ⟨T3, X3, e3, st3⟩ := initO X0 hx hZ hown (hw _ (List.mem_of_getElem? (i := 6) rfl)) (hw _ (List.mem_of_getElem? (i := 7) rfl)) (hw _ (List.mem_of_getElem? (i := 8) rfl)) e0 (g := (mkF m 1 #[.val (.ref a1), .val (.int (Int32.ofNat N))] [(.ref a1)])) rfl (by rw [hml]; rfl) rfl (hb hby d1_1) (by decide) (W := 0) (by show 2 * 0 + _ ≤ _; exact Nat.le_of_eq rfl) (by decide)
  obtain ⟨T4, h4, k4, X4, e4, E4, A4, st4⟩ := newP X3 hx hZ (hw _ (List.mem_of_getElem? (i := 9) rfl)) e3 (g := (mkF m 6 #[.val (.ref a1), .val (.int (Int32.ofNat N))] [(.int (Int32.ofNat N)), (.ref a1)])) rfl (hb hby d1_6) rfl (own_nn (by omega)) (cap := 4) (by rw [own_n32 (by omega)]; exact hN4) (by decide) (by decide) (by decide)
  obtain ⟨b4, g4⟩ : ∃ z, z = h0.size := ⟨_, rfl⟩
  rw [← g4] at A4 st4
  have g_b4 : n0 ≤ b4 := Nat.le_trans Z0 (Nat.le_of_eq g4.symm)
  have sz_b4 : h0.size ≤ b4 := (Nat.le_trans (Keep.refl h0 [a1]).1 (Nat.le_of_eq g4.symm))
  have K4 : Keep h0 h4 [a1] := (Keep.refl h0 [a1]).ext E4
  obtain ⟨T5, h5, X5, e5, W5, st5⟩ := putF X4 hx hZ hown (host := "") (Or.inl (hw _ (List.mem_of_getElem? (i := 10) rfl))) Via.refl e4 (F_elements_a1.ext E4) (E_a1.ext E4) (Or.inl (hw _ (List.mem_of_getElem? (i := 11) rfl))) (hw _ (List.mem_of_getElem? (i := 1) rfl)) (ty := (.array .int)) (by decide) rfl rfl (g := (mkF m 8 #[.val (.ref a1), .val (.int (Int32.ofNat N))] [(.ref b4), (.ref a1)])) rfl rfl (hb hby d1_8)
  have Fw5 := (F_elements_a1.ext E4).same W5
  have K5 : Keep h0 h5 [a1] := K4.wr W5 (Or.inl (List.mem_of_getElem? (i := 0) rfl))
  have N5 := Fr.snoc X5 N0 g_a1
  obtain ⟨fs, hr, hrun, hended, hW, hsame⟩ := X5.leave (v := none) (fun _ => rfl)
  refine ⟨_, _, pre0 _ ?_, hrun, hended, _, _, rfl, ?_, ⟨_, rfl⟩, hW, hsame.mono (by decide) (by decide)⟩
  · show Steps p.tables e below (s₁.setTop (mkF m 0 #[.val (.ref a1), .val (.int (Int32.ofNat N))] [])) _
    refine XS.aloadN X0.here hx rfl (hb hby d1_0) rfl rfl ?_
    show Steps p.tables e below (s₁.setTop (mkF m 1 #[.val (.ref a1), .val (.int (Int32.ofNat N))] [(.ref a1)])) _
    refine st3 _ ?_
    show Steps p.tables e below (T3.setTop (mkF m 4 #[.val (.ref a1), .val (.int (Int32.ofNat N))] [])) _
    refine XS.aloadN X3.here hx rfl (hb hby d1_4) rfl rfl ?_
    show Steps p.tables e below (T3.setTop (mkF m 5 #[.val (.ref a1), .val (.int (Int32.ofNat N))] [(.ref a1)])) _
    refine XS.iloadN X3.here hx rfl (hb hby d1_5) rfl ?_
    show Steps p.tables e below (T3.setTop (mkF m 6 #[.val (.ref a1), .val (.int (Int32.ofNat N))] [(.int (Int32.ofNat N)), (.ref a1)])) _
    refine st4 _ ?_
    show Steps p.tables e below (T4.setTop (mkF m 8 #[.val (.ref a1), .val (.int (Int32.ofNat N))] [(.ref b4), (.ref a1)])) _
    refine st5 _ ?_
    show Steps p.tables e below (T5.setTop (mkF m 11 #[.val (.ref a1), .val (.int (Int32.ofNat N))] [])) _
    exact X5.returnOut hx Bd.returns (hb hby d1_11) hr
  · show Q1 Z a1 h0 n0 _ T5.heap _
    rw [e5]
    exact ⟨rfl, N5, Nat.le_trans (Nat.le_trans Z0 E4.1) (Nat.le_of_eq W5.size.symm), ((E_a1.ext E4).wr W5), g_a1, b4, _, N, Fw5, (F_size_a1.ext E4).other W5 (Or.inr (slot_ne (Or.inl (hw _ (List.mem_of_getElem? (i := 18) rfl))) (Or.inl (hw _ (List.mem_of_getElem? (i := 11) rfl))) (by decide) (t := .int) (t' := (.array .int)) (by decide) (by decide))), g_b4, A4.other W5 (by rw [g4]; exact Nat.ne_of_gt E_a1.lt), (sz_new _ _ _).trans (own_n32 (by omega)), fun i hi => (own_new_fits i hi).resolve_right (by rw [sz_new, own_n32 (by omega)]; omega), fun h => absurd h (Nat.lt_irrefl _), Nat.zero_le _, hN1, hN4⟩
theorem d3_0 : decode prog_15_method_3_code 0 = .ok (.aload_n 0, 1) := by decide +kernel
theorem d3_1 : decode prog_15_method_3_code 1 = .ok (.getfield 16, 3) := by decide +kernel
theorem d3_4 : decode prog_15_method_3_code 4 = .ok (.aload_n 0, 1) := by decide +kernel
theorem d3_5 : decode prog_15_method_3_code 5 = .ok (.getfield 12, 3) := by decide +kernel
theorem d3_8 : decode prog_15_method_3_code 8 = .ok (.arraylength, 1) := by decide +kernel
theorem d3_9 : decode prog_15_method_3_code 9 = .ok (.if_icmp .ne 20, 3) := by decide +kernel
theorem d3_12 : decode prog_15_method_3_code 12 = .ok (.aload_n 0, 1) := by decide +kernel
theorem d3_13 : decode prog_15_method_3_code 13 = .ok (.aload_n 0, 1) := by decide +kernel
theorem d3_14 : decode prog_15_method_3_code 14 = .ok (.getfield 12, 3) := by decide +kernel
theorem d3_17 : decode prog_15_method_3_code 17 = .ok (.aload_n 0, 1) := by decide +kernel
theorem d3_18 : decode prog_15_method_3_code 18 = .ok (.getfield 16, 3) := by decide +kernel
theorem d3_21 : decode prog_15_method_3_code 21 = .ok (.iconst 2, 1) := by decide +kernel
theorem d3_22 : decode prog_15_method_3_code 22 = .ok (.imul, 1) := by decide +kernel
theorem d3_23 : decode prog_15_method_3_code 23 = .ok (.invokestatic 20, 3) := by decide +kernel
theorem d3_26 : decode prog_15_method_3_code 26 = .ok (.putfield 12, 3) := by decide +kernel
theorem pd_3_2 : parseMethodDescriptor "([II)[I" = some ⟨[(.array .int), .int], some (.array .int)⟩ := by decide +kernel
theorem d3_29 : decode prog_15_method_3_code 29 = .ok (.aload_n 0, 1) := by decide +kernel
theorem d3_30 : decode prog_15_method_3_code 30 = .ok (.getfield 12, 3) := by decide +kernel
theorem d3_33 : decode prog_15_method_3_code 33 = .ok (.aload_n 0, 1) := by decide +kernel
theorem d3_34 : decode prog_15_method_3_code 34 = .ok (.dup, 1) := by decide +kernel
theorem d3_35 : decode prog_15_method_3_code 35 = .ok (.getfield 16, 3) := by decide +kernel
theorem d3_38 : decode prog_15_method_3_code 38 = .ok (.dup_x1, 1) := by decide +kernel
theorem d3_39 : decode prog_15_method_3_code 39 = .ok (.iconst 1, 1) := by decide +kernel
theorem d3_40 : decode prog_15_method_3_code 40 = .ok (.iadd, 1) := by decide +kernel
theorem d3_41 : decode prog_15_method_3_code 41 = .ok (.putfield 16, 3) := by decide +kernel
theorem d3_44 : decode prog_15_method_3_code 44 = .ok (.iload_n 1, 1) := by decide +kernel
theorem d3_45 : decode prog_15_method_3_code 45 = .ok (.iastore, 1) := by decide +kernel
theorem d3_46 : decode prog_15_method_3_code 46 = .ok (.return_, 1) := by decide +kernel
theorem pn_3 : plainName "com/example/hale_query/halequery/IntList" = true := by first | (simp [plainName, overriddenIn]; done) | decide +kernel
theorem ef_3 (m : MethodId) (x0 : Addr) (x1 : Int32) : entryFrame m #[(.ref x0), (.int x1)] 2 = mkF m 0 #[.val (.ref x0), .val (.int x1)] [] := by first | (simp [entryFrame, mkF, argsToLocals, Value.category]; done) | rfl
set_option maxRecDepth 65536 in
set_option maxHeartbeats 40000000 in
theorem tn3_0_29_t {p : Program} {l : Launch} {e : Env} {R : Room} {s : State} {m : MethodId} {args : Array Value} {below : List Frame} {meth : Method} {c : Code} {T0 : State} {locs : List Loc} {cells slots : Nat} {Z : State} {a0 : Array Value} {h0 : Heap} (o0 : Addr) (s1 : Slot) (w3 : Int32) (w5 : Addr) (cl_w5 : Cell) (z_w5 : Int32)
    (X0 : Stand p l e R s m args below meth c T0 locs cells slots) (hx : p.tables.exec = Jvm.exec) (hZ : Z.Warmed39 s.vm) (hw : ∀ d ∈ tables_1, d.before a0 Z = true) (hby : c.code = prog_15_method_3_code) (hml : c.maxLocals = 2) (hown : s.vm.findClass "com/example/hale_query/halequery/IntList" = some m.cls) (e0 : T0.heap = h0) (F_size_o0 : Fld Z h0 o0 "com/example/hale_query/halequery/IntList" "size" "I" (.int w3)) (F_elements_o0 : Fld Z h0 o0 "com/example/hale_query/halequery/IntList" "elements" "[I" (.ref w5)) (Ar_w5 : Arr Z h0 w5 cl_w5 .int) (S_w5 : cl_w5.slots.size = z_w5.toNatClampNeg) (N_w5 : ¬ z_w5 < 0) (hc9 : ¬ (w3 = z_w5)) :
    ∃ (T' : State), Stand p l e R s m args below meth c T' locs cells slots ∧ T'.heap = h0 ∧
      ∀ target, Steps p.tables e below (T'.setTop (mkF m 29 #[.val (.ref o0), s1] [])) target → Steps p.tables e below (T0.setTop (mkF m 0 #[.val (.ref o0), s1] [])) target := by
  obtain ⟨T4, X4, e4, st4⟩ := getF X0 hx hZ hown (host := "") (Or.inl (hw _ (List.mem_of_getElem? (i := 17) rfl))) Via.refl e0 F_size_o0 (g := (mkF m 1 #[.val (.ref o0), s1] [(.ref o0)])) rfl rfl (hb hby d3_1)
  obtain ⟨T6, X6, e6, st6⟩ := getF X4 hx hZ hown (host := "") (Or.inl (hw _ (List.mem_of_getElem? (i := 10) rfl))) Via.refl e4 F_elements_o0 (g := (mkF m 5 #[.val (.ref o0), s1] [(.ref o0), (.int w3)])) rfl rfl (hb hby d3_5)
  refine ⟨T6, X6, e6, fun target kt => ?_⟩
  show Steps p.tables e below (T0.setTop (mkF m 0 #[.val (.ref o0), s1] [])) _
  refine XS.aloadN X0.here hx rfl (hb hby d3_0) rfl rfl ?_
  show Steps p.tables e below (T0.setTop (mkF m 1 #[.val (.ref o0), s1] [(.ref o0)])) _
  refine st4 _ ?_
  show Steps p.tables e below (T4.setTop (mkF m 4 #[.val (.ref o0), s1] [(.int w3)])) _
  refine XS.aloadN X4.here hx rfl (hb hby d3_4) rfl rfl ?_
  show Steps p.tables e below (T4.setTop (mkF m 5 #[.val (.ref o0), s1] [(.ref o0), (.int w3)])) _
  refine st6 _ ?_
  show Steps p.tables e below (T6.setTop (mkF m 8 #[.val (.ref o0), s1] [(.ref w5), (.int w3)])) _
  refine X6.arraylength hx (by rw [e6]; exact Ar_w5.1) (State.isArrayOf_alike hZ.alike Ar_w5.2.1) (g := (mkF m 8 #[.val (.ref o0), s1] [(.ref w5), (.int w3)])) rfl rfl (hb hby d3_8) _ ?_
  rw [len_of S_w5 N_w5]
  show Steps p.tables e below (T6.setTop (mkF m 9 #[.val (.ref o0), s1] [(.int z_w5), (.int w3)])) _
  refine XS.icmpYes X6.here hx rfl (pc0 := 9) (pc' := 29) rfl (hb hby d3_9) rfl (feq hc9).2 (by decide) (by decide) ?_
  exact kt
set_option maxRecDepth 65536 in
set_option maxHeartbeats 40000000 in
theorem tn3_0_29_f {p : Program} {l : Launch} {e : Env} {s : State} {m : MethodId} {args : Array Value} {below : List Frame} {meth : Method} {c : Code} {T0 : State} {locs : List Loc} {Z : State} {a0 : Array Value} {h0 : Heap} {n0 : Nat} (o0 : Addr) (s1 : Slot) (k : Nat) (w5 : Addr) (cl_w5 : Cell)
    (X0 : Stand p l e ({ frames := 2, cells := 1, slots := 4, locals := 55 } : Room) s m args below meth c T0 locs 0 0) (hx : p.tables.exec = Jvm.exec) (hZ : Z.Warmed39 s.vm) (hw : ∀ d ∈ tables_1, d.before a0 Z = true) (hby : c.code = prog_15_method_3_code) (hml : c.maxLocals = 2) (hown : s.vm.findClass "com/example/hale_query/halequery/IntList" = some m.cls) (e0 : T0.heap = h0) (F_size_o0 : Fld Z h0 o0 "com/example/hale_query/halequery/IntList" "size" "I" (.int (Int32.ofNat k))) (F_elements_o0 : Fld Z h0 o0 "com/example/hale_query/halequery/IntList" "elements" "[I" (.ref w5)) (Ar_w5 : Arr Z h0 w5 cl_w5 .int) (S : cl_w5.slots.size = k) (G : ∀ i, i < k → fits .int (cl_w5.slots.getD i .null) = true) (hk1 : 1 ≤ k) (hk2 : k ≤ 2) (N0 : Fr n0 locs) (Z0 : n0 ≤ h0.size) (E_o0 : Exa Z h0 o0 "com/example/hale_query/halequery/IntList") (g_o0 : n0 ≤ o0) :
    ∃ (T' : State) (h' : Heap) (locs' : List Loc) (B : Cell), Stand p l e ({ frames := 2, cells := 1, slots := 4, locals := 55 } : Room) s m args below meth c T' locs' (0 + 1) (0 + 2 * k) ∧ T'.heap = h' ∧ Fr n0 locs' ∧ n0 ≤ h'.size ∧ Exa Z h' o0 "com/example/hale_query/halequery/IntList" ∧ Fld Z h' o0 "com/example/hale_query/halequery/IntList" "elements" "[I" (.ref h0.size) ∧ Fld Z h' o0 "com/example/hale_query/halequery/IntList" "size" "I" (.int (Int32.ofNat k)) ∧ Arr Z h' h0.size B .int ∧ B.slots.size = 2 * k ∧ (∀ i, i < 2 * k → fits .int (B.slots.getD i .null) = true) ∧
      ∀ target, Steps p.tables e below (T'.setTop (mkF m 29 #[.val (.ref o0), s1] [])) target → Steps p.tables e below (T0.setTop (mkF m 0 #[.val (.ref o0), s1] [])) target := by
  have S_w5 : cl_w5.slots.size = (Int32.ofNat k).toNatClampNeg := by rw [own_n32 (by omega), S]
  have N_w5 : ¬ Int32.ofNat k < 0 := own_nn (by omega)
  have hc9 : Int32.ofNat k = Int32.ofNat k := rfl
  have hm : Int32.ofNat k * 2 = Int32.ofNat (2 * k) := own_mul2 (by omega)
  obtain ⟨T4, X4, e4, st4⟩ := getF X0 hx hZ hown (host := "") (Or.inl (hw _ (List.mem_of_getElem? (i := 17) rfl))) Via.refl e0 F_size_o0 (g := (mkF m 1 #[.val (.ref o0), s1] [(.ref o0)])) rfl rfl (hb hby d3_1)
  obtain ⟨T6, X6, e6, st6⟩ := getF X4 hx hZ hown (host := "") (Or.inl (hw _ (List.mem_of_getElem? (i := 10) rfl))) Via.refl e4 F_elements_o0 (g := (mkF m 5 #[.val (.ref o0), s1] [(.ref o0), (.int (Int32.ofNat k))])) rfl rfl (hb hby d3_5)
  obtain ⟨T7, X7, e7, st7⟩ := getF X6 hx hZ hown (host := "") (Or.inl (hw _ (List.mem_of_getElem? (i := 10) rfl))) Via.refl e6 F_elements_o0 (g := (mkF m 14 #[.val (.ref o0), s1] [(.ref o0), (.ref o0)])) rfl rfl (hb hby d3_14)
  obtain ⟨T8, X8, e8, st8⟩ := getF X7 hx hZ hown (host := "") (Or.inl (hw _ (List.mem_of_getElem? (i := 17) rfl))) Via.refl e7 F_size_o0 (g := (mkF m 18 #[.val (.ref o0), s1] [(.ref o0), (.ref w5), (.ref o0)])) rfl rfl (hb hby d3_18)
  obtain ⟨_, _, ⟨T9, L9, k9, n9⟩, -, X9, ⟨Lc9, hQ9, l9, y9, z9⟩, st9⟩ := Jvm.LawKit.callS X8 hx (y := (⟨"java/util/Arrays", "copyOf", "([II)[I"⟩ : MethodName)) hown (mvT hZ (hw _ (List.mem_of_getElem? (i := 19) rfl))) (mvT hZ (hw _ (List.mem_of_getElem? (i := 20) rfl))) (mvT hZ (hw _ (List.mem_of_getElem? (i := 21) rfl))) (mvT hZ (hw _ (List.mem_of_getElem? (i := 22) rfl))) (by decide) (backOf (W := 1) (rm4 l Z a0 hw [] w5 k (2 * k) cl_w5 h0 n0 Z0 Ar_w5 S (by omega) (by omega) G) hZ (hw _ (List.mem_of_getElem? (i := 22) rfl)) (hw _ (List.mem_of_getElem? (i := 21) rfl)) (by show 1 + 1 ≤ 2; decide) (by show 1 + (3 + 11) + 40 ≤ 55; decide)) (g := (mkF m 23 #[.val (.ref o0), s1] [(.int ((Int32.ofNat k) * (2 : Int32))), (.ref w5), (.ref o0)])) rfl (by rw [hml]; rfl) (argsL := [(.ref w5), (.int ((Int32.ofNat k) * (2 : Int32)))]) (rest := [(.ref o0)]) (lenOf pd_3_2 rfl) rfl (by show 2 * 0 + _ ≤ _; exact Nat.le_of_eq rfl) (hb hby d3_23) (fun _ _ => ⟨by rw [hm], e8, (by show 0 + 1 ≤ 1; decide), (by show 0 + 2 * k ≤ 4; omega)⟩)
  dsimp only [Pt.U, Pt.locs, Pt.cells, Pt.slots] at X9 l9 y9 z9 st9 hQ9
  subst l9 y9 z9
  obtain ⟨rfl, N9q, K9, B9, Ar9, S9, V9⟩ := hQ9
  have N9 := Fr.app N0 N9q
  obtain ⟨T10, h10, X10, e10, W10, st10⟩ := putF X9 hx hZ hown (host := "") (Or.inl (hw _ (List.mem_of_getElem? (i := 10) rfl))) Via.refl rfl (F_elements_o0.keep K9 (by simp)) (E_o0.keep K9) (Or.inl (hw _ (List.mem_of_getElem? (i := 11) rfl))) (hw _ (List.mem_of_getElem? (i := 1) rfl)) (ty := (.array .int)) (by decide) rfl rfl (g := (mkF m 26 #[.val (.ref o0), s1] [(.ref h0.size), (.ref o0)])) rfl rfl (hb hby d3_26)
  have Fw10 := (F_elements_o0.keep K9 (by simp)).same W10
  have N10 := Fr.snoc X10 N9 g_o0
  have Z10 : n0 ≤ h10.size := Nat.le_trans Z0 (Nat.le_trans K9.1 (Nat.le_of_eq W10.size.symm))
  have G9 : ∀ i, i < 2 * k → fits .int (B9.slots.getD i .null) = true := fun i hi => by
    rw [own_getD (V9 i hi)]
    by_cases hik : i < k
    · rw [if_pos hik]; exact G i hik
    · rw [if_neg hik]; decide
  refine ⟨T10, h10, _, B9, X10, e10, N10, Z10, ((E_o0.keep K9).wr W10), Fw10, ((F_size_o0.keep K9 (by simp)).other W10 (Or.inr (slot_ne (Or.inl (hw _ (List.mem_of_getElem? (i := 18) rfl))) (Or.inl (hw _ (List.mem_of_getElem? (i := 11) rfl))) (by decide) (t := .int) (t' := (.array .int)) (by decide) (by decide)))), (Ar9.other W10 (Nat.ne_of_gt E_o0.lt)), S9, G9, fun target kt => ?_⟩
  show Steps p.tables e below (T0.setTop (mkF m 0 #[.val (.ref o0), s1] [])) _
  refine XS.aloadN X0.here hx rfl (hb hby d3_0) rfl rfl ?_
  show Steps p.tables e below (T0.setTop (mkF m 1 #[.val (.ref o0), s1] [(.ref o0)])) _
  refine st4 _ ?_
  show Steps p.tables e below (T4.setTop (mkF m 4 #[.val (.ref o0), s1] [(.int (Int32.ofNat k))])) _
  refine XS.aloadN X4.here hx rfl (hb hby d3_4) rfl rfl ?_
  show Steps p.tables e below (T4.setTop (mkF m 5 #[.val (.ref o0), s1] [(.ref o0), (.int (Int32.ofNat k))])) _
  refine st6 _ ?_
  show Steps p.tables e below (T6.setTop (mkF m 8 #[.val (.ref o0), s1] [(.ref w5), (.int (Int32.ofNat k))])) _
  refine X6.arraylength hx (by rw [e6]; exact Ar_w5.1) (State.isArrayOf_alike hZ.alike Ar_w5.2.1) (g := (mkF m 8 #[.val (.ref o0), s1] [(.ref w5), (.int (Int32.ofNat k))])) rfl rfl (hb hby d3_8) _ ?_
  rw [len_of S_w5 N_w5]
  show Steps p.tables e below (T6.setTop (mkF m 9 #[.val (.ref o0), s1] [(.int (Int32.ofNat k)), (.int (Int32.ofNat k))])) _
  refine XS.icmpNo X6.here hx rfl (hb hby d3_9) rfl (teq hc9).2 ?_
  show Steps p.tables e below (T6.setTop (mkF m 12 #[.val (.ref o0), s1] [])) _
  refine XS.aloadN X6.here hx rfl (hb hby d3_12) rfl rfl ?_
  show Steps p.tables e below (T6.setTop (mkF m 13 #[.val (.ref o0), s1] [(.ref o0)])) _
  refine XS.aloadN X6.here hx rfl (hb hby d3_13) rfl rfl ?_
  show Steps p.tables e below (T6.setTop (mkF m 14 #[.val (.ref o0), s1] [(.ref o0), (.ref o0)])) _
  refine st7 _ ?_
  show Steps p.tables e below (T7.setTop (mkF m 17 #[.val (.ref o0), s1] [(.ref w5), (.ref o0)])) _
  refine XS.aloadN X7.here hx rfl (hb hby d3_17) rfl rfl ?_
  show Steps p.tables e below (T7.setTop (mkF m 18 #[.val (.ref o0), s1] [(.ref o0), (.ref w5), (.ref o0)])) _
  refine st8 _ ?_
  show Steps p.tables e below (T8.setTop (mkF m 21 #[.val (.ref o0), s1] [(.int (Int32.ofNat k)), (.ref w5), (.ref o0)])) _
  refine XS.iconst X8.here hx rfl (hb hby d3_21) ?_
  show Steps p.tables e below (T8.setTop (mkF m 22 #[.val (.ref o0), s1] [(.int (2 : Int32)), (.int (Int32.ofNat k)), (.ref w5), (.ref o0)])) _
  refine XS.imul X8.here hx rfl (hb hby d3_22) rfl ?_
  show Steps p.tables e below (T8.setTop (mkF m 23 #[.val (.ref o0), s1] [(.int ((Int32.ofNat k) * (2 : Int32))), (.ref w5), (.ref o0)])) _
  refine st9 _ ?_
  show Steps p.tables e below (T9.setTop (mkF m 26 #[.val (.ref o0), s1] [(.ref h0.size), (.ref o0)])) _
  refine st10 _ ?_
  exact kt
set_option maxRecDepth 65536 in
set_option maxHeartbeats 40000000 in
theorem tn3_29_46 {p : Program} {l : Launch} {e : Env} {R : Room} {s : State} {m : MethodId} {args : Array Value} {below : List Frame} {meth : Method} {c : Code} {T0 : State} {locs : List Loc} {cells slots : Nat} {Z : State} {a0 : Array Value} {h0 : Heap} {n0 : Nat} (o0 : Addr) (i1 : Int32) (w3 : Addr) (k : Nat) (cl_w3 : Cell)
    (X0 : Stand p l e R s m args below meth c T0 locs cells slots) (hx : p.tables.exec = Jvm.exec) (hZ : Z.Warmed39 s.vm) (hw : ∀ d ∈ tables_1, d.before a0 Z = true) (hby : c.code = prog_15_method_3_code) (hml : c.maxLocals = 2) (hown : s.vm.findClass "com/example/hale_query/halequery/IntList" = some m.cls) (e0 : T0.heap = h0) (F_elements_o0 : Fld Z h0 o0 "com/example/hale_query/halequery/IntList" "elements" "[I" (.ref w3)) (F_size_o0 : Fld Z h0 o0 "com/example/hale_query/halequery/IntList" "size" "I" (.int (Int32.ofNat k))) (E_o0 : Exa Z h0 o0 "com/example/hale_query/halequery/IntList") (g_o0 : n0 ≤ o0) (Ar_w3 : Arr Z h0 w3 cl_w3 .int) (hk : k < cl_w3.slots.size) (hk2 : k ≤ 2) (N0 : Fr n0 locs) (Z0 : n0 ≤ h0.size) (g_w3 : n0 ≤ w3) :
    ∃ (T' : State) (h' : Heap) (locs' : List Loc), Stand p l e R s m args below meth c T' locs' cells slots ∧ T'.heap = h' ∧ Fr n0 locs' ∧ n0 ≤ h'.size ∧ Exa Z h' o0 "com/example/hale_query/halequery/IntList" ∧ Fld Z h' o0 "com/example/hale_query/halequery/IntList" "elements" "[I" (.ref w3) ∧ Fld Z h' o0 "com/example/hale_query/halequery/IntList" "size" "I" (.int (Int32.ofNat (k + 1))) ∧ Arr Z h' w3 (cl_w3.setSlot k (.int i1)) .int ∧
      ∀ target, Steps p.tables e below (T'.setTop (mkF m 46 #[.val (.ref o0), .val (.int i1)] [])) target → Steps p.tables e below (T0.setTop (mkF m 29 #[.val (.ref o0), .val (.int i1)] [])) target := by
  have n32k : (Int32.ofNat k).toNatClampNeg = k := own_n32 (by omega)
  have hin45 : ¬ (Int32.ofNat k < 0 ∨ cl_w3.slots.size ≤ (Int32.ofNat k).toNatClampNeg) := fun q => q.elim (own_nn (by omega)) (by rw [n32k]; omega)
  have hne : o0 ≠ w3 := ne_arr E_o0 (hw _ (List.mem_of_getElem? (i := 1) rfl)) Ar_w3
  obtain ⟨T4, X4, e4, st4⟩ := getF X0 hx hZ hown (host := "") (Or.inl (hw _ (List.mem_of_getElem? (i := 10) rfl))) Via.refl e0 F_elements_o0 (g := (mkF m 30 #[.val (.ref o0), .val (.int i1)] [(.ref o0)])) rfl rfl (hb hby d3_30)
  obtain ⟨T6, X6, e6, st6⟩ := getF X4 hx hZ hown (host := "") (Or.inl (hw _ (List.mem_of_getElem? (i := 17) rfl))) Via.refl e4 F_size_o0 (g := (mkF m 35 #[.val (.ref o0), .val (.int i1)] [(.ref o0), (.ref o0), (.ref w3)])) rfl rfl (hb hby d3_35)
  obtain ⟨T7, h7, X7, e7, W7, st7⟩ := putF X6 hx hZ hown (host := "") (Or.inl (hw _ (List.mem_of_getElem? (i := 17) rfl))) Via.refl e6 F_size_o0 E_o0 (Or.inl (hw _ (List.mem_of_getElem? (i := 18) rfl))) (hw _ (List.mem_of_getElem? (i := 1) rfl)) (ty := .int) (by decide) rfl rfl (g := (mkF m 41 #[.val (.ref o0), .val (.int i1)] [(.int ((Int32.ofNat k) + (1 : Int32))), (.ref o0), (.int (Int32.ofNat k)), (.ref w3)])) rfl rfl (hb hby d3_41)
  have Fw7 := F_size_o0.same W7
  have N7 := Fr.snoc X7 N0 g_o0
  obtain ⟨T8, h8, X8, e8, W8, st8⟩ := stI X7 hx hZ e7 (Ar_w3.other W7 hne.symm) (j := (Int32.ofNat k)) hin45 (g := (mkF m 45 #[.val (.ref o0), .val (.int i1)] [(.int i1), (.int (Int32.ofNat k)), (.ref w3)])) rfl rfl (hb hby d3_45)
  have N8 := Fr.snoc X8 N7 g_w3
  have Z8 : n0 ≤ h8.size := Nat.le_trans Z0 (by rw [W8.size, W7.size]; exact Nat.le_refl _)
  have Fs8 : Fld Z h8 o0 "com/example/hale_query/halequery/IntList" "size" "I" (.int (Int32.ofNat (k + 1))) := by rw [← Jvm.Free.XT.succ32]; exact Fw7.other W8 (Or.inl hne)
  have Ar8 : Arr Z h8 w3 (cl_w3.setSlot k (.int i1)) .int := by have q := (Ar_w3.other W7 hne.symm).same W8; rw [n32k] at q; exact q
  refine ⟨T8, h8, _, X8, e8, N8, Z8, ((E_o0.wr W7).wr W8), ((F_elements_o0.other W7 (Or.inr (slot_ne (Or.inl (hw _ (List.mem_of_getElem? (i := 11) rfl))) (Or.inl (hw _ (List.mem_of_getElem? (i := 18) rfl))) (by decide) (t := (.array .int)) (t' := .int) (by decide) (by decide)))).other W8 (Or.inl hne)), Fs8, Ar8, fun target kt => ?_⟩
  show Steps p.tables e below (T0.setTop (mkF m 29 #[.val (.ref o0), .val (.int i1)] [])) _
  refine XS.aloadN X0.here hx rfl (hb hby d3_29) rfl rfl ?_
  show Steps p.tables e below (T0.setTop (mkF m 30 #[.val (.ref o0), .val (.int i1)] [(.ref o0)])) _
  refine st4 _ ?_
  show Steps p.tables e below (T4.setTop (mkF m 33 #[.val (.ref o0), .val (.int i1)] [(.ref w3)])) _
  refine XS.aloadN X4.here hx rfl (hb hby d3_33) rfl rfl ?_
  show Steps p.tables e below (T4.setTop (mkF m 34 #[.val (.ref o0), .val (.int i1)] [(.ref o0), (.ref w3)])) _
  refine XS.dup X4.here hx rfl (hb hby d3_34) rfl rfl ?_
  show Steps p.tables e below (T4.setTop (mkF m 35 #[.val (.ref o0), .val (.int i1)] [(.ref o0), (.ref o0), (.ref w3)])) _
  refine st6 _ ?_
  show Steps p.tables e below (T6.setTop (mkF m 38 #[.val (.ref o0), .val (.int i1)] [(.int (Int32.ofNat k)), (.ref o0), (.ref w3)])) _
  refine XS.dupX1 X6.here hx rfl (hb hby d3_38) rfl rfl rfl ?_
  show Steps p.tables e below (T6.setTop (mkF m 39 #[.val (.ref o0), .val (.int i1)] [(.int (Int32.ofNat k)), (.ref o0), (.int (Int32.ofNat k)), (.ref w3)])) _
  refine XS.iconst X6.here hx rfl (hb hby d3_39) ?_
  show Steps p.tables e below (T6.setTop (mkF m 40 #[.val (.ref o0), .val (.int i1)] [(.int (1 : Int32)), (.int (Int32.ofNat k)), (.ref o0), (.int (Int32.ofNat k)), (.ref w3)])) _
  refine XS.iadd X6.here hx rfl (hb hby d3_40) rfl ?_
  show Steps p.tables e below (T6.setTop (mkF m 41 #[.val (.ref o0), .val (.int i1)] [(.int ((Int32.ofNat k) + (1 : Int32))), (.ref o0), (.int (Int32.ofNat k)), (.ref w3)])) _
  refine st7 _ ?_
  show Steps p.tables e below (T7.setTop (mkF m 44 #[.val (.ref o0), .val (.int i1)] [(.int (Int32.ofNat k)), (.ref w3)])) _
  refine XS.iloadN X7.here hx rfl (hb hby d3_44) rfl ?_
  show Steps p.tables e below (T7.setTop (mkF m 45 #[.val (.ref o0), .val (.int i1)] [(.int i1), (.int (Int32.ofNat k)), (.ref w3)])) _
  refine st8 _ ?_
  exact kt
def Q3 (Z : State) (a1 : Addr) (p2 : Int32) (k : Nat) (h0 : Heap) (n0 : Nat) (v : Option Value) (h : Heap) (L : List Loc) : Prop := v = none ∧ Fr n0 L ∧ IL Z h n0 a1 (k + 1) p2
theorem own_set_at {c : Cell} {k : Nat} {v : Value} (h : k < c.slots.size) : (c.setSlot k v).slots[k]? = some v := by simp [Cell.setSlot, h]
theorem own_set_fits {c : Cell} {k N : Nat} {x : Int32} (S : c.slots.size = N) (G : ∀ i, i < N → fits .int (c.slots.getD i .null) = true) : ∀ i, i < N → fits .int ((c.setSlot k (.int x)).slots.getD i .null) = true := fun i hi => by
  by_cases h : k = i
  · subst h
    have : (c.setSlot k (.int x)).slots[k]? = some (.int x) := by simp [Cell.setSlot, S, hi]
    rw [own_getD this]; rfl
  · have : (c.setSlot k (.int x)).slots.getD i .null = c.slots.getD i .null := by simp [Cell.setSlot, Array.getD_eq_getD_getElem?, Array.getElem?_setIfInBounds, h]
    rw [this]; exact G i hi
set_option maxRecDepth 65536 in
set_option maxHeartbeats 40000000 in
theorem rm3 (l : Launch) (Z : State) (a0 : Array Value) (hw : ∀ d ∈ tables_1, d.before a0 Z = true) (ws : List Jvm.Cond) (a1 : Addr) (p2 : Int32) (k : Nat) (x : Int32) (h0 : Heap) (n0 : Nat) (hI : IL Z h0 n0 a1 k x) (hk2 : k ≤ 2) :
    MetFree l (⟨"com/example/hale_query/halequery/IntList", "add", "(I)V"⟩ : MethodName) (head1 (Jvm.Cond.code (⟨"com/example/hale_query/halequery/IntList", "add", "(I)V"⟩ : MethodName) prog_15_method_3_code 2 none :: ws) ({ frames := 2, cells := 1, slots := 4, locals := 55 } : Room)) (fun a U => a = #[(.ref a1), (.int p2)] ∧ Z.Warmed39 U.vm ∧ U.heap = h0) (fun _ _ _ _ _ => True) (fun _ U o U' => ∃ v L, o = .returned v ∧ Q3 Z a1 p2 k h0 n0 v U'.heap L ∧ FrameEnd U o U' L ({ frames := 2, cells := 1, slots := 4, locals := 55 } : Room).cells ({ frames := 2, cells := 1, slots := 4, locals := 55 } : Room).slots) := by
  refine MetFree.of_bodySF (plainFor_of_name pn_3) hisR ?_
  intro p e s m args below meth c s₁ Bd hml0 hP hK
  obtain ⟨rfl, hZ, hh⟩ := hP
  have hx := Bd.exec
  have hby := Bd.bytes
  have hml : c.maxLocals = 2 := hml0
  have hown : s.vm.findClass "com/example/hale_query/halequery/IntList" = some m.cls := findClass_of_methodNamed Bd.named
  have hnm := (name_of_methodNamed Bd.named Bd.method).1
  have X0 : Stand p l e ({ frames := 2, cells := 1, slots := 4, locals := 55 } : Room) s m #[(.ref a1), (.int p2)] below meth c s₁ [] 0 0 := Stand.of_body Bd
  have e0 : s₁.heap = h0 := by rw [← hh, Bd.state]; rfl
  have N0 := Fr.nil n0
  have pre0 : ∀ t, Steps p.tables e below (s₁.setTop (mkF m 0 #[.val (.ref a1), .val (.int p2)] [])) t → Steps p.tables e below (s₁.setTop (entryFrame m #[(.ref a1), (.int p2)] 2)) t := fun t k => castTop (ef_3 m a1 p2) k
  obtain ⟨Z0, E0, g_a1, t, cl, N, Fe0, Fs0, gt0, Ar0, S0, G0, -, hkN, hN1, hN4⟩ := hI
  by_cases hc : k = N
  · subst hc
    obtain ⟨T1, h1, L1, B1, X1, e1, N1, Z1, E1, Fe1, Fs1, Ar1, S1, G1, st1⟩ := tn3_0_29_f (n0 := n0) a1 (.val (.int p2)) k t cl X0 hx hZ hw hby hml hown e0 Fs0 Fe0 Ar0 S0 G0 hN1 hk2 N0 Z0 E0 g_a1
    obtain ⟨T2, h2, L2, X2, e2, N2, Z2, E2, Fe2, Fs2, Ar2, st2⟩ := tn3_29_46 (n0 := n0) a1 p2 h0.size k B1 X1 hx hZ hw hby hml hown e1 Fe1 Fs1 E1 g_a1 Ar1 (by rw [S1]; omega) hk2 N1 Z1 Z0
    obtain ⟨fs, hr, hrun, hended, hW, hsame⟩ := X2.leave (v := none) (fun _ => rfl)
    refine ⟨_, _, pre0 _ ?_, hrun, hended, _, _, rfl, ?_, ⟨_, rfl⟩, hW, hsame.mono (by decide) (by show 0 + 2 * k ≤ 4; omega)⟩
    · refine st1 _ ?_
      refine st2 _ ?_
      show Steps p.tables e below (T2.setTop (mkF m 46 #[.val (.ref a1), .val (.int p2)] [])) _
      exact X2.returnOut hx Bd.returns (hb hby d3_46) hr
    · show Q3 Z a1 p2 k h0 n0 _ T2.heap _
      rw [e2]
      exact ⟨rfl, N2, Z2, E2, g_a1, h0.size, _, (2 * k), Fe2, Fs2, Z0, Ar2, (sz_set _ _ _).trans S1, own_set_fits S1 G1, fun _ => by rw [Nat.add_sub_cancel]; exact own_set_at (by rw [S1]; omega), by omega, by omega, by omega⟩
  · have hS : cl.slots.size = (Int32.ofNat N).toNatClampNeg := by rw [own_n32 (by omega), S0]
    obtain ⟨T1, X1, e1, st1⟩ := tn3_0_29_t a1 (.val (.int p2)) (Int32.ofNat k) t cl (Int32.ofNat N) X0 hx hZ hw hby hml hown e0 Fs0 Fe0 Ar0 hS (own_nn (by omega)) (Jvm.Free.XT.ne32 (by omega) (by omega) hc)
    obtain ⟨T2, h2, L2, X2, e2, N2, Z2, E2, Fe2, Fs2, Ar2, st2⟩ := tn3_29_46 (n0 := n0) a1 p2 t k cl X1 hx hZ hw hby hml hown e1 Fe0 Fs0 E0 g_a1 Ar0 (by rw [S0]; omega) hk2 N0 Z0 gt0
    obtain ⟨fs, hr, hrun, hended, hW, hsame⟩ := X2.leave (v := none) (fun _ => rfl)
    refine ⟨_, _, pre0 _ ?_, hrun, hended, _, _, rfl, ?_, ⟨_, rfl⟩, hW, hsame.mono (by decide) (by decide)⟩
    · refine st1 _ ?_
      refine st2 _ ?_
      show Steps p.tables e below (T2.setTop (mkF m 46 #[.val (.ref a1), .val (.int p2)] [])) _
      exact X2.returnOut hx Bd.returns (hb hby d3_46) hr
    · show Q3 Z a1 p2 k h0 n0 _ T2.heap _
      rw [e2]
      exact ⟨rfl, N2, Z2, E2, g_a1, t, _, N, Fe2, Fs2, gt0, Ar2, (sz_set _ _ _).trans S0, own_set_fits S0 G0, fun _ => by rw [Nat.add_sub_cancel]; exact own_set_at (by rw [S0]; omega), by omega, by omega, by omega⟩
theorem d6_0 : decode prog_15_method_8_code 0 = .ok (.aload_n 0, 1) := by decide +kernel
theorem d6_1 : decode prog_15_method_8_code 1 = .ok (.getfield 16, 3) := by decide +kernel
theorem d6_4 : decode prog_15_method_8_code 4 = .ok (.ifCond .le 22, 3) := by decide +kernel
theorem d6_26 : decode prog_15_method_8_code 26 = .ok (.iconst 0, 1) := by decide +kernel
theorem d6_27 : decode prog_15_method_8_code 27 = .ok (.ireturn, 1) := by decide +kernel
theorem pn_6 : plainName "com/example/hale_query/halequery/IntList" = true := by first | (simp [plainName, overriddenIn]; done) | decide +kernel
theorem ef_6 (m : MethodId) (x0 : Addr) (x1 : Int32) : entryFrame m #[(.ref x0), (.int x1)] 2 = mkF m 0 #[.val (.ref x0), .val (.int x1)] [] := by first | (simp [entryFrame, mkF, argsToLocals, Value.category]; done) | rfl
def Q6 (Z : State) (r : Int32) (h0 : Heap) (n0 : Nat) (v : Option Value) (h : Heap) (L : List Loc) : Prop := v = some (.int r) ∧ Fr n0 L ∧ h = h0
set_option maxRecDepth 65536 in
set_option maxHeartbeats 40000000 in
theorem rm6_t (l : Launch) (Z : State) (a0 : Array Value) (hw : ∀ d ∈ tables_1, d.before a0 Z = true) (ws : List Jvm.Cond) (a1 : Addr) (p2 : Int32) (w3 : Int32) (h0 : Heap) (n0 : Nat) (Z0 : n0 ≤ h0.size) (F_size_a1 : Fld Z h0 a1 "com/example/hale_query/halequery/IntList" "size" "I" (.int w3)) (hc4 : ¬ ((0 : Int32) < w3)) :
    MetFree l (⟨"com/example/hale_query/halequery/IntList", "endsWith", "(I)Z"⟩ : MethodName) (head1 (Jvm.Cond.code (⟨"com/example/hale_query/halequery/IntList", "endsWith", "(I)Z"⟩ : MethodName) prog_15_method_8_code 2 (some .boolean) :: ws) ({ frames := 0, cells := 0, slots := 0, locals := 0 } : Room)) (fun a U => a = #[(.ref a1), (.int p2)] ∧ Z.Warmed39 U.vm ∧ U.heap = h0) (fun _ _ _ _ _ => True) (fun _ U o U' => ∃ v L, o = .returned v ∧ Q6 Z (0 : Int32) h0 n0 v U'.heap L ∧ FrameEnd U o U' L ({ frames := 0, cells := 0, slots := 0, locals := 0 } : Room).cells ({ frames := 0, cells := 0, slots := 0, locals := 0 } : Room).slots) := by
  refine MetFree.of_bodySF (plainFor_of_name pn_6) hisR ?_
  intro p e s m args below meth c s₁ Bd hml0 hP hK
  obtain ⟨rfl, hZ, hh⟩ := hP
  have hx := Bd.exec
  have hby := Bd.bytes
  have hml : c.maxLocals = 2 := hml0
  have hown : s.vm.findClass "com/example/hale_query/halequery/IntList" = some m.cls := findClass_of_methodNamed Bd.named
  have hnm := (name_of_methodNamed Bd.named Bd.method).1
  have X0 : Stand p l e ({ frames := 0, cells := 0, slots := 0, locals := 0 } : Room) s m #[(.ref a1), (.int p2)] below meth c s₁ [] 0 0 := Stand.of_body Bd
  have e0 : s₁.heap = h0 := by rw [← hh, Bd.state]; rfl
  have N0 := Fr.nil n0
  have pre0 : ∀ t, Steps p.tables e below (s₁.setTop (mkF m 0 #[.val (.ref a1), .val (.int p2)] [])) t → Steps p.tables e below (s₁.setTop (entryFrame m #[(.ref a1), (.int p2)] 2)) t := fun t k => castTop (ef_6 m a1 p2) k
  obtain ⟨T4, X4, e4, st4⟩ := getF X0 hx hZ hown (host := "") (Or.inl (hw _ (List.mem_of_getElem? (i := 17) rfl))) Via.refl e0 F_size_a1 (g := (mkF m 1 #[.val (.ref a1), .val (.int p2)] [(.ref a1)])) rfl rfl (hb hby d6_1)
  obtain ⟨fs, hr, hrun, hended, hW, hsame⟩ := X4.leave (v := some (.int (0 : Int32))) (fun h => by rw [Bd.returns] at h; cases h)
  refine ⟨_, _, pre0 _ ?_, hrun, hended, _, _, rfl, ?_, ⟨_, rfl⟩, hW, hsame.mono (by decide) (by decide)⟩
  · show Steps p.tables e below (s₁.setTop (mkF m 0 #[.val (.ref a1), .val (.int p2)] [])) _
    refine XS.aloadN X0.here hx rfl (hb hby d6_0) rfl rfl ?_
    show Steps p.tables e below (s₁.setTop (mkF m 1 #[.val (.ref a1), .val (.int p2)] [(.ref a1)])) _
    refine st4 _ ?_
    show Steps p.tables e below (T4.setTop (mkF m 4 #[.val (.ref a1), .val (.int p2)] [(.int w3)])) _
    refine XS.ifYes X4.here hx rfl (pc0 := 4) (pc' := 26) rfl (hb hby d6_4) rfl ((if0 _ _).trans (flt hc4).2.2.2) (by decide) (by decide) ?_
    show Steps p.tables e below (T4.setTop (mkF m 26 #[.val (.ref a1), .val (.int p2)] [])) _
    refine XS.iconst X4.here hx rfl (hb hby d6_26) ?_
    show Steps p.tables e below (T4.setTop (mkF m 27 #[.val (.ref a1), .val (.int p2)] [(.int (0 : Int32))])) _
    exact retN X4 hx (t := .boolean) Bd.returns (by simp) (hb hby d6_27) hr
  · show Q6 Z (0 : Int32) h0 n0 _ T4.heap _
    rw [e4]
    exact ⟨rfl, N0, rfl⟩
theorem d6_7 : decode prog_15_method_8_code 7 = .ok (.aload_n 0, 1) := by decide +kernel
theorem d6_8 : decode prog_15_method_8_code 8 = .ok (.getfield 12, 3) := by decide +kernel
theorem d6_11 : decode prog_15_method_8_code 11 = .ok (.aload_n 0, 1) := by decide +kernel
theorem d6_12 : decode prog_15_method_8_code 12 = .ok (.getfield 16, 3) := by decide +kernel
theorem d6_15 : decode prog_15_method_8_code 15 = .ok (.iconst 1, 1) := by decide +kernel
theorem d6_16 : decode prog_15_method_8_code 16 = .ok (.isub, 1) := by decide +kernel
theorem d6_17 : decode prog_15_method_8_code 17 = .ok (.iaload, 1) := by decide +kernel
theorem d6_18 : decode prog_15_method_8_code 18 = .ok (.iload_n 1, 1) := by decide +kernel
theorem d6_19 : decode prog_15_method_8_code 19 = .ok (.if_icmp .ne 7, 3) := by decide +kernel
theorem d6_22 : decode prog_15_method_8_code 22 = .ok (.iconst 1, 1) := by decide +kernel
theorem d6_23 : decode prog_15_method_8_code 23 = .ok (.goto 4, 3) := by decide +kernel
set_option maxRecDepth 65536 in
set_option maxHeartbeats 40000000 in
theorem rm6_ff (l : Launch) (Z : State) (a0 : Array Value) (hw : ∀ d ∈ tables_1, d.before a0 Z = true) (ws : List Jvm.Cond) (a1 : Addr) (p2 : Int32) (w3 : Int32) (w5 : Addr) (w8 : Int32) (cl_w5 : Cell) (h0 : Heap) (n0 : Nat) (Z0 : n0 ≤ h0.size) (F_size_a1 : Fld Z h0 a1 "com/example/hale_query/halequery/IntList" "size" "I" (.int w3)) (F_elements_a1 : Fld Z h0 a1 "com/example/hale_query/halequery/IntList" "elements" "[I" (.ref w5)) (Ar_w5 : Arr Z h0 w5 cl_w5 .int) (hin17 : ¬ ((w3 - (1 : Int32)) < 0 ∨ cl_w5.slots.size ≤ ((w3 - (1 : Int32))).toNatClampNeg)) (hat17 : cl_w5.slots[((w3 - (1 : Int32))).toNatClampNeg]? = some (.int w8)) (hc4 : (0 : Int32) < w3) (hc19 : w8 = p2) :
    MetFree l (⟨"com/example/hale_query/halequery/IntList", "endsWith", "(I)Z"⟩ : MethodName) (head1 (Jvm.Cond.code (⟨"com/example/hale_query/halequery/IntList", "endsWith", "(I)Z"⟩ : MethodName) prog_15_method_8_code 2 (some .boolean) :: ws) ({ frames := 0, cells := 0, slots := 0, locals := 0 } : Room)) (fun a U => a = #[(.ref a1), (.int p2)] ∧ Z.Warmed39 U.vm ∧ U.heap = h0) (fun _ _ _ _ _ => True) (fun _ U o U' => ∃ v L, o = .returned v ∧ Q6 Z (1 : Int32) h0 n0 v U'.heap L ∧ FrameEnd U o U' L ({ frames := 0, cells := 0, slots := 0, locals := 0 } : Room).cells ({ frames := 0, cells := 0, slots := 0, locals := 0 } : Room).slots) := by
  refine MetFree.of_bodySF (plainFor_of_name pn_6) hisR ?_
  intro p e s m args below meth c s₁ Bd hml0 hP hK
  obtain ⟨rfl, hZ, hh⟩ := hP
  have hx := Bd.exec
  have hby := Bd.bytes
  have hml : c.maxLocals = 2 := hml0
  have hown : s.vm.findClass "com/example/hale_query/halequery/IntList" = some m.cls := findClass_of_methodNamed Bd.named
  have hnm := (name_of_methodNamed Bd.named Bd.method).1
  have X0 : Stand p l e ({ frames := 0, cells := 0, slots := 0, locals := 0 } : Room) s m #[(.ref a1), (.int p2)] below meth c s₁ [] 0 0 := Stand.of_body Bd
  have e0 : s₁.heap = h0 := by rw [← hh, Bd.state]; rfl
  have N0 := Fr.nil n0
  have pre0 : ∀ t, Steps p.tables e below (s₁.setTop (mkF m 0 #[.val (.ref a1), .val (.int p2)] [])) t → Steps p.tables e below (s₁.setTop (entryFrame m #[(.ref a1), (.int p2)] 2)) t := fun t k => castTop (ef_6 m a1 p2) k
  obtain ⟨T4, X4, e4, st4⟩ := getF X0 hx hZ hown (host := "") (Or.inl (hw _ (List.mem_of_getElem? (i := 17) rfl))) Via.refl e0 F_size_a1 (g := (mkF m 1 #[.val (.ref a1), .val (.int p2)] [(.ref a1)])) rfl rfl (hb hby d6_1)
  obtain ⟨T6, X6, e6, st6⟩ := getF X4 hx hZ hown (host := "") (Or.inl (hw _ (List.mem_of_getElem? (i := 10) rfl))) Via.refl e4 F_elements_a1 (g := (mkF m 8 #[.val (.ref a1), .val (.int p2)] [(.ref a1)])) rfl rfl (hb hby d6_8)
  obtain ⟨T7, X7, e7, st7⟩ := getF X6 hx hZ hown (host := "") (Or.inl (hw _ (List.mem_of_getElem? (i := 17) rfl))) Via.refl e6 F_size_a1 (g := (mkF m 12 #[.val (.ref a1), .val (.int p2)] [(.ref a1), (.ref w5)])) rfl rfl (hb hby d6_12)
  obtain ⟨fs, hr, hrun, hended, hW, hsame⟩ := X7.leave (v := some (.int (1 : Int32))) (fun h => by rw [Bd.returns] at h; cases h)
  refine ⟨_, _, pre0 _ ?_, hrun, hended, _, _, rfl, ?_, ⟨_, rfl⟩, hW, hsame.mono (by decide) (by decide)⟩
  · show Steps p.tables e below (s₁.setTop (mkF m 0 #[.val (.ref a1), .val (.int p2)] [])) _
    refine XS.aloadN X0.here hx rfl (hb hby d6_0) rfl rfl ?_
    show Steps p.tables e below (s₁.setTop (mkF m 1 #[.val (.ref a1), .val (.int p2)] [(.ref a1)])) _
    refine st4 _ ?_
    show Steps p.tables e below (T4.setTop (mkF m 4 #[.val (.ref a1), .val (.int p2)] [(.int w3)])) _
    refine XS.ifNo X4.here hx rfl (hb hby d6_4) rfl ((if0 _ _).trans (tlt hc4).2.2.2) ?_
    show Steps p.tables e below (T4.setTop (mkF m 7 #[.val (.ref a1), .val (.int p2)] [])) _
    refine XS.aloadN X4.here hx rfl (hb hby d6_7) rfl rfl ?_
    show Steps p.tables e below (T4.setTop (mkF m 8 #[.val (.ref a1), .val (.int p2)] [(.ref a1)])) _
    refine st6 _ ?_
    show Steps p.tables e below (T6.setTop (mkF m 11 #[.val (.ref a1), .val (.int p2)] [(.ref w5)])) _
    refine XS.aloadN X6.here hx rfl (hb hby d6_11) rfl rfl ?_
    show Steps p.tables e below (T6.setTop (mkF m 12 #[.val (.ref a1), .val (.int p2)] [(.ref a1), (.ref w5)])) _
    refine st7 _ ?_
    show Steps p.tables e below (T7.setTop (mkF m 15 #[.val (.ref a1), .val (.int p2)] [(.int w3), (.ref w5)])) _
    refine XS.iconst X7.here hx rfl (hb hby d6_15) ?_
    show Steps p.tables e below (T7.setTop (mkF m 16 #[.val (.ref a1), .val (.int p2)] [(.int (1 : Int32)), (.int w3), (.ref w5)])) _
    refine XS.isub X7.here hx rfl (hb hby d6_16) rfl ?_
    show Steps p.tables e below (T7.setTop (mkF m 17 #[.val (.ref a1), .val (.int p2)] [(.int (w3 - (1 : Int32))), (.ref w5)])) _
    refine X7.iaload hx (j := (w3 - (1 : Int32))) (v := (.int w8)) (by rw [e7]; exact Ar_w5.1) (State.isArrayOf_alike hZ.alike Ar_w5.2.1) Ar_w5.2.2 hin17 hat17 (g := (mkF m 17 #[.val (.ref a1), .val (.int p2)] [(.int (w3 - (1 : Int32))), (.ref w5)])) rfl rfl (hb hby d6_17) _ ?_
    show Steps p.tables e below (T7.setTop (mkF m 18 #[.val (.ref a1), .val (.int p2)] [(.int w8)])) _
    refine XS.iloadN X7.here hx rfl (hb hby d6_18) rfl ?_
    show Steps p.tables e below (T7.setTop (mkF m 19 #[.val (.ref a1), .val (.int p2)] [(.int p2), (.int w8)])) _
    refine XS.icmpNo X7.here hx rfl (hb hby d6_19) rfl (teq hc19).2 ?_
    show Steps p.tables e below (T7.setTop (mkF m 22 #[.val (.ref a1), .val (.int p2)] [])) _
    refine XS.iconst X7.here hx rfl (hb hby d6_22) ?_
    show Steps p.tables e below (T7.setTop (mkF m 23 #[.val (.ref a1), .val (.int p2)] [(.int (1 : Int32))])) _
    refine XS.goto X7.here hx rfl (pc0 := 23) (pc' := 27) rfl (hb hby d6_23) (by decide) (by decide) ?_
    show Steps p.tables e below (T7.setTop (mkF m 27 #[.val (.ref a1), .val (.int p2)] [(.int (1 : Int32))])) _
    exact retN X7 hx (t := .boolean) Bd.returns (by simp) (hb hby d6_27) hr
  · show Q6 Z (1 : Int32) h0 n0 _ T7.heap _
    rw [e7]
    exact ⟨rfl, N0, rfl⟩
set_option maxRecDepth 65536 in
set_option maxHeartbeats 40000000 in
theorem rm6_ft (l : Launch) (Z : State) (a0 : Array Value) (hw : ∀ d ∈ tables_1, d.before a0 Z = true) (ws : List Jvm.Cond) (a1 : Addr) (p2 : Int32) (w3 : Int32) (w5 : Addr) (w8 : Int32) (cl_w5 : Cell) (h0 : Heap) (n0 : Nat) (Z0 : n0 ≤ h0.size) (F_size_a1 : Fld Z h0 a1 "com/example/hale_query/halequery/IntList" "size" "I" (.int w3)) (F_elements_a1 : Fld Z h0 a1 "com/example/hale_query/halequery/IntList" "elements" "[I" (.ref w5)) (Ar_w5 : Arr Z h0 w5 cl_w5 .int) (hin17 : ¬ ((w3 - (1 : Int32)) < 0 ∨ cl_w5.slots.size ≤ ((w3 - (1 : Int32))).toNatClampNeg)) (hat17 : cl_w5.slots[((w3 - (1 : Int32))).toNatClampNeg]? = some (.int w8)) (hc4 : (0 : Int32) < w3) (hc19 : ¬ (w8 = p2)) :
    MetFree l (⟨"com/example/hale_query/halequery/IntList", "endsWith", "(I)Z"⟩ : MethodName) (head1 (Jvm.Cond.code (⟨"com/example/hale_query/halequery/IntList", "endsWith", "(I)Z"⟩ : MethodName) prog_15_method_8_code 2 (some .boolean) :: ws) ({ frames := 0, cells := 0, slots := 0, locals := 0 } : Room)) (fun a U => a = #[(.ref a1), (.int p2)] ∧ Z.Warmed39 U.vm ∧ U.heap = h0) (fun _ _ _ _ _ => True) (fun _ U o U' => ∃ v L, o = .returned v ∧ Q6 Z (0 : Int32) h0 n0 v U'.heap L ∧ FrameEnd U o U' L ({ frames := 0, cells := 0, slots := 0, locals := 0 } : Room).cells ({ frames := 0, cells := 0, slots := 0, locals := 0 } : Room).slots) := by
  refine MetFree.of_bodySF (plainFor_of_name pn_6) hisR ?_
  intro p e s m args below meth c s₁ Bd hml0 hP hK
  obtain ⟨rfl, hZ, hh⟩ := hP
  have hx := Bd.exec
  have hby := Bd.bytes
  have hml : c.maxLocals = 2 := hml0
  have hown : s.vm.findClass "com/example/hale_query/halequery/IntList" = some m.cls := findClass_of_methodNamed Bd.named
  have hnm := (name_of_methodNamed Bd.named Bd.method).1
  have X0 : Stand p l e ({ frames := 0, cells := 0, slots := 0, locals := 0 } : Room) s m #[(.ref a1), (.int p2)] below meth c s₁ [] 0 0 := Stand.of_body Bd
  have e0 : s₁.heap = h0 := by rw [← hh, Bd.state]; rfl
  have N0 := Fr.nil n0
  have pre0 : ∀ t, Steps p.tables e below (s₁.setTop (mkF m 0 #[.val (.ref a1), .val (.int p2)] [])) t → Steps p.tables e below (s₁.setTop (entryFrame m #[(.ref a1), (.int p2)] 2)) t := fun t k => castTop (ef_6 m a1 p2) k
  obtain ⟨T4, X4, e4, st4⟩ := getF X0 hx hZ hown (host := "") (Or.inl (hw _ (List.mem_of_getElem? (i := 17) rfl))) Via.refl e0 F_size_a1 (g := (mkF m 1 #[.val (.ref a1), .val (.int p2)] [(.ref a1)])) rfl rfl (hb hby d6_1)
  obtain ⟨T6, X6, e6, st6⟩ := getF X4 hx hZ hown (host := "") (Or.inl (hw _ (List.mem_of_getElem? (i := 10) rfl))) Via.refl e4 F_elements_a1 (g := (mkF m 8 #[.val (.ref a1), .val (.int p2)] [(.ref a1)])) rfl rfl (hb hby d6_8)
  obtain ⟨T7, X7, e7, st7⟩ := getF X6 hx hZ hown (host := "") (Or.inl (hw _ (List.mem_of_getElem? (i := 17) rfl))) Via.refl e6 F_size_a1 (g := (mkF m 12 #[.val (.ref a1), .val (.int p2)] [(.ref a1), (.ref w5)])) rfl rfl (hb hby d6_12)
  obtain ⟨fs, hr, hrun, hended, hW, hsame⟩ := X7.leave (v := some (.int (0 : Int32))) (fun h => by rw [Bd.returns] at h; cases h)
  refine ⟨_, _, pre0 _ ?_, hrun, hended, _, _, rfl, ?_, ⟨_, rfl⟩, hW, hsame.mono (by decide) (by decide)⟩
  · show Steps p.tables e below (s₁.setTop (mkF m 0 #[.val (.ref a1), .val (.int p2)] [])) _
    refine XS.aloadN X0.here hx rfl (hb hby d6_0) rfl rfl ?_
    show Steps p.tables e below (s₁.setTop (mkF m 1 #[.val (.ref a1), .val (.int p2)] [(.ref a1)])) _
    refine st4 _ ?_
    show Steps p.tables e below (T4.setTop (mkF m 4 #[.val (.ref a1), .val (.int p2)] [(.int w3)])) _
    refine XS.ifNo X4.here hx rfl (hb hby d6_4) rfl ((if0 _ _).trans (tlt hc4).2.2.2) ?_
    show Steps p.tables e below (T4.setTop (mkF m 7 #[.val (.ref a1), .val (.int p2)] [])) _
    refine XS.aloadN X4.here hx rfl (hb hby d6_7) rfl rfl ?_
    show Steps p.tables e below (T4.setTop (mkF m 8 #[.val (.ref a1), .val (.int p2)] [(.ref a1)])) _
    refine st6 _ ?_
    show Steps p.tables e below (T6.setTop (mkF m 11 #[.val (.ref a1), .val (.int p2)] [(.ref w5)])) _
    refine XS.aloadN X6.here hx rfl (hb hby d6_11) rfl rfl ?_
    show Steps p.tables e below (T6.setTop (mkF m 12 #[.val (.ref a1), .val (.int p2)] [(.ref a1), (.ref w5)])) _
    refine st7 _ ?_
    show Steps p.tables e below (T7.setTop (mkF m 15 #[.val (.ref a1), .val (.int p2)] [(.int w3), (.ref w5)])) _
    refine XS.iconst X7.here hx rfl (hb hby d6_15) ?_
    show Steps p.tables e below (T7.setTop (mkF m 16 #[.val (.ref a1), .val (.int p2)] [(.int (1 : Int32)), (.int w3), (.ref w5)])) _
    refine XS.isub X7.here hx rfl (hb hby d6_16) rfl ?_
    show Steps p.tables e below (T7.setTop (mkF m 17 #[.val (.ref a1), .val (.int p2)] [(.int (w3 - (1 : Int32))), (.ref w5)])) _
    refine X7.iaload hx (j := (w3 - (1 : Int32))) (v := (.int w8)) (by rw [e7]; exact Ar_w5.1) (State.isArrayOf_alike hZ.alike Ar_w5.2.1) Ar_w5.2.2 hin17 hat17 (g := (mkF m 17 #[.val (.ref a1), .val (.int p2)] [(.int (w3 - (1 : Int32))), (.ref w5)])) rfl rfl (hb hby d6_17) _ ?_
    show Steps p.tables e below (T7.setTop (mkF m 18 #[.val (.ref a1), .val (.int p2)] [(.int w8)])) _
    refine XS.iloadN X7.here hx rfl (hb hby d6_18) rfl ?_
    show Steps p.tables e below (T7.setTop (mkF m 19 #[.val (.ref a1), .val (.int p2)] [(.int p2), (.int w8)])) _
    refine XS.icmpYes X7.here hx rfl (pc0 := 19) (pc' := 26) rfl (hb hby d6_19) rfl (feq hc19).2 (by decide) (by decide) ?_
    show Steps p.tables e below (T7.setTop (mkF m 26 #[.val (.ref a1), .val (.int p2)] [])) _
    refine XS.iconst X7.here hx rfl (hb hby d6_26) ?_
    show Steps p.tables e below (T7.setTop (mkF m 27 #[.val (.ref a1), .val (.int p2)] [(.int (0 : Int32))])) _
    exact retN X7 hx (t := .boolean) Bd.returns (by simp) (hb hby d6_27) hr
  · show Q6 Z (0 : Int32) h0 n0 _ T7.heap _
    rw [e7]
    exact ⟨rfl, N0, rfl⟩
/-- what endsWith returns: k numbers, the last x, asked for y -/
def own_ends (k : Nat) (x y : Int32) : Int32 := if k = 0 then 0 else if x = y then 1 else 0
theorem rm6 (l : Launch) (Z : State) (a0 : Array Value) (hw : ∀ d ∈ tables_1, d.before a0 Z = true) (ws : List Jvm.Cond) (a1 : Addr) (p2 : Int32) (k : Nat) (x : Int32) (h0 : Heap) (n0 : Nat) (hI : IL Z h0 n0 a1 k x) :
    MetFree l (⟨"com/example/hale_query/halequery/IntList", "endsWith", "(I)Z"⟩ : MethodName) (head1 (Jvm.Cond.code (⟨"com/example/hale_query/halequery/IntList", "endsWith", "(I)Z"⟩ : MethodName) prog_15_method_8_code 2 (some .boolean) :: ws) ({ frames := 0, cells := 0, slots := 0, locals := 0 } : Room)) (fun a U => a = #[(.ref a1), (.int p2)] ∧ Z.Warmed39 U.vm ∧ U.heap = h0) (fun _ _ _ _ _ => True) (fun _ U o U' => ∃ v L, o = .returned v ∧ Q6 Z (own_ends k x p2) h0 n0 v U'.heap L ∧ FrameEnd U o U' L ({ frames := 0, cells := 0, slots := 0, locals := 0 } : Room).cells ({ frames := 0, cells := 0, slots := 0, locals := 0 } : Room).slots) := by
  obtain ⟨Z0, E0, g_a1, t, cl, N, Fe0, Fs0, gt0, Ar0, S0, G0, V0, hkN, hN1, hN4⟩ := hI
  by_cases hk : k = 0
  · rw [show own_ends k x p2 = 0 from if_pos hk]
    subst hk
    exact rm6_t l Z a0 hw ws a1 p2 (Int32.ofNat 0) h0 n0 Z0 Fs0 (by decide)
  · have p1 : Int32.ofNat k - 1 = Int32.ofNat (k - 1) := Jvm.Free.XT.pred32 (by omega)
    have hat : cl.slots[(Int32.ofNat k - 1).toNatClampNeg]? = some (.int x) := by rw [p1, own_n32 (by omega)]; exact V0 (by omega)
    have hin : ¬ ((Int32.ofNat k - (1 : Int32)) < 0 ∨ cl.slots.size ≤ ((Int32.ofNat k - (1 : Int32))).toNatClampNeg) := by
      rw [p1, own_n32 (by omega)]
      exact fun q => q.elim (own_nn (by omega)) (by omega)
    have hp : (0 : Int32) < Int32.ofNat k := Jvm.Free.XT.pos32 (by omega) (by omega)
    by_cases hx : x = p2
    · rw [show own_ends k x p2 = 1 from by rw [own_ends, if_neg hk, if_pos hx]]
      exact rm6_ff l Z a0 hw ws a1 p2 (Int32.ofNat k) t x cl h0 n0 Z0 Fs0 Fe0 Ar0 hin hat hp hx
    · rw [show own_ends k x p2 = 0 from by rw [own_ends, if_neg hk, if_neg hx]]
      exact rm6_ft l Z a0 hw ws a1 p2 (Int32.ofNat k) t x cl h0 n0 Z0 Fs0 Fe0 Ar0 hin hat hp hx
theorem d7_0 : decode prog_15_method_7_code 0 = .ok (.aload_n 0, 1) := by decide +kernel
theorem d7_1 : decode prog_15_method_7_code 1 = .ok (.getfield 16, 3) := by decide +kernel
theorem d7_4 : decode prog_15_method_7_code 4 = .ok (.ireturn, 1) := by decide +kernel
theorem pn_7 : plainName "com/example/hale_query/halequery/IntList" = true := by first | (simp [plainName, overriddenIn]; done) | decide +kernel
theorem ef_7 (m : MethodId) (x0 : Addr) : entryFrame m #[(.ref x0)] 1 = mkF m 0 #[.val (.ref x0)] [] := by first | (simp [entryFrame, mkF, argsToLocals, Value.category]; done) | rfl
def Q7 (Z : State) (a1 : Addr) (w2 : Int32) (h0 : Heap) (n0 : Nat) (v : Option Value) (h : Heap) (L : List Loc) : Prop := v = some (.int w2) ∧ Fr n0 L ∧ h = h0
set_option maxRecDepth 65536 in
set_option maxHeartbeats 40000000 in
theorem rm7 (l : Launch) (Z : State) (a0 : Array Value) (hw : ∀ d ∈ tables_1, d.before a0 Z = true) (ws : List Jvm.Cond) (a1 : Addr) (w2 : Int32) (h0 : Heap) (n0 : Nat) (Z0 : n0 ≤ h0.size) (F_size_a1 : Fld Z h0 a1 "com/example/hale_query/halequery/IntList" "size" "I" (.int w2)) :
    MetFree l (⟨"com/example/hale_query/halequery/IntList", "size", "()I"⟩ : MethodName) (head1 (Jvm.Cond.code (⟨"com/example/hale_query/halequery/IntList", "size", "()I"⟩ : MethodName) prog_15_method_7_code 1 (some .int) :: ws) ({ frames := 0, cells := 0, slots := 0, locals := 0 } : Room)) (fun a U => a = #[(.ref a1)] ∧ Z.Warmed39 U.vm ∧ U.heap = h0) (fun _ _ _ _ _ => True) (fun _ U o U' => ∃ v L, o = .returned v ∧ Q7 Z a1 w2 h0 n0 v U'.heap L ∧ FrameEnd U o U' L ({ frames := 0, cells := 0, slots := 0, locals := 0 } : Room).cells ({ frames := 0, cells := 0, slots := 0, locals := 0 } : Room).slots) := by
  refine MetFree.of_bodySF (plainFor_of_name pn_7) hisR ?_
  intro p e s m args below meth c s₁ Bd hml0 hP hK
  obtain ⟨rfl, hZ, hh⟩ := hP
  have hx := Bd.exec
  have hby := Bd.bytes
  have hml : c.maxLocals = 1 := hml0
  have hown : s.vm.findClass "com/example/hale_query/halequery/IntList" = some m.cls := findClass_of_methodNamed Bd.named
  have hnm := (name_of_methodNamed Bd.named Bd.method).1
  have X0 : Stand p l e ({ frames := 0, cells := 0, slots := 0, locals := 0 } : Room) s m #[(.ref a1)] below meth c s₁ [] 0 0 := Stand.of_body Bd
  have e0 : s₁.heap = h0 := by rw [← hh, Bd.state]; rfl
  have N0 := Fr.nil n0
  have pre0 : ∀ t, Steps p.tables e below (s₁.setTop (mkF m 0 #[.val (.ref a1)] [])) t → Steps p.tables e below (s₁.setTop (entryFrame m #[(.ref a1)] 1)) t := fun t k => castTop (ef_7 m a1) k
  obtain ⟨T3, X3, e3, st3⟩ := getF X0 hx hZ hown (host := "") (Or.inl (hw _ (List.mem_of_getElem? (i := 17) rfl))) Via.refl e0 F_size_a1 (g := (mkF m 1 #[.val (.ref a1)] [(.ref a1)])) rfl rfl (hb hby d7_1)
  obtain ⟨fs, hr, hrun, hended, hW, hsame⟩ := X3.leave (v := some (.int w2)) (fun h => by rw [Bd.returns] at h; cases h)
  refine ⟨_, _, pre0 _ ?_, hrun, hended, _, _, rfl, ?_, ⟨_, rfl⟩, hW, hsame.mono (by decide) (by decide)⟩
  · show Steps p.tables e below (s₁.setTop (mkF m 0 #[.val (.ref a1)] [])) _
    refine XS.aloadN X0.here hx rfl (hb hby d7_0) rfl rfl ?_
    show Steps p.tables e below (s₁.setTop (mkF m 1 #[.val (.ref a1)] [(.ref a1)])) _
    refine st3 _ ?_
    show Steps p.tables e below (T3.setTop (mkF m 4 #[.val (.ref a1)] [(.int w2)])) _
    exact retI X3 hx Bd.returns (hb hby d7_4) hr
  · show Q7 Z a1 w2 h0 n0 _ T3.heap _
    rw [e3]
    exact ⟨rfl, N0, rfl⟩
theorem os0_5 {z0 : Value} {z1 : Value} {s2 : Slot} {s3 : Slot} {s4 : Slot} {s5 : Slot} {s6 : Slot} {s7 : Slot} {s8 : Slot} {s9 : Slot} {s10 : Slot} {v : Int32} (h : One s6) : storeLocals #[.val z0, .val z1, s2, s3, s4, s5, s6, s7, s8, s9, s10] 6 (.int v) = some #[.val z0, .val z1, s2, s3, s4, s5, .val (.int v), s7, s8, s9, s10] := by
  rcases h with rfl | ⟨w, rfl, hw⟩
  · rfl
  · cases w <;> first | rfl | (simp [Value.category] at hw)
theorem os0_10 {z0 : Value} {z1 : Value} {s2 : Slot} {s3 : Slot} {s4 : Slot} {s5 : Slot} {z6 : Value} {s7 : Slot} {s8 : Slot} {s9 : Slot} {s10 : Slot} {v : Int32} (h : One s7) : storeLocals #[.val z0, .val z1, s2, s3, s4, s5, .val z6, s7, s8, s9, s10] 7 (.int v) = some #[.val z0, .val z1, s2, s3, s4, s5, .val z6, .val (.int v), s8, s9, s10] := by
  rcases h with rfl | ⟨w, rfl, hw⟩
  · rfl
  · cases w <;> first | rfl | (simp [Value.category] at hw)
set_option maxRecDepth 65536 in
set_option maxHeartbeats 40000000 in
theorem tn0_0_12 {p : Program} {l : Launch} {e : Env} {R : Room} {s : State} {m : MethodId} {args : Array Value} {below : List Frame} {meth : Method} {c : Code} {T0 : State} {locs : List Loc} {cells slots : Nat} {Z : State} {a0 : Array Value} {h0 : Heap} (i0 : Int32) (i1 : Int32) (s2 : Slot) (s3 : Slot) (s4 : Slot) (s5 : Slot) (s6 : Slot) (s7 : Slot) (s8 : Slot) (s9 : Slot) (s10 : Slot)
    (X0 : Stand p l e R s m args below meth c T0 locs cells slots) (hx : p.tables.exec = Jvm.exec) (hZ : Z.Warmed39 s.vm) (hw : ∀ d ∈ tables_1, d.before a0 Z = true) (hby : c.code = code) (hml : c.maxLocals = 11) (hown : s.vm.findClass "com/example/hale_query/halequery/IntListEndsWithPinLaw" = some m.cls) (e0 : T0.heap = h0) (hs6 : One s6) (hs7 : One s7) :
    ∃ (T' : State), Stand p l e R s m args below meth c T' locs cells slots ∧ T'.heap = h0 ∧
      ∀ target, Steps p.tables e below (T'.setTop (mkF m 12 #[.val (.int i0), .val (.int i1), s2, s3, s4, s5, .val (.int ((i0 &&& (3 : Int32)) + (1 : Int32))), .val (.int (i1 &&& (3 : Int32))), s8, s9, s10] [])) target → Steps p.tables e below (T0.setTop (mkF m 0 #[.val (.int i0), .val (.int i1), s2, s3, s4, s5, s6, s7, s8, s9, s10] [])) target := by
  refine ⟨T0, X0, e0, fun target kt => ?_⟩
  show Steps p.tables e below (T0.setTop (mkF m 0 #[.val (.int i0), .val (.int i1), s2, s3, s4, s5, s6, s7, s8, s9, s10] [])) _
  refine XS.iloadN X0.here hx rfl (hb hby at_0) rfl ?_
  show Steps p.tables e below (T0.setTop (mkF m 1 #[.val (.int i0), .val (.int i1), s2, s3, s4, s5, s6, s7, s8, s9, s10] [(.int i0)])) _
  refine XS.iconst X0.here hx rfl (hb hby at_1) ?_
  show Steps p.tables e below (T0.setTop (mkF m 2 #[.val (.int i0), .val (.int i1), s2, s3, s4, s5, s6, s7, s8, s9, s10] [(.int (3 : Int32)), (.int i0)])) _
  refine XS.iand X0.here hx rfl (hb hby at_2) rfl ?_
  show Steps p.tables e below (T0.setTop (mkF m 3 #[.val (.int i0), .val (.int i1), s2, s3, s4, s5, s6, s7, s8, s9, s10] [(.int (i0 &&& (3 : Int32)))])) _
  refine XS.iconst X0.here hx rfl (hb hby at_3) ?_
  show Steps p.tables e below (T0.setTop (mkF m 4 #[.val (.int i0), .val (.int i1), s2, s3, s4, s5, s6, s7, s8, s9, s10] [(.int (1 : Int32)), (.int (i0 &&& (3 : Int32)))])) _
  refine XS.iadd X0.here hx rfl (hb hby at_4) rfl ?_
  show Steps p.tables e below (T0.setTop (mkF m 5 #[.val (.int i0), .val (.int i1), s2, s3, s4, s5, s6, s7, s8, s9, s10] [(.int ((i0 &&& (3 : Int32)) + (1 : Int32)))])) _
  refine XS.istore X0.here hx rfl (hb hby at_5) rfl (l' := #[.val (.int i0), .val (.int i1), s2, s3, s4, s5, .val (.int ((i0 &&& (3 : Int32)) + (1 : Int32))), s7, s8, s9, s10]) (os0_5 hs6) ?_
  show Steps p.tables e below (T0.setTop (mkF m 7 #[.val (.int i0), .val (.int i1), s2, s3, s4, s5, .val (.int ((i0 &&& (3 : Int32)) + (1 : Int32))), s7, s8, s9, s10] [])) _
  refine XS.iloadN X0.here hx rfl (hb hby at_7) rfl ?_
  show Steps p.tables e below (T0.setTop (mkF m 8 #[.val (.int i0), .val (.int i1), s2, s3, s4, s5, .val (.int ((i0 &&& (3 : Int32)) + (1 : Int32))), s7, s8, s9, s10] [(.int i1)])) _
  refine XS.iconst X0.here hx rfl (hb hby at_8) ?_
  show Steps p.tables e below (T0.setTop (mkF m 9 #[.val (.int i0), .val (.int i1), s2, s3, s4, s5, .val (.int ((i0 &&& (3 : Int32)) + (1 : Int32))), s7, s8, s9, s10] [(.int (3 : Int32)), (.int i1)])) _
  refine XS.iand X0.here hx rfl (hb hby at_9) rfl ?_
  show Steps p.tables e below (T0.setTop (mkF m 10 #[.val (.int i0), .val (.int i1), s2, s3, s4, s5, .val (.int ((i0 &&& (3 : Int32)) + (1 : Int32))), s7, s8, s9, s10] [(.int (i1 &&& (3 : Int32)))])) _
  refine XS.istore X0.here hx rfl (hb hby at_10) rfl (l' := #[.val (.int i0), .val (.int i1), s2, s3, s4, s5, .val (.int ((i0 &&& (3 : Int32)) + (1 : Int32))), .val (.int (i1 &&& (3 : Int32))), s8, s9, s10]) (os0_10 hs7) ?_
  exact kt
theorem pd_0_0 : parseMethodDescriptor "(I)V" = some ⟨[.int], none⟩ := by decide +kernel
theorem os0_21 {s0 : Slot} {s1 : Slot} {s2 : Slot} {s3 : Slot} {s4 : Slot} {s5 : Slot} {z6 : Value} {s7 : Slot} {s8 : Slot} {s9 : Slot} {s10 : Slot} {v : Addr} (h : One s8) : storeLocals #[s0, s1, s2, s3, s4, s5, .val z6, s7, s8, s9, s10] 8 (.ref v) = some #[s0, s1, s2, s3, s4, s5, .val z6, s7, .val (.ref v), s9, s10] := by
  rcases h with rfl | ⟨w, rfl, hw⟩
  · rfl
  · cases w <;> first | rfl | (simp [Value.category] at hw)
set_option maxRecDepth 65536 in
set_option maxHeartbeats 40000000 in
theorem tn0_12_23 {p : Program} {l : Launch} {e : Env} {s : State} {m : MethodId} {args : Array Value} {below : List Frame} {meth : Method} {c : Code} {T0 : State} {locs : List Loc} {Z : State} {a0 : Array Value} {h0 : Heap} {n0 N : Nat} (s0 : Slot) (s1 : Slot) (s2 : Slot) (s3 : Slot) (s4 : Slot) (s5 : Slot) (s7 : Slot) (s8 : Slot) (s9 : Slot) (s10 : Slot)
    (X0 : Stand p l e room_1 s m args below meth c T0 locs 0 0) (hx : p.tables.exec = Jvm.exec) (hZ : Z.Warmed39 s.vm) (hw : ∀ d ∈ tables_1, d.before a0 Z = true) (hby : c.code = code) (hml : c.maxLocals = 11) (hown : s.vm.findClass "com/example/hale_query/halequery/IntListEndsWithPinLaw" = some m.cls) (e0 : T0.heap = h0) (hs8 : One s8) (N0 : Fr n0 locs) (Z0 : n0 ≤ h0.size) (hN1 : 1 ≤ N) (hN4 : N ≤ 4) :
    ∃ (T' : State) (h' : Heap) (locs' : List Loc) (b7 : Addr), Stand p l e room_1 s m args below meth c T' locs' 2 6 ∧ T'.heap = h' ∧ Fr n0 locs' ∧ IL Z h' n0 b7 0 0 ∧
      ∀ target, Steps p.tables e below (T'.setTop (mkF m 23 #[s0, s1, s2, s3, s4, s5, .val (.int (Int32.ofNat N)), s7, .val (.ref b7), s9, s10] [])) target → Steps p.tables e below (T0.setTop (mkF m 12 #[s0, s1, s2, s3, s4, s5, .val (.int (Int32.ofNat N)), s7, s8, s9, s10] [])) target := by
  obtain ⟨T7, h7, X7, e7, E7, A7, D7, -, st7⟩ := newO X0 hx hZ hown (hw _ (List.mem_of_getElem? (i := 0) rfl)) (hw _ (List.mem_of_getElem? (i := 1) rfl)) (hw _ (List.mem_of_getElem? (i := 2) rfl)) e0 (g := (mkF m 12 #[s0, s1, s2, s3, s4, s5, .val (.int (Int32.ofNat N)), s7, s8, s9, s10] [])) rfl (hb hby at_12) (by decide) (by decide)
  obtain ⟨b7, g7⟩ : ∃ z, z = h0.size := ⟨_, rfl⟩
  rw [← g7] at A7 D7 st7
  have F_elements_b7 : Fld Z h7 b7 "com/example/hale_query/halequery/IntList" "elements" "[I" .null := D7 (Or.inl (hw _ (List.mem_of_getElem? (i := 11) rfl))) (ty := (.array .int)) (by decide)
  have F_size_b7 : Fld Z h7 b7 "com/example/hale_query/halequery/IntList" "size" "I" (.int (0 : Int32)) := D7 (Or.inl (hw _ (List.mem_of_getElem? (i := 18) rfl))) (ty := .int) (by decide)
  have E_b7 := A7
  have g_b7 : n0 ≤ b7 := Nat.le_trans Z0 (Nat.le_of_eq g7.symm)
  have sz_b7 : h0.size ≤ b7 := (Nat.le_trans (Keep.refl h0 []).1 (Nat.le_of_eq g7.symm))
  have K7 : Keep h0 h7 [] := (Keep.refl h0 []).ext E7
  obtain ⟨_, _, ⟨T8, L8, k8, n8⟩, -, X8, ⟨Lc8, hQ8, l8, y8, z8⟩, st8⟩ := X7.specialBack hx (y := (⟨"com/example/hale_query/halequery/IntList", "<init>", "(I)V"⟩ : MethodName)) rfl hown (mvT hZ (hw _ (List.mem_of_getElem? (i := 3) rfl))) (mvT hZ (hw _ (List.mem_of_getElem? (i := 4) rfl))) (mvT hZ (hw _ (List.mem_of_getElem? (i := 5) rfl))) (by decide) (backOf (W := 1) (rm1 l Z a0 hw [] b7 N .null h7 n0 (Nat.le_trans Z0 E7.1) A7 F_elements_b7 g_b7 F_size_b7 hN1 hN4) hZ (hw _ (List.mem_of_getElem? (i := 5) rfl)) (hw _ (List.mem_of_getElem? (i := 2) rfl)) (by decide) (by decide)) (g := (mkF m 18 #[s0, s1, s2, s3, s4, s5, .val (.int (Int32.ofNat N)), s7, s8, s9, s10] [(.int (Int32.ofNat N)), (.ref b7), (.ref b7)])) rfl (by rw [hml]; rfl) (Steps.refl _) (a := b7) (argsL := [(.int (Int32.ofNat N))]) (rest := [(.ref b7)]) (lenOf pd_0_0 rfl) rfl (by show 2 * 0 + _ ≤ _; exact Nat.le_of_eq rfl) (hb hby at_18) (fun _ _ => ⟨rfl, e7, (by decide : 1 + 1 ≤ _), (by decide : 2 + 4 ≤ _)⟩)
  dsimp only [Pt.U, Pt.locs, Pt.cells, Pt.slots] at X8 l8 y8 z8 st8 hQ8
  subst l8 y8 z8
  obtain ⟨rfl, N8q, I8⟩ := hQ8
  have N8 := Fr.app N0 N8q
  refine ⟨T8, _, _, b7, X8, rfl, N8, I8, fun target kt => ?_⟩
  show Steps p.tables e below (T0.setTop (mkF m 12 #[s0, s1, s2, s3, s4, s5, .val (.int (Int32.ofNat N)), s7, s8, s9, s10] [])) _
  refine st7 _ ?_
  show Steps p.tables e below (T7.setTop (mkF m 15 #[s0, s1, s2, s3, s4, s5, .val (.int (Int32.ofNat N)), s7, s8, s9, s10] [(.ref b7)])) _
  refine XS.dup X7.here hx rfl (hb hby at_15) rfl rfl ?_
  show Steps p.tables e below (T7.setTop (mkF m 16 #[s0, s1, s2, s3, s4, s5, .val (.int (Int32.ofNat N)), s7, s8, s9, s10] [(.ref b7), (.ref b7)])) _
  refine XS.iload X7.here hx rfl (hb hby at_16) rfl ?_
  show Steps p.tables e below (T7.setTop (mkF m 18 #[s0, s1, s2, s3, s4, s5, .val (.int (Int32.ofNat N)), s7, s8, s9, s10] [(.int (Int32.ofNat N)), (.ref b7), (.ref b7)])) _
  refine st8.trans ?_
  show Steps p.tables e below (T8.setTop (mkF m 21 #[s0, s1, s2, s3, s4, s5, .val (.int (Int32.ofNat N)), s7, s8, s9, s10] [(.ref b7)])) _
  refine XS.astore X8.here hx rfl (hb hby at_21) rfl rfl (l' := #[s0, s1, s2, s3, s4, s5, .val (.int (Int32.ofNat N)), s7, .val (.ref b7), s9, s10]) (os0_21 hs8) ?_
  exact kt
set_option maxRecDepth 65536 in
set_option maxHeartbeats 40000000 in
theorem tn0_23_35_t {p : Program} {l : Launch} {e : Env} {R : Room} {s : State} {m : MethodId} {args : Array Value} {below : List Frame} {meth : Method} {c : Code} {T0 : State} {locs : List Loc} {cells slots : Nat} {Z : State} {a0 : Array Value} {h0 : Heap} (s0 : Slot) (s1 : Slot) (s2 : Slot) (s3 : Slot) (s4 : Slot) (s5 : Slot) (s6 : Slot) (i7 : Int32) (s8 : Slot) (s9 : Slot) (s10 : Slot)
    (X0 : Stand p l e R s m args below meth c T0 locs cells slots) (hx : p.tables.exec = Jvm.exec) (hZ : Z.Warmed39 s.vm) (hw : ∀ d ∈ tables_1, d.before a0 Z = true) (hby : c.code = code) (hml : c.maxLocals = 11) (hown : s.vm.findClass "com/example/hale_query/halequery/IntListEndsWithPinLaw" = some m.cls) (e0 : T0.heap = h0) (hc26 : i7 < (1 : Int32)) :
    ∃ (T' : State), Stand p l e R s m args below meth c T' locs cells slots ∧ T'.heap = h0 ∧
      ∀ target, Steps p.tables e below (T'.setTop (mkF m 35 #[s0, s1, s2, s3, s4, s5, s6, .val (.int i7), s8, s9, s10] [])) target → Steps p.tables e below (T0.setTop (mkF m 23 #[s0, s1, s2, s3, s4, s5, s6, .val (.int i7), s8, s9, s10] [])) target := by
  refine ⟨T0, X0, e0, fun target kt => ?_⟩
  show Steps p.tables e below (T0.setTop (mkF m 23 #[s0, s1, s2, s3, s4, s5, s6, .val (.int i7), s8, s9, s10] [])) _
  refine XS.iload X0.here hx rfl (hb hby at_23) rfl ?_
  show Steps p.tables e below (T0.setTop (mkF m 25 #[s0, s1, s2, s3, s4, s5, s6, .val (.int i7), s8, s9, s10] [(.int i7)])) _
  refine XS.iconst X0.here hx rfl (hb hby at_25) ?_
  show Steps p.tables e below (T0.setTop (mkF m 26 #[s0, s1, s2, s3, s4, s5, s6, .val (.int i7), s8, s9, s10] [(.int (1 : Int32)), (.int i7)])) _
  refine XS.icmpYes X0.here hx rfl (pc0 := 26) (pc' := 35) rfl (hb hby at_26) rfl (tlt hc26).1 (by decide) (by decide) ?_
  exact kt
set_option maxRecDepth 65536 in
set_option maxHeartbeats 40000000 in
theorem tn0_23_35_f {p : Program} {l : Launch} {e : Env} {s : State} {m : MethodId} {args : Array Value} {below : List Frame} {meth : Method} {c : Code} {T0 : State} {locs : List Loc} {cells slots : Nat} {Z : State} {a0 : Array Value} {h0 : Heap} {n0 : Nat} (s0 : Slot) (s1 : Slot) (i2 : Int32) (s3 : Slot) (s4 : Slot) (s5 : Slot) (s6 : Slot) (i7 : Int32) (o8 : Addr) (s9 : Slot) (s10 : Slot)
    (X0 : Stand p l e room_1 s m args below meth c T0 locs cells slots) (hx : p.tables.exec = Jvm.exec) (hZ : Z.Warmed39 s.vm) (hw : ∀ d ∈ tables_1, d.before a0 Z = true) (hby : c.code = code) (hml : c.maxLocals = 11) (hown : s.vm.findClass "com/example/hale_query/halequery/IntListEndsWithPinLaw" = some m.cls) (e0 : T0.heap = h0) (x : Int32) (N0 : Fr n0 locs) (hI : IL Z h0 n0 o8 0 x) (hcc : cells + 1 ≤ 16) (hss : slots + 4 ≤ 128) (hc26 : ¬ (i7 < (1 : Int32))) :
    ∃ (T' : State) (h' : Heap) (locs' : List Loc), Stand p l e room_1 s m args below meth c T' locs' (cells + 1) (slots + 4) ∧ T'.heap = h' ∧ Fr n0 locs' ∧ IL Z h' n0 o8 1 i2 ∧
      ∀ target, Steps p.tables e below (T'.setTop (mkF m 35 #[s0, s1, .val (.int i2), s3, s4, s5, s6, .val (.int i7), .val (.ref o8), s9, s10] [])) target → Steps p.tables e below (T0.setTop (mkF m 23 #[s0, s1, .val (.int i2), s3, s4, s5, s6, .val (.int i7), .val (.ref o8), s9, s10] [])) target := by
  obtain ⟨cq7, kq7, q7a, q7b, q7c⟩ := isOf hZ e0 hI.2.1
  obtain ⟨_, _, ⟨T7, L7, k7, n7⟩, -, X7, ⟨Lc7, hQ7, l7, y7, z7⟩, st7⟩ := X0.virtualBack hx (y := (⟨"com/example/hale_query/halequery/IntList", "add", "(I)V"⟩ : MethodName)) (z := (⟨"com/example/hale_query/halequery/IntList", "add", "(I)V"⟩ : MethodName)) hown (mvT hZ (hw _ (List.mem_of_getElem? (i := 12) rfl))) (mvT hZ (hw _ (List.mem_of_getElem? (i := 13) rfl))) (notFace_of_selects (args := #[]) (mvT hZ (hw _ (List.mem_of_getElem? (i := 15) rfl)))) (mvT hZ (hw _ (List.mem_of_getElem? (i := 15) rfl))) (mvT hZ (hw _ (List.mem_of_getElem? (i := 14) rfl))) (by decide) (backOf (W := 0) (rm3 l Z a0 hw [] o8 i2 0 x h0 n0 hI (by decide)) hZ (hw _ (List.mem_of_getElem? (i := 16) rfl)) (hw _ (List.mem_of_getElem? (i := 2) rfl)) (by decide) (by decide)) q7a q7c (g := (mkF m 32 #[s0, s1, .val (.int i2), s3, s4, s5, s6, .val (.int i7), .val (.ref o8), s9, s10] [(.int i2), (.ref o8)])) rfl (by rw [hml]; rfl) (Steps.refl _) (argsL := [(.int i2)]) (rest := []) (lenOf pd_0_0 rfl) rfl (by show 2 * 0 + _ ≤ _; exact Nat.le_of_eq rfl) (hb hby at_32) (fun _ _ => ⟨rfl, e0, (by show cells + 1 ≤ 16; omega), (by show slots + 4 ≤ 128; omega)⟩)
  dsimp only [Pt.U, Pt.locs, Pt.cells, Pt.slots] at X7 l7 y7 z7 st7 hQ7
  subst l7 y7 z7
  obtain ⟨rfl, N7q, I7⟩ := hQ7
  have N7 := Fr.app N0 N7q
  refine ⟨T7, _, _, X7, rfl, N7, I7, fun target kt => ?_⟩
  show Steps p.tables e below (T0.setTop (mkF m 23 #[s0, s1, .val (.int i2), s3, s4, s5, s6, .val (.int i7), .val (.ref o8), s9, s10] [])) _
  refine XS.iload X0.here hx rfl (hb hby at_23) rfl ?_
  show Steps p.tables e below (T0.setTop (mkF m 25 #[s0, s1, .val (.int i2), s3, s4, s5, s6, .val (.int i7), .val (.ref o8), s9, s10] [(.int i7)])) _
  refine XS.iconst X0.here hx rfl (hb hby at_25) ?_
  show Steps p.tables e below (T0.setTop (mkF m 26 #[s0, s1, .val (.int i2), s3, s4, s5, s6, .val (.int i7), .val (.ref o8), s9, s10] [(.int (1 : Int32)), (.int i7)])) _
  refine XS.icmpNo X0.here hx rfl (hb hby at_26) rfl (flt hc26).1 ?_
  show Steps p.tables e below (T0.setTop (mkF m 29 #[s0, s1, .val (.int i2), s3, s4, s5, s6, .val (.int i7), .val (.ref o8), s9, s10] [])) _
  refine XS.aload X0.here hx rfl (hb hby at_29) rfl rfl ?_
  show Steps p.tables e below (T0.setTop (mkF m 31 #[s0, s1, .val (.int i2), s3, s4, s5, s6, .val (.int i7), .val (.ref o8), s9, s10] [(.ref o8)])) _
  refine XS.iloadN X0.here hx rfl (hb hby at_31) rfl ?_
  show Steps p.tables e below (T0.setTop (mkF m 32 #[s0, s1, .val (.int i2), s3, s4, s5, s6, .val (.int i7), .val (.ref o8), s9, s10] [(.int i2), (.ref o8)])) _
  refine st7.trans ?_
  exact kt
theorem sg1 {p : Program} {l : Launch} {e : Env} {s : State} {m : MethodId} {args : Array Value} {below : List Frame} {meth : Method} {c : Code} {T0 : State} {locs : List Loc} {cells slots : Nat} {Z : State} {a0 : Array Value} {h0 : Heap} {n0 : Nat} (s0 : Slot) (s1 : Slot) (s3 : Slot) (s4 : Slot) (s5 : Slot) (s6 : Slot) (n : Nat) (Lv : Nat → Int32) (o8 : Addr) (s9 : Slot) (s10 : Slot)
    (X0 : Stand p l e room_1 s m args below meth c T0 locs cells slots) (hx : p.tables.exec = Jvm.exec) (hZ : Z.Warmed39 s.vm) (hw : ∀ d ∈ tables_1, d.before a0 Z = true) (hby : c.code = code) (hml : c.maxLocals = 11) (hown : s.vm.findClass "com/example/hale_query/halequery/IntListEndsWithPinLaw" = some m.cls) (e0 : T0.heap = h0) (N0 : Fr n0 locs) (hI : IL Z h0 n0 o8 (min n 0) (Lv (min n 0))) (hn : n ≤ 3) (hcc : cells + 1 ≤ 16) (hss : slots + 4 ≤ 128) :
    ∃ (T' : State) (h' : Heap) (locs' : List Loc), Stand p l e room_1 s m args below meth c T' locs' (cells + 1) (slots + 4) ∧ T'.heap = h' ∧ Fr n0 locs' ∧ IL Z h' n0 o8 (min n 1) (Lv (min n 1)) ∧
      ∀ target, Steps p.tables e below (T'.setTop (mkF m 35 #[s0, s1, .val (.int (Lv 1)), s3, s4, s5, s6, .val (.int (Int32.ofNat n)), .val (.ref o8), s9, s10] [])) target → Steps p.tables e below (T0.setTop (mkF m 23 #[s0, s1, .val (.int (Lv 1)), s3, s4, s5, s6, .val (.int (Int32.ofNat n)), .val (.ref o8), s9, s10] [])) target := by
  by_cases hc : n < 1
  · have e1 : min n 1 = min n 0 := by omega
    obtain ⟨T', X', e', st'⟩ := tn0_23_35_t s0 s1 (.val (.int (Lv 1))) s3 s4 s5 s6 (Int32.ofNat n) (.val (.ref o8)) s9 s10 X0 hx hZ hw hby hml hown e0 (Jvm.Free.XT.lt32 (b := 1) (by decide) hc)
    rw [e1]
    exact ⟨T', h0, locs, X'.loosen (by omega) (by omega), e', N0, hI, st'⟩
  · have e1 : min n 0 = 0 := by omega
    have e2 : min n 1 = 1 := by omega
    rw [e1] at hI
    rw [e2]
    exact tn0_23_35_f s0 s1 (Lv 1) s3 s4 s5 s6 (Int32.ofNat n) o8 s9 s10 X0 hx hZ hw hby hml hown e0 _ N0 hI hcc hss (Jvm.Free.XT.nlt32 (b := 1) (by omega) (by omega))
set_option maxRecDepth 65536 in
set_option maxHeartbeats 40000000 in
theorem tn0_35_47_t {p : Program} {l : Launch} {e : Env} {R : Room} {s : State} {m : MethodId} {args : Array Value} {below : List Frame} {meth : Method} {c : Code} {T0 : State} {locs : List Loc} {cells slots : Nat} {Z : State} {a0 : Array Value} {h0 : Heap} (s0 : Slot) (s1 : Slot) (s2 : Slot) (s3 : Slot) (s4 : Slot) (s5 : Slot) (s6 : Slot) (i7 : Int32) (s8 : Slot) (s9 : Slot) (s10 : Slot)
    (X0 : Stand p l e R s m args below meth c T0 locs cells slots) (hx : p.tables.exec = Jvm.exec) (hZ : Z.Warmed39 s.vm) (hw : ∀ d ∈ tables_1, d.before a0 Z = true) (hby : c.code = code) (hml : c.maxLocals = 11) (hown : s.vm.findClass "com/example/hale_query/halequery/IntListEndsWithPinLaw" = some m.cls) (e0 : T0.heap = h0) (hc38 : i7 < (2 : Int32)) :
    ∃ (T' : State), Stand p l e R s m args below meth c T' locs cells slots ∧ T'.heap = h0 ∧
      ∀ target, Steps p.tables e below (T'.setTop (mkF m 47 #[s0, s1, s2, s3, s4, s5, s6, .val (.int i7), s8, s9, s10] [])) target → Steps p.tables e below (T0.setTop (mkF m 35 #[s0, s1, s2, s3, s4, s5, s6, .val (.int i7), s8, s9, s10] [])) target := by
  refine ⟨T0, X0, e0, fun target kt => ?_⟩
  show Steps p.tables e below (T0.setTop (mkF m 35 #[s0, s1, s2, s3, s4, s5, s6, .val (.int i7), s8, s9, s10] [])) _
  refine XS.iload X0.here hx rfl (hb hby at_35) rfl ?_
  show Steps p.tables e below (T0.setTop (mkF m 37 #[s0, s1, s2, s3, s4, s5, s6, .val (.int i7), s8, s9, s10] [(.int i7)])) _
  refine XS.iconst X0.here hx rfl (hb hby at_37) ?_
  show Steps p.tables e below (T0.setTop (mkF m 38 #[s0, s1, s2, s3, s4, s5, s6, .val (.int i7), s8, s9, s10] [(.int (2 : Int32)), (.int i7)])) _
  refine XS.icmpYes X0.here hx rfl (pc0 := 38) (pc' := 47) rfl (hb hby at_38) rfl (tlt hc38).1 (by decide) (by decide) ?_
  exact kt
set_option maxRecDepth 65536 in
set_option maxHeartbeats 40000000 in
theorem tn0_35_47_f {p : Program} {l : Launch} {e : Env} {s : State} {m : MethodId} {args : Array Value} {below : List Frame} {meth : Method} {c : Code} {T0 : State} {locs : List Loc} {cells slots : Nat} {Z : State} {a0 : Array Value} {h0 : Heap} {n0 : Nat} (s0 : Slot) (s1 : Slot) (s2 : Slot) (i3 : Int32) (s4 : Slot) (s5 : Slot) (s6 : Slot) (i7 : Int32) (o8 : Addr) (s9 : Slot) (s10 : Slot)
    (X0 : Stand p l e room_1 s m args below meth c T0 locs cells slots) (hx : p.tables.exec = Jvm.exec) (hZ : Z.Warmed39 s.vm) (hw : ∀ d ∈ tables_1, d.before a0 Z = true) (hby : c.code = code) (hml : c.maxLocals = 11) (hown : s.vm.findClass "com/example/hale_query/halequery/IntListEndsWithPinLaw" = some m.cls) (e0 : T0.heap = h0) (x : Int32) (N0 : Fr n0 locs) (hI : IL Z h0 n0 o8 1 x) (hcc : cells + 1 ≤ 16) (hss : slots + 4 ≤ 128) (hc38 : ¬ (i7 < (2 : Int32))) :
    ∃ (T' : State) (h' : Heap) (locs' : List Loc), Stand p l e room_1 s m args below meth c T' locs' (cells + 1) (slots + 4) ∧ T'.heap = h' ∧ Fr n0 locs' ∧ IL Z h' n0 o8 2 i3 ∧
      ∀ target, Steps p.tables e below (T'.setTop (mkF m 47 #[s0, s1, s2, .val (.int i3), s4, s5, s6, .val (.int i7), .val (.ref o8), s9, s10] [])) target → Steps p.tables e below (T0.setTop (mkF m 35 #[s0, s1, s2, .val (.int i3), s4, s5, s6, .val (.int i7), .val (.ref o8), s9, s10] [])) target := by
  obtain ⟨cq7, kq7, q7a, q7b, q7c⟩ := isOf hZ e0 hI.2.1
  obtain ⟨_, _, ⟨T7, L7, k7, n7⟩, -, X7, ⟨Lc7, hQ7, l7, y7, z7⟩, st7⟩ := X0.virtualBack hx (y := (⟨"com/example/hale_query/halequery/IntList", "add", "(I)V"⟩ : MethodName)) (z := (⟨"com/example/hale_query/halequery/IntList", "add", "(I)V"⟩ : MethodName)) hown (mvT hZ (hw _ (List.mem_of_getElem? (i := 12) rfl))) (mvT hZ (hw _ (List.mem_of_getElem? (i := 13) rfl))) (notFace_of_selects (args := #[]) (mvT hZ (hw _ (List.mem_of_getElem? (i := 15) rfl)))) (mvT hZ (hw _ (List.mem_of_getElem? (i := 15) rfl))) (mvT hZ (hw _ (List.mem_of_getElem? (i := 14) rfl))) (by decide) (backOf (W := 0) (rm3 l Z a0 hw [] o8 i3 1 x h0 n0 hI (by decide)) hZ (hw _ (List.mem_of_getElem? (i := 16) rfl)) (hw _ (List.mem_of_getElem? (i := 2) rfl)) (by decide) (by decide)) q7a q7c (g := (mkF m 44 #[s0, s1, s2, .val (.int i3), s4, s5, s6, .val (.int i7), .val (.ref o8), s9, s10] [(.int i3), (.ref o8)])) rfl (by rw [hml]; rfl) (Steps.refl _) (argsL := [(.int i3)]) (rest := []) (lenOf pd_0_0 rfl) rfl (by show 2 * 0 + _ ≤ _; exact Nat.le_of_eq rfl) (hb hby at_44) (fun _ _ => ⟨rfl, e0, (by show cells + 1 ≤ 16; omega), (by show slots + 4 ≤ 128; omega)⟩)
  dsimp only [Pt.U, Pt.locs, Pt.cells, Pt.slots] at X7 l7 y7 z7 st7 hQ7
  subst l7 y7 z7
  obtain ⟨rfl, N7q, I7⟩ := hQ7
  have N7 := Fr.app N0 N7q
  refine ⟨T7, _, _, X7, rfl, N7, I7, fun target kt => ?_⟩
  show Steps p.tables e below (T0.setTop (mkF m 35 #[s0, s1, s2, .val (.int i3), s4, s5, s6, .val (.int i7), .val (.ref o8), s9, s10] [])) _
  refine XS.iload X0.here hx rfl (hb hby at_35) rfl ?_
  show Steps p.tables e below (T0.setTop (mkF m 37 #[s0, s1, s2, .val (.int i3), s4, s5, s6, .val (.int i7), .val (.ref o8), s9, s10] [(.int i7)])) _
  refine XS.iconst X0.here hx rfl (hb hby at_37) ?_
  show Steps p.tables e below (T0.setTop (mkF m 38 #[s0, s1, s2, .val (.int i3), s4, s5, s6, .val (.int i7), .val (.ref o8), s9, s10] [(.int (2 : Int32)), (.int i7)])) _
  refine XS.icmpNo X0.here hx rfl (hb hby at_38) rfl (flt hc38).1 ?_
  show Steps p.tables e below (T0.setTop (mkF m 41 #[s0, s1, s2, .val (.int i3), s4, s5, s6, .val (.int i7), .val (.ref o8), s9, s10] [])) _
  refine XS.aload X0.here hx rfl (hb hby at_41) rfl rfl ?_
  show Steps p.tables e below (T0.setTop (mkF m 43 #[s0, s1, s2, .val (.int i3), s4, s5, s6, .val (.int i7), .val (.ref o8), s9, s10] [(.ref o8)])) _
  refine XS.iloadN X0.here hx rfl (hb hby at_43) rfl ?_
  show Steps p.tables e below (T0.setTop (mkF m 44 #[s0, s1, s2, .val (.int i3), s4, s5, s6, .val (.int i7), .val (.ref o8), s9, s10] [(.int i3), (.ref o8)])) _
  refine st7.trans ?_
  exact kt
theorem sg2 {p : Program} {l : Launch} {e : Env} {s : State} {m : MethodId} {args : Array Value} {below : List Frame} {meth : Method} {c : Code} {T0 : State} {locs : List Loc} {cells slots : Nat} {Z : State} {a0 : Array Value} {h0 : Heap} {n0 : Nat} (s0 : Slot) (s1 : Slot) (s2 : Slot) (s4 : Slot) (s5 : Slot) (s6 : Slot) (n : Nat) (Lv : Nat → Int32) (o8 : Addr) (s9 : Slot) (s10 : Slot)
    (X0 : Stand p l e room_1 s m args below meth c T0 locs cells slots) (hx : p.tables.exec = Jvm.exec) (hZ : Z.Warmed39 s.vm) (hw : ∀ d ∈ tables_1, d.before a0 Z = true) (hby : c.code = code) (hml : c.maxLocals = 11) (hown : s.vm.findClass "com/example/hale_query/halequery/IntListEndsWithPinLaw" = some m.cls) (e0 : T0.heap = h0) (N0 : Fr n0 locs) (hI : IL Z h0 n0 o8 (min n 1) (Lv (min n 1))) (hn : n ≤ 3) (hcc : cells + 1 ≤ 16) (hss : slots + 4 ≤ 128) :
    ∃ (T' : State) (h' : Heap) (locs' : List Loc), Stand p l e room_1 s m args below meth c T' locs' (cells + 1) (slots + 4) ∧ T'.heap = h' ∧ Fr n0 locs' ∧ IL Z h' n0 o8 (min n 2) (Lv (min n 2)) ∧
      ∀ target, Steps p.tables e below (T'.setTop (mkF m 47 #[s0, s1, s2, .val (.int (Lv 2)), s4, s5, s6, .val (.int (Int32.ofNat n)), .val (.ref o8), s9, s10] [])) target → Steps p.tables e below (T0.setTop (mkF m 35 #[s0, s1, s2, .val (.int (Lv 2)), s4, s5, s6, .val (.int (Int32.ofNat n)), .val (.ref o8), s9, s10] [])) target := by
  by_cases hc : n < 2
  · have e1 : min n 2 = min n 1 := by omega
    obtain ⟨T', X', e', st'⟩ := tn0_35_47_t s0 s1 s2 (.val (.int (Lv 2))) s4 s5 s6 (Int32.ofNat n) (.val (.ref o8)) s9 s10 X0 hx hZ hw hby hml hown e0 (Jvm.Free.XT.lt32 (b := 2) (by decide) hc)
    rw [e1]
    exact ⟨T', h0, locs, X'.loosen (by omega) (by omega), e', N0, hI, st'⟩
  · have e1 : min n 1 = 1 := by omega
    have e2 : min n 2 = 2 := by omega
    rw [e1] at hI
    rw [e2]
    exact tn0_35_47_f s0 s1 s2 (Lv 2) s4 s5 s6 (Int32.ofNat n) o8 s9 s10 X0 hx hZ hw hby hml hown e0 _ N0 hI hcc hss (Jvm.Free.XT.nlt32 (b := 2) (by omega) (by omega))
set_option maxRecDepth 65536 in
set_option maxHeartbeats 40000000 in
theorem tn0_47_60_t {p : Program} {l : Launch} {e : Env} {R : Room} {s : State} {m : MethodId} {args : Array Value} {below : List Frame} {meth : Method} {c : Code} {T0 : State} {locs : List Loc} {cells slots : Nat} {Z : State} {a0 : Array Value} {h0 : Heap} (s0 : Slot) (s1 : Slot) (s2 : Slot) (s3 : Slot) (s4 : Slot) (s5 : Slot) (s6 : Slot) (i7 : Int32) (s8 : Slot) (s9 : Slot) (s10 : Slot)
    (X0 : Stand p l e R s m args below meth c T0 locs cells slots) (hx : p.tables.exec = Jvm.exec) (hZ : Z.Warmed39 s.vm) (hw : ∀ d ∈ tables_1, d.before a0 Z = true) (hby : c.code = code) (hml : c.maxLocals = 11) (hown : s.vm.findClass "com/example/hale_query/halequery/IntListEndsWithPinLaw" = some m.cls) (e0 : T0.heap = h0) (hc50 : i7 < (3 : Int32)) :
    ∃ (T' : State), Stand p l e R s m args below meth c T' locs cells slots ∧ T'.heap = h0 ∧
      ∀ target, Steps p.tables e below (T'.setTop (mkF m 60 #[s0, s1, s2, s3, s4, s5, s6, .val (.int i7), s8, s9, s10] [])) target → Steps p.tables e below (T0.setTop (mkF m 47 #[s0, s1, s2, s3, s4, s5, s6, .val (.int i7), s8, s9, s10] [])) target := by
  refine ⟨T0, X0, e0, fun target kt => ?_⟩
  show Steps p.tables e below (T0.setTop (mkF m 47 #[s0, s1, s2, s3, s4, s5, s6, .val (.int i7), s8, s9, s10] [])) _
  refine XS.iload X0.here hx rfl (hb hby at_47) rfl ?_
  show Steps p.tables e below (T0.setTop (mkF m 49 #[s0, s1, s2, s3, s4, s5, s6, .val (.int i7), s8, s9, s10] [(.int i7)])) _
  refine XS.iconst X0.here hx rfl (hb hby at_49) ?_
  show Steps p.tables e below (T0.setTop (mkF m 50 #[s0, s1, s2, s3, s4, s5, s6, .val (.int i7), s8, s9, s10] [(.int (3 : Int32)), (.int i7)])) _
  refine XS.icmpYes X0.here hx rfl (pc0 := 50) (pc' := 60) rfl (hb hby at_50) rfl (tlt hc50).1 (by decide) (by decide) ?_
  exact kt
set_option maxRecDepth 65536 in
set_option maxHeartbeats 40000000 in
theorem tn0_47_60_f {p : Program} {l : Launch} {e : Env} {s : State} {m : MethodId} {args : Array Value} {below : List Frame} {meth : Method} {c : Code} {T0 : State} {locs : List Loc} {cells slots : Nat} {Z : State} {a0 : Array Value} {h0 : Heap} {n0 : Nat} (s0 : Slot) (s1 : Slot) (s2 : Slot) (s3 : Slot) (i4 : Int32) (s5 : Slot) (s6 : Slot) (i7 : Int32) (o8 : Addr) (s9 : Slot) (s10 : Slot)
    (X0 : Stand p l e room_1 s m args below meth c T0 locs cells slots) (hx : p.tables.exec = Jvm.exec) (hZ : Z.Warmed39 s.vm) (hw : ∀ d ∈ tables_1, d.before a0 Z = true) (hby : c.code = code) (hml : c.maxLocals = 11) (hown : s.vm.findClass "com/example/hale_query/halequery/IntListEndsWithPinLaw" = some m.cls) (e0 : T0.heap = h0) (x : Int32) (N0 : Fr n0 locs) (hI : IL Z h0 n0 o8 2 x) (hcc : cells + 1 ≤ 16) (hss : slots + 4 ≤ 128) (hc50 : ¬ (i7 < (3 : Int32))) :
    ∃ (T' : State) (h' : Heap) (locs' : List Loc), Stand p l e room_1 s m args below meth c T' locs' (cells + 1) (slots + 4) ∧ T'.heap = h' ∧ Fr n0 locs' ∧ IL Z h' n0 o8 3 i4 ∧
      ∀ target, Steps p.tables e below (T'.setTop (mkF m 60 #[s0, s1, s2, s3, .val (.int i4), s5, s6, .val (.int i7), .val (.ref o8), s9, s10] [])) target → Steps p.tables e below (T0.setTop (mkF m 47 #[s0, s1, s2, s3, .val (.int i4), s5, s6, .val (.int i7), .val (.ref o8), s9, s10] [])) target := by
  obtain ⟨cq7, kq7, q7a, q7b, q7c⟩ := isOf hZ e0 hI.2.1
  obtain ⟨_, _, ⟨T7, L7, k7, n7⟩, -, X7, ⟨Lc7, hQ7, l7, y7, z7⟩, st7⟩ := X0.virtualBack hx (y := (⟨"com/example/hale_query/halequery/IntList", "add", "(I)V"⟩ : MethodName)) (z := (⟨"com/example/hale_query/halequery/IntList", "add", "(I)V"⟩ : MethodName)) hown (mvT hZ (hw _ (List.mem_of_getElem? (i := 12) rfl))) (mvT hZ (hw _ (List.mem_of_getElem? (i := 13) rfl))) (notFace_of_selects (args := #[]) (mvT hZ (hw _ (List.mem_of_getElem? (i := 15) rfl)))) (mvT hZ (hw _ (List.mem_of_getElem? (i := 15) rfl))) (mvT hZ (hw _ (List.mem_of_getElem? (i := 14) rfl))) (by decide) (backOf (W := 0) (rm3 l Z a0 hw [] o8 i4 2 x h0 n0 hI (by decide)) hZ (hw _ (List.mem_of_getElem? (i := 16) rfl)) (hw _ (List.mem_of_getElem? (i := 2) rfl)) (by decide) (by decide)) q7a q7c (g := (mkF m 57 #[s0, s1, s2, s3, .val (.int i4), s5, s6, .val (.int i7), .val (.ref o8), s9, s10] [(.int i4), (.ref o8)])) rfl (by rw [hml]; rfl) (Steps.refl _) (argsL := [(.int i4)]) (rest := []) (lenOf pd_0_0 rfl) rfl (by show 2 * 0 + _ ≤ _; exact Nat.le_of_eq rfl) (hb hby at_57) (fun _ _ => ⟨rfl, e0, (by show cells + 1 ≤ 16; omega), (by show slots + 4 ≤ 128; omega)⟩)
  dsimp only [Pt.U, Pt.locs, Pt.cells, Pt.slots] at X7 l7 y7 z7 st7 hQ7
  subst l7 y7 z7
  obtain ⟨rfl, N7q, I7⟩ := hQ7
  have N7 := Fr.app N0 N7q
  refine ⟨T7, _, _, X7, rfl, N7, I7, fun target kt => ?_⟩
  show Steps p.tables e below (T0.setTop (mkF m 47 #[s0, s1, s2, s3, .val (.int i4), s5, s6, .val (.int i7), .val (.ref o8), s9, s10] [])) _
  refine XS.iload X0.here hx rfl (hb hby at_47) rfl ?_
  show Steps p.tables e below (T0.setTop (mkF m 49 #[s0, s1, s2, s3, .val (.int i4), s5, s6, .val (.int i7), .val (.ref o8), s9, s10] [(.int i7)])) _
  refine XS.iconst X0.here hx rfl (hb hby at_49) ?_
  show Steps p.tables e below (T0.setTop (mkF m 50 #[s0, s1, s2, s3, .val (.int i4), s5, s6, .val (.int i7), .val (.ref o8), s9, s10] [(.int (3 : Int32)), (.int i7)])) _
  refine XS.icmpNo X0.here hx rfl (hb hby at_50) rfl (flt hc50).1 ?_
  show Steps p.tables e below (T0.setTop (mkF m 53 #[s0, s1, s2, s3, .val (.int i4), s5, s6, .val (.int i7), .val (.ref o8), s9, s10] [])) _
  refine XS.aload X0.here hx rfl (hb hby at_53) rfl rfl ?_
  show Steps p.tables e below (T0.setTop (mkF m 55 #[s0, s1, s2, s3, .val (.int i4), s5, s6, .val (.int i7), .val (.ref o8), s9, s10] [(.ref o8)])) _
  refine XS.iload X0.here hx rfl (hb hby at_55) rfl ?_
  show Steps p.tables e below (T0.setTop (mkF m 57 #[s0, s1, s2, s3, .val (.int i4), s5, s6, .val (.int i7), .val (.ref o8), s9, s10] [(.int i4), (.ref o8)])) _
  refine st7.trans ?_
  exact kt
theorem sg3 {p : Program} {l : Launch} {e : Env} {s : State} {m : MethodId} {args : Array Value} {below : List Frame} {meth : Method} {c : Code} {T0 : State} {locs : List Loc} {cells slots : Nat} {Z : State} {a0 : Array Value} {h0 : Heap} {n0 : Nat} (s0 : Slot) (s1 : Slot) (s2 : Slot) (s3 : Slot) (s5 : Slot) (s6 : Slot) (n : Nat) (Lv : Nat → Int32) (o8 : Addr) (s9 : Slot) (s10 : Slot)
    (X0 : Stand p l e room_1 s m args below meth c T0 locs cells slots) (hx : p.tables.exec = Jvm.exec) (hZ : Z.Warmed39 s.vm) (hw : ∀ d ∈ tables_1, d.before a0 Z = true) (hby : c.code = code) (hml : c.maxLocals = 11) (hown : s.vm.findClass "com/example/hale_query/halequery/IntListEndsWithPinLaw" = some m.cls) (e0 : T0.heap = h0) (N0 : Fr n0 locs) (hI : IL Z h0 n0 o8 (min n 2) (Lv (min n 2))) (hn : n ≤ 3) (hcc : cells + 1 ≤ 16) (hss : slots + 4 ≤ 128) :
    ∃ (T' : State) (h' : Heap) (locs' : List Loc), Stand p l e room_1 s m args below meth c T' locs' (cells + 1) (slots + 4) ∧ T'.heap = h' ∧ Fr n0 locs' ∧ IL Z h' n0 o8 (min n 3) (Lv (min n 3)) ∧
      ∀ target, Steps p.tables e below (T'.setTop (mkF m 60 #[s0, s1, s2, s3, .val (.int (Lv 3)), s5, s6, .val (.int (Int32.ofNat n)), .val (.ref o8), s9, s10] [])) target → Steps p.tables e below (T0.setTop (mkF m 47 #[s0, s1, s2, s3, .val (.int (Lv 3)), s5, s6, .val (.int (Int32.ofNat n)), .val (.ref o8), s9, s10] [])) target := by
  by_cases hc : n < 3
  · have e1 : min n 3 = min n 2 := by omega
    obtain ⟨T', X', e', st'⟩ := tn0_47_60_t s0 s1 s2 s3 (.val (.int (Lv 3))) s5 s6 (Int32.ofNat n) (.val (.ref o8)) s9 s10 X0 hx hZ hw hby hml hown e0 (Jvm.Free.XT.lt32 (b := 3) (by decide) hc)
    rw [e1]
    exact ⟨T', h0, locs, X'.loosen (by omega) (by omega), e', N0, hI, st'⟩
  · have e1 : min n 2 = 2 := by omega
    have e2 : min n 3 = 3 := by omega
    rw [e1] at hI
    rw [e2]
    exact tn0_47_60_f s0 s1 s2 s3 (Lv 3) s5 s6 (Int32.ofNat n) o8 s9 s10 X0 hx hZ hw hby hml hown e0 _ N0 hI hcc hss (Jvm.Free.XT.nlt32 (b := 3) (by omega) (by omega))
/-- the law's own word of what endsWith returns -/
def own_exp (n : Nat) (a b c x : Int32) : Int32 := if n = 0 then 0 else if n = 1 then (if a = x then 1 else 0) else if n = 2 then (if b = x then 1 else 0) else (if c = x then 1 else 0)
theorem os0_66_f {s0 : Slot} {s1 : Slot} {s2 : Slot} {s3 : Slot} {s4 : Slot} {s5 : Slot} {s6 : Slot} {z7 : Value} {s8 : Slot} {s9 : Slot} {s10 : Slot} {v : Int32} (h : One s9) : storeLocals #[s0, s1, s2, s3, s4, s5, s6, .val z7, s8, s9, s10] 9 (.int v) = some #[s0, s1, s2, s3, s4, s5, s6, .val z7, s8, .val (.int v), s10] := by
  rcases h with rfl | ⟨w, rfl, hw⟩
  · rfl
  · cases w <;> first | rfl | (simp [Value.category] at hw)
set_option maxRecDepth 65536 in
set_option maxHeartbeats 40000000 in
theorem tn0_60_129_f {p : Program} {l : Launch} {e : Env} {R : Room} {s : State} {m : MethodId} {args : Array Value} {below : List Frame} {meth : Method} {c : Code} {T0 : State} {locs : List Loc} {cells slots : Nat} {Z : State} {a0 : Array Value} {h0 : Heap} (s0 : Slot) (s1 : Slot) (s2 : Slot) (s3 : Slot) (s4 : Slot) (s5 : Slot) (s6 : Slot) (i7 : Int32) (s8 : Slot) (s9 : Slot) (s10 : Slot)
    (X0 : Stand p l e R s m args below meth c T0 locs cells slots) (hx : p.tables.exec = Jvm.exec) (hZ : Z.Warmed39 s.vm) (hw : ∀ d ∈ tables_1, d.before a0 Z = true) (hby : c.code = code) (hml : c.maxLocals = 11) (hown : s.vm.findClass "com/example/hale_query/halequery/IntListEndsWithPinLaw" = some m.cls) (e0 : T0.heap = h0) (hs9 : One s9) (hc62 : i7 = (0 : Int32)) :
    ∃ (T' : State), Stand p l e R s m args below meth c T' locs cells slots ∧ T'.heap = h0 ∧
      ∀ target, Steps p.tables e below (T'.setTop (mkF m 129 #[s0, s1, s2, s3, s4, s5, s6, .val (.int i7), s8, .val (.int (0 : Int32)), s10] [])) target → Steps p.tables e below (T0.setTop (mkF m 60 #[s0, s1, s2, s3, s4, s5, s6, .val (.int i7), s8, s9, s10] [])) target := by
  refine ⟨T0, X0, e0, fun target kt => ?_⟩
  show Steps p.tables e below (T0.setTop (mkF m 60 #[s0, s1, s2, s3, s4, s5, s6, .val (.int i7), s8, s9, s10] [])) _
  refine XS.iload X0.here hx rfl (hb hby at_60) rfl ?_
  show Steps p.tables e below (T0.setTop (mkF m 62 #[s0, s1, s2, s3, s4, s5, s6, .val (.int i7), s8, s9, s10] [(.int i7)])) _
  refine XS.ifNo X0.here hx rfl (hb hby at_62) rfl ((if0 _ _).trans (teq hc62).2) ?_
  show Steps p.tables e below (T0.setTop (mkF m 65 #[s0, s1, s2, s3, s4, s5, s6, .val (.int i7), s8, s9, s10] [])) _
  refine XS.iconst X0.here hx rfl (hb hby at_65) ?_
  show Steps p.tables e below (T0.setTop (mkF m 66 #[s0, s1, s2, s3, s4, s5, s6, .val (.int i7), s8, s9, s10] [(.int (0 : Int32))])) _
  refine XS.istore X0.here hx rfl (hb hby at_66) rfl (l' := #[s0, s1, s2, s3, s4, s5, s6, .val (.int i7), s8, .val (.int (0 : Int32)), s10]) (os0_66_f hs9) ?_
  show Steps p.tables e below (T0.setTop (mkF m 68 #[s0, s1, s2, s3, s4, s5, s6, .val (.int i7), s8, .val (.int (0 : Int32)), s10] [])) _
  refine XS.goto X0.here hx rfl (pc0 := 68) (pc' := 129) rfl (hb hby at_68) (by decide) (by decide) ?_
  exact kt
theorem os0_88_tff {s0 : Slot} {s1 : Slot} {z2 : Value} {s3 : Slot} {s4 : Slot} {z5 : Value} {s6 : Slot} {z7 : Value} {s8 : Slot} {s9 : Slot} {s10 : Slot} {v : Int32} (h : One s9) : storeLocals #[s0, s1, .val z2, s3, s4, .val z5, s6, .val z7, s8, s9, s10] 9 (.int v) = some #[s0, s1, .val z2, s3, s4, .val z5, s6, .val z7, s8, .val (.int v), s10] := by
  rcases h with rfl | ⟨w, rfl, hw⟩
  · rfl
  · cases w <;> first | rfl | (simp [Value.category] at hw)
set_option maxRecDepth 65536 in
set_option maxHeartbeats 40000000 in
theorem tn0_60_129_tff {p : Program} {l : Launch} {e : Env} {R : Room} {s : State} {m : MethodId} {args : Array Value} {below : List Frame} {meth : Method} {c : Code} {T0 : State} {locs : List Loc} {cells slots : Nat} {Z : State} {a0 : Array Value} {h0 : Heap} (s0 : Slot) (s1 : Slot) (i2 : Int32) (s3 : Slot) (s4 : Slot) (i5 : Int32) (s6 : Slot) (i7 : Int32) (s8 : Slot) (s9 : Slot) (s10 : Slot)
    (X0 : Stand p l e R s m args below meth c T0 locs cells slots) (hx : p.tables.exec = Jvm.exec) (hZ : Z.Warmed39 s.vm) (hw : ∀ d ∈ tables_1, d.before a0 Z = true) (hby : c.code = code) (hml : c.maxLocals = 11) (hown : s.vm.findClass "com/example/hale_query/halequery/IntListEndsWithPinLaw" = some m.cls) (e0 : T0.heap = h0) (hs9 : One s9) (hc62 : ¬ (i7 = (0 : Int32))) (hc74 : i7 = (1 : Int32)) (hc80 : i2 = i5) :
    ∃ (T' : State), Stand p l e R s m args below meth c T' locs cells slots ∧ T'.heap = h0 ∧
      ∀ target, Steps p.tables e below (T'.setTop (mkF m 129 #[s0, s1, .val (.int i2), s3, s4, .val (.int i5), s6, .val (.int i7), s8, .val (.int (1 : Int32)), s10] [])) target → Steps p.tables e below (T0.setTop (mkF m 60 #[s0, s1, .val (.int i2), s3, s4, .val (.int i5), s6, .val (.int i7), s8, s9, s10] [])) target := by
  refine ⟨T0, X0, e0, fun target kt => ?_⟩
  show Steps p.tables e below (T0.setTop (mkF m 60 #[s0, s1, .val (.int i2), s3, s4, .val (.int i5), s6, .val (.int i7), s8, s9, s10] [])) _
  refine XS.iload X0.here hx rfl (hb hby at_60) rfl ?_
  show Steps p.tables e below (T0.setTop (mkF m 62 #[s0, s1, .val (.int i2), s3, s4, .val (.int i5), s6, .val (.int i7), s8, s9, s10] [(.int i7)])) _
  refine XS.ifYes X0.here hx rfl (pc0 := 62) (pc' := 71) rfl (hb hby at_62) rfl ((if0 _ _).trans (feq hc62).2) (by decide) (by decide) ?_
  show Steps p.tables e below (T0.setTop (mkF m 71 #[s0, s1, .val (.int i2), s3, s4, .val (.int i5), s6, .val (.int i7), s8, s9, s10] [])) _
  refine XS.iload X0.here hx rfl (hb hby at_71) rfl ?_
  show Steps p.tables e below (T0.setTop (mkF m 73 #[s0, s1, .val (.int i2), s3, s4, .val (.int i5), s6, .val (.int i7), s8, s9, s10] [(.int i7)])) _
  refine XS.iconst X0.here hx rfl (hb hby at_73) ?_
  show Steps p.tables e below (T0.setTop (mkF m 74 #[s0, s1, .val (.int i2), s3, s4, .val (.int i5), s6, .val (.int i7), s8, s9, s10] [(.int (1 : Int32)), (.int i7)])) _
  refine XS.icmpNo X0.here hx rfl (hb hby at_74) rfl (teq hc74).2 ?_
  show Steps p.tables e below (T0.setTop (mkF m 77 #[s0, s1, .val (.int i2), s3, s4, .val (.int i5), s6, .val (.int i7), s8, s9, s10] [])) _
  refine XS.iloadN X0.here hx rfl (hb hby at_77) rfl ?_
  show Steps p.tables e below (T0.setTop (mkF m 78 #[s0, s1, .val (.int i2), s3, s4, .val (.int i5), s6, .val (.int i7), s8, s9, s10] [(.int i2)])) _
  refine XS.iload X0.here hx rfl (hb hby at_78) rfl ?_
  show Steps p.tables e below (T0.setTop (mkF m 80 #[s0, s1, .val (.int i2), s3, s4, .val (.int i5), s6, .val (.int i7), s8, s9, s10] [(.int i5), (.int i2)])) _
  refine XS.icmpNo X0.here hx rfl (hb hby at_80) rfl (teq hc80).2 ?_
  show Steps p.tables e below (T0.setTop (mkF m 83 #[s0, s1, .val (.int i2), s3, s4, .val (.int i5), s6, .val (.int i7), s8, s9, s10] [])) _
  refine XS.iconst X0.here hx rfl (hb hby at_83) ?_
  show Steps p.tables e below (T0.setTop (mkF m 84 #[s0, s1, .val (.int i2), s3, s4, .val (.int i5), s6, .val (.int i7), s8, s9, s10] [(.int (1 : Int32))])) _
  refine XS.goto X0.here hx rfl (pc0 := 84) (pc' := 88) rfl (hb hby at_84) (by decide) (by decide) ?_
  show Steps p.tables e below (T0.setTop (mkF m 88 #[s0, s1, .val (.int i2), s3, s4, .val (.int i5), s6, .val (.int i7), s8, s9, s10] [(.int (1 : Int32))])) _
  refine XS.istore X0.here hx rfl (hb hby at_88) rfl (l' := #[s0, s1, .val (.int i2), s3, s4, .val (.int i5), s6, .val (.int i7), s8, .val (.int (1 : Int32)), s10]) (os0_88_tff hs9) ?_
  show Steps p.tables e below (T0.setTop (mkF m 90 #[s0, s1, .val (.int i2), s3, s4, .val (.int i5), s6, .val (.int i7), s8, .val (.int (1 : Int32)), s10] [])) _
  refine XS.goto X0.here hx rfl (pc0 := 90) (pc' := 129) rfl (hb hby at_90) (by decide) (by decide) ?_
  exact kt
theorem os0_88_tft {s0 : Slot} {s1 : Slot} {z2 : Value} {s3 : Slot} {s4 : Slot} {z5 : Value} {s6 : Slot} {z7 : Value} {s8 : Slot} {s9 : Slot} {s10 : Slot} {v : Int32} (h : One s9) : storeLocals #[s0, s1, .val z2, s3, s4, .val z5, s6, .val z7, s8, s9, s10] 9 (.int v) = some #[s0, s1, .val z2, s3, s4, .val z5, s6, .val z7, s8, .val (.int v), s10] := by
  rcases h with rfl | ⟨w, rfl, hw⟩
  · rfl
  · cases w <;> first | rfl | (simp [Value.category] at hw)
set_option maxRecDepth 65536 in
set_option maxHeartbeats 40000000 in
theorem tn0_60_129_tft {p : Program} {l : Launch} {e : Env} {R : Room} {s : State} {m : MethodId} {args : Array Value} {below : List Frame} {meth : Method} {c : Code} {T0 : State} {locs : List Loc} {cells slots : Nat} {Z : State} {a0 : Array Value} {h0 : Heap} (s0 : Slot) (s1 : Slot) (i2 : Int32) (s3 : Slot) (s4 : Slot) (i5 : Int32) (s6 : Slot) (i7 : Int32) (s8 : Slot) (s9 : Slot) (s10 : Slot)
    (X0 : Stand p l e R s m args below meth c T0 locs cells slots) (hx : p.tables.exec = Jvm.exec) (hZ : Z.Warmed39 s.vm) (hw : ∀ d ∈ tables_1, d.before a0 Z = true) (hby : c.code = code) (hml : c.maxLocals = 11) (hown : s.vm.findClass "com/example/hale_query/halequery/IntListEndsWithPinLaw" = some m.cls) (e0 : T0.heap = h0) (hs9 : One s9) (hc62 : ¬ (i7 = (0 : Int32))) (hc74 : i7 = (1 : Int32)) (hc80 : ¬ (i2 = i5)) :
    ∃ (T' : State), Stand p l e R s m args below meth c T' locs cells slots ∧ T'.heap = h0 ∧
      ∀ target, Steps p.tables e below (T'.setTop (mkF m 129 #[s0, s1, .val (.int i2), s3, s4, .val (.int i5), s6, .val (.int i7), s8, .val (.int (0 : Int32)), s10] [])) target → Steps p.tables e below (T0.setTop (mkF m 60 #[s0, s1, .val (.int i2), s3, s4, .val (.int i5), s6, .val (.int i7), s8, s9, s10] [])) target := by
  refine ⟨T0, X0, e0, fun target kt => ?_⟩
  show Steps p.tables e below (T0.setTop (mkF m 60 #[s0, s1, .val (.int i2), s3, s4, .val (.int i5), s6, .val (.int i7), s8, s9, s10] [])) _
  refine XS.iload X0.here hx rfl (hb hby at_60) rfl ?_
  show Steps p.tables e below (T0.setTop (mkF m 62 #[s0, s1, .val (.int i2), s3, s4, .val (.int i5), s6, .val (.int i7), s8, s9, s10] [(.int i7)])) _
  refine XS.ifYes X0.here hx rfl (pc0 := 62) (pc' := 71) rfl (hb hby at_62) rfl ((if0 _ _).trans (feq hc62).2) (by decide) (by decide) ?_
  show Steps p.tables e below (T0.setTop (mkF m 71 #[s0, s1, .val (.int i2), s3, s4, .val (.int i5), s6, .val (.int i7), s8, s9, s10] [])) _
  refine XS.iload X0.here hx rfl (hb hby at_71) rfl ?_
  show Steps p.tables e below (T0.setTop (mkF m 73 #[s0, s1, .val (.int i2), s3, s4, .val (.int i5), s6, .val (.int i7), s8, s9, s10] [(.int i7)])) _
  refine XS.iconst X0.here hx rfl (hb hby at_73) ?_
  show Steps p.tables e below (T0.setTop (mkF m 74 #[s0, s1, .val (.int i2), s3, s4, .val (.int i5), s6, .val (.int i7), s8, s9, s10] [(.int (1 : Int32)), (.int i7)])) _
  refine XS.icmpNo X0.here hx rfl (hb hby at_74) rfl (teq hc74).2 ?_
  show Steps p.tables e below (T0.setTop (mkF m 77 #[s0, s1, .val (.int i2), s3, s4, .val (.int i5), s6, .val (.int i7), s8, s9, s10] [])) _
  refine XS.iloadN X0.here hx rfl (hb hby at_77) rfl ?_
  show Steps p.tables e below (T0.setTop (mkF m 78 #[s0, s1, .val (.int i2), s3, s4, .val (.int i5), s6, .val (.int i7), s8, s9, s10] [(.int i2)])) _
  refine XS.iload X0.here hx rfl (hb hby at_78) rfl ?_
  show Steps p.tables e below (T0.setTop (mkF m 80 #[s0, s1, .val (.int i2), s3, s4, .val (.int i5), s6, .val (.int i7), s8, s9, s10] [(.int i5), (.int i2)])) _
  refine XS.icmpYes X0.here hx rfl (pc0 := 80) (pc' := 87) rfl (hb hby at_80) rfl (feq hc80).2 (by decide) (by decide) ?_
  show Steps p.tables e below (T0.setTop (mkF m 87 #[s0, s1, .val (.int i2), s3, s4, .val (.int i5), s6, .val (.int i7), s8, s9, s10] [])) _
  refine XS.iconst X0.here hx rfl (hb hby at_87) ?_
  show Steps p.tables e below (T0.setTop (mkF m 88 #[s0, s1, .val (.int i2), s3, s4, .val (.int i5), s6, .val (.int i7), s8, s9, s10] [(.int (0 : Int32))])) _
  refine XS.istore X0.here hx rfl (hb hby at_88) rfl (l' := #[s0, s1, .val (.int i2), s3, s4, .val (.int i5), s6, .val (.int i7), s8, .val (.int (0 : Int32)), s10]) (os0_88_tft hs9) ?_
  show Steps p.tables e below (T0.setTop (mkF m 90 #[s0, s1, .val (.int i2), s3, s4, .val (.int i5), s6, .val (.int i7), s8, .val (.int (0 : Int32)), s10] [])) _
  refine XS.goto X0.here hx rfl (pc0 := 90) (pc' := 129) rfl (hb hby at_90) (by decide) (by decide) ?_
  exact kt
theorem os0_110_ttff {s0 : Slot} {s1 : Slot} {s2 : Slot} {z3 : Value} {s4 : Slot} {z5 : Value} {s6 : Slot} {z7 : Value} {s8 : Slot} {s9 : Slot} {s10 : Slot} {v : Int32} (h : One s9) : storeLocals #[s0, s1, s2, .val z3, s4, .val z5, s6, .val z7, s8, s9, s10] 9 (.int v) = some #[s0, s1, s2, .val z3, s4, .val z5, s6, .val z7, s8, .val (.int v), s10] := by
  rcases h with rfl | ⟨w, rfl, hw⟩
  · rfl
  · cases w <;> first | rfl | (simp [Value.category] at hw)
set_option maxRecDepth 65536 in
set_option maxHeartbeats 40000000 in
theorem tn0_60_129_ttff {p : Program} {l : Launch} {e : Env} {R : Room} {s : State} {m : MethodId} {args : Array Value} {below : List Frame} {meth : Method} {c : Code} {T0 : State} {locs : List Loc} {cells slots : Nat} {Z : State} {a0 : Array Value} {h0 : Heap} (s0 : Slot) (s1 : Slot) (s2 : Slot) (i3 : Int32) (s4 : Slot) (i5 : Int32) (s6 : Slot) (i7 : Int32) (s8 : Slot) (s9 : Slot) (s10 : Slot)
    (X0 : Stand p l e R s m args below meth c T0 locs cells slots) (hx : p.tables.exec = Jvm.exec) (hZ : Z.Warmed39 s.vm) (hw : ∀ d ∈ tables_1, d.before a0 Z = true) (hby : c.code = code) (hml : c.maxLocals = 11) (hown : s.vm.findClass "com/example/hale_query/halequery/IntListEndsWithPinLaw" = some m.cls) (e0 : T0.heap = h0) (hs9 : One s9) (hc62 : ¬ (i7 = (0 : Int32))) (hc74 : ¬ (i7 = (1 : Int32))) (hc96 : i7 = (2 : Int32)) (hc102 : i3 = i5) :
    ∃ (T' : State), Stand p l e R s m args below meth c T' locs cells slots ∧ T'.heap = h0 ∧
      ∀ target, Steps p.tables e below (T'.setTop (mkF m 129 #[s0, s1, s2, .val (.int i3), s4, .val (.int i5), s6, .val (.int i7), s8, .val (.int (1 : Int32)), s10] [])) target → Steps p.tables e below (T0.setTop (mkF m 60 #[s0, s1, s2, .val (.int i3), s4, .val (.int i5), s6, .val (.int i7), s8, s9, s10] [])) target := by
  refine ⟨T0, X0, e0, fun target kt => ?_⟩
  show Steps p.tables e below (T0.setTop (mkF m 60 #[s0, s1, s2, .val (.int i3), s4, .val (.int i5), s6, .val (.int i7), s8, s9, s10] [])) _
  refine XS.iload X0.here hx rfl (hb hby at_60) rfl ?_
  show Steps p.tables e below (T0.setTop (mkF m 62 #[s0, s1, s2, .val (.int i3), s4, .val (.int i5), s6, .val (.int i7), s8, s9, s10] [(.int i7)])) _
  refine XS.ifYes X0.here hx rfl (pc0 := 62) (pc' := 71) rfl (hb hby at_62) rfl ((if0 _ _).trans (feq hc62).2) (by decide) (by decide) ?_
  show Steps p.tables e below (T0.setTop (mkF m 71 #[s0, s1, s2, .val (.int i3), s4, .val (.int i5), s6, .val (.int i7), s8, s9, s10] [])) _
  refine XS.iload X0.here hx rfl (hb hby at_71) rfl ?_
  show Steps p.tables e below (T0.setTop (mkF m 73 #[s0, s1, s2, .val (.int i3), s4, .val (.int i5), s6, .val (.int i7), s8, s9, s10] [(.int i7)])) _
  refine XS.iconst X0.here hx rfl (hb hby at_73) ?_
  show Steps p.tables e below (T0.setTop (mkF m 74 #[s0, s1, s2, .val (.int i3), s4, .val (.int i5), s6, .val (.int i7), s8, s9, s10] [(.int (1 : Int32)), (.int i7)])) _
  refine XS.icmpYes X0.here hx rfl (pc0 := 74) (pc' := 93) rfl (hb hby at_74) rfl (feq hc74).2 (by decide) (by decide) ?_
  show Steps p.tables e below (T0.setTop (mkF m 93 #[s0, s1, s2, .val (.int i3), s4, .val (.int i5), s6, .val (.int i7), s8, s9, s10] [])) _
  refine XS.iload X0.here hx rfl (hb hby at_93) rfl ?_
  show Steps p.tables e below (T0.setTop (mkF m 95 #[s0, s1, s2, .val (.int i3), s4, .val (.int i5), s6, .val (.int i7), s8, s9, s10] [(.int i7)])) _
  refine XS.iconst X0.here hx rfl (hb hby at_95) ?_
  show Steps p.tables e below (T0.setTop (mkF m 96 #[s0, s1, s2, .val (.int i3), s4, .val (.int i5), s6, .val (.int i7), s8, s9, s10] [(.int (2 : Int32)), (.int i7)])) _
  refine XS.icmpNo X0.here hx rfl (hb hby at_96) rfl (teq hc96).2 ?_
  show Steps p.tables e below (T0.setTop (mkF m 99 #[s0, s1, s2, .val (.int i3), s4, .val (.int i5), s6, .val (.int i7), s8, s9, s10] [])) _
  refine XS.iloadN X0.here hx rfl (hb hby at_99) rfl ?_
  show Steps p.tables e below (T0.setTop (mkF m 100 #[s0, s1, s2, .val (.int i3), s4, .val (.int i5), s6, .val (.int i7), s8, s9, s10] [(.int i3)])) _
  refine XS.iload X0.here hx rfl (hb hby at_100) rfl ?_
  show Steps p.tables e below (T0.setTop (mkF m 102 #[s0, s1, s2, .val (.int i3), s4, .val (.int i5), s6, .val (.int i7), s8, s9, s10] [(.int i5), (.int i3)])) _
  refine XS.icmpNo X0.here hx rfl (hb hby at_102) rfl (teq hc102).2 ?_
  show Steps p.tables e below (T0.setTop (mkF m 105 #[s0, s1, s2, .val (.int i3), s4, .val (.int i5), s6, .val (.int i7), s8, s9, s10] [])) _
  refine XS.iconst X0.here hx rfl (hb hby at_105) ?_
  show Steps p.tables e below (T0.setTop (mkF m 106 #[s0, s1, s2, .val (.int i3), s4, .val (.int i5), s6, .val (.int i7), s8, s9, s10] [(.int (1 : Int32))])) _
  refine XS.goto X0.here hx rfl (pc0 := 106) (pc' := 110) rfl (hb hby at_106) (by decide) (by decide) ?_
  show Steps p.tables e below (T0.setTop (mkF m 110 #[s0, s1, s2, .val (.int i3), s4, .val (.int i5), s6, .val (.int i7), s8, s9, s10] [(.int (1 : Int32))])) _
  refine XS.istore X0.here hx rfl (hb hby at_110) rfl (l' := #[s0, s1, s2, .val (.int i3), s4, .val (.int i5), s6, .val (.int i7), s8, .val (.int (1 : Int32)), s10]) (os0_110_ttff hs9) ?_
  show Steps p.tables e below (T0.setTop (mkF m 112 #[s0, s1, s2, .val (.int i3), s4, .val (.int i5), s6, .val (.int i7), s8, .val (.int (1 : Int32)), s10] [])) _
  refine XS.goto X0.here hx rfl (pc0 := 112) (pc' := 129) rfl (hb hby at_112) (by decide) (by decide) ?_
  exact kt
theorem os0_110_ttft {s0 : Slot} {s1 : Slot} {s2 : Slot} {z3 : Value} {s4 : Slot} {z5 : Value} {s6 : Slot} {z7 : Value} {s8 : Slot} {s9 : Slot} {s10 : Slot} {v : Int32} (h : One s9) : storeLocals #[s0, s1, s2, .val z3, s4, .val z5, s6, .val z7, s8, s9, s10] 9 (.int v) = some #[s0, s1, s2, .val z3, s4, .val z5, s6, .val z7, s8, .val (.int v), s10] := by
  rcases h with rfl | ⟨w, rfl, hw⟩
  · rfl
  · cases w <;> first | rfl | (simp [Value.category] at hw)
set_option maxRecDepth 65536 in
set_option maxHeartbeats 40000000 in
theorem tn0_60_129_ttft {p : Program} {l : Launch} {e : Env} {R : Room} {s : State} {m : MethodId} {args : Array Value} {below : List Frame} {meth : Method} {c : Code} {T0 : State} {locs : List Loc} {cells slots : Nat} {Z : State} {a0 : Array Value} {h0 : Heap} (s0 : Slot) (s1 : Slot) (s2 : Slot) (i3 : Int32) (s4 : Slot) (i5 : Int32) (s6 : Slot) (i7 : Int32) (s8 : Slot) (s9 : Slot) (s10 : Slot)
    (X0 : Stand p l e R s m args below meth c T0 locs cells slots) (hx : p.tables.exec = Jvm.exec) (hZ : Z.Warmed39 s.vm) (hw : ∀ d ∈ tables_1, d.before a0 Z = true) (hby : c.code = code) (hml : c.maxLocals = 11) (hown : s.vm.findClass "com/example/hale_query/halequery/IntListEndsWithPinLaw" = some m.cls) (e0 : T0.heap = h0) (hs9 : One s9) (hc62 : ¬ (i7 = (0 : Int32))) (hc74 : ¬ (i7 = (1 : Int32))) (hc96 : i7 = (2 : Int32)) (hc102 : ¬ (i3 = i5)) :
    ∃ (T' : State), Stand p l e R s m args below meth c T' locs cells slots ∧ T'.heap = h0 ∧
      ∀ target, Steps p.tables e below (T'.setTop (mkF m 129 #[s0, s1, s2, .val (.int i3), s4, .val (.int i5), s6, .val (.int i7), s8, .val (.int (0 : Int32)), s10] [])) target → Steps p.tables e below (T0.setTop (mkF m 60 #[s0, s1, s2, .val (.int i3), s4, .val (.int i5), s6, .val (.int i7), s8, s9, s10] [])) target := by
  refine ⟨T0, X0, e0, fun target kt => ?_⟩
  show Steps p.tables e below (T0.setTop (mkF m 60 #[s0, s1, s2, .val (.int i3), s4, .val (.int i5), s6, .val (.int i7), s8, s9, s10] [])) _
  refine XS.iload X0.here hx rfl (hb hby at_60) rfl ?_
  show Steps p.tables e below (T0.setTop (mkF m 62 #[s0, s1, s2, .val (.int i3), s4, .val (.int i5), s6, .val (.int i7), s8, s9, s10] [(.int i7)])) _
  refine XS.ifYes X0.here hx rfl (pc0 := 62) (pc' := 71) rfl (hb hby at_62) rfl ((if0 _ _).trans (feq hc62).2) (by decide) (by decide) ?_
  show Steps p.tables e below (T0.setTop (mkF m 71 #[s0, s1, s2, .val (.int i3), s4, .val (.int i5), s6, .val (.int i7), s8, s9, s10] [])) _
  refine XS.iload X0.here hx rfl (hb hby at_71) rfl ?_
  show Steps p.tables e below (T0.setTop (mkF m 73 #[s0, s1, s2, .val (.int i3), s4, .val (.int i5), s6, .val (.int i7), s8, s9, s10] [(.int i7)])) _
  refine XS.iconst X0.here hx rfl (hb hby at_73) ?_
  show Steps p.tables e below (T0.setTop (mkF m 74 #[s0, s1, s2, .val (.int i3), s4, .val (.int i5), s6, .val (.int i7), s8, s9, s10] [(.int (1 : Int32)), (.int i7)])) _
  refine XS.icmpYes X0.here hx rfl (pc0 := 74) (pc' := 93) rfl (hb hby at_74) rfl (feq hc74).2 (by decide) (by decide) ?_
  show Steps p.tables e below (T0.setTop (mkF m 93 #[s0, s1, s2, .val (.int i3), s4, .val (.int i5), s6, .val (.int i7), s8, s9, s10] [])) _
  refine XS.iload X0.here hx rfl (hb hby at_93) rfl ?_
  show Steps p.tables e below (T0.setTop (mkF m 95 #[s0, s1, s2, .val (.int i3), s4, .val (.int i5), s6, .val (.int i7), s8, s9, s10] [(.int i7)])) _
  refine XS.iconst X0.here hx rfl (hb hby at_95) ?_
  show Steps p.tables e below (T0.setTop (mkF m 96 #[s0, s1, s2, .val (.int i3), s4, .val (.int i5), s6, .val (.int i7), s8, s9, s10] [(.int (2 : Int32)), (.int i7)])) _
  refine XS.icmpNo X0.here hx rfl (hb hby at_96) rfl (teq hc96).2 ?_
  show Steps p.tables e below (T0.setTop (mkF m 99 #[s0, s1, s2, .val (.int i3), s4, .val (.int i5), s6, .val (.int i7), s8, s9, s10] [])) _
  refine XS.iloadN X0.here hx rfl (hb hby at_99) rfl ?_
  show Steps p.tables e below (T0.setTop (mkF m 100 #[s0, s1, s2, .val (.int i3), s4, .val (.int i5), s6, .val (.int i7), s8, s9, s10] [(.int i3)])) _
  refine XS.iload X0.here hx rfl (hb hby at_100) rfl ?_
  show Steps p.tables e below (T0.setTop (mkF m 102 #[s0, s1, s2, .val (.int i3), s4, .val (.int i5), s6, .val (.int i7), s8, s9, s10] [(.int i5), (.int i3)])) _
  refine XS.icmpYes X0.here hx rfl (pc0 := 102) (pc' := 109) rfl (hb hby at_102) rfl (feq hc102).2 (by decide) (by decide) ?_
  show Steps p.tables e below (T0.setTop (mkF m 109 #[s0, s1, s2, .val (.int i3), s4, .val (.int i5), s6, .val (.int i7), s8, s9, s10] [])) _
  refine XS.iconst X0.here hx rfl (hb hby at_109) ?_
  show Steps p.tables e below (T0.setTop (mkF m 110 #[s0, s1, s2, .val (.int i3), s4, .val (.int i5), s6, .val (.int i7), s8, s9, s10] [(.int (0 : Int32))])) _
  refine XS.istore X0.here hx rfl (hb hby at_110) rfl (l' := #[s0, s1, s2, .val (.int i3), s4, .val (.int i5), s6, .val (.int i7), s8, .val (.int (0 : Int32)), s10]) (os0_110_ttft hs9) ?_
  show Steps p.tables e below (T0.setTop (mkF m 112 #[s0, s1, s2, .val (.int i3), s4, .val (.int i5), s6, .val (.int i7), s8, .val (.int (0 : Int32)), s10] [])) _
  refine XS.goto X0.here hx rfl (pc0 := 112) (pc' := 129) rfl (hb hby at_112) (by decide) (by decide) ?_
  exact kt
theorem os0_127_tttf {s0 : Slot} {s1 : Slot} {s2 : Slot} {s3 : Slot} {z4 : Value} {z5 : Value} {s6 : Slot} {z7 : Value} {s8 : Slot} {s9 : Slot} {s10 : Slot} {v : Int32} (h : One s9) : storeLocals #[s0, s1, s2, s3, .val z4, .val z5, s6, .val z7, s8, s9, s10] 9 (.int v) = some #[s0, s1, s2, s3, .val z4, .val z5, s6, .val z7, s8, .val (.int v), s10] := by
  rcases h with rfl | ⟨w, rfl, hw⟩
  · rfl
  · cases w <;> first | rfl | (simp [Value.category] at hw)
set_option maxRecDepth 65536 in
set_option maxHeartbeats 40000000 in
theorem tn0_60_129_tttf {p : Program} {l : Launch} {e : Env} {R : Room} {s : State} {m : MethodId} {args : Array Value} {below : List Frame} {meth : Method} {c : Code} {T0 : State} {locs : List Loc} {cells slots : Nat} {Z : State} {a0 : Array Value} {h0 : Heap} (s0 : Slot) (s1 : Slot) (s2 : Slot) (s3 : Slot) (i4 : Int32) (i5 : Int32) (s6 : Slot) (i7 : Int32) (s8 : Slot) (s9 : Slot) (s10 : Slot)
    (X0 : Stand p l e R s m args below meth c T0 locs cells slots) (hx : p.tables.exec = Jvm.exec) (hZ : Z.Warmed39 s.vm) (hw : ∀ d ∈ tables_1, d.before a0 Z = true) (hby : c.code = code) (hml : c.maxLocals = 11) (hown : s.vm.findClass "com/example/hale_query/halequery/IntListEndsWithPinLaw" = some m.cls) (e0 : T0.heap = h0) (hs9 : One s9) (hc62 : ¬ (i7 = (0 : Int32))) (hc74 : ¬ (i7 = (1 : Int32))) (hc96 : ¬ (i7 = (2 : Int32))) (hc119 : i4 = i5) :
    ∃ (T' : State), Stand p l e R s m args below meth c T' locs cells slots ∧ T'.heap = h0 ∧
      ∀ target, Steps p.tables e below (T'.setTop (mkF m 129 #[s0, s1, s2, s3, .val (.int i4), .val (.int i5), s6, .val (.int i7), s8, .val (.int (1 : Int32)), s10] [])) target → Steps p.tables e below (T0.setTop (mkF m 60 #[s0, s1, s2, s3, .val (.int i4), .val (.int i5), s6, .val (.int i7), s8, s9, s10] [])) target := by
  refine ⟨T0, X0, e0, fun target kt => ?_⟩
  show Steps p.tables e below (T0.setTop (mkF m 60 #[s0, s1, s2, s3, .val (.int i4), .val (.int i5), s6, .val (.int i7), s8, s9, s10] [])) _
  refine XS.iload X0.here hx rfl (hb hby at_60) rfl ?_
  show Steps p.tables e below (T0.setTop (mkF m 62 #[s0, s1, s2, s3, .val (.int i4), .val (.int i5), s6, .val (.int i7), s8, s9, s10] [(.int i7)])) _
  refine XS.ifYes X0.here hx rfl (pc0 := 62) (pc' := 71) rfl (hb hby at_62) rfl ((if0 _ _).trans (feq hc62).2) (by decide) (by decide) ?_
  show Steps p.tables e below (T0.setTop (mkF m 71 #[s0, s1, s2, s3, .val (.int i4), .val (.int i5), s6, .val (.int i7), s8, s9, s10] [])) _
  refine XS.iload X0.here hx rfl (hb hby at_71) rfl ?_
  show Steps p.tables e below (T0.setTop (mkF m 73 #[s0, s1, s2, s3, .val (.int i4), .val (.int i5), s6, .val (.int i7), s8, s9, s10] [(.int i7)])) _
  refine XS.iconst X0.here hx rfl (hb hby at_73) ?_
  show Steps p.tables e below (T0.setTop (mkF m 74 #[s0, s1, s2, s3, .val (.int i4), .val (.int i5), s6, .val (.int i7), s8, s9, s10] [(.int (1 : Int32)), (.int i7)])) _
  refine XS.icmpYes X0.here hx rfl (pc0 := 74) (pc' := 93) rfl (hb hby at_74) rfl (feq hc74).2 (by decide) (by decide) ?_
  show Steps p.tables e below (T0.setTop (mkF m 93 #[s0, s1, s2, s3, .val (.int i4), .val (.int i5), s6, .val (.int i7), s8, s9, s10] [])) _
  refine XS.iload X0.here hx rfl (hb hby at_93) rfl ?_
  show Steps p.tables e below (T0.setTop (mkF m 95 #[s0, s1, s2, s3, .val (.int i4), .val (.int i5), s6, .val (.int i7), s8, s9, s10] [(.int i7)])) _
  refine XS.iconst X0.here hx rfl (hb hby at_95) ?_
  show Steps p.tables e below (T0.setTop (mkF m 96 #[s0, s1, s2, s3, .val (.int i4), .val (.int i5), s6, .val (.int i7), s8, s9, s10] [(.int (2 : Int32)), (.int i7)])) _
  refine XS.icmpYes X0.here hx rfl (pc0 := 96) (pc' := 115) rfl (hb hby at_96) rfl (feq hc96).2 (by decide) (by decide) ?_
  show Steps p.tables e below (T0.setTop (mkF m 115 #[s0, s1, s2, s3, .val (.int i4), .val (.int i5), s6, .val (.int i7), s8, s9, s10] [])) _
  refine XS.iload X0.here hx rfl (hb hby at_115) rfl ?_
  show Steps p.tables e below (T0.setTop (mkF m 117 #[s0, s1, s2, s3, .val (.int i4), .val (.int i5), s6, .val (.int i7), s8, s9, s10] [(.int i4)])) _
  refine XS.iload X0.here hx rfl (hb hby at_117) rfl ?_
  show Steps p.tables e below (T0.setTop (mkF m 119 #[s0, s1, s2, s3, .val (.int i4), .val (.int i5), s6, .val (.int i7), s8, s9, s10] [(.int i5), (.int i4)])) _
  refine XS.icmpNo X0.here hx rfl (hb hby at_119) rfl (teq hc119).2 ?_
  show Steps p.tables e below (T0.setTop (mkF m 122 #[s0, s1, s2, s3, .val (.int i4), .val (.int i5), s6, .val (.int i7), s8, s9, s10] [])) _
  refine XS.iconst X0.here hx rfl (hb hby at_122) ?_
  show Steps p.tables e below (T0.setTop (mkF m 123 #[s0, s1, s2, s3, .val (.int i4), .val (.int i5), s6, .val (.int i7), s8, s9, s10] [(.int (1 : Int32))])) _
  refine XS.goto X0.here hx rfl (pc0 := 123) (pc' := 127) rfl (hb hby at_123) (by decide) (by decide) ?_
  show Steps p.tables e below (T0.setTop (mkF m 127 #[s0, s1, s2, s3, .val (.int i4), .val (.int i5), s6, .val (.int i7), s8, s9, s10] [(.int (1 : Int32))])) _
  refine XS.istore X0.here hx rfl (hb hby at_127) rfl (l' := #[s0, s1, s2, s3, .val (.int i4), .val (.int i5), s6, .val (.int i7), s8, .val (.int (1 : Int32)), s10]) (os0_127_tttf hs9) ?_
  exact kt
theorem os0_127_tttt {s0 : Slot} {s1 : Slot} {s2 : Slot} {s3 : Slot} {z4 : Value} {z5 : Value} {s6 : Slot} {z7 : Value} {s8 : Slot} {s9 : Slot} {s10 : Slot} {v : Int32} (h : One s9) : storeLocals #[s0, s1, s2, s3, .val z4, .val z5, s6, .val z7, s8, s9, s10] 9 (.int v) = some #[s0, s1, s2, s3, .val z4, .val z5, s6, .val z7, s8, .val (.int v), s10] := by
  rcases h with rfl | ⟨w, rfl, hw⟩
  · rfl
  · cases w <;> first | rfl | (simp [Value.category] at hw)
set_option maxRecDepth 65536 in
set_option maxHeartbeats 40000000 in
theorem tn0_60_129_tttt {p : Program} {l : Launch} {e : Env} {R : Room} {s : State} {m : MethodId} {args : Array Value} {below : List Frame} {meth : Method} {c : Code} {T0 : State} {locs : List Loc} {cells slots : Nat} {Z : State} {a0 : Array Value} {h0 : Heap} (s0 : Slot) (s1 : Slot) (s2 : Slot) (s3 : Slot) (i4 : Int32) (i5 : Int32) (s6 : Slot) (i7 : Int32) (s8 : Slot) (s9 : Slot) (s10 : Slot)
    (X0 : Stand p l e R s m args below meth c T0 locs cells slots) (hx : p.tables.exec = Jvm.exec) (hZ : Z.Warmed39 s.vm) (hw : ∀ d ∈ tables_1, d.before a0 Z = true) (hby : c.code = code) (hml : c.maxLocals = 11) (hown : s.vm.findClass "com/example/hale_query/halequery/IntListEndsWithPinLaw" = some m.cls) (e0 : T0.heap = h0) (hs9 : One s9) (hc62 : ¬ (i7 = (0 : Int32))) (hc74 : ¬ (i7 = (1 : Int32))) (hc96 : ¬ (i7 = (2 : Int32))) (hc119 : ¬ (i4 = i5)) :
    ∃ (T' : State), Stand p l e R s m args below meth c T' locs cells slots ∧ T'.heap = h0 ∧
      ∀ target, Steps p.tables e below (T'.setTop (mkF m 129 #[s0, s1, s2, s3, .val (.int i4), .val (.int i5), s6, .val (.int i7), s8, .val (.int (0 : Int32)), s10] [])) target → Steps p.tables e below (T0.setTop (mkF m 60 #[s0, s1, s2, s3, .val (.int i4), .val (.int i5), s6, .val (.int i7), s8, s9, s10] [])) target := by
  refine ⟨T0, X0, e0, fun target kt => ?_⟩
  show Steps p.tables e below (T0.setTop (mkF m 60 #[s0, s1, s2, s3, .val (.int i4), .val (.int i5), s6, .val (.int i7), s8, s9, s10] [])) _
  refine XS.iload X0.here hx rfl (hb hby at_60) rfl ?_
  show Steps p.tables e below (T0.setTop (mkF m 62 #[s0, s1, s2, s3, .val (.int i4), .val (.int i5), s6, .val (.int i7), s8, s9, s10] [(.int i7)])) _
  refine XS.ifYes X0.here hx rfl (pc0 := 62) (pc' := 71) rfl (hb hby at_62) rfl ((if0 _ _).trans (feq hc62).2) (by decide) (by decide) ?_
  show Steps p.tables e below (T0.setTop (mkF m 71 #[s0, s1, s2, s3, .val (.int i4), .val (.int i5), s6, .val (.int i7), s8, s9, s10] [])) _
  refine XS.iload X0.here hx rfl (hb hby at_71) rfl ?_
  show Steps p.tables e below (T0.setTop (mkF m 73 #[s0, s1, s2, s3, .val (.int i4), .val (.int i5), s6, .val (.int i7), s8, s9, s10] [(.int i7)])) _
  refine XS.iconst X0.here hx rfl (hb hby at_73) ?_
  show Steps p.tables e below (T0.setTop (mkF m 74 #[s0, s1, s2, s3, .val (.int i4), .val (.int i5), s6, .val (.int i7), s8, s9, s10] [(.int (1 : Int32)), (.int i7)])) _
  refine XS.icmpYes X0.here hx rfl (pc0 := 74) (pc' := 93) rfl (hb hby at_74) rfl (feq hc74).2 (by decide) (by decide) ?_
  show Steps p.tables e below (T0.setTop (mkF m 93 #[s0, s1, s2, s3, .val (.int i4), .val (.int i5), s6, .val (.int i7), s8, s9, s10] [])) _
  refine XS.iload X0.here hx rfl (hb hby at_93) rfl ?_
  show Steps p.tables e below (T0.setTop (mkF m 95 #[s0, s1, s2, s3, .val (.int i4), .val (.int i5), s6, .val (.int i7), s8, s9, s10] [(.int i7)])) _
  refine XS.iconst X0.here hx rfl (hb hby at_95) ?_
  show Steps p.tables e below (T0.setTop (mkF m 96 #[s0, s1, s2, s3, .val (.int i4), .val (.int i5), s6, .val (.int i7), s8, s9, s10] [(.int (2 : Int32)), (.int i7)])) _
  refine XS.icmpYes X0.here hx rfl (pc0 := 96) (pc' := 115) rfl (hb hby at_96) rfl (feq hc96).2 (by decide) (by decide) ?_
  show Steps p.tables e below (T0.setTop (mkF m 115 #[s0, s1, s2, s3, .val (.int i4), .val (.int i5), s6, .val (.int i7), s8, s9, s10] [])) _
  refine XS.iload X0.here hx rfl (hb hby at_115) rfl ?_
  show Steps p.tables e below (T0.setTop (mkF m 117 #[s0, s1, s2, s3, .val (.int i4), .val (.int i5), s6, .val (.int i7), s8, s9, s10] [(.int i4)])) _
  refine XS.iload X0.here hx rfl (hb hby at_117) rfl ?_
  show Steps p.tables e below (T0.setTop (mkF m 119 #[s0, s1, s2, s3, .val (.int i4), .val (.int i5), s6, .val (.int i7), s8, s9, s10] [(.int i5), (.int i4)])) _
  refine XS.icmpYes X0.here hx rfl (pc0 := 119) (pc' := 126) rfl (hb hby at_119) rfl (feq hc119).2 (by decide) (by decide) ?_
  show Steps p.tables e below (T0.setTop (mkF m 126 #[s0, s1, s2, s3, .val (.int i4), .val (.int i5), s6, .val (.int i7), s8, s9, s10] [])) _
  refine XS.iconst X0.here hx rfl (hb hby at_126) ?_
  show Steps p.tables e below (T0.setTop (mkF m 127 #[s0, s1, s2, s3, .val (.int i4), .val (.int i5), s6, .val (.int i7), s8, s9, s10] [(.int (0 : Int32))])) _
  refine XS.istore X0.here hx rfl (hb hby at_127) rfl (l' := #[s0, s1, s2, s3, .val (.int i4), .val (.int i5), s6, .val (.int i7), s8, .val (.int (0 : Int32)), s10]) (os0_127_tttt hs9) ?_
  exact kt
theorem sgE {p : Program} {l : Launch} {e : Env} {R : Room} {s : State} {m : MethodId} {args : Array Value} {below : List Frame} {meth : Method} {c : Code} {T0 : State} {locs : List Loc} {cells slots : Nat} {Z : State} {a0 : Array Value} {h0 : Heap} (s0 : Slot) (s1 : Slot) (i2 : Int32) (i3 : Int32) (i4 : Int32) (i5 : Int32) (s6 : Slot) (n : Nat) (s8 : Slot) (s9 : Slot) (s10 : Slot)
    (X0 : Stand p l e R s m args below meth c T0 locs cells slots) (hx : p.tables.exec = Jvm.exec) (hZ : Z.Warmed39 s.vm) (hw : ∀ d ∈ tables_1, d.before a0 Z = true) (hby : c.code = code) (hml : c.maxLocals = 11) (hown : s.vm.findClass "com/example/hale_query/halequery/IntListEndsWithPinLaw" = some m.cls) (e0 : T0.heap = h0) (hs9 : One s9) (hn : n ≤ 3) :
    ∃ (T' : State), Stand p l e R s m args below meth c T' locs cells slots ∧ T'.heap = h0 ∧
      ∀ target, Steps p.tables e below (T'.setTop (mkF m 129 #[s0, s1, .val (.int i2), .val (.int i3), .val (.int i4), .val (.int i5), s6, .val (.int (Int32.ofNat n)), s8, .val (.int (own_exp n i2 i3 i4 i5)), s10] [])) target → Steps p.tables e below (T0.setTop (mkF m 60 #[s0, s1, .val (.int i2), .val (.int i3), .val (.int i4), .val (.int i5), s6, .val (.int (Int32.ofNat n)), s8, s9, s10] [])) target := by
  match n, hn with
  | 0, _ => exact tn0_60_129_f s0 s1 (.val (.int i2)) (.val (.int i3)) (.val (.int i4)) (.val (.int i5)) s6 (Int32.ofNat 0) s8 s9 s10 X0 hx hZ hw hby hml hown e0 hs9 (by decide)
  | 1, _ =>
    by_cases hq : i2 = i5
    · rw [show own_exp 1 i2 i3 i4 i5 = 1 from by simp [own_exp, hq]]; exact tn0_60_129_tff s0 s1 i2 (.val (.int i3)) (.val (.int i4)) i5 s6 (Int32.ofNat 1) s8 s9 s10 X0 hx hZ hw hby hml hown e0 hs9 (by decide) (by decide) hq
    · rw [show own_exp 1 i2 i3 i4 i5 = 0 from by simp [own_exp, hq]]; exact tn0_60_129_tft s0 s1 i2 (.val (.int i3)) (.val (.int i4)) i5 s6 (Int32.ofNat 1) s8 s9 s10 X0 hx hZ hw hby hml hown e0 hs9 (by decide) (by decide) hq
  | 2, _ =>
    by_cases hq : i3 = i5
    · rw [show own_exp 2 i2 i3 i4 i5 = 1 from by simp [own_exp, hq]]; exact tn0_60_129_ttff s0 s1 (.val (.int i2)) i3 (.val (.int i4)) i5 s6 (Int32.ofNat 2) s8 s9 s10 X0 hx hZ hw hby hml hown e0 hs9 (by decide) (by decide) (by decide) hq
    · rw [show own_exp 2 i2 i3 i4 i5 = 0 from by simp [own_exp, hq]]; exact tn0_60_129_ttft s0 s1 (.val (.int i2)) i3 (.val (.int i4)) i5 s6 (Int32.ofNat 2) s8 s9 s10 X0 hx hZ hw hby hml hown e0 hs9 (by decide) (by decide) (by decide) hq
  | 3, _ =>
    by_cases hq : i4 = i5
    · rw [show own_exp 3 i2 i3 i4 i5 = 1 from by simp [own_exp, hq]]; exact tn0_60_129_tttf s0 s1 (.val (.int i2)) (.val (.int i3)) i4 i5 s6 (Int32.ofNat 3) s8 s9 s10 X0 hx hZ hw hby hml hown e0 hs9 (by decide) (by decide) (by decide) hq
    · rw [show own_exp 3 i2 i3 i4 i5 = 0 from by simp [own_exp, hq]]; exact tn0_60_129_tttt s0 s1 (.val (.int i2)) (.val (.int i3)) i4 i5 s6 (Int32.ofNat 3) s8 s9 s10 X0 hx hZ hw hby hml hown e0 hs9 (by decide) (by decide) (by decide) hq
/-- the k-th number that is added -/
def own_lv (a b c : Int32) : Nat → Int32
  | 1 => a
  | 2 => b
  | 3 => c
  | _ => 0
theorem own_and3 (x : Int32) : ∃ n : Nat, n ≤ 3 ∧ (x &&& 3) = Int32.ofNat n := by
  have h := c_mask x 3 2 (by decide) (by decide)
  have h1 : 0 ≤ (x &&& 3).toInt ∧ (x &&& 3).toInt < 4 := by omega
  refine ⟨(x &&& 3).toInt.toNat, by omega, ?_⟩
  apply Int32.toInt_inj.mp
  rw [Int32.toInt_ofNat_small (by omega)]
  omega
theorem own_ends_exp (n : Nat) (hn : n ≤ 3) (a b c x : Int32) (Lv : Nat → Int32) (h1 : Lv 1 = a) (h2 : Lv 2 = b) (h3 : Lv 3 = c) : own_ends n (Lv n) x = own_exp n a b c x := by
  match n, hn with
  | 0, _ => rfl
  | 1, _ => rw [h1]; rfl
  | 2, _ => rw [h2]; rfl
  | 3, _ => rw [h3]; rfl
theorem pn_0 : plainName "com/example/hale_query/halequery/IntListEndsWithPinLaw" = true := by first | (simp [plainName, overriddenIn]; done) | decide +kernel
theorem pd_0_5 : parseMethodDescriptor "(I)Z" = some ⟨[.int], some .boolean⟩ := by decide +kernel
theorem pd_0_6 : parseMethodDescriptor "()I" = some ⟨[], some .int⟩ := by decide +kernel
theorem ef_0 (m : MethodId) (x0 : Int32) (x1 : Int32) (x2 : Int32) (x3 : Int32) (x4 : Int32) (x5 : Int32) : entryFrame m #[(.int x0), (.int x1), (.int x2), (.int x3), (.int x4), (.int x5)] maxLocals = mkF m 0 #[.val (.int x0), .val (.int x1), .val (.int x2), .val (.int x3), .val (.int x4), .val (.int x5), .unset, .unset, .unset, .unset, .unset] [] := by first | (simp [entryFrame, mkF, argsToLocals, Value.category, maxLocals]; done) | rfl
def Q0 (Z : State) (p1 : Int32) (p2 : Int32) (p3 : Int32) (p4 : Int32) (p5 : Int32) (p6 : Int32) (h0 : Heap) (n0 : Nat) (v : Option Value) (h : Heap) (L : List Loc) : Prop := v = some (.int (1 : Int32)) ∧ Fr n0 L
theorem os0_136 {s0 : Slot} {s1 : Slot} {s2 : Slot} {s3 : Slot} {s4 : Slot} {z5 : Value} {s6 : Slot} {z7 : Value} {z8 : Value} {z9 : Value} {s10 : Slot} {v : Int32} (h : One s10) : storeLocals #[s0, s1, s2, s3, s4, .val z5, s6, .val z7, .val z8, .val z9, s10] 10 (.int v) = some #[s0, s1, s2, s3, s4, .val z5, s6, .val z7, .val z8, .val z9, .val (.int v)] := by
  rcases h with rfl | ⟨w, rfl, hw⟩
  · rfl
  · cases w <;> first | rfl | (simp [Value.category] at hw)
set_option maxRecDepth 65536 in
set_option maxHeartbeats 40000000 in
theorem tn0_129_160 {p : Program} {l : Launch} {e : Env} {s : State} {m : MethodId} {args : Array Value} {below : List Frame} {meth : Method} {c : Code} {T0 : State} {locs : List Loc} {Z : State} {a0 : Array Value} {h0 : Heap} {n0 n : Nat} {x : Int32} (s0 : Slot) (s1 : Slot) (s2 : Slot) (s3 : Slot) (s4 : Slot) (i5 : Int32) (s6 : Slot) (o8 : Addr) (i9 : Int32) (s10 : Slot)
    (X0 : Stand p l e room_1 s m args below meth c T0 locs 5 18) (hx : p.tables.exec = Jvm.exec) (hZ : Z.Warmed39 s.vm) (hw : ∀ d ∈ tables_1, d.before a0 Z = true) (hby : c.code = code) (hml : c.maxLocals = 11) (hown : s.vm.findClass "com/example/hale_query/halequery/IntListEndsWithPinLaw" = some m.cls) (e0 : T0.heap = h0) (hI : IL Z h0 n0 o8 n x) (hs10 : One s10) (N0 : Fr n0 locs) (h9 : own_ends n x i5 = i9) :
    ∃ (T' : State) (locs' : List Loc), Stand p l e room_1 s m args below meth c T' locs' 5 18 ∧ Fr n0 locs' ∧
      ∀ target, Steps p.tables e below (T'.setTop (mkF m 160 #[s0, s1, s2, s3, s4, .val (.int i5), s6, .val (.int (Int32.ofNat n)), .val (.ref o8), .val (.int i9), .val (.int (own_ends n x i5))] [(.int (1 : Int32))])) target → Steps p.tables e below (T0.setTop (mkF m 129 #[s0, s1, s2, s3, s4, .val (.int i5), s6, .val (.int (Int32.ofNat n)), .val (.ref o8), .val (.int i9), s10] [])) target := by
  obtain ⟨cq7, kq7, q7a, q7b, q7c⟩ := isOf hZ e0 hI.2.1
  obtain ⟨_, _, ⟨T7, L7, k7, n7⟩, -, X7, ⟨Lc7, hQ7, l7, y7, z7⟩, st7⟩ := X0.virtualBack hx (y := (⟨"com/example/hale_query/halequery/IntList", "endsWith", "(I)Z"⟩ : MethodName)) (z := (⟨"com/example/hale_query/halequery/IntList", "endsWith", "(I)Z"⟩ : MethodName)) hown (mvT hZ (hw _ (List.mem_of_getElem? (i := 31) rfl))) (mvT hZ (hw _ (List.mem_of_getElem? (i := 32) rfl))) (notFace_of_selects (args := #[]) (mvT hZ (hw _ (List.mem_of_getElem? (i := 34) rfl)))) (mvT hZ (hw _ (List.mem_of_getElem? (i := 34) rfl))) (mvT hZ (hw _ (List.mem_of_getElem? (i := 33) rfl))) (by decide) (backOf (W := 0) (rm6 l Z a0 hw [] o8 i5 n x h0 n0 hI) hZ (hw _ (List.mem_of_getElem? (i := 35) rfl)) (hw _ (List.mem_of_getElem? (i := 2) rfl)) (by decide) (by decide)) q7a q7c (g := (mkF m 133 #[s0, s1, s2, s3, s4, .val (.int i5), s6, .val (.int (Int32.ofNat n)), .val (.ref o8), .val (.int i9), s10] [(.int i5), (.ref o8)])) rfl (by rw [hml]; rfl) (Steps.refl _) (argsL := [(.int i5)]) (rest := []) (lenOf pd_0_5 rfl) rfl (by show 2 * 0 + _ ≤ _; exact Nat.le_of_eq rfl) (hb hby at_133) (fun _ _ => ⟨rfl, e0, (by decide : 5 + 0 ≤ _), (by decide : 18 + 0 ≤ _)⟩)
  dsimp only [Pt.U, Pt.locs, Pt.cells, Pt.slots] at X7 l7 y7 z7 st7 hQ7
  subst l7 y7 z7
  obtain ⟨rfl, N7q, q7⟩ := hQ7
  have N7 := Fr.app N0 N7q
  have I7 : IL Z T7.heap n0 o8 n x := by rw [q7]; exact hI
  obtain ⟨Z7, E7, g7, t, cl, N, Fe7, Fs7, -⟩ := I7
  obtain ⟨cq8, kq8, q8a, q8b, q8c⟩ := isOf hZ rfl E7
  obtain ⟨_, _, ⟨T8, L8, k8, n8⟩, -, X8, ⟨Lc8, hQ8, l8, y8, z8⟩, st8⟩ := X7.virtualBack hx (y := (⟨"com/example/hale_query/halequery/IntList", "size", "()I"⟩ : MethodName)) (z := (⟨"com/example/hale_query/halequery/IntList", "size", "()I"⟩ : MethodName)) hown (mvT hZ (hw _ (List.mem_of_getElem? (i := 36) rfl))) (mvT hZ (hw _ (List.mem_of_getElem? (i := 37) rfl))) (notFace_of_selects (args := #[]) (mvT hZ (hw _ (List.mem_of_getElem? (i := 39) rfl)))) (mvT hZ (hw _ (List.mem_of_getElem? (i := 39) rfl))) (mvT hZ (hw _ (List.mem_of_getElem? (i := 38) rfl))) (by decide) (backOf (W := 0) (rm7 l Z a0 hw [] o8 (Int32.ofNat n) T7.heap n0 Z7 Fs7) hZ (hw _ (List.mem_of_getElem? (i := 40) rfl)) (hw _ (List.mem_of_getElem? (i := 2) rfl)) (by decide) (by decide)) q8a q8c (g := (mkF m 147 #[s0, s1, s2, s3, s4, .val (.int i5), s6, .val (.int (Int32.ofNat n)), .val (.ref o8), .val (.int i9), .val (.int (own_ends n x i5))] [(.ref o8)])) rfl (by rw [hml]; rfl) (Steps.refl _) (argsL := []) (rest := []) (lenOf pd_0_6 rfl) rfl (by show 2 * 0 + _ ≤ _; exact Nat.le_of_eq rfl) (hb hby at_147) (fun _ _ => ⟨rfl, rfl, (by decide : 5 + 0 ≤ _), (by decide : 18 + 0 ≤ _)⟩)
  dsimp only [Pt.U, Pt.locs, Pt.cells, Pt.slots] at X8 l8 y8 z8 st8 hQ8
  subst l8 y8 z8
  obtain ⟨rfl, N8q, -⟩ := hQ8
  have N8 := Fr.app N7 N8q
  refine ⟨T8, _, X8, N8, fun target kt => ?_⟩
  show Steps p.tables e below (T0.setTop (mkF m 129 #[s0, s1, s2, s3, s4, .val (.int i5), s6, .val (.int (Int32.ofNat n)), .val (.ref o8), .val (.int i9), s10] [])) _
  refine XS.aload X0.here hx rfl (hb hby at_129) rfl rfl ?_
  show Steps p.tables e below (T0.setTop (mkF m 131 #[s0, s1, s2, s3, s4, .val (.int i5), s6, .val (.int (Int32.ofNat n)), .val (.ref o8), .val (.int i9), s10] [(.ref o8)])) _
  refine XS.iload X0.here hx rfl (hb hby at_131) rfl ?_
  show Steps p.tables e below (T0.setTop (mkF m 133 #[s0, s1, s2, s3, s4, .val (.int i5), s6, .val (.int (Int32.ofNat n)), .val (.ref o8), .val (.int i9), s10] [(.int i5), (.ref o8)])) _
  refine st7.trans ?_
  show Steps p.tables e below (T7.setTop (mkF m 136 #[s0, s1, s2, s3, s4, .val (.int i5), s6, .val (.int (Int32.ofNat n)), .val (.ref o8), .val (.int i9), s10] [(.int (own_ends n x i5))])) _
  refine XS.istore X7.here hx rfl (hb hby at_136) rfl (l' := #[s0, s1, s2, s3, s4, .val (.int i5), s6, .val (.int (Int32.ofNat n)), .val (.ref o8), .val (.int i9), .val (.int (own_ends n x i5))]) (os0_136 hs10) ?_
  show Steps p.tables e below (T7.setTop (mkF m 138 #[s0, s1, s2, s3, s4, .val (.int i5), s6, .val (.int (Int32.ofNat n)), .val (.ref o8), .val (.int i9), .val (.int (own_ends n x i5))] [])) _
  refine XS.iload X7.here hx rfl (hb hby at_138) rfl ?_
  show Steps p.tables e below (T7.setTop (mkF m 140 #[s0, s1, s2, s3, s4, .val (.int i5), s6, .val (.int (Int32.ofNat n)), .val (.ref o8), .val (.int i9), .val (.int (own_ends n x i5))] [(.int (own_ends n x i5))])) _
  refine XS.iload X7.here hx rfl (hb hby at_140) rfl ?_
  show Steps p.tables e below (T7.setTop (mkF m 142 #[s0, s1, s2, s3, s4, .val (.int i5), s6, .val (.int (Int32.ofNat n)), .val (.ref o8), .val (.int i9), .val (.int (own_ends n x i5))] [(.int i9), (.int (own_ends n x i5))])) _
  refine XS.icmpNo X7.here hx rfl (hb hby at_142) rfl (teq (h9 : (own_ends n x i5) = i9)).2 ?_
  show Steps p.tables e below (T7.setTop (mkF m 145 #[s0, s1, s2, s3, s4, .val (.int i5), s6, .val (.int (Int32.ofNat n)), .val (.ref o8), .val (.int i9), .val (.int (own_ends n x i5))] [])) _
  refine XS.aload X7.here hx rfl (hb hby at_145) rfl rfl ?_
  show Steps p.tables e below (T7.setTop (mkF m 147 #[s0, s1, s2, s3, s4, .val (.int i5), s6, .val (.int (Int32.ofNat n)), .val (.ref o8), .val (.int i9), .val (.int (own_ends n x i5))] [(.ref o8)])) _
  refine st8.trans ?_
  show Steps p.tables e below (T8.setTop (mkF m 150 #[s0, s1, s2, s3, s4, .val (.int i5), s6, .val (.int (Int32.ofNat n)), .val (.ref o8), .val (.int i9), .val (.int (own_ends n x i5))] [(.int (Int32.ofNat n))])) _
  refine XS.iload X8.here hx rfl (hb hby at_150) rfl ?_
  show Steps p.tables e below (T8.setTop (mkF m 152 #[s0, s1, s2, s3, s4, .val (.int i5), s6, .val (.int (Int32.ofNat n)), .val (.ref o8), .val (.int i9), .val (.int (own_ends n x i5))] [(.int (Int32.ofNat n)), (.int (Int32.ofNat n))])) _
  refine XS.icmpNo X8.here hx rfl (hb hby at_152) rfl (teq (rfl : (Int32.ofNat n) = (Int32.ofNat n))).2 ?_
  show Steps p.tables e below (T8.setTop (mkF m 155 #[s0, s1, s2, s3, s4, .val (.int i5), s6, .val (.int (Int32.ofNat n)), .val (.ref o8), .val (.int i9), .val (.int (own_ends n x i5))] [])) _
  refine XS.iconst X8.here hx rfl (hb hby at_155) ?_
  show Steps p.tables e below (T8.setTop (mkF m 156 #[s0, s1, s2, s3, s4, .val (.int i5), s6, .val (.int (Int32.ofNat n)), .val (.ref o8), .val (.int i9), .val (.int (own_ends n x i5))] [(.int (1 : Int32))])) _
  refine XS.goto X8.here hx rfl (pc0 := 156) (pc' := 160) rfl (hb hby at_156) (by decide) (by decide) ?_
  exact kt
set_option maxRecDepth 65536 in
set_option maxHeartbeats 40000000 in
theorem rm0 (l : Launch) (Z : State) (a0 : Array Value) (hw : ∀ d ∈ tables_1, d.before a0 Z = true) (ws : List Jvm.Cond) (p1 : Int32) (p2 : Int32) (p3 : Int32) (p4 : Int32) (p5 : Int32) (p6 : Int32) (h0 : Heap) (n0 : Nat) (Z0 : n0 ≤ h0.size) :
    MetFree l x (head1 (Jvm.Cond.code x code maxLocals ret :: ws) room_1) (fun a U => a = #[(.int p1), (.int p2), (.int p3), (.int p4), (.int p5), (.int p6)] ∧ Z.Warmed39 U.vm ∧ U.heap = h0) (fun _ _ _ _ _ => True) (fun _ U o U' => ∃ v L, o = .returned v ∧ Q0 Z p1 p2 p3 p4 p5 p6 h0 n0 v U'.heap L ∧ FrameEnd U o U' L room_1.cells room_1.slots) := by
  refine MetFree.of_bodySF (plainFor_of_name pn_0) hisR ?_
  intro p e s m args below meth c s₁ Bd hml0 hP hK
  obtain ⟨rfl, hZ, hh⟩ := hP
  have hx := Bd.exec
  have hby := Bd.bytes
  have hml : c.maxLocals = 11 := hml0
  have hown : s.vm.findClass "com/example/hale_query/halequery/IntListEndsWithPinLaw" = some m.cls := findClass_of_methodNamed Bd.named
  have hnm := (name_of_methodNamed Bd.named Bd.method).1
  have X0 : Stand p l e room_1 s m #[(.int p1), (.int p2), (.int p3), (.int p4), (.int p5), (.int p6)] below meth c s₁ [] 0 0 := Stand.of_body Bd
  have e0 : s₁.heap = h0 := by rw [← hh, Bd.state]; rfl
  have N0 := Fr.nil n0
  have pre0 : ∀ t, Steps p.tables e below (s₁.setTop (mkF m 0 #[.val (.int p1), .val (.int p2), .val (.int p3), .val (.int p4), .val (.int p5), .val (.int p6), .unset, .unset, .unset, .unset, .unset] [])) t → Steps p.tables e below (s₁.setTop (entryFrame m #[(.int p1), (.int p2), (.int p3), (.int p4), (.int p5), (.int p6)] maxLocals)) t := fun t k => castTop (ef_0 m p1 p2 p3 p4 p5 p6) k
  obtain ⟨Nc, hNc, eNc⟩ := own_and3 p1
  obtain ⟨n, hn, en⟩ := own_and3 p2
  have eN : (p1 &&& 3) + 1 = Int32.ofNat (Nc + 1) := by rw [eNc, Jvm.Free.XT.succ32]
  obtain ⟨Ta, Xa, ea, sa⟩ := tn0_0_12 p1 p2 (.val (.int p3)) (.val (.int p4)) (.val (.int p5)) (.val (.int p6)) .unset .unset .unset .unset .unset X0 hx hZ hw hby hml hown e0 One.u One.u
  obtain ⟨Tb, hB, Lb, b7, Xb, eb, Nb, Ib, sb⟩ := tn0_12_23 (N := Nc + 1) (n0 := n0) (.val (.int p1)) (.val (.int p2)) (.val (.int p3)) (.val (.int p4)) (.val (.int p5)) (.val (.int p6)) (.val (.int (Int32.ofNat n))) .unset .unset .unset Xa hx hZ hw hby hml hown ea One.u N0 Z0 (by omega) (by omega)
  have Ib0 : IL Z hB n0 b7 (min n 0) (own_lv p3 p4 p5 (min n 0)) := by rw [show min n 0 = 0 from by omega]; exact Ib
  obtain ⟨T1_, h1_, L1_, X1_, e1_, N1_, I1_, s1_⟩ := sg1 (.val (.int p1)) (.val (.int p2)) (.val (.int p4)) (.val (.int p5)) (.val (.int p6)) (.val (.int (Int32.ofNat (Nc + 1)))) n (own_lv p3 p4 p5) b7 .unset .unset Xb hx hZ hw hby hml hown eb Nb Ib0 hn (by decide) (by decide)
  obtain ⟨T2_, h2_, L2_, X2_, e2_, N2_, I2_, s2_⟩ := sg2 (.val (.int p1)) (.val (.int p2)) (.val (.int p3)) (.val (.int p5)) (.val (.int p6)) (.val (.int (Int32.ofNat (Nc + 1)))) n (own_lv p3 p4 p5) b7 .unset .unset X1_ hx hZ hw hby hml hown e1_ N1_ I1_ hn (by decide) (by decide)
  obtain ⟨T3_, h3_, L3_, X3_, e3_, N3_, I3_, s3_⟩ := sg3 (.val (.int p1)) (.val (.int p2)) (.val (.int p3)) (.val (.int p4)) (.val (.int p6)) (.val (.int (Int32.ofNat (Nc + 1)))) n (own_lv p3 p4 p5) b7 .unset .unset X2_ hx hZ hw hby hml hown e2_ N2_ I2_ hn (by decide) (by decide)
  have hmin : min n 3 = n := by omega
  rw [hmin] at I3_
  obtain ⟨Tc, Xc, ec, sc⟩ := sgE (.val (.int p1)) (.val (.int p2)) p3 p4 p5 p6 (.val (.int (Int32.ofNat (Nc + 1)))) n (.val (.ref b7)) .unset .unset X3_ hx hZ hw hby hml hown e3_ One.u hn
  obtain ⟨Td, Ld, Xd, Nd, sd⟩ := tn0_129_160 (n := n) (n0 := n0) (.val (.int p1)) (.val (.int p2)) (.val (.int p3)) (.val (.int p4)) (.val (.int p5)) p6 (.val (.int (Int32.ofNat (Nc + 1)))) b7 (own_exp n p3 p4 p5 p6) .unset Xc hx hZ hw hby hml hown ec I3_ One.u N3_ (own_ends_exp n hn p3 p4 p5 p6 (own_lv p3 p4 p5) rfl rfl rfl)
  obtain ⟨fs, hr, hrun, hended, hW, hsame⟩ := Xd.leave (v := some (.int (1 : Int32))) (fun h => by rw [Bd.returns] at h; cases h)
  refine ⟨_, _, pre0 _ ?_, hrun, hended, _, _, rfl, ?_, ⟨_, rfl⟩, hW, hsame.mono (by decide) (by decide)⟩
  · refine sa _ ?_
    rw [eN, en]
    refine sb _ ?_
    refine s1_ _ ?_
    refine s2_ _ ?_
    refine s3_ _ ?_
    refine sc _ ?_
    refine sd _ ?_
    show Steps p.tables e below (Td.setTop (mkF m 160 #[.val (.int p1), .val (.int p2), .val (.int p3), .val (.int p4), .val (.int p5), .val (.int p6), .val (.int (Int32.ofNat (Nc + 1))), .val (.int (Int32.ofNat n)), .val (.ref b7), .val (.int (own_exp n p3 p4 p5 p6)), .val (.int (own_ends n (own_lv p3 p4 p5 n) p6))] [(.int (1 : Int32))])) _
    exact retN Xd hx (t := .boolean) Bd.returns (by simp) (hb hby at_160) hr
  · show Q0 Z p1 p2 p3 p4 p5 p6 h0 n0 _ Td.heap _
    exact ⟨rfl, Nd⟩
set_option maxRecDepth 65536 in
set_option maxHeartbeats 40000000 in
theorem comes_1 {Post : Tables → Env → Array Value → State → Outcome → State → Prop} (hpost : ∀ tb e args s v u, (limb_1_1.after args s (.returned v) u = true ∧ limb_1_2.after args s (.returned v) u = true ∧ True) → FrameEnd s (.returned v) u (Jvm.fieldLocs frame_1_writes args s ++ Jvm.arrayLocs frame_1_arrays args s ++ Jvm.staticLocs frame_1_statics s) 16 128 → Post tb e args s (.returned v) u) :
    ArmFor flags0 classFile x code maxLocals ret World_1 tables_1 room_1 Calls_1 rest_1 Pre_1 Post := by
  intro l hfl _ _ p e ha hc hk s m args below hf hA hF happ hP
  obtain ⟨hcalls, hrest, hpre⟩ := hP
  obtain ⟨-, -, -, hnamed, -, -, -, hat⟩ := (Spec.applies_iff hf).mp happ
  obtain ⟨hg, hn⟩ := and_e (Cond.before_iff.mp (show (Jvm.Cond.and given_1 narrow_1).before args s = true from hpre))
  obtain ⟨g11, g12⟩ := and_e hg
  obtain ⟨g13, g14⟩ := and_e g12
  obtain ⟨g15, g16⟩ := and_e g14
  obtain ⟨g17, g18⟩ := and_e g16
  obtain ⟨g19, g20⟩ := and_e g18
  obtain ⟨g21, g22⟩ := and_e g20
  obtain ⟨w0, w1, w2, w3, w4, w5, rfl⟩ : ∃ w0 w1 w2 w3 w4 w5 : Value, args = #[w0, w1, w2, w3, w4, w5] := by
    have hs : args.size = 6 := by simpa [Cond.value, given_1] using g11
    obtain ⟨L⟩ := args
    match L, hs with
    | [w0, w1, w2, w3, w4, w5], _ => exact ⟨w0, w1, w2, w3, w4, w5, rfl⟩
  have hw := fun d (hd : d ∈ tables_1) => atoms_spec (ws := Jvm.Cond.code x code maxLocals ret :: tables_1) hat d (List.mem_cons_of_mem _ hd)
  have hfit : Fit s := fun {y c} hc i hi => by
    obtain ⟨ha, rfl⟩ := Array.getElem?_eq_some_iff.mp hc
    have q := List.all_eq_true.mp ((Array.all_eq_true_iff_forall_mem.mp hF) _ (Array.getElem_mem ha)) i (List.mem_range.mpr hi)
    simpa [Array.getElem?_eq_getElem hi] using q
  obtain ⟨i0, ei0⟩ := is_v g13
  obtain rfl : w0 = (.int i0) := Option.some.inj ei0
  obtain ⟨i1, ei1⟩ := is_v g15
  obtain rfl : w1 = (.int i1) := Option.some.inj ei1
  obtain ⟨i2, ei2⟩ := is_v g17
  obtain rfl : w2 = (.int i2) := Option.some.inj ei2
  obtain ⟨i3, ei3⟩ := is_v g19
  obtain rfl : w3 = (.int i3) := Option.some.inj ei3
  obtain ⟨i4, ei4⟩ := is_v g21
  obtain rfl : w4 = (.int i4) := Option.some.inj ei4
  obtain ⟨i5, ei5⟩ := is_v g22
  obtain rfl : w5 = (.int i5) := Option.some.inj ei5
  obtain ⟨n, o, h1, h2, h3, _, L, rfl, ⟨rfl, N⟩, hq⟩ := rm0 l s _ hw tables_1 i0 i1 i2 i3 i4 i5 s.heap s.heap.size (Nat.le_refl _) p e ha hc hk s m _ below hf ((Spec.applies_iff_loose hf).mp happ).1 ⟨rfl, State.Warmed39.refl s, rfl⟩ trivial
  refine ⟨n, _, h1, h2, h3, hpost _ _ _ _ _ _ ⟨Cond.after_iff.mpr rfl, Cond.after_iff.mpr (eq_i res_at (Term.int_eval (1)) rfl), trivial⟩ ⟨hq.1, hq.2.1, (hq.2.2.sift fun y hy => Or.inr (N y hy)).mono (by decide) (by decide)⟩⟩
theorem main_1_1 : Claimed_1_1 := comes_1 fun _ _ _ _ _ _ h hF => ⟨h.1, hF⟩
theorem main_1_2 : Claimed_1_2 := comes_1 fun _ _ _ _ _ _ h hF => ⟨h.2.1, hF⟩
end Jvm.Pilot.@@N@@
namespace Jvm.Pilot.@@N@@
open Jvm Jvm.ClassFile Sem Op Lib Jvm.Free Jvm.Stand Jvm.Pilot.@@N@@.Jvm.D
/-! MADE BY PROGRAM (witnessworld.py) out of the Statement's table words and the real class files: 12 classes; the members and pool entries that the words name. The judged class is class 1, her method 1. -/
namespace start1
open Jvm.ClassFile
def u (s : String) : CpInfo := .utf8 (stringToUtf16 s)
/-- a pool by its gaps: so many unusable entries, then the entry; so many at the end -/
def gap : Nat → List CpInfo → List CpInfo
  | 0, r => r
  | n + 1, r => .unusable :: gap n r
def poolList (es : List (Nat × CpInfo)) (last : Nat) : List CpInfo := es.foldr (fun e r => gap e.1 (e.2 :: r)) (gap last [])
def pool (es : List (Nat × CpInfo)) (last : Nat) : Array CpInfo := ⟨poolList es last⟩
def fileOf (pool : Array CpInfo) (this : Nat) (attrs : Array Attribute := #[]) (ms : Array MethodInfo := #[]) (fl : Nat := 33) (sup : Nat := 0) (ifs : Array Nat := #[]) (fds : Array FieldInfo := #[]) : ClassFile where
  minorVersion := 0
  majorVersion := 65
  constantPool := pool
  accessFlags := fl
  thisClass := this
  superClass := sup
  interfaces := ifs
  fields := fds
  methods := ms
  attributes := attrs
def plain (name : String) (sup : Option ClassId) : Class where
  name := name
  kind := .ordinary
  loader := none
  accessFlags := 33
  super := sup
  interfaces := #[]
  cf := none
  fields := #[]
  methods := #[]
  instanceTypes := #[]
  staticTypes := #[]
  resolved := #[]
  callSites := []
  init := .initialized
  statics := none
  mirror := none

def pool0 : Array CpInfo := pool [(5, u "<init>"), (0, u "()V"), (1, .class_ 10), (1, u "java/lang/Object")] 113

def k0c0 : Code := { maxStack := 0, maxLocals := 1, code := object_method_1_code, exceptionTable := #[], attributes := #[] }
def k0m0 : Method := { name := "<init>", desc := "()V", sig := { parameters := [], returnType := none }, accessFlags := 1, code := some k0c0 }
/-- java/lang/Object -/
def k0 : Class := { plain "java/lang/Object" none with
  accessFlags := 33
  interfaces := #[]
  cf := some (fileOf pool0 8 #[] #[{ accessFlags := 1, nameIndex := 5, descriptorIndex := 6, attributes := #[] }] 33 0 #[] #[])
  fields := #[]
  methods := #[k0m0]
  instanceTypes := #[]
  staticTypes := #[]
  resolved := Array.replicate 124 none
  statics := none }

def pool1 : Array CpInfo := pool [(2, .class_ 4), (1, u "java/lang/Object"), (0, u "<init>"), (0, u "()V"), (0, .class_ 8), (0, u "com/example/hale_query/halequery/IntList"), (0, .methodref 7 10), (0, .nameAndType 5 11), (0, u "(I)V"), (0, .methodref 7 13), (0, .nameAndType 14 11), (0, u "add"), (0, .methodref 7 16), (0, .nameAndType 17 18), (0, u "endsWith"), (0, u "(I)Z"), (0, .methodref 7 20), (0, .nameAndType 21 22), (0, u "size"), (0, u "()I"), (0, .class_ 24), (0, u "com/example/hale_query/halequery/IntListEndsWithPinLaw"), (2, u "law"), (0, u "(IIIIII)Z")] 3

def k1m0 : Method := { name := "<init>", desc := "()V", sig := { parameters := [], returnType := none }, accessFlags := 1, code := none }
def k1c1 : Code := { maxStack := 3, maxLocals := 11, code := code, exceptionTable := #[], attributes := #[] }
def k1m1 : Method := { name := "law", desc := "(IIIIII)Z", sig := { parameters := [.int, .int, .int, .int, .int, .int], returnType := some .boolean }, accessFlags := 9, code := some k1c1 }
/-- com/example/hale_query/halequery/IntListEndsWithPinLaw -/
def k1 : Class := { plain "com/example/hale_query/halequery/IntListEndsWithPinLaw" (some 0) with
  accessFlags := 49
  interfaces := #[]
  cf := some (fileOf pool1 23 #[] #[{ accessFlags := 1, nameIndex := 5, descriptorIndex := 6, attributes := #[] }, { accessFlags := 9, nameIndex := 27, descriptorIndex := 28, attributes := #[] }] 49 2 #[] #[])
  fields := #[]
  methods := #[k1m0, k1m1]
  instanceTypes := #[]
  staticTypes := #[]
  resolved := Array.replicate 32 none
  statics := none }

def pool2 : Array CpInfo := pool [(2, .class_ 4), (1, u "com/example/hale_query/halequery/IntList"), (0, u "<init>"), (0, u "(I)V"), (0, .methodref 8 9), (0, .class_ 10), (0, .nameAndType 5 11), (0, u "java/lang/Object"), (0, u "()V"), (0, .fieldref 2 13), (0, .nameAndType 14 15), (0, u "elements"), (0, u "[I"), (0, .fieldref 2 17), (0, .nameAndType 18 19), (0, u "size"), (0, u "I"), (0, .methodref 21 22), (0, .class_ 23), (0, .nameAndType 24 25), (0, u "java/util/Arrays"), (0, u "copyOf"), (0, u "([II)[I"), (5, u "add"), (6, u "()I"), (0, u "endsWith"), (0, u "(I)Z")] 4

def k2m0 : Method := { name := "<init>", desc := "()V", sig := { parameters := [], returnType := none }, accessFlags := 0, code := none }
def k2c1 : Code := { maxStack := 2, maxLocals := 2, code := prog_15_method_2_code, exceptionTable := #[], attributes := #[] }
def k2m1 : Method := { name := "<init>", desc := "(I)V", sig := { parameters := [.int], returnType := none }, accessFlags := 0, code := some k2c1 }
def k2c2 : Code := { maxStack := 5, maxLocals := 2, code := prog_15_method_3_code, exceptionTable := #[], attributes := #[] }
def k2m2 : Method := { name := "add", desc := "(I)V", sig := { parameters := [.int], returnType := none }, accessFlags := 0, code := some k2c2 }
def k2c3 : Code := { maxStack := 1, maxLocals := 1, code := prog_15_method_7_code, exceptionTable := #[], attributes := #[] }
def k2m3 : Method := { name := "size", desc := "()I", sig := { parameters := [], returnType := some .int }, accessFlags := 0, code := some k2c3 }
def k2c4 : Code := { maxStack := 3, maxLocals := 2, code := prog_15_method_8_code, exceptionTable := #[], attributes := #[] }
def k2m4 : Method := { name := "endsWith", desc := "(I)Z", sig := { parameters := [.int], returnType := some .boolean }, accessFlags := 0, code := some k2c4 }
/-- com/example/hale_query/halequery/IntList -/
def k2 : Class := { plain "com/example/hale_query/halequery/IntList" (some 0) with
  accessFlags := 32
  interfaces := #[]
  cf := some (fileOf pool2 2 #[] #[{ accessFlags := 0, nameIndex := 5, descriptorIndex := 11, attributes := #[] }, { accessFlags := 0, nameIndex := 5, descriptorIndex := 6, attributes := #[] }, { accessFlags := 0, nameIndex := 31, descriptorIndex := 6, attributes := #[] }, { accessFlags := 0, nameIndex := 18, descriptorIndex := 38, attributes := #[] }, { accessFlags := 0, nameIndex := 39, descriptorIndex := 40, attributes := #[] }] 32 8 #[] #[{ accessFlags := 2, nameIndex := 14, descriptorIndex := 15, attributes := #[] }, { accessFlags := 2, nameIndex := 18, descriptorIndex := 19, attributes := #[] }])
  fields := #[{ name := "elements", type := (.array .int), accessFlags := 2, slot := 0, constantValue := 0 }, { name := "size", type := .int, accessFlags := 2, slot := 1, constantValue := 0 }]
  methods := #[k2m0, k2m1, k2m2, k2m3, k2m4]
  instanceTypes := #[(.array .int), .int]
  staticTypes := #[]
  resolved := Array.replicate 45 none
  statics := none }

def pool3 : Array CpInfo := pool [(2, .class_ 4), (1, u "java/lang/Object"), (0, u "<init>"), (0, u "()V"), (7, .class_ 16), (1, u "java/util/Arrays"), (57, .class_ 76), (1, u "java/util/Arrays$NaturalOrder"), (36, .class_ 115), (1, u "java/util/Arrays$LegacyMergeSort"), (1, u "Z"), (32, .methodref 151 152), (0, .class_ 153), (0, .nameAndType 154 155), (0, u "java/lang/System"), (0, u "arraycopy"), (0, u "(Ljava/lang/Object;ILjava/lang/Object;II)V"), (146, u "copyOf"), (1, .methodref 305 306), (0, .class_ 307), (0, .nameAndType 308 309), (0, u "java/lang/Math"), (0, u "min"), (0, u "(II)I"), (65, .class_ 376), (0, u "java/util/Arrays$ArrayList"), (68, u "$assertionsDisabled"), (269, u "MIN_ARRAY_SORT_GRAN"), (0, u "I"), (2, u "INSERTIONSORT_THRESHOLD"), (151, u "([II)[I"), (103, .class_ 976), (0, u "java/util/Arrays$ArrayItr")] 52

def k3m0 : Method := { name := "<init>", desc := "()V", sig := { parameters := [], returnType := none }, accessFlags := 2, code := none }
def k3c1 : Code := { maxStack := 6, maxLocals := 3, code := jdk_65_method_123_code, exceptionTable := #[], attributes := #[] }
def k3m1 : Method := { name := "copyOf", desc := "([II)[I", sig := { parameters := [(.array .int), .int], returnType := some (.array .int) }, accessFlags := 9, code := some k3c1 }
/-- java/util/Arrays -/
def k3 : Class := { plain "java/util/Arrays" (some 0) with
  accessFlags := 49
  interfaces := #[]
  cf := some (fileOf pool3 14 #[.nestMembers #[975, 375, 113, 74]] #[{ accessFlags := 2, nameIndex := 5, descriptorIndex := 6, attributes := #[] }, { accessFlags := 9, nameIndex := 302, descriptorIndex := 871, attributes := #[] }] 49 2 #[] #[{ accessFlags := 26, nameIndex := 715, descriptorIndex := 716, attributes := #[] }, { accessFlags := 26, nameIndex := 719, descriptorIndex := 716, attributes := #[] }, { accessFlags := 4120, nameIndex := 445, descriptorIndex := 117, attributes := #[] }])
  fields := #[{ name := "MIN_ARRAY_SORT_GRAN", type := .int, accessFlags := 26, slot := 0, constantValue := 0 }, { name := "INSERTIONSORT_THRESHOLD", type := .int, accessFlags := 26, slot := 1, constantValue := 0 }, { name := "$assertionsDisabled", type := .boolean, accessFlags := 4120, slot := 2, constantValue := 0 }]
  methods := #[k3m0, k3m1]
  instanceTypes := #[]
  staticTypes := #[.int, .int, .boolean]
  resolved := Array.replicate 1029 none
  statics := none }

def pool4 : Array CpInfo := pool [(1, .class_ 2), (0, u "java/lang/Math"), (1, .class_ 6), (1, u "java/lang/Object"), (0, u "<init>"), (0, u "()V"), (89, .class_ 100), (1, u "java/lang/Math$RandomNumberGeneratorHolder"), (71, u "negativeZeroFloatBits"), (0, u "J"), (2, u "negativeZeroDoubleBits"), (24, u "min"), (43, u "$assertionsDisabled"), (0, u "Z"), (88, u "(II)I"), (2, u "twoToTheDoubleScaleDown"), (0, u "D"), (4, u "twoToTheDoubleScaleUp"), (9, u "E"), (3, u "PI"), (2, u "TAU"), (2, u "DEGREES_TO_RADIANS"), (0, u "RADIANS_TO_DEGREES")] 94

def k4m0 : Method := { name := "<init>", desc := "()V", sig := { parameters := [], returnType := none }, accessFlags := 2, code := none }
def k4c1 : Code := { maxStack := 2, maxLocals := 2, code := jdk_29_method_69_code, exceptionTable := #[], attributes := #[] }
def k4m1 : Method := { name := "min", desc := "(II)I", sig := { parameters := [.int, .int], returnType := some .int }, accessFlags := 9, code := some k4c1 }
/-- java/lang/Math -/
def k4 : Class := { plain "java/lang/Math" (some 0) with
  accessFlags := 49
  interfaces := #[]
  cf := some (fileOf pool4 1 #[.nestMembers #[98]] #[{ accessFlags := 2, nameIndex := 7, descriptorIndex := 8, attributes := #[] }, { accessFlags := 9, nameIndex := 201, descriptorIndex := 335, attributes := #[] }] 49 4 #[] #[{ accessFlags := 25, nameIndex := 354, descriptorIndex := 339, attributes := #[] }, { accessFlags := 25, nameIndex := 358, descriptorIndex := 339, attributes := #[] }, { accessFlags := 25, nameIndex := 361, descriptorIndex := 339, attributes := #[] }, { accessFlags := 26, nameIndex := 364, descriptorIndex := 339, attributes := #[] }, { accessFlags := 26, nameIndex := 365, descriptorIndex := 339, attributes := #[] }, { accessFlags := 26, nameIndex := 172, descriptorIndex := 173, attributes := #[] }, { accessFlags := 26, nameIndex := 176, descriptorIndex := 173, attributes := #[] }, { accessFlags := 8, nameIndex := 344, descriptorIndex := 339, attributes := #[] }, { accessFlags := 8, nameIndex := 338, descriptorIndex := 339, attributes := #[] }, { accessFlags := 4120, nameIndex := 245, descriptorIndex := 246, attributes := #[] }])
  fields := #[{ name := "E", type := .double, accessFlags := 25, slot := 0, constantValue := 0 }, { name := "PI", type := .double, accessFlags := 25, slot := 1, constantValue := 0 }, { name := "TAU", type := .double, accessFlags := 25, slot := 2, constantValue := 0 }, { name := "DEGREES_TO_RADIANS", type := .double, accessFlags := 26, slot := 3, constantValue := 0 }, { name := "RADIANS_TO_DEGREES", type := .double, accessFlags := 26, slot := 4, constantValue := 0 }, { name := "negativeZeroFloatBits", type := .long, accessFlags := 26, slot := 5, constantValue := 0 }, { name := "negativeZeroDoubleBits", type := .long, accessFlags := 26, slot := 6, constantValue := 0 }, { name := "twoToTheDoubleScaleUp", type := .double, accessFlags := 8, slot := 7, constantValue := 0 }, { name := "twoToTheDoubleScaleDown", type := .double, accessFlags := 8, slot := 8, constantValue := 0 }, { name := "$assertionsDisabled", type := .boolean, accessFlags := 4120, slot := 9, constantValue := 0 }]
  methods := #[k4m0, k4m1]
  instanceTypes := #[]
  staticTypes := #[.double, .double, .double, .double, .double, .long, .long, .double, .double, .boolean]
  resolved := Array.replicate 460 none
  statics := none }

def pool5 : Array CpInfo := pool [(2, .class_ 4), (1, u "java/lang/Object"), (0, u "<init>"), (0, u "()V"), (1, .class_ 10), (1, u "java/lang/System"), (0, u "allowSecurityManager"), (0, u "I"), (16, u "cons"), (0, u "Ljava/io/Console;"), (77, .class_ 110), (1, u "java/lang/System$CallersHolder"), (43, u "initialErrStream"), (0, u "Ljava/io/PrintStream;"), (19, u "security"), (0, u "Ljava/lang/SecurityManager;"), (31, .class_ 209), (0, u "java/lang/System$1"), (7, u "props"), (0, u "Ljava/util/Properties;"), (2, u "lineSeparator"), (0, u "Ljava/lang/String;"), (96, .class_ 321), (1, u "java/lang/System$LoggerFinder"), (5, .class_ 328), (0, u "java/lang/System$Logger"), (67, u "err"), (2, u "out"), (91, u "notSupportedJnuEncoding"), (15, u "in"), (17, u "initialIn"), (0, u "Ljava/io/InputStream;"), (35, u "bootLayer"), (0, u "Ljava/lang/ModuleLayer;"), (99, .class_ 664), (0, u "java/lang/System$2"), (9, u "NEVER"), (2, u "MAYBE"), (49, u "arraycopy"), (0, u "(Ljava/lang/Object;ILjava/lang/Object;II)V"), (72, .class_ 802), (0, u "java/lang/System$Logger$Level")] 31

def k5m0 : Method := { name := "<init>", desc := "()V", sig := { parameters := [], returnType := none }, accessFlags := 2, code := none }
def k5m1 : Method := { name := "arraycopy", desc := "(Ljava/lang/Object;ILjava/lang/Object;II)V", sig := { parameters := [(.object "java/lang/Object"), .int, (.object "java/lang/Object"), .int, .int], returnType := none }, accessFlags := 265, code := none }
/-- java/lang/System -/
def k5 : Class := { plain "java/lang/System" (some 0) with
  accessFlags := 49
  interfaces := #[]
  cf := some (fileOf pool5 8 #[.nestMembers #[319, 327, 801, 108, 663, 208]] #[{ accessFlags := 2, nameIndex := 5, descriptorIndex := 6, attributes := #[] }, { accessFlags := 265, nameIndex := 727, descriptorIndex := 728, attributes := #[] }] 49 2 #[] #[{ accessFlags := 25, nameIndex := 507, descriptorIndex := 526, attributes := #[] }, { accessFlags := 25, nameIndex := 399, descriptorIndex := 155, attributes := #[] }, { accessFlags := 25, nameIndex := 396, descriptorIndex := 155, attributes := #[] }, { accessFlags := 10, nameIndex := 525, descriptorIndex := 526, attributes := #[] }, { accessFlags := 26, nameIndex := 674, descriptorIndex := 12, attributes := #[] }, { accessFlags := 26, nameIndex := 677, descriptorIndex := 12, attributes := #[] }, { accessFlags := 10, nameIndex := 11, descriptorIndex := 12, attributes := #[] }, { accessFlags := 74, nameIndex := 175, descriptorIndex := 176, attributes := #[] }, { accessFlags := 10, nameIndex := 491, descriptorIndex := 222, attributes := #[] }, { accessFlags := 74, nameIndex := 29, descriptorIndex := 30, attributes := #[] }, { accessFlags := 74, nameIndex := 154, descriptorIndex := 155, attributes := #[] }, { accessFlags := 10, nameIndex := 217, descriptorIndex := 218, attributes := #[] }, { accessFlags := 10, nameIndex := 221, descriptorIndex := 222, attributes := #[] }, { accessFlags := 8, nameIndex := 562, descriptorIndex := 563, attributes := #[] }])
  fields := #[{ name := "in", type := (.object "java/io/InputStream"), accessFlags := 25, slot := 0, constantValue := 0 }, { name := "out", type := (.object "java/io/PrintStream"), accessFlags := 25, slot := 1, constantValue := 0 }, { name := "err", type := (.object "java/io/PrintStream"), accessFlags := 25, slot := 2, constantValue := 0 }, { name := "initialIn", type := (.object "java/io/InputStream"), accessFlags := 10, slot := 3, constantValue := 0 }, { name := "NEVER", type := .int, accessFlags := 26, slot := 4, constantValue := 0 }, { name := "MAYBE", type := .int, accessFlags := 26, slot := 5, constantValue := 0 }, { name := "allowSecurityManager", type := .int, accessFlags := 10, slot := 6, constantValue := 0 }, { name := "security", type := (.object "java/lang/SecurityManager"), accessFlags := 74, slot := 7, constantValue := 0 }, { name := "notSupportedJnuEncoding", type := (.object "java/lang/String"), accessFlags := 10, slot := 8, constantValue := 0 }, { name := "cons", type := (.object "java/io/Console"), accessFlags := 74, slot := 9, constantValue := 0 }, { name := "initialErrStream", type := (.object "java/io/PrintStream"), accessFlags := 74, slot := 10, constantValue := 0 }, { name := "props", type := (.object "java/util/Properties"), accessFlags := 10, slot := 11, constantValue := 0 }, { name := "lineSeparator", type := (.object "java/lang/String"), accessFlags := 10, slot := 12, constantValue := 0 }, { name := "bootLayer", type := (.object "java/lang/ModuleLayer"), accessFlags := 8, slot := 13, constantValue := 0 }]
  methods := #[k5m0, k5m1]
  instanceTypes := #[]
  staticTypes := #[(.object "java/io/InputStream"), (.object "java/io/PrintStream"), (.object "java/io/PrintStream"), (.object "java/io/InputStream"), .int, .int, .int, (.object "java/lang/SecurityManager"), (.object "java/lang/String"), (.object "java/io/Console"), (.object "java/io/PrintStream"), (.object "java/util/Properties"), (.object "java/lang/String"), (.object "java/lang/ModuleLayer")]
  resolved := Array.replicate 834 none
  statics := none }

def pool6 : Array CpInfo := pool [(1, u "java/lang/Cloneable"), (0, .class_ 1), (0, u "java/lang/Object"), (0, .class_ 3)] 3

/-- java/lang/Cloneable -/
def k6 : Class := { plain "java/lang/Cloneable" (some 0) with
  accessFlags := 1537
  interfaces := #[]
  cf := some (fileOf pool6 2 #[] #[] 1537 4 #[] #[])
  fields := #[]
  methods := #[]
  instanceTypes := #[]
  staticTypes := #[]
  resolved := Array.replicate 8 none
  statics := none }

def pool7 : Array CpInfo := pool [(1, u "java/io/Serializable"), (0, .class_ 1), (0, u "java/lang/Object"), (0, .class_ 3)] 3

/-- java/io/Serializable -/
def k7 : Class := { plain "java/io/Serializable" (some 0) with
  accessFlags := 1537
  interfaces := #[]
  cf := some (fileOf pool7 2 #[] #[] 1537 4 #[] #[])
  fields := #[]
  methods := #[]
  instanceTypes := #[]
  staticTypes := #[]
  resolved := Array.replicate 8 none
  statics := none }

/-- the primitive byte -/
def k8 : Class := { plain "byte" none with kind := .primitive 'B', accessFlags := 0x411 }
/-- [B -/
def k9 : Class := { plain "[B" (some 0) with kind := .array 8 .byte, interfaces := #[6, 7], accessFlags := 1041 }

/-- the primitive int -/
def k10 : Class := { plain "int" none with kind := .primitive 'I', accessFlags := 0x411 }
/-- [I -/
def k11 : Class := { plain "[I" (some 0) with kind := .array 10 .int, interfaces := #[6, 7], accessFlags := 1041 }

def heap : Heap := #[]
def classes : Array Class := #[k0, k1, k2, k3, k4, k5, k6, k7, k8, k9, k10, k11]
def interned : List (Array UInt16 × Addr) := []
def slotsUsed : Nat := 0
def theMethod : MethodId := ⟨1, 1⟩
def args0 : Array Value := #[.int 5, .int 2, .int 7, .int 8, .int 9, .int 8]
def aboutOver (below : List Frame) : State where
  vm := { classes := classes, interned := interned.toArray }
  heap := heap
  slotsUsed := slotsUsed
  threads := #[{ frames := .invoking theMethod args0 :: below }]
def below0 : List Frame := [.native { method := ⟨0, 0⟩, args := #[] }]
def about1 : State := aboutOver below0
def p0 : Program := .bare "" "" ""
def e0 : Env := launch0.env 0 0 0
theorem w_frames : about1.frames = Frame.invoking theMethod args0 :: below0 := rfl
set_option maxRecDepth 65536 in
theorem w_args : argsFit about1.vm theMethod args0 = true := by decide +kernel
set_option maxRecDepth 65536 in
theorem w_heap : heapFits about1 = true := by decide +kernel
set_option maxRecDepth 65536 in
theorem w_runnable : about1.curStatus? = some .runnable := by decide +kernel
set_option maxRecDepth 65536 in
theorem w_alone : about1.alone = true := by decide +kernel
set_option maxRecDepth 65536 in
theorem w_named : about1.methodNamed? x = some theMethod := by decide +kernel
set_option maxRecDepth 65536 in
theorem w_hears : about1.hears theMethod below0 = true := by decide +kernel
set_option maxRecDepth 65536 in
theorem w_ripe : about1.ripe theMethod args0 below0 = true := by decide +kernel
theorem w_running : about1.status = .running := rfl
set_option maxRecDepth 65536 in
theorem w_room : about1.hasRoom e0.platform room_1 = true :=
  launch0.hasRoom_least _ room_1 (by decide +kernel) (by decide +kernel) (by decide +kernel) (by decide +kernel) (by decide +kernel) (by decide +kernel)
theorem allAtoms_all (ts : List Jvm.Cond) (a : Array Jvm.Value) (st : Jvm.State) : (allAtoms ts).before a st = ts.all (fun c => c.before a st) := by
  induction ts with
  | nil => rfl
  | cons c t ih =>
    show (Jvm.Cond.and c (allAtoms t)).before a st = _
    rw [Jvm.Cond.before_and, ih, List.all_cons]
def words1 : List Jvm.Cond := Jvm.Cond.code x code maxLocals ret :: tables_1
/-- a 'code' word, met by the world's own term for the bytes: nothing is compared byte by byte -/
theorem code_word {y : MethodName} {bytes : ByteArray} {mx : Nat} {rt : Option FieldType} {a : Array Value} {s : State} {m : MethodId} {meth : Method} {c : Code} (h1 : s.methodNamed? y = some m) (h2 : s.vm.method? m = some meth) (h3 : meth.code = some c) (h4 : c.code = bytes)
    (h5 : (c.maxLocals == mx && c.exceptionTable.isEmpty && decide (c.maxStack ≤ mostOperands) && decide (meth.sig.returnType = rt) && !meth.locks && decide (parseMethodDescriptor y.desc = some meth.sig)) = true) : (Jvm.Cond.code y bytes mx rt).before a s = true := by
  simp only [Bool.and_eq_true, beq_iff_eq, Bool.not_eq_true', decide_eq_true_eq] at h5
  obtain ⟨⟨⟨⟨⟨g1, g2⟩, g3⟩, g4⟩, g5⟩, g6⟩ := h5
  simp [Cond.before, Cond.holds, Cond.value, h1, h2, h3, h4, g1, g2, g3, g4, g5, g6]
def isCode : Jvm.Cond → Bool
  | .code _ _ _ _ => true
  | _ => false
theorem all_split {L : List Jvm.Cond} {P : Jvm.Cond → Bool} (h1 : L.all (fun c => isCode c || P c) = true) (h2 : ∀ c ∈ L.filter isCode, P c = true) : L.all P = true := by
  refine List.all_eq_true.mpr fun c hc => ?_
  have h := List.all_eq_true.mp h1 c hc
  rcases Bool.eq_false_or_eq_true (isCode c) with hi | hi
  · exact h2 c (List.mem_filter.mpr ⟨hc, hi⟩)
  · simpa [hi] using h
set_option maxRecDepth 65536 in
theorem w_c0 : (Jvm.Cond.code x code maxLocals ret).before args0 about1 = true := code_word (m := ⟨1, 1⟩) (meth := k1m1) (c := k1c1) (by decide +kernel) rfl rfl rfl (by decide +kernel)
set_option maxRecDepth 65536 in
theorem w_c1 : (Jvm.Cond.code ({ cls := "com/example/hale_query/halequery/IntList", name := "<init>", desc := "(I)V" } : Jvm.MethodName) prog_15_method_2_code (2 : Nat) (Option.none : Option Jvm.ClassFile.FieldType)).before args0 about1 = true := code_word (m := ⟨2, 1⟩) (meth := k2m1) (c := k2c1) (by decide +kernel) rfl rfl rfl (by decide +kernel)
set_option maxRecDepth 65536 in
theorem w_c2 : (Jvm.Cond.code ({ cls := "java/lang/Object", name := "<init>", desc := "()V" } : Jvm.MethodName) object_method_1_code (1 : Nat) (Option.none : Option Jvm.ClassFile.FieldType)).before args0 about1 = true := code_word (m := ⟨0, 0⟩) (meth := k0m0) (c := k0c0) (by decide +kernel) rfl rfl rfl (by decide +kernel)
set_option maxRecDepth 65536 in
theorem w_c3 : (Jvm.Cond.code ({ cls := "com/example/hale_query/halequery/IntList", name := "add", desc := "(I)V" } : Jvm.MethodName) prog_15_method_3_code (2 : Nat) (Option.none : Option Jvm.ClassFile.FieldType)).before args0 about1 = true := code_word (m := ⟨2, 2⟩) (meth := k2m2) (c := k2c2) (by decide +kernel) rfl rfl rfl (by decide +kernel)
set_option maxRecDepth 65536 in
theorem w_c4 : (Jvm.Cond.code ({ cls := "java/util/Arrays", name := "copyOf", desc := "([II)[I" } : Jvm.MethodName) jdk_65_method_123_code (3 : Nat) (Option.some (Jvm.ClassFile.FieldType.array Jvm.ClassFile.FieldType.int))).before args0 about1 = true := code_word (m := ⟨3, 1⟩) (meth := k3m1) (c := k3c1) (by decide +kernel) rfl rfl rfl (by decide +kernel)
set_option maxRecDepth 65536 in
theorem w_c5 : (Jvm.Cond.code ({ cls := "java/lang/Math", name := "min", desc := "(II)I" } : Jvm.MethodName) jdk_29_method_69_code (2 : Nat) (Option.some Jvm.ClassFile.FieldType.int)).before args0 about1 = true := code_word (m := ⟨4, 1⟩) (meth := k4m1) (c := k4c1) (by decide +kernel) rfl rfl rfl (by decide +kernel)
set_option maxRecDepth 65536 in
theorem w_c6 : (Jvm.Cond.code ({ cls := "com/example/hale_query/halequery/IntList", name := "endsWith", desc := "(I)Z" } : Jvm.MethodName) prog_15_method_8_code (2 : Nat) (Option.some Jvm.ClassFile.FieldType.boolean)).before args0 about1 = true := code_word (m := ⟨2, 4⟩) (meth := k2m4) (c := k2c4) (by decide +kernel) rfl rfl rfl (by decide +kernel)
set_option maxRecDepth 65536 in
theorem w_c7 : (Jvm.Cond.code ({ cls := "com/example/hale_query/halequery/IntList", name := "size", desc := "()I" } : Jvm.MethodName) prog_15_method_7_code (1 : Nat) (Option.some Jvm.ClassFile.FieldType.int)).before args0 about1 = true := code_word (m := ⟨2, 3⟩) (meth := k2m3) (c := k2c3) (by decide +kernel) rfl rfl rfl (by decide +kernel)
def codes1 : List Jvm.Cond := [Jvm.Cond.code x code maxLocals ret, Jvm.Cond.code ({ cls := "com/example/hale_query/halequery/IntList", name := "<init>", desc := "(I)V" } : Jvm.MethodName) prog_15_method_2_code (2 : Nat) (Option.none : Option Jvm.ClassFile.FieldType), Jvm.Cond.code ({ cls := "java/lang/Object", name := "<init>", desc := "()V" } : Jvm.MethodName) object_method_1_code (1 : Nat) (Option.none : Option Jvm.ClassFile.FieldType), Jvm.Cond.code ({ cls := "com/example/hale_query/halequery/IntList", name := "add", desc := "(I)V" } : Jvm.MethodName) prog_15_method_3_code (2 : Nat) (Option.none : Option Jvm.ClassFile.FieldType), Jvm.Cond.code ({ cls := "java/util/Arrays", name := "copyOf", desc := "([II)[I" } : Jvm.MethodName) jdk_65_method_123_code (3 : Nat) (Option.some (Jvm.ClassFile.FieldType.array Jvm.ClassFile.FieldType.int)), Jvm.Cond.code ({ cls := "java/lang/Math", name := "min", desc := "(II)I" } : Jvm.MethodName) jdk_29_method_69_code (2 : Nat) (Option.some Jvm.ClassFile.FieldType.int), Jvm.Cond.code ({ cls := "com/example/hale_query/halequery/IntList", name := "endsWith", desc := "(I)Z" } : Jvm.MethodName) prog_15_method_8_code (2 : Nat) (Option.some Jvm.ClassFile.FieldType.boolean), Jvm.Cond.code ({ cls := "com/example/hale_query/halequery/IntList", name := "size", desc := "()I" } : Jvm.MethodName) prog_15_method_7_code (1 : Nat) (Option.some Jvm.ClassFile.FieldType.int)]
set_option maxRecDepth 65536 in
theorem codes_eq : words1.filter isCode = codes1 := rfl
theorem w_codes : ∀ c ∈ words1.filter isCode, c.before args0 about1 = true := by
  rw [codes_eq]
  intro c hc
  simp only [codes1, List.mem_cons, List.not_mem_nil, or_false] at hc
  rcases hc with rfl | rfl | rfl | rfl | rfl | rfl | rfl | rfl
  · exact w_c0
  · exact w_c1
  · exact w_c2
  · exact w_c3
  · exact w_c4
  · exact w_c5
  · exact w_c6
  · exact w_c7
set_option maxRecDepth 65536 in
theorem w_t1 : (words1.take 24).all (fun c => isCode c || c.before args0 about1) = true := by decide +kernel
set_option maxRecDepth 65536 in
theorem w_t2 : (words1.drop 24).all (fun c => isCode c || c.before args0 about1) = true := by decide +kernel
theorem w_tables : (allAtoms (Jvm.Cond.code x code maxLocals ret :: tables_1)).before args0 about1 = true := by
  rw [allAtoms_all]
  show words1.all (fun c => c.before args0 about1) = true
  refine all_split ?_ w_codes
  rw [← List.take_append_drop 24 words1, List.all_append, w_t1, w_t2]
  rfl
set_option maxRecDepth 65536 in
theorem w_case : (Jvm.Cond.and given_1 narrow_1).before args0 about1 = true := by decide +kernel
theorem w_applies : (headSpec (Jvm.Cond.code x code maxLocals ret :: tables_1) room_1).applies x e0.platform about1 = true :=
  (Spec.applies_iff w_frames).mpr ⟨w_running, w_runnable, w_alone, w_named, w_hears, w_ripe, w_room, w_tables⟩
theorem atStart : AtStart classFile x code maxLocals ret World_1 tables_1 room_1 Calls_1 rest_1 Pre_1 launch0 p0 e0 about1 theMethod args0 below0 :=
  ⟨lists_1, trivial, launch0.admits_env _ _ _, launch0.least_env, fairChoices_fair.cas, fairChoices_fair.clock, w_frames, w_args, w_heap, w_applies, trivial, trivial, w_case⟩
end start1
theorem witness_1 : WitnessClaimed_1 := ⟨start1.p0, start1.e0, start1.about1, start1.theMethod, start1.args0, start1.below0, start1.atStart⟩
end Jvm.Pilot.@@N@@
