import JvmDerived
import JvmDerived.Pilot.@@N@@Statement
import JvmDerived.Pilot.@@N@@Code
set_option linter.unusedVariables false
set_option linter.unusedSimpArgs false
namespace Jvm.RoadKit
open Sem ClassFile Op Lib Jvm.Stand Jvm.Free Jvm.LawKit
section New
variable {p : Program} {l : Launch} {e : Env} {R : Room} {s : State} {m : MethodId} {args : Array Value} {below : List Frame} {meth : Method} {c : Code} {T : State} {locs : List Loc} {cells slots : Nat}
theorem retI (X : Stand p l e R s m args below meth c T locs cells slots) (hx : p.tables.exec = Jvm.exec) {pc : Nat} {Ls : Array Slot} {z : Int32} {rest : List Value} (hret : meth.sig.returnType = some .int) (hd : decode c.code pc = .ok (.ireturn, 1)) {fs : List Frame}
    (hl : ∀ (f : JFrame) (acts : List Action), f.method = m → f.locked = none → f.entered = [] → (doReturn e (T.setTop f) acts (some (.int z))).1 = T.setFrames fs) : Steps p.tables e below (T.setTop (mkF m pc Ls (.int z :: rest))) (T.setFrames fs) := by
  have hm' : T.vm.method? m = some meth := X.method'
  have hn : narrow .int (.int z) = .int z := rfl
  show Steps p.tables e below (T.setTop { method := m, pc := pc, locals := Ls, stack := _ :: rest, locked := none }) _
  jvm_step X.here [X.here.top, hx, hd, hm', hret, hn]
  first | (intro acts; rw [hl _ acts rfl rfl rfl]) | rw [hl _ _ rfl rfl rfl]
  exact Steps.refl _
end New
end Jvm.RoadKit
namespace Jvm.Pilot.@@N@@
open Jvm Jvm.ClassFile Sem Op Lib Jvm.Free Jvm.Stand Jvm.LawKit Jvm.RoadKit Bundle Jvm.Pilot.@@N@@.Jvm.D
theorem own_keep_put {h0 h : Heap} {T T' : State} {b : Addr} {B : Cell} (K : Keep h0 h []) (eT : T.heap = h) (P : Jvm.Free.XT.Put b B T T') (hb : h0.size ≤ b) : Keep h0 T'.heap [] := by
  have hne : ∀ (y : Addr) (c : Cell), h0[y]? = some c → y ≠ b := fun y c q e => by
    have := (Array.getElem?_eq_some_iff.mp q).1
    exact absurd (Nat.lt_of_lt_of_le this hb) (by rw [e]; exact Nat.lt_irrefl _)
  have hk : ∀ (y : Addr) (c : Cell), h0[y]? = some c → T'.heap[y]? = some c := fun y c q => by
    rw [P.2.1 y (hne y c q), eT]; exact K.2.1 y c q (by simp)
  exact ⟨by rw [P.2.2, eT]; exact K.1, fun y c q _ => hk y c q, fun y c q => ⟨c, hk y c q, rfl, rfl, rfl⟩⟩
theorem own_fr_copy {n0 : Nat} {b : Addr} {n : Nat} (g : n0 ≤ b) : Fr n0 (copyLocs b 0 n) := fun y hy => by
  simp only [copyLocs, List.mem_map] at hy
  obtain ⟨i, -, rfl⟩ := hy
  exact g
theorem own_n32 {k : Nat} (h : k < 2 ^ 31) : (Int32.ofNat k).toNatClampNeg = k := Int32.toNatClampNeg_ofNat_of_lt h
theorem own_nn {k : Nat} (h : k < 2 ^ 31) : ¬ Int32.ofNat k < 0 := Int32.ofNat_not_neg h
theorem own_getD {c : Cell} {i : Nat} {v : Value} (h : c.slots[i]? = some v) : c.slots.getD i .null = v := by simp [Array.getD_eq_getD_getElem?, h]
theorem own_new_fits {k : ClassId} {z : Int32} {N : Nat} (hz : z.toNatClampNeg = N) : ∀ i, i < N → fits .byte ((newA k .byte z).slots.getD i .null) = true := fun i hi => by
  have : (newA k .byte z).slots[i]? = some (defaultValue .byte) := by simp [newA, hz, hi]
  rw [own_getD this]; decide
theorem own_set_fits {c : Cell} {k N : Nat} {v : Value} (S : c.slots.size = N) (hv : fits .byte v = true) (G : ∀ i, i < N → fits .byte (c.slots.getD i .null) = true) : ∀ i, i < N → fits .byte ((c.setSlot k v).slots.getD i .null) = true := fun i hi => by
  by_cases h : k = i
  · subst h
    have : (c.setSlot k v).slots[k]? = some v := by simp [Cell.setSlot, S, hi]
    rw [own_getD this]; exact hv
  · have : (c.setSlot k v).slots.getD i .null = c.slots.getD i .null := by simp [Cell.setSlot, Array.getD_eq_getD_getElem?, Array.getElem?_setIfInBounds, h]
    rw [this]; exact G i hi
/-- the writer at a: an array of N bytes, sz of them written, pb bits pending -/
def BW (Z : State) (h : Heap) (n0 : Nat) (a : Addr) (N sz pb : Nat) : Prop := n0 ≤ h.size ∧ Exa Z h a "com/example/wrasse/wrasse/index/BitWriter" ∧ n0 ≤ a ∧ ∃ (t : Addr) (cl : Cell) (w : Int64), Fld Z h a "com/example/wrasse/wrasse/index/BitWriter" "bytes" "[B" (.ref t) ∧ Fld Z h a "com/example/wrasse/wrasse/index/BitWriter" "size" "I" (.int (Int32.ofNat sz)) ∧ Fld Z h a "com/example/wrasse/wrasse/index/BitWriter" "pending" "J" (.long w) ∧ Fld Z h a "com/example/wrasse/wrasse/index/BitWriter" "pendingBits" "I" (.int (Int32.ofNat pb)) ∧ n0 ≤ t ∧ Arr Z h t cl .byte ∧ cl.slots.size = N ∧ ∀ i, i < N → fits .byte (cl.slots.getD i .null) = true
theorem d10_0 : decode jdk_29_method_69_code 0 = .ok (.iload_n 0, 1) := by decide +kernel
theorem d10_1 : decode jdk_29_method_69_code 1 = .ok (.iload_n 1, 1) := by decide +kernel
theorem d10_2 : decode jdk_29_method_69_code 2 = .ok (.if_icmp .gt 7, 3) := by decide +kernel
theorem d10_5 : decode jdk_29_method_69_code 5 = .ok (.iload_n 0, 1) := by decide +kernel
theorem d10_6 : decode jdk_29_method_69_code 6 = .ok (.goto 4, 3) := by decide +kernel
theorem d10_10 : decode jdk_29_method_69_code 10 = .ok (.ireturn, 1) := by decide +kernel
theorem ef_10 (m : MethodId) (x0 : Int32) (x1 : Int32) : entryFrame m #[(.int x0), (.int x1)] 2 = mkF m 0 #[.val (.int x0), .val (.int x1)] [] := by first | (simp [entryFrame, mkF, argsToLocals, Value.category]; done) | rfl
def Q10 (Z : State) (p1 : Int32) (p2 : Int32) (h0 : Heap) (n0 : Nat) (v : Option Value) (h : Heap) (L : List Loc) : Prop := v = some (.int p1) ∧ Fr n0 L ∧ h = h0
set_option maxRecDepth 65536 in
set_option maxHeartbeats 40000000 in
theorem rm10 (l : Launch) (Z : State) (a0 : Array Value) (hw : ∀ d ∈ tables_1, d.before a0 Z = true) (ws : List Jvm.Cond) (p1 : Int32) (p2 : Int32) (h0 : Heap) (n0 : Nat) (Z0 : n0 ≤ h0.size) (hc2 : ¬ (p2 < p1)) :
    MetFree l (⟨"java/lang/Math", "min", "(II)I"⟩ : MethodName) (head1 (Jvm.Cond.code (⟨"java/lang/Math", "min", "(II)I"⟩ : MethodName) jdk_29_method_69_code 2 (some .int) :: ws) ({ frames := 0, cells := 0, slots := 0, locals := 0 } : Room)) (fun a U => a = #[(.int p1), (.int p2)] ∧ Z.Warmed39 U.vm ∧ U.heap = h0) (fun _ _ _ _ _ => True) (fun _ U o U' => ∃ v L, o = .returned v ∧ Q10 Z p1 p2 h0 n0 v U'.heap L ∧ FrameEnd U o U' L ({ frames := 0, cells := 0, slots := 0, locals := 0 } : Room).cells ({ frames := 0, cells := 0, slots := 0, locals := 0 } : Room).slots) := by
  refine MetFree.of_bodySF (Jvm.Free.JP.mathPlain rfl (by decide +kernel)) hisR ?_
  intro p e s m args below meth c s₁ Bd hml0 hP hK
  obtain ⟨rfl, hZ, hh⟩ := hP
  have hx := Bd.exec
  have hby := Bd.bytes
  have hml : c.maxLocals = 2 := hml0
  have hown : s.vm.findClass "java/lang/Math" = some m.cls := findClass_of_methodNamed Bd.named
  have hnm := (name_of_methodNamed Bd.named Bd.method).1
  have X0 : Stand p l e ({ frames := 0, cells := 0, slots := 0, locals := 0 } : Room) s m #[(.int p1), (.int p2)] below meth c s₁ [] 0 0 := Stand.of_body Bd
  have e0 : s₁.heap = h0 := by rw [← hh, Bd.state]; rfl
  have N0 := Fr.nil n0
  have pre0 : ∀ t, Steps p.tables e below (s₁.setTop (mkF m 0 #[.val (.int p1), .val (.int p2)] [])) t → Steps p.tables e below (s₁.setTop (entryFrame m #[(.int p1), (.int p2)] 2)) t := fun t k => castTop (ef_10 m p1 p2) k
  obtain ⟨fs, hr, hrun, hended, hW, hsame⟩ := X0.leave (v := some (.int p1)) (fun h => by rw [Bd.returns] at h; cases h)
  refine ⟨_, _, pre0 _ ?_, hrun, hended, _, _, rfl, ?_, ⟨_, rfl⟩, hW, hsame.mono (by decide) (by decide)⟩
  · show Steps p.tables e below (s₁.setTop (mkF m 0 #[.val (.int p1), .val (.int p2)] [])) _
    refine XS.iloadN X0.here hx rfl (hb hby d10_0) rfl ?_
    show Steps p.tables e below (s₁.setTop (mkF m 1 #[.val (.int p1), .val (.int p2)] [(.int p1)])) _
    refine XS.iloadN X0.here hx rfl (hb hby d10_1) rfl ?_
    show Steps p.tables e below (s₁.setTop (mkF m 2 #[.val (.int p1), .val (.int p2)] [(.int p2), (.int p1)])) _
    refine XS.icmpNo X0.here hx rfl (hb hby d10_2) rfl (flt hc2).2.2.1 ?_
    show Steps p.tables e below (s₁.setTop (mkF m 5 #[.val (.int p1), .val (.int p2)] [])) _
    refine XS.iloadN X0.here hx rfl (hb hby d10_5) rfl ?_
    show Steps p.tables e below (s₁.setTop (mkF m 6 #[.val (.int p1), .val (.int p2)] [(.int p1)])) _
    refine XS.goto X0.here hx rfl (pc0 := 6) (pc' := 10) rfl (hb hby d10_6) (by decide) (by decide) ?_
    show Steps p.tables e below (s₁.setTop (mkF m 10 #[.val (.int p1), .val (.int p2)] [(.int p1)])) _
    exact retI X0 hx Bd.returns (hb hby d10_10) hr
  · show Q10 Z p1 p2 h0 n0 _ s₁.heap _
    rw [e0]
    exact ⟨rfl, N0, rfl⟩
theorem d8_0 : decode jdk_29_method_65_code 0 = .ok (.iload_n 0, 1) := by decide +kernel
theorem d8_1 : decode jdk_29_method_65_code 1 = .ok (.iload_n 1, 1) := by decide +kernel
theorem d8_2 : decode jdk_29_method_65_code 2 = .ok (.if_icmp .lt 7, 3) := by decide +kernel
theorem d8_5 : decode jdk_29_method_65_code 5 = .ok (.iload_n 0, 1) := by decide +kernel
theorem d8_6 : decode jdk_29_method_65_code 6 = .ok (.goto 4, 3) := by decide +kernel
theorem d8_10 : decode jdk_29_method_65_code 10 = .ok (.ireturn, 1) := by decide +kernel
theorem ef_8 (m : MethodId) (x0 : Int32) (x1 : Int32) : entryFrame m #[(.int x0), (.int x1)] 2 = mkF m 0 #[.val (.int x0), .val (.int x1)] [] := by first | (simp [entryFrame, mkF, argsToLocals, Value.category]; done) | rfl
def Q8 (Z : State) (p1 : Int32) (p2 : Int32) (h0 : Heap) (n0 : Nat) (v : Option Value) (h : Heap) (L : List Loc) : Prop := v = some (.int p1) ∧ Fr n0 L ∧ h = h0
set_option maxRecDepth 65536 in
set_option maxHeartbeats 40000000 in
theorem rm8 (l : Launch) (Z : State) (a0 : Array Value) (hw : ∀ d ∈ tables_1, d.before a0 Z = true) (ws : List Jvm.Cond) (p1 : Int32) (p2 : Int32) (h0 : Heap) (n0 : Nat) (Z0 : n0 ≤ h0.size) (hc2 : ¬ (p1 < p2)) :
    MetFree l (⟨"java/lang/Math", "max", "(II)I"⟩ : MethodName) (head1 (Jvm.Cond.code (⟨"java/lang/Math", "max", "(II)I"⟩ : MethodName) jdk_29_method_65_code 2 (some .int) :: ws) ({ frames := 0, cells := 0, slots := 0, locals := 0 } : Room)) (fun a U => a = #[(.int p1), (.int p2)] ∧ Z.Warmed39 U.vm ∧ U.heap = h0) (fun _ _ _ _ _ => True) (fun _ U o U' => ∃ v L, o = .returned v ∧ Q8 Z p1 p2 h0 n0 v U'.heap L ∧ FrameEnd U o U' L ({ frames := 0, cells := 0, slots := 0, locals := 0 } : Room).cells ({ frames := 0, cells := 0, slots := 0, locals := 0 } : Room).slots) := by
  refine MetFree.of_bodySF (Jvm.Free.JP.mathPlain rfl (by decide +kernel)) hisR ?_
  intro p e s m args below meth c s₁ Bd hml0 hP hK
  obtain ⟨rfl, hZ, hh⟩ := hP
  have hx := Bd.exec
  have hby := Bd.bytes
  have hml : c.maxLocals = 2 := hml0
  have hown : s.vm.findClass "java/lang/Math" = some m.cls := findClass_of_methodNamed Bd.named
  have hnm := (name_of_methodNamed Bd.named Bd.method).1
  have X0 : Stand p l e ({ frames := 0, cells := 0, slots := 0, locals := 0 } : Room) s m #[(.int p1), (.int p2)] below meth c s₁ [] 0 0 := Stand.of_body Bd
  have e0 : s₁.heap = h0 := by rw [← hh, Bd.state]; rfl
  have N0 := Fr.nil n0
  have pre0 : ∀ t, Steps p.tables e below (s₁.setTop (mkF m 0 #[.val (.int p1), .val (.int p2)] [])) t → Steps p.tables e below (s₁.setTop (entryFrame m #[(.int p1), (.int p2)] 2)) t := fun t k => castTop (ef_8 m p1 p2) k
  obtain ⟨fs, hr, hrun, hended, hW, hsame⟩ := X0.leave (v := some (.int p1)) (fun h => by rw [Bd.returns] at h; cases h)
  refine ⟨_, _, pre0 _ ?_, hrun, hended, _, _, rfl, ?_, ⟨_, rfl⟩, hW, hsame.mono (by decide) (by decide)⟩
  · show Steps p.tables e below (s₁.setTop (mkF m 0 #[.val (.int p1), .val (.int p2)] [])) _
    refine XS.iloadN X0.here hx rfl (hb hby d8_0) rfl ?_
    show Steps p.tables e below (s₁.setTop (mkF m 1 #[.val (.int p1), .val (.int p2)] [(.int p1)])) _
    refine XS.iloadN X0.here hx rfl (hb hby d8_1) rfl ?_
    show Steps p.tables e below (s₁.setTop (mkF m 2 #[.val (.int p1), .val (.int p2)] [(.int p2), (.int p1)])) _
    refine XS.icmpNo X0.here hx rfl (hb hby d8_2) rfl (flt hc2).1 ?_
    show Steps p.tables e below (s₁.setTop (mkF m 5 #[.val (.int p1), .val (.int p2)] [])) _
    refine XS.iloadN X0.here hx rfl (hb hby d8_5) rfl ?_
    show Steps p.tables e below (s₁.setTop (mkF m 6 #[.val (.int p1), .val (.int p2)] [(.int p1)])) _
    refine XS.goto X0.here hx rfl (pc0 := 6) (pc' := 10) rfl (hb hby d8_6) (by decide) (by decide) ?_
    show Steps p.tables e below (s₁.setTop (mkF m 10 #[.val (.int p1), .val (.int p2)] [(.int p1)])) _
    exact retI X0 hx Bd.returns (hb hby d8_10) hr
  · show Q8 Z p1 p2 h0 n0 _ s₁.heap _
    rw [e0]
    exact ⟨rfl, N0, rfl⟩
theorem d9_0 : decode jdk_65_method_121_code 0 = .ok (.iload_n 1, 1) := by decide +kernel
theorem d9_1 : decode jdk_65_method_121_code 1 = .ok (.aload_n 0, 1) := by decide +kernel
theorem d9_2 : decode jdk_65_method_121_code 2 = .ok (.arraylength, 1) := by decide +kernel
theorem d9_3 : decode jdk_65_method_121_code 3 = .ok (.if_icmp .ne 11, 3) := by decide +kernel
theorem d9_14 : decode jdk_65_method_121_code 14 = .ok (.iload_n 1, 1) := by decide +kernel
theorem d9_15 : decode jdk_65_method_121_code 15 = .ok (.newarray .byte, 2) := by decide +kernel
theorem d9_17 : decode jdk_65_method_121_code 17 = .ok (.astore_n 2, 1) := by decide +kernel
theorem d9_18 : decode jdk_65_method_121_code 18 = .ok (.aload_n 0, 1) := by decide +kernel
theorem d9_19 : decode jdk_65_method_121_code 19 = .ok (.iconst 0, 1) := by decide +kernel
theorem d9_20 : decode jdk_65_method_121_code 20 = .ok (.aload_n 2, 1) := by decide +kernel
theorem d9_21 : decode jdk_65_method_121_code 21 = .ok (.iconst 0, 1) := by decide +kernel
theorem d9_22 : decode jdk_65_method_121_code 22 = .ok (.aload_n 0, 1) := by decide +kernel
theorem d9_23 : decode jdk_65_method_121_code 23 = .ok (.arraylength, 1) := by decide +kernel
theorem d9_24 : decode jdk_65_method_121_code 24 = .ok (.iload_n 1, 1) := by decide +kernel
theorem d9_25 : decode jdk_65_method_121_code 25 = .ok (.invokestatic 304, 3) := by decide +kernel
theorem d9_28 : decode jdk_65_method_121_code 28 = .ok (.invokestatic 150, 3) := by decide +kernel
theorem d9_31 : decode jdk_65_method_121_code 31 = .ok (.aload_n 2, 1) := by decide +kernel
theorem d9_32 : decode jdk_65_method_121_code 32 = .ok (.areturn, 1) := by decide +kernel
theorem pn_9 : plainName "java/util/Arrays" = true := by first | (simp [plainName, overriddenIn]; done) | decide +kernel
theorem pd_9_4 : parseMethodDescriptor "(II)I" = some ⟨[.int, .int], some .int⟩ := by decide +kernel
theorem pd_9_6 : parseMethodDescriptor "(Ljava/lang/Object;ILjava/lang/Object;II)V" = some ⟨[(.object "java/lang/Object"), .int, (.object "java/lang/Object"), .int, .int], none⟩ := by decide +kernel
theorem ef_9 (m : MethodId) (x0 : Addr) (x1 : Int32) : entryFrame m #[(.ref x0), (.int x1)] 3 = mkF m 0 #[.val (.ref x0), .val (.int x1), .unset] [] := by first | (simp [entryFrame, mkF, argsToLocals, Value.category]; done) | rfl
def Q9 (Z : State) (a1 : Addr) (N n : Nat) (cl_a1 : Cell) (h0 : Heap) (n0 : Nat) (v : Option Value) (h : Heap) (L : List Loc) : Prop := v = some (.ref h0.size) ∧ Fr n0 L ∧ Keep h0 h [] ∧ ∃ B : Cell, Arr Z h h0.size B .byte ∧ B.slots.size = n ∧ ∀ j, j < n → B.slots[j]? = some (if j < N then cl_a1.slots.getD j .null else defaultValue .byte)
set_option maxRecDepth 65536 in
set_option maxHeartbeats 40000000 in
theorem rm9 (l : Launch) (Z : State) (a0 : Array Value) (hw : ∀ d ∈ tables_1, d.before a0 Z = true) (ws : List Jvm.Cond) (a1 : Addr) (N n : Nat) (cl_a1 : Cell) (h0 : Heap) (n0 : Nat) (Z0 : n0 ≤ h0.size) (Ar_a1 : Arr Z h0 a1 cl_a1 .byte) (S : cl_a1.slots.size = N) (hNn : N < n) (hn : n ≤ 64) (G : ∀ i, i < N → fits .byte (cl_a1.slots.getD i .null) = true) :
    MetFree l (⟨"java/util/Arrays", "copyOf", "([BI)[B"⟩ : MethodName) (head1 (Jvm.Cond.code (⟨"java/util/Arrays", "copyOf", "([BI)[B"⟩ : MethodName) jdk_65_method_121_code 3 (some (.array .byte)) :: ws) ({ frames := 1, cells := 1, slots := n, locals := 40 } : Room)) (fun a U => a = #[(.ref a1), (.int (Int32.ofNat n))] ∧ Z.Warmed39 U.vm ∧ U.heap = h0) (fun _ _ _ _ _ => True) (fun _ U o U' => ∃ v L, o = .returned v ∧ Q9 Z a1 N n cl_a1 h0 n0 v U'.heap L ∧ FrameEnd U o U' L ({ frames := 1, cells := 1, slots := n, locals := 40 } : Room).cells ({ frames := 1, cells := 1, slots := n, locals := 40 } : Room).slots) := by
  refine MetFree.of_bodySF (plainFor_of_name pn_9) hisR ?_
  intro p e s m args below meth c s₁ Bd hml0 hP hK
  obtain ⟨rfl, hZ, hh⟩ := hP
  have hx := Bd.exec
  have hby := Bd.bytes
  have hml : c.maxLocals = 3 := hml0
  have hown : s.vm.findClass "java/util/Arrays" = some m.cls := findClass_of_methodNamed Bd.named
  have hnm := (name_of_methodNamed Bd.named Bd.method).1
  have X0 : Stand p l e ({ frames := 1, cells := 1, slots := n, locals := 40 } : Room) s m #[(.ref a1), (.int (Int32.ofNat n))] below meth c s₁ [] 0 0 := Stand.of_body Bd
  have e0 : s₁.heap = h0 := by rw [← hh, Bd.state]; rfl
  have N0 := Fr.nil n0
  have nn : ¬ Int32.ofNat n < 0 := own_nn (by omega)
  have zn : (Int32.ofNat n).toNatClampNeg = n := own_n32 (by omega)
  have S_a1 : cl_a1.slots.size = (Int32.ofNat N).toNatClampNeg := by rw [own_n32 (by omega), S]
  have N_a1 : ¬ Int32.ofNat N < 0 := own_nn (by omega)
  have hc3 : ¬ ((Int32.ofNat n) = (Int32.ofNat N)) := Jvm.Free.XT.ne32 (by omega) (by omega) (by omega)
  have pre0 : ∀ t, Steps p.tables e below (s₁.setTop (mkF m 0 #[.val (.ref a1), .val (.int (Int32.ofNat n)), .unset] [])) t → Steps p.tables e below (s₁.setTop (entryFrame m #[(.ref a1), (.int (Int32.ofNat n))] 3)) t := fun t k => castTop (ef_9 m a1 (Int32.ofNat n)) k
  obtain ⟨T3, h3, k3, X3, e3, E3, A3, st3⟩ := newP X0 hx hZ (hw _ (List.mem_of_getElem? (i := 10) rfl)) e0 (g := (mkF m 15 #[.val (.ref a1), .val (.int (Int32.ofNat n)), .unset] [(.int (Int32.ofNat n))])) rfl (hb hby d9_15) rfl nn (cap := n) (Nat.le_of_eq zn) (by omega) (by show 0 + 1 ≤ 1; decide) (by show 0 + n ≤ n; omega)
  obtain ⟨b3, g3⟩ : ∃ z, z = h0.size := ⟨_, rfl⟩
  rw [← g3] at A3 st3
  have g_b3 : n0 ≤ b3 := Nat.le_trans Z0 (Nat.le_of_eq g3.symm)
  have sz_b3 : h0.size ≤ b3 := (Nat.le_trans (Keep.refl h0 []).1 (Nat.le_of_eq g3.symm))
  have K3 : Keep h0 h3 [] := (Keep.refl h0 []).ext E3
  have Z3 : n0 ≤ h3.size := Nat.le_trans Z0 E3.1
  have Ar3 := Ar_a1.ext E3
  obtain ⟨_, _, ⟨T4, L4, k4, n4⟩, -, X4, ⟨Lc4, hQ4, l4, y4, z4⟩, st4⟩ := Jvm.LawKit.callS X3 hx (y := (⟨"java/lang/Math", "min", "(II)I"⟩ : MethodName)) hown (mvT hZ (hw _ (List.mem_of_getElem? (i := 57) rfl))) (mvT hZ (hw _ (List.mem_of_getElem? (i := 58) rfl))) (mvT hZ (hw _ (List.mem_of_getElem? (i := 51) rfl))) (mvT hZ (hw _ (List.mem_of_getElem? (i := 59) rfl))) (by decide) (backOf (W := 4) (rm10 l Z a0 hw [] (Int32.ofNat N) (Int32.ofNat n) h3 n0 Z3 (Jvm.Free.XT.nlt32 (by omega) (by omega))) hZ (hw _ (List.mem_of_getElem? (i := 59) rfl)) (hw _ (List.mem_of_getElem? (i := 51) rfl)) (by show 0 + 1 ≤ 1; decide) (by show 4 + (2 + 11) + 0 ≤ 40; decide)) (g := (mkF m 25 #[.val (.ref a1), .val (.int (Int32.ofNat n)), .val (.ref b3)] [(.int (Int32.ofNat n)), (.int (Int32.ofNat N)), (.int (0 : Int32)), (.ref b3), (.int (0 : Int32)), (.ref a1)])) rfl (by rw [hml]; rfl) (argsL := [(.int (Int32.ofNat N)), (.int (Int32.ofNat n))]) (rest := [(.int (0 : Int32)), (.ref b3), (.int (0 : Int32)), (.ref a1)]) (lenOf pd_9_4 rfl) rfl (by show 2 * 0 + _ ≤ _; exact Nat.le_of_eq rfl) (hb hby d9_25) (fun _ _ => ⟨rfl, e3, (by show 0 + 1 + 0 ≤ 1; decide), (by show 0 + n + 0 ≤ n; omega)⟩)
  dsimp only [Pt.U, Pt.locs, Pt.cells, Pt.slots] at X4 l4 y4 z4 st4 hQ4
  subst l4 y4 z4
  obtain ⟨rfl, N4q, q4⟩ := hQ4
  have N4 := Fr.app N0 N4q
  have hA4 : Jvm.Free.XT.Arr .byte a1 cl_a1 T4 := ⟨by rw [q4]; exact Ar3.1, State.isArrayOf_alike (hZ.alike.trans X4.warmed.alike) Ar3.2.1, Ar3.2.2, by omega⟩
  have sB : (newA k3 .byte (Int32.ofNat n)).slots.size = n := (sz_new _ _ _).trans zn
  have hB4 : Jvm.Free.XT.Arr .byte b3 (newA k3 .byte (Int32.ofNat n)) T4 := ⟨by rw [q4]; exact A3.1, State.isArrayOf_alike (hZ.alike.trans X4.warmed.alike) A3.2.1, A3.2.2, by rw [sB]; omega⟩
  have hac : ∀ w ∈ Jvm.Free.XT.acW "java/util/Arrays" 150, w.before #[(.ref a1), (.int (Int32.ofNat n))] s = true := by
    intro w hw'
    simp only [Jvm.Free.XT.acW, List.mem_cons, List.not_mem_nil, or_false] at hw'
    rcases hw' with rfl | rfl | rfl | rfl
    · exact mvT hZ (hw _ (List.mem_of_getElem? (i := 60) rfl))
    · exact mvT hZ (hw _ (List.mem_of_getElem? (i := 63) rfl))
    · exact mvT hZ (hw _ (List.mem_of_getElem? (i := 61) rfl))
    · exact mvT hZ (hw _ (List.mem_of_getElem? (i := 62) rfl))
  obtain ⟨T5, B5, X5, P5, bc5, bv5, bs5, bg5, st5⟩ := X4.acopy hx (o := 0) (q := 0) (n := N) hown hac hA4 hB4 rfl (jo := (0 : Int32)) (jq := (0 : Int32)) (jn := Int32.ofNat N) rfl rfl rfl (by omega) (by omega) (fun i hi => ⟨by rw [Nat.zero_add]; exact G i hi, fun h => by cases h⟩) (g := (mkF m 28 #[.val (.ref a1), .val (.int (Int32.ofNat n)), .val (.ref b3)] [(.int (Int32.ofNat N)), (.int (0 : Int32)), (.ref b3), (.int (0 : Int32)), (.ref a1)])) rfl (by rw [hml]; rfl) (rest := []) rfl (hb hby d9_28) (W := 0) (by show 2 * 0 + 0 ≤ _; decide) (by show 1 ≤ 1; decide) (by show 0 + 40 ≤ 40; decide)
  have N5 := Fr.app N4 (own_fr_copy (n := N) g_b3)
  have K5 : Keep h0 T5.heap [] := own_keep_put K3 q4 P5 sz_b3
  have Ar5 : Arr Z T5.heap b3 B5 .byte := ⟨P5.1, State.isArrayOf_alike (hZ.alike.trans X5.warmed.alike).symm (hB4.like (X4.warmed.alike.symm.trans X5.warmed.alike) P5.1 bc5 bv5 bs5).2.1, by rw [bv5]; exact A3.2.2⟩
  have V5 : ∀ j, j < n → B5.slots[j]? = some (if j < N then cl_a1.slots.getD j .null else defaultValue .byte) := fun j hj => by
    rw [bg5 j]
    by_cases hin : j < N
    · rw [if_pos ⟨Nat.zero_le _, by omega⟩, if_pos hin, Nat.zero_add, Nat.sub_zero]
    · rw [if_neg (fun q => hin (by omega)), if_neg hin]
      have : (newA k3 .byte (Int32.ofNat n)).slots[j]? = some (defaultValue .byte) := by simp [newA, zn, hj]
      exact this
  obtain ⟨fs, hr, hrun, hended, hW, hsame⟩ := X5.leave (v := some (.ref b3)) (fun h => by rw [Bd.returns] at h; cases h)
  refine ⟨_, _, pre0 _ ?_, hrun, hended, _, _, rfl, ?_, ⟨_, rfl⟩, hW, hsame.mono (by show 0 + 1 + 0 ≤ 1; decide) (by show 0 + n + 0 ≤ n; omega)⟩
  · show Steps p.tables e below (s₁.setTop (mkF m 0 #[.val (.ref a1), .val (.int (Int32.ofNat n)), .unset] [])) _
    refine XS.iloadN X0.here hx rfl (hb hby d9_0) rfl ?_
    show Steps p.tables e below (s₁.setTop (mkF m 1 #[.val (.ref a1), .val (.int (Int32.ofNat n)), .unset] [(.int (Int32.ofNat n))])) _
    refine XS.aloadN X0.here hx rfl (hb hby d9_1) rfl rfl ?_
    show Steps p.tables e below (s₁.setTop (mkF m 2 #[.val (.ref a1), .val (.int (Int32.ofNat n)), .unset] [(.ref a1), (.int (Int32.ofNat n))])) _
    refine X0.arraylength hx (by rw [e0]; exact Ar_a1.1) (State.isArrayOf_alike hZ.alike Ar_a1.2.1) (g := (mkF m 2 #[.val (.ref a1), .val (.int (Int32.ofNat n)), .unset] [(.ref a1), (.int (Int32.ofNat n))])) rfl rfl (hb hby d9_2) _ ?_
    rw [len_of S_a1 N_a1]
    show Steps p.tables e below (s₁.setTop (mkF m 3 #[.val (.ref a1), .val (.int (Int32.ofNat n)), .unset] [(.int (Int32.ofNat N)), (.int (Int32.ofNat n))])) _
    refine XS.icmpYes X0.here hx rfl (pc0 := 3) (pc' := 14) rfl (hb hby d9_3) rfl (feq hc3).2 (by decide) (by decide) ?_
    show Steps p.tables e below (s₁.setTop (mkF m 14 #[.val (.ref a1), .val (.int (Int32.ofNat n)), .unset] [])) _
    refine XS.iloadN X0.here hx rfl (hb hby d9_14) rfl ?_
    show Steps p.tables e below (s₁.setTop (mkF m 15 #[.val (.ref a1), .val (.int (Int32.ofNat n)), .unset] [(.int (Int32.ofNat n))])) _
    refine st3 _ ?_
    show Steps p.tables e below (T3.setTop (mkF m 17 #[.val (.ref a1), .val (.int (Int32.ofNat n)), .unset] [(.ref b3)])) _
    refine XS.astoreN X3.here hx rfl (hb hby d9_17) rfl rfl (l' := #[.val (.ref a1), .val (.int (Int32.ofNat n)), .val (.ref b3)]) rfl ?_
    show Steps p.tables e below (T3.setTop (mkF m 18 #[.val (.ref a1), .val (.int (Int32.ofNat n)), .val (.ref b3)] [])) _
    refine XS.aloadN X3.here hx rfl (hb hby d9_18) rfl rfl ?_
    show Steps p.tables e below (T3.setTop (mkF m 19 #[.val (.ref a1), .val (.int (Int32.ofNat n)), .val (.ref b3)] [(.ref a1)])) _
    refine XS.iconst X3.here hx rfl (hb hby d9_19) ?_
    show Steps p.tables e below (T3.setTop (mkF m 20 #[.val (.ref a1), .val (.int (Int32.ofNat n)), .val (.ref b3)] [(.int (0 : Int32)), (.ref a1)])) _
    refine XS.aloadN X3.here hx rfl (hb hby d9_20) rfl rfl ?_
    show Steps p.tables e below (T3.setTop (mkF m 21 #[.val (.ref a1), .val (.int (Int32.ofNat n)), .val (.ref b3)] [(.ref b3), (.int (0 : Int32)), (.ref a1)])) _
    refine XS.iconst X3.here hx rfl (hb hby d9_21) ?_
    show Steps p.tables e below (T3.setTop (mkF m 22 #[.val (.ref a1), .val (.int (Int32.ofNat n)), .val (.ref b3)] [(.int (0 : Int32)), (.ref b3), (.int (0 : Int32)), (.ref a1)])) _
    refine XS.aloadN X3.here hx rfl (hb hby d9_22) rfl rfl ?_
    show Steps p.tables e below (T3.setTop (mkF m 23 #[.val (.ref a1), .val (.int (Int32.ofNat n)), .val (.ref b3)] [(.ref a1), (.int (0 : Int32)), (.ref b3), (.int (0 : Int32)), (.ref a1)])) _
    refine X3.arraylength hx (by rw [e3]; exact Ar3.1) (State.isArrayOf_alike hZ.alike Ar3.2.1) (g := (mkF m 23 #[.val (.ref a1), .val (.int (Int32.ofNat n)), .val (.ref b3)] [(.ref a1), (.int (0 : Int32)), (.ref b3), (.int (0 : Int32)), (.ref a1)])) rfl rfl (hb hby d9_23) _ ?_
    rw [len_of S_a1 N_a1]
    show Steps p.tables e below (T3.setTop (mkF m 24 #[.val (.ref a1), .val (.int (Int32.ofNat n)), .val (.ref b3)] [(.int (Int32.ofNat N)), (.int (0 : Int32)), (.ref b3), (.int (0 : Int32)), (.ref a1)])) _
    refine XS.iloadN X3.here hx rfl (hb hby d9_24) rfl ?_
    show Steps p.tables e below (T3.setTop (mkF m 25 #[.val (.ref a1), .val (.int (Int32.ofNat n)), .val (.ref b3)] [(.int (Int32.ofNat n)), (.int (Int32.ofNat N)), (.int (0 : Int32)), (.ref b3), (.int (0 : Int32)), (.ref a1)])) _
    refine st4 _ ?_
    show Steps p.tables e below (T4.setTop (mkF m 28 #[.val (.ref a1), .val (.int (Int32.ofNat n)), .val (.ref b3)] [(.int (Int32.ofNat N)), (.int (0 : Int32)), (.ref b3), (.int (0 : Int32)), (.ref a1)])) _
    refine st5 _ ?_
    show Steps p.tables e below (T5.setTop (mkF m 31 #[.val (.ref a1), .val (.int (Int32.ofNat n)), .val (.ref b3)] [])) _
    refine XS.aloadN X5.here hx rfl (hb hby d9_31) rfl rfl ?_
    show Steps p.tables e below (T5.setTop (mkF m 32 #[.val (.ref a1), .val (.int (Int32.ofNat n)), .val (.ref b3)] [(.ref b3)])) _
    jvm_step X5.here [X5.here.top, hx, (hb hby d9_32), X5.method', Bd.returns, Value.isRef, FieldType.isReference]
    first | (intro acts; rw [hr _ acts rfl rfl rfl]) | rw [hr _ _ rfl rfl rfl]
    exact Steps.refl _
  · show Q9 Z a1 N n cl_a1 h0 n0 _ T5.heap _
    exact ⟨by rw [g3], N5, K5, B5, by rw [← g3]; exact Ar5, bs5.trans sB, V5⟩
theorem d1_0 : decode prog_33_method_1_code 0 = .ok (.aload_n 0, 1) := by decide +kernel
theorem d1_1 : decode prog_33_method_1_code 1 = .ok (.invokespecial 1, 3) := by decide +kernel
theorem d1_4 : decode prog_33_method_1_code 4 = .ok (.aload_n 0, 1) := by decide +kernel
theorem d1_5 : decode prog_33_method_1_code 5 = .ok (.bipush 16, 2) := by decide +kernel
theorem d1_7 : decode prog_33_method_1_code 7 = .ok (.newarray .byte, 2) := by decide +kernel
theorem d1_9 : decode prog_33_method_1_code 9 = .ok (.putfield 7, 3) := by decide +kernel
theorem d1_12 : decode prog_33_method_1_code 12 = .ok (.return_, 1) := by decide +kernel
theorem pn_1 : plainName "com/example/wrasse/wrasse/index/BitWriter" = true := by first | (simp [plainName, overriddenIn]; done) | decide +kernel
theorem ef_1 (m : MethodId) (x0 : Addr) : entryFrame m #[(.ref x0)] 1 = mkF m 0 #[.val (.ref x0)] [] := by first | (simp [entryFrame, mkF, argsToLocals, Value.category]; done) | rfl
def Q1 (Z : State) (a1 : Addr) (h0 : Heap) (n0 : Nat) (v : Option Value) (h : Heap) (L : List Loc) : Prop := v = none ∧ Fr n0 L ∧ BW Z h n0 a1 16 0 0
set_option maxRecDepth 65536 in
set_option maxHeartbeats 40000000 in
theorem rm1 (l : Launch) (Z : State) (a0 : Array Value) (hw : ∀ d ∈ tables_1, d.before a0 Z = true) (ws : List Jvm.Cond) (a1 : Addr) (u_bytes_a1 : Value) (h0 : Heap) (n0 : Nat) (Z0 : n0 ≤ h0.size) (E_a1 : Exa Z h0 a1 "com/example/wrasse/wrasse/index/BitWriter") (F_bytes_a1 : Fld Z h0 a1 "com/example/wrasse/wrasse/index/BitWriter" "bytes" "[B" u_bytes_a1) (g_a1 : n0 ≤ a1) (F_size_a1 : Fld Z h0 a1 "com/example/wrasse/wrasse/index/BitWriter" "size" "I" (.int (0 : Int32))) (F_pending_a1 : Fld Z h0 a1 "com/example/wrasse/wrasse/index/BitWriter" "pending" "J" (.long (0 : Int64))) (F_pendingBits_a1 : Fld Z h0 a1 "com/example/wrasse/wrasse/index/BitWriter" "pendingBits" "I" (.int (0 : Int32))) :
    MetFree l (⟨"com/example/wrasse/wrasse/index/BitWriter", "<init>", "()V"⟩ : MethodName) (head1 (Jvm.Cond.code (⟨"com/example/wrasse/wrasse/index/BitWriter", "<init>", "()V"⟩ : MethodName) prog_33_method_1_code 1 none :: ws) ({ frames := 1, cells := 1, slots := 16, locals := 12 } : Room)) (fun a U => a = #[(.ref a1)] ∧ Z.Warmed39 U.vm ∧ U.heap = h0) (fun _ _ _ _ _ => True) (fun _ U o U' => ∃ v L, o = .returned v ∧ Q1 Z a1 h0 n0 v U'.heap L ∧ FrameEnd U o U' L ({ frames := 1, cells := 1, slots := 16, locals := 12 } : Room).cells ({ frames := 1, cells := 1, slots := 16, locals := 12 } : Room).slots) := by
  refine MetFree.of_bodySF (plainFor_of_name pn_1) hisR ?_
  intro p e s m args below meth c s₁ Bd hml0 hP hK
  obtain ⟨rfl, hZ, hh⟩ := hP
  have hx := Bd.exec
  have hby := Bd.bytes
  have hml : c.maxLocals = 1 := hml0
  have hown : s.vm.findClass "com/example/wrasse/wrasse/index/BitWriter" = some m.cls := findClass_of_methodNamed Bd.named
  have hnm := (name_of_methodNamed Bd.named Bd.method).1
  have X0 : Stand p l e ({ frames := 1, cells := 1, slots := 16, locals := 12 } : Room) s m #[(.ref a1)] below meth c s₁ [] 0 0 := Stand.of_body Bd
  have e0 : s₁.heap = h0 := by rw [← hh, Bd.state]; rfl
  have N0 := Fr.nil n0
  have pre0 : ∀ t, Steps p.tables e below (s₁.setTop (mkF m 0 #[.val (.ref a1)] [])) t → Steps p.tables e below (s₁.setTop (entryFrame m #[(.ref a1)] 1)) t := fun t k => castTop (ef_1 m a1) k
  obtain ⟨T2, X2, e2, st2⟩ := initO X0 hx hZ hown (hw _ (List.mem_of_getElem? (i := 7) rfl)) (hw _ (List.mem_of_getElem? (i := 8) rfl)) (hw _ (List.mem_of_getElem? (i := 9) rfl)) e0 (g := (mkF m 1 #[.val (.ref a1)] [(.ref a1)])) rfl (by rw [hml]; rfl) rfl (hb hby d1_1) (by decide) (W := 0) (by show 2 * 0 + _ ≤ _; exact Nat.le_of_eq rfl) (by decide)
  obtain ⟨T3, h3, k3, X3, e3, E3, A3, st3⟩ := newP X2 hx hZ (hw _ (List.mem_of_getElem? (i := 10) rfl)) e2 (g := (mkF m 7 #[.val (.ref a1)] [(.int (16 : Int32)), (.ref a1)])) rfl (hb hby d1_7) rfl (by decide) (cap := 16) (by decide) (by decide) (by decide) (by decide)
  obtain ⟨b3, g3⟩ : ∃ z, z = h0.size := ⟨_, rfl⟩
  rw [← g3] at A3 st3
  have V_b3 : Arv Z h3 b3 k3 .byte (16 : Int32) [(.int (0 : Int32)), (.int (0 : Int32)), (.int (0 : Int32)), (.int (0 : Int32)), (.int (0 : Int32)), (.int (0 : Int32)), (.int (0 : Int32)), (.int (0 : Int32)), (.int (0 : Int32)), (.int (0 : Int32)), (.int (0 : Int32)), (.int (0 : Int32)), (.int (0 : Int32)), (.int (0 : Int32)), (.int (0 : Int32)), (.int (0 : Int32))] (.int (0 : Int32)) := (Arv.new A3 (by decide)).pad (pad_rep [] (.int (0 : Int32)) 16)
  have g_b3 : n0 ≤ b3 := Nat.le_trans Z0 (Nat.le_of_eq g3.symm)
  obtain ⟨T4, h4, X4, e4, W4, st4⟩ := putF X3 hx hZ hown (host := "") (Or.inl (hw _ (List.mem_of_getElem? (i := 11) rfl))) Via.refl e3 (F_bytes_a1.ext E3) (E_a1.ext E3) (Or.inl (hw _ (List.mem_of_getElem? (i := 12) rfl))) (hw _ (List.mem_of_getElem? (i := 2) rfl)) (ty := (.array .byte)) (by decide) rfl rfl (g := (mkF m 9 #[.val (.ref a1)] [(.ref b3), (.ref a1)])) rfl rfl (hb hby d1_9)
  have Fw4 := (F_bytes_a1.ext E3).same W4
  have N4 := Fr.snoc X4 N0 g_a1
  obtain ⟨fs, hr, hrun, hended, hW, hsame⟩ := X4.leave (v := none) (fun _ => rfl)
  refine ⟨_, _, pre0 _ ?_, hrun, hended, _, _, rfl, ?_, ⟨_, rfl⟩, hW, hsame.mono (by decide) (by decide)⟩
  · show Steps p.tables e below (s₁.setTop (mkF m 0 #[.val (.ref a1)] [])) _
    refine XS.aloadN X0.here hx rfl (hb hby d1_0) rfl rfl ?_
    show Steps p.tables e below (s₁.setTop (mkF m 1 #[.val (.ref a1)] [(.ref a1)])) _
    refine st2 _ ?_
    show Steps p.tables e below (T2.setTop (mkF m 4 #[.val (.ref a1)] [])) _
    refine XS.aloadN X2.here hx rfl (hb hby d1_4) rfl rfl ?_
    show Steps p.tables e below (T2.setTop (mkF m 5 #[.val (.ref a1)] [(.ref a1)])) _
    refine XS.bipush X2.here hx rfl (hb hby d1_5) ?_
    show Steps p.tables e below (T2.setTop (mkF m 7 #[.val (.ref a1)] [(.int (16 : Int32)), (.ref a1)])) _
    refine st3 _ ?_
    show Steps p.tables e below (T3.setTop (mkF m 9 #[.val (.ref a1)] [(.ref b3), (.ref a1)])) _
    refine st4 _ ?_
    show Steps p.tables e below (T4.setTop (mkF m 12 #[.val (.ref a1)] [])) _
    exact X4.returnOut hx Bd.returns (hb hby d1_12) hr
  · show Q1 Z a1 h0 n0 _ T4.heap _
    rw [e4]
    exact ⟨rfl, N4, Nat.le_trans (Nat.le_trans Z0 E3.1) (Nat.le_of_eq W4.size.symm), ((E_a1.ext E3).wr W4), g_a1, b3, _, 0, Fw4, ((F_size_a1.ext E3).other W4 (Or.inr (slot_ne (Or.inl (hw _ (List.mem_of_getElem? (i := 28) rfl))) (Or.inl (hw _ (List.mem_of_getElem? (i := 12) rfl))) (by decide) (t := .int) (t' := (.array .byte)) (by decide) (by decide)))), ((F_pending_a1.ext E3).other W4 (Or.inr (slot_ne (Or.inl (hw _ (List.mem_of_getElem? (i := 19) rfl))) (Or.inl (hw _ (List.mem_of_getElem? (i := 12) rfl))) (by decide) (t := .long) (t' := (.array .byte)) (by decide) (by decide)))), ((F_pendingBits_a1.ext E3).other W4 (Or.inr (slot_ne (Or.inl (hw _ (List.mem_of_getElem? (i := 21) rfl))) (Or.inl (hw _ (List.mem_of_getElem? (i := 12) rfl))) (by decide) (t := .int) (t' := (.array .byte)) (by decide) (by decide)))), g_b3, A3.other W4 (by rw [g3]; exact Nat.ne_of_gt E_a1.lt), (sz_new _ _ _), own_new_fits (by decide)⟩
/-- whether writeBits lays a greater array -/
def own_gr (N sz q : Nat) : Bool := decide (8 ≤ q ∧ N < sz + 8)
def own_N (N sz q : Nat) : Nat := if own_gr N sz q then 2 * N else N
def own_gc (N sz q : Nat) : Nat := if own_gr N sz q then 1 else 0
def own_gs (N sz q : Nat) : Nat := if own_gr N sz q then 2 * N else 0
theorem own_add32 (a b : Nat) : Int32.ofNat a + Int32.ofNat b = Int32.ofNat (a + b) := Jvm.Free.XT.add32n a b
theorem own_sub32 {a b : Nat} (h : b ≤ a) : Int32.ofNat a - Int32.ofNat b = Int32.ofNat (a - b) := Jvm.Free.XT.sub32n h
theorem own_mul32 (a b : Nat) : Int32.ofNat a * Int32.ofNat b = Int32.ofNat (a * b) := by rw [Int32.ofNat_mul]
theorem d3_0 : decode prog_33_method_2_code 0 = .ok (.aload_n 0, 1) := by decide +kernel
theorem d3_1 : decode prog_33_method_2_code 1 = .ok (.dup, 1) := by decide +kernel
theorem d3_2 : decode prog_33_method_2_code 2 = .ok (.getfield 13, 3) := by decide +kernel
theorem d3_5 : decode prog_33_method_2_code 5 = .ok (.lload_n 1, 1) := by decide +kernel
theorem d3_6 : decode prog_33_method_2_code 6 = .ok (.aload_n 0, 1) := by decide +kernel
theorem d3_7 : decode prog_33_method_2_code 7 = .ok (.getfield 17, 3) := by decide +kernel
theorem d3_10 : decode prog_33_method_2_code 10 = .ok (.lshl, 1) := by decide +kernel
theorem d3_11 : decode prog_33_method_2_code 11 = .ok (.lor, 1) := by decide +kernel
theorem d3_12 : decode prog_33_method_2_code 12 = .ok (.putfield 13, 3) := by decide +kernel
theorem d3_15 : decode prog_33_method_2_code 15 = .ok (.aload_n 0, 1) := by decide +kernel
theorem d3_16 : decode prog_33_method_2_code 16 = .ok (.dup, 1) := by decide +kernel
theorem d3_17 : decode prog_33_method_2_code 17 = .ok (.getfield 17, 3) := by decide +kernel
theorem d3_20 : decode prog_33_method_2_code 20 = .ok (.iload_n 3, 1) := by decide +kernel
theorem d3_21 : decode prog_33_method_2_code 21 = .ok (.iadd, 1) := by decide +kernel
theorem d3_22 : decode prog_33_method_2_code 22 = .ok (.putfield 17, 3) := by decide +kernel
theorem d3_25 : decode prog_33_method_2_code 25 = .ok (.aload_n 0, 1) := by decide +kernel
theorem d3_26 : decode prog_33_method_2_code 26 = .ok (.getfield 17, 3) := by decide +kernel
theorem d3_29 : decode prog_33_method_2_code 29 = .ok (.bipush 8, 2) := by decide +kernel
theorem d3_31 : decode prog_33_method_2_code 31 = .ok (.if_icmp .lt 105, 3) := by decide +kernel
theorem d3_34 : decode prog_33_method_2_code 34 = .ok (.aload_n 0, 1) := by decide +kernel
theorem d3_35 : decode prog_33_method_2_code 35 = .ok (.getfield 7, 3) := by decide +kernel
theorem d3_38 : decode prog_33_method_2_code 38 = .ok (.arraylength, 1) := by decide +kernel
theorem d3_39 : decode prog_33_method_2_code 39 = .ok (.aload_n 0, 1) := by decide +kernel
theorem d3_40 : decode prog_33_method_2_code 40 = .ok (.getfield 23, 3) := by decide +kernel
theorem d3_43 : decode prog_33_method_2_code 43 = .ok (.isub, 1) := by decide +kernel
theorem d3_44 : decode prog_33_method_2_code 44 = .ok (.bipush 8, 2) := by decide +kernel
theorem d3_46 : decode prog_33_method_2_code 46 = .ok (.if_icmp .ge 31, 3) := by decide +kernel
theorem d3_49 : decode prog_33_method_2_code 49 = .ok (.aload_n 0, 1) := by decide +kernel
theorem d3_50 : decode prog_33_method_2_code 50 = .ok (.aload_n 0, 1) := by decide +kernel
theorem d3_51 : decode prog_33_method_2_code 51 = .ok (.getfield 7, 3) := by decide +kernel
theorem d3_54 : decode prog_33_method_2_code 54 = .ok (.iconst 2, 1) := by decide +kernel
theorem d3_55 : decode prog_33_method_2_code 55 = .ok (.aload_n 0, 1) := by decide +kernel
theorem d3_56 : decode prog_33_method_2_code 56 = .ok (.getfield 7, 3) := by decide +kernel
theorem d3_59 : decode prog_33_method_2_code 59 = .ok (.arraylength, 1) := by decide +kernel
theorem d3_60 : decode prog_33_method_2_code 60 = .ok (.imul, 1) := by decide +kernel
theorem d3_61 : decode prog_33_method_2_code 61 = .ok (.aload_n 0, 1) := by decide +kernel
theorem d3_62 : decode prog_33_method_2_code 62 = .ok (.getfield 23, 3) := by decide +kernel
theorem d3_65 : decode prog_33_method_2_code 65 = .ok (.bipush 8, 2) := by decide +kernel
theorem d3_67 : decode prog_33_method_2_code 67 = .ok (.iadd, 1) := by decide +kernel
theorem d3_68 : decode prog_33_method_2_code 68 = .ok (.invokestatic 28, 3) := by decide +kernel
theorem d3_71 : decode prog_33_method_2_code 71 = .ok (.invokestatic 34, 3) := by decide +kernel
theorem d3_74 : decode prog_33_method_2_code 74 = .ok (.putfield 7, 3) := by decide +kernel
theorem pd_3_4 : parseMethodDescriptor "(II)I" = some ⟨[.int, .int], some .int⟩ := by decide +kernel
theorem pd_3_5 : parseMethodDescriptor "([BI)[B" = some ⟨[(.array .byte), .int], some (.array .byte)⟩ := by decide +kernel
theorem d3_77 : decode prog_33_method_2_code 77 = .ok (.aload_n 0, 1) := by decide +kernel
theorem d3_78 : decode prog_33_method_2_code 78 = .ok (.getfield 17, 3) := by decide +kernel
theorem d3_81 : decode prog_33_method_2_code 81 = .ok (.bipush 8, 2) := by decide +kernel
theorem d3_83 : decode prog_33_method_2_code 83 = .ok (.if_icmp .lt 53, 3) := by decide +kernel
theorem d3_86 : decode prog_33_method_2_code 86 = .ok (.aload_n 0, 1) := by decide +kernel
theorem d3_87 : decode prog_33_method_2_code 87 = .ok (.getfield 7, 3) := by decide +kernel
theorem d3_90 : decode prog_33_method_2_code 90 = .ok (.aload_n 0, 1) := by decide +kernel
theorem d3_91 : decode prog_33_method_2_code 91 = .ok (.getfield 23, 3) := by decide +kernel
theorem d3_94 : decode prog_33_method_2_code 94 = .ok (.aload_n 0, 1) := by decide +kernel
theorem d3_95 : decode prog_33_method_2_code 95 = .ok (.getfield 13, 3) := by decide +kernel
theorem d3_98 : decode prog_33_method_2_code 98 = .ok (.l2i, 1) := by decide +kernel
theorem d3_99 : decode prog_33_method_2_code 99 = .ok (.i2b, 1) := by decide +kernel
theorem d3_100 : decode prog_33_method_2_code 100 = .ok (.bastore, 1) := by decide +kernel
theorem d3_101 : decode prog_33_method_2_code 101 = .ok (.aload_n 0, 1) := by decide +kernel
theorem d3_102 : decode prog_33_method_2_code 102 = .ok (.dup, 1) := by decide +kernel
theorem d3_103 : decode prog_33_method_2_code 103 = .ok (.getfield 23, 3) := by decide +kernel
theorem d3_106 : decode prog_33_method_2_code 106 = .ok (.iconst 1, 1) := by decide +kernel
theorem d3_107 : decode prog_33_method_2_code 107 = .ok (.iadd, 1) := by decide +kernel
theorem d3_108 : decode prog_33_method_2_code 108 = .ok (.putfield 23, 3) := by decide +kernel
theorem d3_111 : decode prog_33_method_2_code 111 = .ok (.aload_n 0, 1) := by decide +kernel
theorem d3_112 : decode prog_33_method_2_code 112 = .ok (.dup, 1) := by decide +kernel
theorem d3_113 : decode prog_33_method_2_code 113 = .ok (.getfield 13, 3) := by decide +kernel
theorem d3_116 : decode prog_33_method_2_code 116 = .ok (.bipush 8, 2) := by decide +kernel
theorem d3_118 : decode prog_33_method_2_code 118 = .ok (.lushr, 1) := by decide +kernel
theorem d3_119 : decode prog_33_method_2_code 119 = .ok (.putfield 13, 3) := by decide +kernel
theorem d3_122 : decode prog_33_method_2_code 122 = .ok (.aload_n 0, 1) := by decide +kernel
theorem d3_123 : decode prog_33_method_2_code 123 = .ok (.dup, 1) := by decide +kernel
theorem d3_124 : decode prog_33_method_2_code 124 = .ok (.getfield 17, 3) := by decide +kernel
theorem d3_127 : decode prog_33_method_2_code 127 = .ok (.bipush 8, 2) := by decide +kernel
theorem d3_129 : decode prog_33_method_2_code 129 = .ok (.isub, 1) := by decide +kernel
theorem d3_130 : decode prog_33_method_2_code 130 = .ok (.putfield 17, 3) := by decide +kernel
theorem d3_133 : decode prog_33_method_2_code 133 = .ok (.goto (-56), 3) := by decide +kernel
theorem d3_136 : decode prog_33_method_2_code 136 = .ok (.return_, 1) := by decide +kernel
theorem pn_3 : plainName "com/example/wrasse/wrasse/index/BitWriter" = true := by first | (simp [plainName, overriddenIn]; done) | decide +kernel
theorem ef_3 (m : MethodId) (x0 : Addr) (x1 : Int64) (x2 : Int32) : entryFrame m #[(.ref x0), (.long x1), (.int x2)] 4 = mkF m 0 #[.val (.ref x0), .val (.long x1), .second, .val (.int x2)] [] := by first | (simp [entryFrame, mkF, argsToLocals, Value.category]; done) | rfl
set_option maxRecDepth 65536 in
set_option maxHeartbeats 40000000 in
theorem tn3_0_25 {p : Program} {l : Launch} {e : Env} {R : Room} {s : State} {m : MethodId} {args : Array Value} {below : List Frame} {meth : Method} {c : Code} {T0 : State} {locs : List Loc} {cells slots : Nat} {Z : State} {a0 : Array Value} {h0 : Heap} {n0 : Nat} (o0 : Addr) (j1 : Int64) (k N sz pb : Nat)
    (X0 : Stand p l e R s m args below meth c T0 locs cells slots) (hx : p.tables.exec = Jvm.exec) (hZ : Z.Warmed39 s.vm) (hw : ∀ d ∈ tables_1, d.before a0 Z = true) (hby : c.code = prog_33_method_2_code) (hml : c.maxLocals = 4) (hown : s.vm.findClass "com/example/wrasse/wrasse/index/BitWriter" = some m.cls) (e0 : T0.heap = h0) (N0 : Fr n0 locs) (hI : BW Z h0 n0 o0 N sz pb) :
    ∃ (T' : State) (h' : Heap) (locs' : List Loc), Stand p l e R s m args below meth c T' locs' cells slots ∧ T'.heap = h' ∧ Fr n0 locs' ∧ BW Z h' n0 o0 N sz (pb + k) ∧
      ∀ target, Steps p.tables e below (T'.setTop (mkF m 25 #[.val (.ref o0), .val (.long j1), .second, .val (.int (Int32.ofNat k))] [])) target → Steps p.tables e below (T0.setTop (mkF m 0 #[.val (.ref o0), .val (.long j1), .second, .val (.int (Int32.ofNat k))] [])) target := by
  obtain ⟨Z0, E_o0, g_o0, t, cl, w4, F_bytes_o0, F_size_o0, F_pending_o0, F_pendingBits_o0, gt, Ar, S, G⟩ := hI
  have hne : o0 ≠ t := ne_arr E_o0 (hw _ (List.mem_of_getElem? (i := 2) rfl)) Ar
  obtain ⟨T5, X5, e5, st5⟩ := getF X0 hx hZ hown (host := "") (Or.inl (hw _ (List.mem_of_getElem? (i := 18) rfl))) Via.refl e0 F_pending_o0 (g := (mkF m 2 #[.val (.ref o0), .val (.long j1), .second, .val (.int (Int32.ofNat k))] [(.ref o0), (.ref o0)])) rfl rfl (hb hby d3_2)
  obtain ⟨T7, X7, e7, st7⟩ := getF X5 hx hZ hown (host := "") (Or.inl (hw _ (List.mem_of_getElem? (i := 20) rfl))) Via.refl e5 F_pendingBits_o0 (g := (mkF m 7 #[.val (.ref o0), .val (.long j1), .second, .val (.int (Int32.ofNat k))] [(.ref o0), (.long j1), (.long w4), (.ref o0)])) rfl rfl (hb hby d3_7)
  obtain ⟨T8, h8, X8, e8, W8, st8⟩ := putF X7 hx hZ hown (host := "") (Or.inl (hw _ (List.mem_of_getElem? (i := 18) rfl))) Via.refl e7 F_pending_o0 E_o0 (Or.inl (hw _ (List.mem_of_getElem? (i := 19) rfl))) (hw _ (List.mem_of_getElem? (i := 2) rfl)) (ty := .long) (by decide) rfl rfl (g := (mkF m 12 #[.val (.ref o0), .val (.long j1), .second, .val (.int (Int32.ofNat k))] [(.long (w4 ||| (j1 <<< ((Int32.ofNat pb) &&& 0x3f).toInt64))), (.ref o0)])) rfl rfl (hb hby d3_12)
  have Fw8 := F_pending_o0.same W8
  have N8 := Fr.snoc X8 N0 g_o0
  obtain ⟨T9, X9, e9, st9⟩ := getF X8 hx hZ hown (host := "") (Or.inl (hw _ (List.mem_of_getElem? (i := 20) rfl))) Via.refl e8 (F_pendingBits_o0.other W8 (Or.inr (slot_ne (Or.inl (hw _ (List.mem_of_getElem? (i := 21) rfl))) (Or.inl (hw _ (List.mem_of_getElem? (i := 19) rfl))) (by decide) (t := .int) (t' := .long) (by decide) (by decide)))) (g := (mkF m 17 #[.val (.ref o0), .val (.long j1), .second, .val (.int (Int32.ofNat k))] [(.ref o0), (.ref o0)])) rfl rfl (hb hby d3_17)
  obtain ⟨T10, h10, X10, e10, W10, st10⟩ := putF X9 hx hZ hown (host := "") (Or.inl (hw _ (List.mem_of_getElem? (i := 20) rfl))) Via.refl e9 (F_pendingBits_o0.other W8 (Or.inr (slot_ne (Or.inl (hw _ (List.mem_of_getElem? (i := 21) rfl))) (Or.inl (hw _ (List.mem_of_getElem? (i := 19) rfl))) (by decide) (t := .int) (t' := .long) (by decide) (by decide)))) (E_o0.wr W8) (Or.inl (hw _ (List.mem_of_getElem? (i := 21) rfl))) (hw _ (List.mem_of_getElem? (i := 2) rfl)) (ty := .int) (by decide) rfl rfl (g := (mkF m 22 #[.val (.ref o0), .val (.long j1), .second, .val (.int (Int32.ofNat k))] [(.int ((Int32.ofNat pb) + (Int32.ofNat k))), (.ref o0)])) rfl rfl (hb hby d3_22)
  have Fw10 := (F_pendingBits_o0.other W8 (Or.inr (slot_ne (Or.inl (hw _ (List.mem_of_getElem? (i := 21) rfl))) (Or.inl (hw _ (List.mem_of_getElem? (i := 19) rfl))) (by decide) (t := .int) (t' := .long) (by decide) (by decide)))).same W10
  have N10 := Fr.snoc X10 N8 g_o0
  have F10 : Fld Z h10 o0 "com/example/wrasse/wrasse/index/BitWriter" "pendingBits" "I" (.int (Int32.ofNat (pb + k))) := by rw [← own_add32]; exact Fw10
  refine ⟨T10, h10, _, X10, e10, N10, ⟨by rw [W10.size, W8.size]; exact Z0, ((E_o0.wr W8).wr W10), g_o0, t, cl, _, ((F_bytes_o0.other W8 (Or.inr (slot_ne (Or.inl (hw _ (List.mem_of_getElem? (i := 12) rfl))) (Or.inl (hw _ (List.mem_of_getElem? (i := 19) rfl))) (by decide) (t := (.array .byte)) (t' := .long) (by decide) (by decide)))).other W10 (Or.inr (slot_ne (Or.inl (hw _ (List.mem_of_getElem? (i := 12) rfl))) (Or.inl (hw _ (List.mem_of_getElem? (i := 21) rfl))) (by decide) (t := (.array .byte)) (t' := .int) (by decide) (by decide)))), ((F_size_o0.other W8 (Or.inr (slot_ne (Or.inl (hw _ (List.mem_of_getElem? (i := 28) rfl))) (Or.inl (hw _ (List.mem_of_getElem? (i := 19) rfl))) (by decide) (t := .int) (t' := .long) (by decide) (by decide)))).other W10 (Or.inr (slot_ne (Or.inl (hw _ (List.mem_of_getElem? (i := 28) rfl))) (Or.inl (hw _ (List.mem_of_getElem? (i := 21) rfl))) (by decide) (t := .int) (t' := .int) (by decide) (by decide)))), (Fw8.other W10 (Or.inr (slot_ne (Or.inl (hw _ (List.mem_of_getElem? (i := 19) rfl))) (Or.inl (hw _ (List.mem_of_getElem? (i := 21) rfl))) (by decide) (t := .long) (t' := .int) (by decide) (by decide)))), F10, gt, (Ar.other W8 hne.symm).other W10 hne.symm, S, G⟩, fun target kt => ?_⟩
  show Steps p.tables e below (T0.setTop (mkF m 0 #[.val (.ref o0), .val (.long j1), .second, .val (.int (Int32.ofNat k))] [])) _
  refine XS.aloadN X0.here hx rfl (hb hby d3_0) rfl rfl ?_
  show Steps p.tables e below (T0.setTop (mkF m 1 #[.val (.ref o0), .val (.long j1), .second, .val (.int (Int32.ofNat k))] [(.ref o0)])) _
  refine XS.dup X0.here hx rfl (hb hby d3_1) rfl rfl ?_
  show Steps p.tables e below (T0.setTop (mkF m 2 #[.val (.ref o0), .val (.long j1), .second, .val (.int (Int32.ofNat k))] [(.ref o0), (.ref o0)])) _
  refine st5 _ ?_
  show Steps p.tables e below (T5.setTop (mkF m 5 #[.val (.ref o0), .val (.long j1), .second, .val (.int (Int32.ofNat k))] [(.long w4), (.ref o0)])) _
  refine XS.lloadN X5.here hx rfl (hb hby d3_5) rfl ?_
  show Steps p.tables e below (T5.setTop (mkF m 6 #[.val (.ref o0), .val (.long j1), .second, .val (.int (Int32.ofNat k))] [(.long j1), (.long w4), (.ref o0)])) _
  refine XS.aloadN X5.here hx rfl (hb hby d3_6) rfl rfl ?_
  show Steps p.tables e below (T5.setTop (mkF m 7 #[.val (.ref o0), .val (.long j1), .second, .val (.int (Int32.ofNat k))] [(.ref o0), (.long j1), (.long w4), (.ref o0)])) _
  refine st7 _ ?_
  show Steps p.tables e below (T7.setTop (mkF m 10 #[.val (.ref o0), .val (.long j1), .second, .val (.int (Int32.ofNat k))] [(.int (Int32.ofNat pb)), (.long j1), (.long w4), (.ref o0)])) _
  refine XS.lshl X7.here hx rfl (hb hby d3_10) rfl ?_
  show Steps p.tables e below (T7.setTop (mkF m 11 #[.val (.ref o0), .val (.long j1), .second, .val (.int (Int32.ofNat k))] [(.long (j1 <<< ((Int32.ofNat pb) &&& 0x3f).toInt64)), (.long w4), (.ref o0)])) _
  refine XS.lor X7.here hx rfl (hb hby d3_11) rfl ?_
  show Steps p.tables e below (T7.setTop (mkF m 12 #[.val (.ref o0), .val (.long j1), .second, .val (.int (Int32.ofNat k))] [(.long (w4 ||| (j1 <<< ((Int32.ofNat pb) &&& 0x3f).toInt64))), (.ref o0)])) _
  refine st8 _ ?_
  show Steps p.tables e below (T8.setTop (mkF m 15 #[.val (.ref o0), .val (.long j1), .second, .val (.int (Int32.ofNat k))] [])) _
  refine XS.aloadN X8.here hx rfl (hb hby d3_15) rfl rfl ?_
  show Steps p.tables e below (T8.setTop (mkF m 16 #[.val (.ref o0), .val (.long j1), .second, .val (.int (Int32.ofNat k))] [(.ref o0)])) _
  refine XS.dup X8.here hx rfl (hb hby d3_16) rfl rfl ?_
  show Steps p.tables e below (T8.setTop (mkF m 17 #[.val (.ref o0), .val (.long j1), .second, .val (.int (Int32.ofNat k))] [(.ref o0), (.ref o0)])) _
  refine st9 _ ?_
  show Steps p.tables e below (T9.setTop (mkF m 20 #[.val (.ref o0), .val (.long j1), .second, .val (.int (Int32.ofNat k))] [(.int (Int32.ofNat pb)), (.ref o0)])) _
  refine XS.iloadN X9.here hx rfl (hb hby d3_20) rfl ?_
  show Steps p.tables e below (T9.setTop (mkF m 21 #[.val (.ref o0), .val (.long j1), .second, .val (.int (Int32.ofNat k))] [(.int (Int32.ofNat k)), (.int (Int32.ofNat pb)), (.ref o0)])) _
  refine XS.iadd X9.here hx rfl (hb hby d3_21) rfl ?_
  show Steps p.tables e below (T9.setTop (mkF m 22 #[.val (.ref o0), .val (.long j1), .second, .val (.int (Int32.ofNat k))] [(.int ((Int32.ofNat pb) + (Int32.ofNat k))), (.ref o0)])) _
  refine st10 _ ?_
  exact kt
set_option maxRecDepth 65536 in
set_option maxHeartbeats 40000000 in
theorem tn3_25_34_f {p : Program} {l : Launch} {e : Env} {R : Room} {s : State} {m : MethodId} {args : Array Value} {below : List Frame} {meth : Method} {c : Code} {T0 : State} {locs : List Loc} {cells slots : Nat} {Z : State} {a0 : Array Value} {h0 : Heap} (o0 : Addr) (s1 : Slot) (s2 : Slot) (s3 : Slot) (w4 : Int32)
    (X0 : Stand p l e R s m args below meth c T0 locs cells slots) (hx : p.tables.exec = Jvm.exec) (hZ : Z.Warmed39 s.vm) (hw : ∀ d ∈ tables_1, d.before a0 Z = true) (hby : c.code = prog_33_method_2_code) (hml : c.maxLocals = 4) (hown : s.vm.findClass "com/example/wrasse/wrasse/index/BitWriter" = some m.cls) (e0 : T0.heap = h0) (F_pendingBits_o0 : Fld Z h0 o0 "com/example/wrasse/wrasse/index/BitWriter" "pendingBits" "I" (.int w4)) (hc31 : ¬ (w4 < (8 : Int32))) :
    ∃ (T' : State), Stand p l e R s m args below meth c T' locs cells slots ∧ T'.heap = h0 ∧
      ∀ target, Steps p.tables e below (T'.setTop (mkF m 34 #[.val (.ref o0), s1, s2, s3] [])) target → Steps p.tables e below (T0.setTop (mkF m 25 #[.val (.ref o0), s1, s2, s3] [])) target := by
  obtain ⟨T5, X5, e5, st5⟩ := getF X0 hx hZ hown (host := "") (Or.inl (hw _ (List.mem_of_getElem? (i := 20) rfl))) Via.refl e0 F_pendingBits_o0 (g := (mkF m 26 #[.val (.ref o0), s1, s2, s3] [(.ref o0)])) rfl rfl (hb hby d3_26)
  refine ⟨T5, X5, e5, fun target kt => ?_⟩
  show Steps p.tables e below (T0.setTop (mkF m 25 #[.val (.ref o0), s1, s2, s3] [])) _
  refine XS.aloadN X0.here hx rfl (hb hby d3_25) rfl rfl ?_
  show Steps p.tables e below (T0.setTop (mkF m 26 #[.val (.ref o0), s1, s2, s3] [(.ref o0)])) _
  refine st5 _ ?_
  show Steps p.tables e below (T5.setTop (mkF m 29 #[.val (.ref o0), s1, s2, s3] [(.int w4)])) _
  refine XS.bipush X5.here hx rfl (hb hby d3_29) ?_
  show Steps p.tables e below (T5.setTop (mkF m 31 #[.val (.ref o0), s1, s2, s3] [(.int (8 : Int32)), (.int w4)])) _
  refine XS.icmpNo X5.here hx rfl (hb hby d3_31) rfl (flt hc31).1 ?_
  exact kt
set_option maxRecDepth 65536 in
set_option maxHeartbeats 40000000 in
theorem tn3_25_136_t {p : Program} {l : Launch} {e : Env} {R : Room} {s : State} {m : MethodId} {args : Array Value} {below : List Frame} {meth : Method} {c : Code} {T0 : State} {locs : List Loc} {cells slots : Nat} {Z : State} {a0 : Array Value} {h0 : Heap} (o0 : Addr) (s1 : Slot) (s2 : Slot) (s3 : Slot) (w4 : Int32)
    (X0 : Stand p l e R s m args below meth c T0 locs cells slots) (hx : p.tables.exec = Jvm.exec) (hZ : Z.Warmed39 s.vm) (hw : ∀ d ∈ tables_1, d.before a0 Z = true) (hby : c.code = prog_33_method_2_code) (hml : c.maxLocals = 4) (hown : s.vm.findClass "com/example/wrasse/wrasse/index/BitWriter" = some m.cls) (e0 : T0.heap = h0) (F_pendingBits_o0 : Fld Z h0 o0 "com/example/wrasse/wrasse/index/BitWriter" "pendingBits" "I" (.int w4)) (hc31 : w4 < (8 : Int32)) :
    ∃ (T' : State), Stand p l e R s m args below meth c T' locs cells slots ∧ T'.heap = h0 ∧
      ∀ target, Steps p.tables e below (T'.setTop (mkF m 136 #[.val (.ref o0), s1, s2, s3] [])) target → Steps p.tables e below (T0.setTop (mkF m 25 #[.val (.ref o0), s1, s2, s3] [])) target := by
  obtain ⟨T5, X5, e5, st5⟩ := getF X0 hx hZ hown (host := "") (Or.inl (hw _ (List.mem_of_getElem? (i := 20) rfl))) Via.refl e0 F_pendingBits_o0 (g := (mkF m 26 #[.val (.ref o0), s1, s2, s3] [(.ref o0)])) rfl rfl (hb hby d3_26)
  refine ⟨T5, X5, e5, fun target kt => ?_⟩
  show Steps p.tables e below (T0.setTop (mkF m 25 #[.val (.ref o0), s1, s2, s3] [])) _
  refine XS.aloadN X0.here hx rfl (hb hby d3_25) rfl rfl ?_
  show Steps p.tables e below (T0.setTop (mkF m 26 #[.val (.ref o0), s1, s2, s3] [(.ref o0)])) _
  refine st5 _ ?_
  show Steps p.tables e below (T5.setTop (mkF m 29 #[.val (.ref o0), s1, s2, s3] [(.int w4)])) _
  refine XS.bipush X5.here hx rfl (hb hby d3_29) ?_
  show Steps p.tables e below (T5.setTop (mkF m 31 #[.val (.ref o0), s1, s2, s3] [(.int (8 : Int32)), (.int w4)])) _
  refine XS.icmpYes X5.here hx rfl (pc0 := 31) (pc' := 136) rfl (hb hby d3_31) rfl (tlt hc31).1 (by decide) (by decide) ?_
  exact kt
set_option maxRecDepth 65536 in
set_option maxHeartbeats 40000000 in
theorem tn3_34_77_t {p : Program} {l : Launch} {e : Env} {R : Room} {s : State} {m : MethodId} {args : Array Value} {below : List Frame} {meth : Method} {c : Code} {T0 : State} {locs : List Loc} {cells slots : Nat} {Z : State} {a0 : Array Value} {h0 : Heap} (o0 : Addr) (s1 : Slot) (s2 : Slot) (s3 : Slot) (w4 : Addr) (cl_w4 : Cell) (z_w4 : Int32) (w6 : Int32)
    (X0 : Stand p l e R s m args below meth c T0 locs cells slots) (hx : p.tables.exec = Jvm.exec) (hZ : Z.Warmed39 s.vm) (hw : ∀ d ∈ tables_1, d.before a0 Z = true) (hby : c.code = prog_33_method_2_code) (hml : c.maxLocals = 4) (hown : s.vm.findClass "com/example/wrasse/wrasse/index/BitWriter" = some m.cls) (e0 : T0.heap = h0) (F_bytes_o0 : Fld Z h0 o0 "com/example/wrasse/wrasse/index/BitWriter" "bytes" "[B" (.ref w4)) (Ar_w4 : Arr Z h0 w4 cl_w4 .byte) (S_w4 : cl_w4.slots.size = z_w4.toNatClampNeg) (N_w4 : ¬ z_w4 < 0) (F_size_o0 : Fld Z h0 o0 "com/example/wrasse/wrasse/index/BitWriter" "size" "I" (.int w6)) (hc46 : ¬ ((z_w4 - w6) < (8 : Int32))) :
    ∃ (T' : State), Stand p l e R s m args below meth c T' locs cells slots ∧ T'.heap = h0 ∧
      ∀ target, Steps p.tables e below (T'.setTop (mkF m 77 #[.val (.ref o0), s1, s2, s3] [])) target → Steps p.tables e below (T0.setTop (mkF m 34 #[.val (.ref o0), s1, s2, s3] [])) target := by
  obtain ⟨T5, X5, e5, st5⟩ := getF X0 hx hZ hown (host := "") (Or.inl (hw _ (List.mem_of_getElem? (i := 11) rfl))) Via.refl e0 F_bytes_o0 (g := (mkF m 35 #[.val (.ref o0), s1, s2, s3] [(.ref o0)])) rfl rfl (hb hby d3_35)
  obtain ⟨T7, X7, e7, st7⟩ := getF X5 hx hZ hown (host := "") (Or.inl (hw _ (List.mem_of_getElem? (i := 27) rfl))) Via.refl e5 F_size_o0 (g := (mkF m 40 #[.val (.ref o0), s1, s2, s3] [(.ref o0), (.int z_w4)])) rfl rfl (hb hby d3_40)
  refine ⟨T7, X7, e7, fun target kt => ?_⟩
  show Steps p.tables e below (T0.setTop (mkF m 34 #[.val (.ref o0), s1, s2, s3] [])) _
  refine XS.aloadN X0.here hx rfl (hb hby d3_34) rfl rfl ?_
  show Steps p.tables e below (T0.setTop (mkF m 35 #[.val (.ref o0), s1, s2, s3] [(.ref o0)])) _
  refine st5 _ ?_
  show Steps p.tables e below (T5.setTop (mkF m 38 #[.val (.ref o0), s1, s2, s3] [(.ref w4)])) _
  refine X5.arraylength hx (by rw [e5]; exact Ar_w4.1) (State.isArrayOf_alike hZ.alike Ar_w4.2.1) (g := (mkF m 38 #[.val (.ref o0), s1, s2, s3] [(.ref w4)])) rfl rfl (hb hby d3_38) _ ?_
  rw [len_of S_w4 N_w4]
  show Steps p.tables e below (T5.setTop (mkF m 39 #[.val (.ref o0), s1, s2, s3] [(.int z_w4)])) _
  refine XS.aloadN X5.here hx rfl (hb hby d3_39) rfl rfl ?_
  show Steps p.tables e below (T5.setTop (mkF m 40 #[.val (.ref o0), s1, s2, s3] [(.ref o0), (.int z_w4)])) _
  refine st7 _ ?_
  show Steps p.tables e below (T7.setTop (mkF m 43 #[.val (.ref o0), s1, s2, s3] [(.int w6), (.int z_w4)])) _
  refine XS.isub X7.here hx rfl (hb hby d3_43) rfl ?_
  show Steps p.tables e below (T7.setTop (mkF m 44 #[.val (.ref o0), s1, s2, s3] [(.int (z_w4 - w6))])) _
  refine XS.bipush X7.here hx rfl (hb hby d3_44) ?_
  show Steps p.tables e below (T7.setTop (mkF m 46 #[.val (.ref o0), s1, s2, s3] [(.int (8 : Int32)), (.int (z_w4 - w6))])) _
  refine XS.icmpYes X7.here hx rfl (pc0 := 46) (pc' := 77) rfl (hb hby d3_46) rfl (flt hc46).2.1 (by decide) (by decide) ?_
  exact kt
set_option maxRecDepth 65536 in
set_option maxHeartbeats 40000000 in
theorem tn3_77_136_t {p : Program} {l : Launch} {e : Env} {R : Room} {s : State} {m : MethodId} {args : Array Value} {below : List Frame} {meth : Method} {c : Code} {T0 : State} {locs : List Loc} {cells slots : Nat} {Z : State} {a0 : Array Value} {h0 : Heap} (o0 : Addr) (s1 : Slot) (s2 : Slot) (s3 : Slot) (w4 : Int32)
    (X0 : Stand p l e R s m args below meth c T0 locs cells slots) (hx : p.tables.exec = Jvm.exec) (hZ : Z.Warmed39 s.vm) (hw : ∀ d ∈ tables_1, d.before a0 Z = true) (hby : c.code = prog_33_method_2_code) (hml : c.maxLocals = 4) (hown : s.vm.findClass "com/example/wrasse/wrasse/index/BitWriter" = some m.cls) (e0 : T0.heap = h0) (F_pendingBits_o0 : Fld Z h0 o0 "com/example/wrasse/wrasse/index/BitWriter" "pendingBits" "I" (.int w4)) (hc83 : w4 < (8 : Int32)) :
    ∃ (T' : State), Stand p l e R s m args below meth c T' locs cells slots ∧ T'.heap = h0 ∧
      ∀ target, Steps p.tables e below (T'.setTop (mkF m 136 #[.val (.ref o0), s1, s2, s3] [])) target → Steps p.tables e below (T0.setTop (mkF m 77 #[.val (.ref o0), s1, s2, s3] [])) target := by
  obtain ⟨T5, X5, e5, st5⟩ := getF X0 hx hZ hown (host := "") (Or.inl (hw _ (List.mem_of_getElem? (i := 20) rfl))) Via.refl e0 F_pendingBits_o0 (g := (mkF m 78 #[.val (.ref o0), s1, s2, s3] [(.ref o0)])) rfl rfl (hb hby d3_78)
  refine ⟨T5, X5, e5, fun target kt => ?_⟩
  show Steps p.tables e below (T0.setTop (mkF m 77 #[.val (.ref o0), s1, s2, s3] [])) _
  refine XS.aloadN X0.here hx rfl (hb hby d3_77) rfl rfl ?_
  show Steps p.tables e below (T0.setTop (mkF m 78 #[.val (.ref o0), s1, s2, s3] [(.ref o0)])) _
  refine st5 _ ?_
  show Steps p.tables e below (T5.setTop (mkF m 81 #[.val (.ref o0), s1, s2, s3] [(.int w4)])) _
  refine XS.bipush X5.here hx rfl (hb hby d3_81) ?_
  show Steps p.tables e below (T5.setTop (mkF m 83 #[.val (.ref o0), s1, s2, s3] [(.int (8 : Int32)), (.int w4)])) _
  refine XS.icmpYes X5.here hx rfl (pc0 := 83) (pc' := 136) rfl (hb hby d3_83) rfl (tlt hc83).1 (by decide) (by decide) ?_
  exact kt
set_option maxRecDepth 65536 in
set_option maxHeartbeats 40000000 in
theorem tn3_34_77_f {p : Program} {l : Launch} {e : Env} {R : Room} {s : State} {m : MethodId} {args : Array Value} {below : List Frame} {meth : Method} {c : Code} {T0 : State} {locs : List Loc} {cells slots : Nat} {Z : State} {a0 : Array Value} {h0 : Heap} {n0 : Nat} (o0 : Addr) (s1 : Slot) (s2 : Slot) (s3 : Slot) (N sz pb : Nat)
    (X0 : Stand p l e R s m args below meth c T0 locs cells slots) (hx : p.tables.exec = Jvm.exec) (hZ : Z.Warmed39 s.vm) (hw : ∀ d ∈ tables_1, d.before a0 Z = true) (hby : c.code = prog_33_method_2_code) (hml : c.maxLocals = 4) (hown : s.vm.findClass "com/example/wrasse/wrasse/index/BitWriter" = some m.cls) (e0 : T0.heap = h0) (N0 : Fr n0 locs) (hI : BW Z h0 n0 o0 N sz pb) (hg : N < sz + 8) (hN : 16 ≤ N) (hN32 : N ≤ 32) (hsz : sz ≤ N) (hRf : 2 ≤ R.frames) (hRl : 55 ≤ R.locals) (hRc : cells + 1 ≤ R.cells) (hRs : slots + 2 * N ≤ R.slots) :
    ∃ (T' : State) (h' : Heap) (locs' : List Loc), Stand p l e R s m args below meth c T' locs' (cells + 1) (slots + 2 * N) ∧ T'.heap = h' ∧ Fr n0 locs' ∧ BW Z h' n0 o0 (2 * N) sz pb ∧
      ∀ target, Steps p.tables e below (T'.setTop (mkF m 77 #[.val (.ref o0), s1, s2, s3] [])) target → Steps p.tables e below (T0.setTop (mkF m 34 #[.val (.ref o0), s1, s2, s3] [])) target := by
  obtain ⟨Z0, E_o0, g_o0, w4, cl_w4, w, F_bytes_o0, F_size_o0, F_pending_o0, F_pendingBits_o0, gt, Ar_w4, S, G⟩ := hI
  have S_w4 : cl_w4.slots.size = (Int32.ofNat N).toNatClampNeg := by rw [own_n32 (by omega), S]
  have N_w4 : ¬ Int32.ofNat N < 0 := own_nn (by omega)
  have h2N : (2 : Int32) * Int32.ofNat N = Int32.ofNat (2 * N) := own_mul32 2 N
  have h8 : Int32.ofNat sz + (8 : Int32) = Int32.ofNat (sz + 8) := own_add32 sz 8
  have hc46 : (Int32.ofNat N - Int32.ofNat sz) < (8 : Int32) := by rw [own_sub32 hsz]; exact Jvm.Free.XT.lt32 (b := 8) (by decide) (by omega)
  have hmx : ¬ ((2 : Int32) * Int32.ofNat N < Int32.ofNat sz + (8 : Int32)) := by rw [h2N, h8]; exact Jvm.Free.XT.nlt32 (by omega) (by omega)
  obtain ⟨T5, X5, e5, st5⟩ := getF X0 hx hZ hown (host := "") (Or.inl (hw _ (List.mem_of_getElem? (i := 11) rfl))) Via.refl e0 F_bytes_o0 (g := (mkF m 35 #[.val (.ref o0), s1, s2, s3] [(.ref o0)])) rfl rfl (hb hby d3_35)
  obtain ⟨T7, X7, e7, st7⟩ := getF X5 hx hZ hown (host := "") (Or.inl (hw _ (List.mem_of_getElem? (i := 27) rfl))) Via.refl e5 F_size_o0 (g := (mkF m 40 #[.val (.ref o0), s1, s2, s3] [(.ref o0), (.int (Int32.ofNat N))])) rfl rfl (hb hby d3_40)
  obtain ⟨T8, X8, e8, st8⟩ := getF X7 hx hZ hown (host := "") (Or.inl (hw _ (List.mem_of_getElem? (i := 11) rfl))) Via.refl e7 F_bytes_o0 (g := (mkF m 51 #[.val (.ref o0), s1, s2, s3] [(.ref o0), (.ref o0)])) rfl rfl (hb hby d3_51)
  obtain ⟨T9, X9, e9, st9⟩ := getF X8 hx hZ hown (host := "") (Or.inl (hw _ (List.mem_of_getElem? (i := 11) rfl))) Via.refl e8 F_bytes_o0 (g := (mkF m 56 #[.val (.ref o0), s1, s2, s3] [(.ref o0), (.int (2 : Int32)), (.ref w4), (.ref o0)])) rfl rfl (hb hby d3_56)
  obtain ⟨T10, X10, e10, st10⟩ := getF X9 hx hZ hown (host := "") (Or.inl (hw _ (List.mem_of_getElem? (i := 27) rfl))) Via.refl e9 F_size_o0 (g := (mkF m 62 #[.val (.ref o0), s1, s2, s3] [(.ref o0), (.int ((2 : Int32) * (Int32.ofNat N))), (.ref w4), (.ref o0)])) rfl rfl (hb hby d3_62)
  obtain ⟨_, _, ⟨T11, L11, k11, n11⟩, -, X11, ⟨Lc11, hQ11, l11, y11, z11⟩, st11⟩ := Jvm.LawKit.callS X10 hx (y := (⟨"java/lang/Math", "max", "(II)I"⟩ : MethodName)) hown (mvT hZ (hw _ (List.mem_of_getElem? (i := 49) rfl))) (mvT hZ (hw _ (List.mem_of_getElem? (i := 50) rfl))) (mvT hZ (hw _ (List.mem_of_getElem? (i := 51) rfl))) (mvT hZ (hw _ (List.mem_of_getElem? (i := 52) rfl))) (by decide) (backOf (W := 2) (rm8 l Z a0 hw [] ((2 : Int32) * (Int32.ofNat N)) ((Int32.ofNat sz) + (8 : Int32)) h0 n0 Z0 hmx) hZ (hw _ (List.mem_of_getElem? (i := 52) rfl)) (hw _ (List.mem_of_getElem? (i := 51) rfl)) (by show 0 + 1 ≤ R.frames; omega) (by show 2 + (2 + 11) + 0 ≤ R.locals; omega)) (g := (mkF m 68 #[.val (.ref o0), s1, s2, s3] [(.int ((Int32.ofNat sz) + (8 : Int32))), (.int ((2 : Int32) * (Int32.ofNat N))), (.ref w4), (.ref o0)])) rfl (by rw [hml]; rfl) (argsL := [(.int ((2 : Int32) * (Int32.ofNat N))), (.int ((Int32.ofNat sz) + (8 : Int32)))]) (rest := [(.ref w4), (.ref o0)]) (lenOf pd_3_4 rfl) rfl (by show 2 * 0 + _ ≤ _; exact Nat.le_of_eq rfl) (hb hby d3_68) (fun _ _ => ⟨rfl, e10, (by show cells + 0 ≤ R.cells; omega), (by show slots + 0 ≤ R.slots; omega)⟩)
  dsimp only [Pt.U, Pt.locs, Pt.cells, Pt.slots] at X11 l11 y11 z11 st11 hQ11
  subst l11 y11 z11
  obtain ⟨rfl, N11q, q11⟩ := hQ11
  have N11 := Fr.app N0 N11q
  have F_bytes_11 : Fld Z T11.heap o0 "com/example/wrasse/wrasse/index/BitWriter" "bytes" "[B" (.ref w4) := by rw [q11]; exact F_bytes_o0
  have F_size_11 : Fld Z T11.heap o0 "com/example/wrasse/wrasse/index/BitWriter" "size" "I" (.int (Int32.ofNat sz)) := by rw [q11]; exact F_size_o0
  have F_pending_11 : Fld Z T11.heap o0 "com/example/wrasse/wrasse/index/BitWriter" "pending" "J" (.long w) := by rw [q11]; exact F_pending_o0
  have F_pendingBits_11 : Fld Z T11.heap o0 "com/example/wrasse/wrasse/index/BitWriter" "pendingBits" "I" (.int (Int32.ofNat pb)) := by rw [q11]; exact F_pendingBits_o0
  have E_11 : Exa Z T11.heap o0 "com/example/wrasse/wrasse/index/BitWriter" := by rw [q11]; exact E_o0
  have Z11 : n0 ≤ T11.heap.size := by rw [q11]; exact Z0
  have Ar11 : Arr Z T11.heap w4 cl_w4 .byte := by rw [q11]; exact Ar_w4
  obtain ⟨_, _, ⟨T12, L12, k12, n12⟩, -, X12, ⟨Lc12, hQ12, l12, y12, z12⟩, st12⟩ := Jvm.LawKit.callS X11 hx (y := (⟨"java/util/Arrays", "copyOf", "([BI)[B"⟩ : MethodName)) hown (mvT hZ (hw _ (List.mem_of_getElem? (i := 53) rfl))) (mvT hZ (hw _ (List.mem_of_getElem? (i := 54) rfl))) (mvT hZ (hw _ (List.mem_of_getElem? (i := 55) rfl))) (mvT hZ (hw _ (List.mem_of_getElem? (i := 56) rfl))) (by decide) (backOf (W := 1) (rm9 l Z a0 hw [] w4 N (2 * N) cl_w4 T11.heap n0 Z11 Ar11 S (by omega) (by omega) G) hZ (hw _ (List.mem_of_getElem? (i := 56) rfl)) (hw _ (List.mem_of_getElem? (i := 55) rfl)) (by show 1 + 1 ≤ R.frames; omega) (by show 1 + (3 + 11) + 40 ≤ R.locals; omega)) (g := (mkF m 71 #[.val (.ref o0), s1, s2, s3] [(.int ((2 : Int32) * (Int32.ofNat N))), (.ref w4), (.ref o0)])) rfl (by rw [hml]; rfl) (argsL := [(.ref w4), (.int ((2 : Int32) * (Int32.ofNat N)))]) (rest := [(.ref o0)]) (lenOf pd_3_5 rfl) rfl (by show 2 * 0 + _ ≤ _; exact Nat.le_of_eq rfl) (hb hby d3_71) (fun _ _ => ⟨by rw [h2N], rfl, (by show _ + 1 ≤ R.cells; exact hRc), (by show _ + 2 * N ≤ R.slots; exact hRs)⟩)
  dsimp only [Pt.U, Pt.locs, Pt.cells, Pt.slots] at X12 l12 y12 z12 st12 hQ12
  subst l12 y12 z12
  obtain ⟨rfl, N12q, K12, B12, Ar12, S12, V12⟩ := hQ12
  have N12 := Fr.app N11 N12q
  obtain ⟨T13, h13, X13, e13, W13, st13⟩ := putF X12 hx hZ hown (host := "") (Or.inl (hw _ (List.mem_of_getElem? (i := 11) rfl))) Via.refl rfl (F_bytes_11.keep K12 (by simp)) (E_11.keep K12) (Or.inl (hw _ (List.mem_of_getElem? (i := 12) rfl))) (hw _ (List.mem_of_getElem? (i := 2) rfl)) (ty := (.array .byte)) (by decide) rfl rfl (g := (mkF m 74 #[.val (.ref o0), s1, s2, s3] [(.ref T11.heap.size), (.ref o0)])) rfl rfl (hb hby d3_74)
  have Fw13 := (F_bytes_11.keep K12 (by simp)).same W13
  have N13 := Fr.snoc X13 N12 g_o0
  have G12 : ∀ i, i < 2 * N → fits .byte (B12.slots.getD i .null) = true := fun i hi => by
    rw [own_getD (V12 i hi)]
    by_cases hik : i < N
    · rw [if_pos hik]; exact G i hik
    · rw [if_neg hik]; decide
  refine ⟨T13, h13, _, X13, e13, N13, ⟨by rw [W13.size]; exact Nat.le_trans Z11 K12.1, ((E_11.keep K12).wr W13), g_o0, T11.heap.size, B12, w, Fw13, ((F_size_11.keep K12 (by simp)).other W13 (Or.inr (slot_ne (Or.inl (hw _ (List.mem_of_getElem? (i := 28) rfl))) (Or.inl (hw _ (List.mem_of_getElem? (i := 12) rfl))) (by decide) (t := .int) (t' := (.array .byte)) (by decide) (by decide)))), ((F_pending_11.keep K12 (by simp)).other W13 (Or.inr (slot_ne (Or.inl (hw _ (List.mem_of_getElem? (i := 19) rfl))) (Or.inl (hw _ (List.mem_of_getElem? (i := 12) rfl))) (by decide) (t := .long) (t' := (.array .byte)) (by decide) (by decide)))), ((F_pendingBits_11.keep K12 (by simp)).other W13 (Or.inr (slot_ne (Or.inl (hw _ (List.mem_of_getElem? (i := 21) rfl))) (Or.inl (hw _ (List.mem_of_getElem? (i := 12) rfl))) (by decide) (t := .int) (t' := (.array .byte)) (by decide) (by decide)))), Z11, (Ar12.other W13 (Nat.ne_of_gt E_11.lt)), S12, G12⟩, fun target kt => ?_⟩
  show Steps p.tables e below (T0.setTop (mkF m 34 #[.val (.ref o0), s1, s2, s3] [])) _
  refine XS.aloadN X0.here hx rfl (hb hby d3_34) rfl rfl ?_
  show Steps p.tables e below (T0.setTop (mkF m 35 #[.val (.ref o0), s1, s2, s3] [(.ref o0)])) _
  refine st5 _ ?_
  show Steps p.tables e below (T5.setTop (mkF m 38 #[.val (.ref o0), s1, s2, s3] [(.ref w4)])) _
  refine X5.arraylength hx (by rw [e5]; exact Ar_w4.1) (State.isArrayOf_alike hZ.alike Ar_w4.2.1) (g := (mkF m 38 #[.val (.ref o0), s1, s2, s3] [(.ref w4)])) rfl rfl (hb hby d3_38) _ ?_
  rw [len_of S_w4 N_w4]
  show Steps p.tables e below (T5.setTop (mkF m 39 #[.val (.ref o0), s1, s2, s3] [(.int (Int32.ofNat N))])) _
  refine XS.aloadN X5.here hx rfl (hb hby d3_39) rfl rfl ?_
  show Steps p.tables e below (T5.setTop (mkF m 40 #[.val (.ref o0), s1, s2, s3] [(.ref o0), (.int (Int32.ofNat N))])) _
  refine st7 _ ?_
  show Steps p.tables e below (T7.setTop (mkF m 43 #[.val (.ref o0), s1, s2, s3] [(.int (Int32.ofNat sz)), (.int (Int32.ofNat N))])) _
  refine XS.isub X7.here hx rfl (hb hby d3_43) rfl ?_
  show Steps p.tables e below (T7.setTop (mkF m 44 #[.val (.ref o0), s1, s2, s3] [(.int ((Int32.ofNat N) - (Int32.ofNat sz)))])) _
  refine XS.bipush X7.here hx rfl (hb hby d3_44) ?_
  show Steps p.tables e below (T7.setTop (mkF m 46 #[.val (.ref o0), s1, s2, s3] [(.int (8 : Int32)), (.int ((Int32.ofNat N) - (Int32.ofNat sz)))])) _
  refine XS.icmpNo X7.here hx rfl (hb hby d3_46) rfl (tlt hc46).2.1 ?_
  show Steps p.tables e below (T7.setTop (mkF m 49 #[.val (.ref o0), s1, s2, s3] [])) _
  refine XS.aloadN X7.here hx rfl (hb hby d3_49) rfl rfl ?_
  show Steps p.tables e below (T7.setTop (mkF m 50 #[.val (.ref o0), s1, s2, s3] [(.ref o0)])) _
  refine XS.aloadN X7.here hx rfl (hb hby d3_50) rfl rfl ?_
  show Steps p.tables e below (T7.setTop (mkF m 51 #[.val (.ref o0), s1, s2, s3] [(.ref o0), (.ref o0)])) _
  refine st8 _ ?_
  show Steps p.tables e below (T8.setTop (mkF m 54 #[.val (.ref o0), s1, s2, s3] [(.ref w4), (.ref o0)])) _
  refine XS.iconst X8.here hx rfl (hb hby d3_54) ?_
  show Steps p.tables e below (T8.setTop (mkF m 55 #[.val (.ref o0), s1, s2, s3] [(.int (2 : Int32)), (.ref w4), (.ref o0)])) _
  refine XS.aloadN X8.here hx rfl (hb hby d3_55) rfl rfl ?_
  show Steps p.tables e below (T8.setTop (mkF m 56 #[.val (.ref o0), s1, s2, s3] [(.ref o0), (.int (2 : Int32)), (.ref w4), (.ref o0)])) _
  refine st9 _ ?_
  show Steps p.tables e below (T9.setTop (mkF m 59 #[.val (.ref o0), s1, s2, s3] [(.ref w4), (.int (2 : Int32)), (.ref w4), (.ref o0)])) _
  refine X9.arraylength hx (by rw [e9]; exact Ar_w4.1) (State.isArrayOf_alike hZ.alike Ar_w4.2.1) (g := (mkF m 59 #[.val (.ref o0), s1, s2, s3] [(.ref w4), (.int (2 : Int32)), (.ref w4), (.ref o0)])) rfl rfl (hb hby d3_59) _ ?_
  rw [len_of S_w4 N_w4]
  show Steps p.tables e below (T9.setTop (mkF m 60 #[.val (.ref o0), s1, s2, s3] [(.int (Int32.ofNat N)), (.int (2 : Int32)), (.ref w4), (.ref o0)])) _
  refine XS.imul X9.here hx rfl (hb hby d3_60) rfl ?_
  show Steps p.tables e below (T9.setTop (mkF m 61 #[.val (.ref o0), s1, s2, s3] [(.int ((2 : Int32) * (Int32.ofNat N))), (.ref w4), (.ref o0)])) _
  refine XS.aloadN X9.here hx rfl (hb hby d3_61) rfl rfl ?_
  show Steps p.tables e below (T9.setTop (mkF m 62 #[.val (.ref o0), s1, s2, s3] [(.ref o0), (.int ((2 : Int32) * (Int32.ofNat N))), (.ref w4), (.ref o0)])) _
  refine st10 _ ?_
  show Steps p.tables e below (T10.setTop (mkF m 65 #[.val (.ref o0), s1, s2, s3] [(.int (Int32.ofNat sz)), (.int ((2 : Int32) * (Int32.ofNat N))), (.ref w4), (.ref o0)])) _
  refine XS.bipush X10.here hx rfl (hb hby d3_65) ?_
  show Steps p.tables e below (T10.setTop (mkF m 67 #[.val (.ref o0), s1, s2, s3] [(.int (8 : Int32)), (.int (Int32.ofNat sz)), (.int ((2 : Int32) * (Int32.ofNat N))), (.ref w4), (.ref o0)])) _
  refine XS.iadd X10.here hx rfl (hb hby d3_67) rfl ?_
  show Steps p.tables e below (T10.setTop (mkF m 68 #[.val (.ref o0), s1, s2, s3] [(.int ((Int32.ofNat sz) + (8 : Int32))), (.int ((2 : Int32) * (Int32.ofNat N))), (.ref w4), (.ref o0)])) _
  refine st11 _ ?_
  show Steps p.tables e below (T11.setTop (mkF m 71 #[.val (.ref o0), s1, s2, s3] [(.int ((2 : Int32) * (Int32.ofNat N))), (.ref w4), (.ref o0)])) _
  refine st12 _ ?_
  show Steps p.tables e below (T12.setTop (mkF m 74 #[.val (.ref o0), s1, s2, s3] [(.ref T11.heap.size), (.ref o0)])) _
  refine st13 _ ?_
  exact kt
set_option maxRecDepth 65536 in
set_option maxHeartbeats 40000000 in
theorem tn3_77_77 {p : Program} {l : Launch} {e : Env} {R : Room} {s : State} {m : MethodId} {args : Array Value} {below : List Frame} {meth : Method} {c : Code} {T0 : State} {locs : List Loc} {cells slots : Nat} {Z : State} {a0 : Array Value} {h0 : Heap} {n0 : Nat} (o0 : Addr) (s1 : Slot) (s2 : Slot) (s3 : Slot) (N sz pb : Nat)
    (X0 : Stand p l e R s m args below meth c T0 locs cells slots) (hx : p.tables.exec = Jvm.exec) (hZ : Z.Warmed39 s.vm) (hw : ∀ d ∈ tables_1, d.before a0 Z = true) (hby : c.code = prog_33_method_2_code) (hml : c.maxLocals = 4) (hown : s.vm.findClass "com/example/wrasse/wrasse/index/BitWriter" = some m.cls) (e0 : T0.heap = h0) (N0 : Fr n0 locs) (hI : BW Z h0 n0 o0 N sz pb) (hsz : sz < N) (hN : N ≤ 64) (hpb : 8 ≤ pb) (hpb2 : pb ≤ 63) :
    ∃ (T' : State) (h' : Heap) (locs' : List Loc), Stand p l e R s m args below meth c T' locs' cells slots ∧ T'.heap = h' ∧ Fr n0 locs' ∧ BW Z h' n0 o0 N (sz + 1) (pb - 8) ∧
      ∀ target, Steps p.tables e below (T'.setTop (mkF m 77 #[.val (.ref o0), s1, s2, s3] [])) target → Steps p.tables e below (T0.setTop (mkF m 77 #[.val (.ref o0), s1, s2, s3] [])) target := by
  obtain ⟨Z0, E_o0, g_o0, w6, cl_w6, w10, F_bytes_o0, F_size_o0, F_pending_o0, F_pendingBits_o0, g_w6, Ar_w6, S, G⟩ := hI
  have hne : o0 ≠ w6 := ne_arr E_o0 (hw _ (List.mem_of_getElem? (i := 2) rfl)) Ar_w6
  have hc83 : ¬ (Int32.ofNat pb < (8 : Int32)) := Jvm.Free.XT.nlt32 (b := 8) (by omega) hpb
  have zz : (Int32.ofNat sz).toNatClampNeg = sz := own_n32 (by omega)
  have hin100 : ¬ (Int32.ofNat sz < 0 ∨ cl_w6.slots.size ≤ (Int32.ofNat sz).toNatClampNeg) := fun q => q.elim (own_nn (by omega)) (by rw [zz]; omega)
  obtain ⟨T5, X5, e5, st5⟩ := getF X0 hx hZ hown (host := "") (Or.inl (hw _ (List.mem_of_getElem? (i := 20) rfl))) Via.refl e0 F_pendingBits_o0 (g := (mkF m 78 #[.val (.ref o0), s1, s2, s3] [(.ref o0)])) rfl rfl (hb hby d3_78)
  obtain ⟨T7, X7, e7, st7⟩ := getF X5 hx hZ hown (host := "") (Or.inl (hw _ (List.mem_of_getElem? (i := 11) rfl))) Via.refl e5 F_bytes_o0 (g := (mkF m 87 #[.val (.ref o0), s1, s2, s3] [(.ref o0)])) rfl rfl (hb hby d3_87)
  obtain ⟨T9, X9, e9, st9⟩ := getF X7 hx hZ hown (host := "") (Or.inl (hw _ (List.mem_of_getElem? (i := 27) rfl))) Via.refl e7 F_size_o0 (g := (mkF m 91 #[.val (.ref o0), s1, s2, s3] [(.ref o0), (.ref w6)])) rfl rfl (hb hby d3_91)
  obtain ⟨T11, X11, e11, st11⟩ := getF X9 hx hZ hown (host := "") (Or.inl (hw _ (List.mem_of_getElem? (i := 18) rfl))) Via.refl e9 F_pending_o0 (g := (mkF m 95 #[.val (.ref o0), s1, s2, s3] [(.ref o0), (.int (Int32.ofNat sz)), (.ref w6)])) rfl rfl (hb hby d3_95)
  obtain ⟨T12, h12, X12, e12, W12, st12⟩ := stB X11 hx hZ e11 Ar_w6 (j := (Int32.ofNat sz)) hin100 (g := (mkF m 100 #[.val (.ref o0), s1, s2, s3] [(.int ((w10.toInt32).toInt8.toInt32)), (.int (Int32.ofNat sz)), (.ref w6)])) rfl rfl (hb hby d3_100)
  have N12 := Fr.snoc X12 N0 g_w6
  obtain ⟨T13, X13, e13, st13⟩ := getF X12 hx hZ hown (host := "") (Or.inl (hw _ (List.mem_of_getElem? (i := 27) rfl))) Via.refl e12 (F_size_o0.other W12 (Or.inl hne)) (g := (mkF m 103 #[.val (.ref o0), s1, s2, s3] [(.ref o0), (.ref o0)])) rfl rfl (hb hby d3_103)
  obtain ⟨T14, h14, X14, e14, W14, st14⟩ := putF X13 hx hZ hown (host := "") (Or.inl (hw _ (List.mem_of_getElem? (i := 27) rfl))) Via.refl e13 (F_size_o0.other W12 (Or.inl hne)) (E_o0.wr W12) (Or.inl (hw _ (List.mem_of_getElem? (i := 28) rfl))) (hw _ (List.mem_of_getElem? (i := 2) rfl)) (ty := .int) (by decide) rfl rfl (g := (mkF m 108 #[.val (.ref o0), s1, s2, s3] [(.int ((Int32.ofNat sz) + (1 : Int32))), (.ref o0)])) rfl rfl (hb hby d3_108)
  have Fw14 := (F_size_o0.other W12 (Or.inl hne)).same W14
  have N14 := Fr.snoc X14 N12 g_o0
  obtain ⟨T15, X15, e15, st15⟩ := getF X14 hx hZ hown (host := "") (Or.inl (hw _ (List.mem_of_getElem? (i := 18) rfl))) Via.refl e14 ((F_pending_o0.other W12 (Or.inl hne)).other W14 (Or.inr (slot_ne (Or.inl (hw _ (List.mem_of_getElem? (i := 19) rfl))) (Or.inl (hw _ (List.mem_of_getElem? (i := 28) rfl))) (by decide) (t := .long) (t' := .int) (by decide) (by decide)))) (g := (mkF m 113 #[.val (.ref o0), s1, s2, s3] [(.ref o0), (.ref o0)])) rfl rfl (hb hby d3_113)
  obtain ⟨T16, h16, X16, e16, W16, st16⟩ := putF X15 hx hZ hown (host := "") (Or.inl (hw _ (List.mem_of_getElem? (i := 18) rfl))) Via.refl e15 ((F_pending_o0.other W12 (Or.inl hne)).other W14 (Or.inr (slot_ne (Or.inl (hw _ (List.mem_of_getElem? (i := 19) rfl))) (Or.inl (hw _ (List.mem_of_getElem? (i := 28) rfl))) (by decide) (t := .long) (t' := .int) (by decide) (by decide)))) ((E_o0.wr W12).wr W14) (Or.inl (hw _ (List.mem_of_getElem? (i := 19) rfl))) (hw _ (List.mem_of_getElem? (i := 2) rfl)) (ty := .long) (by decide) rfl rfl (g := (mkF m 119 #[.val (.ref o0), s1, s2, s3] [(.long ((w10.toUInt64 >>> ((8 : Int32) &&& 0x3f).toInt64.toUInt64).toInt64)), (.ref o0)])) rfl rfl (hb hby d3_119)
  have Fw16 := ((F_pending_o0.other W12 (Or.inl hne)).other W14 (Or.inr (slot_ne (Or.inl (hw _ (List.mem_of_getElem? (i := 19) rfl))) (Or.inl (hw _ (List.mem_of_getElem? (i := 28) rfl))) (by decide) (t := .long) (t' := .int) (by decide) (by decide)))).same W16
  have N16 := Fr.snoc X16 N14 g_o0
  obtain ⟨T17, X17, e17, st17⟩ := getF X16 hx hZ hown (host := "") (Or.inl (hw _ (List.mem_of_getElem? (i := 20) rfl))) Via.refl e16 (((F_pendingBits_o0.other W12 (Or.inl hne)).other W14 (Or.inr (slot_ne (Or.inl (hw _ (List.mem_of_getElem? (i := 21) rfl))) (Or.inl (hw _ (List.mem_of_getElem? (i := 28) rfl))) (by decide) (t := .int) (t' := .int) (by decide) (by decide)))).other W16 (Or.inr (slot_ne (Or.inl (hw _ (List.mem_of_getElem? (i := 21) rfl))) (Or.inl (hw _ (List.mem_of_getElem? (i := 19) rfl))) (by decide) (t := .int) (t' := .long) (by decide) (by decide)))) (g := (mkF m 124 #[.val (.ref o0), s1, s2, s3] [(.ref o0), (.ref o0)])) rfl rfl (hb hby d3_124)
  obtain ⟨T18, h18, X18, e18, W18, st18⟩ := putF X17 hx hZ hown (host := "") (Or.inl (hw _ (List.mem_of_getElem? (i := 20) rfl))) Via.refl e17 (((F_pendingBits_o0.other W12 (Or.inl hne)).other W14 (Or.inr (slot_ne (Or.inl (hw _ (List.mem_of_getElem? (i := 21) rfl))) (Or.inl (hw _ (List.mem_of_getElem? (i := 28) rfl))) (by decide) (t := .int) (t' := .int) (by decide) (by decide)))).other W16 (Or.inr (slot_ne (Or.inl (hw _ (List.mem_of_getElem? (i := 21) rfl))) (Or.inl (hw _ (List.mem_of_getElem? (i := 19) rfl))) (by decide) (t := .int) (t' := .long) (by decide) (by decide)))) (((E_o0.wr W12).wr W14).wr W16) (Or.inl (hw _ (List.mem_of_getElem? (i := 21) rfl))) (hw _ (List.mem_of_getElem? (i := 2) rfl)) (ty := .int) (by decide) rfl rfl (g := (mkF m 130 #[.val (.ref o0), s1, s2, s3] [(.int ((Int32.ofNat pb) - (8 : Int32))), (.ref o0)])) rfl rfl (hb hby d3_130)
  have Fw18 := (((F_pendingBits_o0.other W12 (Or.inl hne)).other W14 (Or.inr (slot_ne (Or.inl (hw _ (List.mem_of_getElem? (i := 21) rfl))) (Or.inl (hw _ (List.mem_of_getElem? (i := 28) rfl))) (by decide) (t := .int) (t' := .int) (by decide) (by decide)))).other W16 (Or.inr (slot_ne (Or.inl (hw _ (List.mem_of_getElem? (i := 21) rfl))) (Or.inl (hw _ (List.mem_of_getElem? (i := 19) rfl))) (by decide) (t := .int) (t' := .long) (by decide) (by decide)))).same W18
  have N18 := Fr.snoc X18 N16 g_o0
  have F18 : Fld Z h18 o0 "com/example/wrasse/wrasse/index/BitWriter" "pendingBits" "I" (.int (Int32.ofNat (pb - 8))) := by rw [← own_sub32 hpb]; exact Fw18
  have F14 : Fld Z h14 o0 "com/example/wrasse/wrasse/index/BitWriter" "size" "I" (.int (Int32.ofNat (sz + 1))) := by rw [← own_add32]; exact Fw14
  refine ⟨T18, h18, _, X18, e18, N18, ⟨by rw [W18.size, W16.size, W14.size, W12.size]; exact Z0, ((((E_o0.wr W12).wr W14).wr W16).wr W18), g_o0, w6, _, _, ((((F_bytes_o0.other W12 (Or.inl hne)).other W14 (Or.inr (slot_ne (Or.inl (hw _ (List.mem_of_getElem? (i := 12) rfl))) (Or.inl (hw _ (List.mem_of_getElem? (i := 28) rfl))) (by decide) (t := (.array .byte)) (t' := .int) (by decide) (by decide)))).other W16 (Or.inr (slot_ne (Or.inl (hw _ (List.mem_of_getElem? (i := 12) rfl))) (Or.inl (hw _ (List.mem_of_getElem? (i := 19) rfl))) (by decide) (t := (.array .byte)) (t' := .long) (by decide) (by decide)))).other W18 (Or.inr (slot_ne (Or.inl (hw _ (List.mem_of_getElem? (i := 12) rfl))) (Or.inl (hw _ (List.mem_of_getElem? (i := 21) rfl))) (by decide) (t := (.array .byte)) (t' := .int) (by decide) (by decide)))), ((F14.other W16 (Or.inr (slot_ne (Or.inl (hw _ (List.mem_of_getElem? (i := 28) rfl))) (Or.inl (hw _ (List.mem_of_getElem? (i := 19) rfl))) (by decide) (t := .int) (t' := .long) (by decide) (by decide)))).other W18 (Or.inr (slot_ne (Or.inl (hw _ (List.mem_of_getElem? (i := 28) rfl))) (Or.inl (hw _ (List.mem_of_getElem? (i := 21) rfl))) (by decide) (t := .int) (t' := .int) (by decide) (by decide)))), (Fw16.other W18 (Or.inr (slot_ne (Or.inl (hw _ (List.mem_of_getElem? (i := 19) rfl))) (Or.inl (hw _ (List.mem_of_getElem? (i := 21) rfl))) (by decide) (t := .long) (t' := .int) (by decide) (by decide)))), F18, g_w6, ((((Ar_w6.same W12).other W14 hne.symm).other W16 hne.symm).other W18 hne.symm), (sz_set _ _ _).trans S, own_set_fits S (fits_nar_byte _) G⟩, fun target kt => ?_⟩
  show Steps p.tables e below (T0.setTop (mkF m 77 #[.val (.ref o0), s1, s2, s3] [])) _
  refine XS.aloadN X0.here hx rfl (hb hby d3_77) rfl rfl ?_
  show Steps p.tables e below (T0.setTop (mkF m 78 #[.val (.ref o0), s1, s2, s3] [(.ref o0)])) _
  refine st5 _ ?_
  show Steps p.tables e below (T5.setTop (mkF m 81 #[.val (.ref o0), s1, s2, s3] [(.int (Int32.ofNat pb))])) _
  refine XS.bipush X5.here hx rfl (hb hby d3_81) ?_
  show Steps p.tables e below (T5.setTop (mkF m 83 #[.val (.ref o0), s1, s2, s3] [(.int (8 : Int32)), (.int (Int32.ofNat pb))])) _
  refine XS.icmpNo X5.here hx rfl (hb hby d3_83) rfl (flt hc83).1 ?_
  show Steps p.tables e below (T5.setTop (mkF m 86 #[.val (.ref o0), s1, s2, s3] [])) _
  refine XS.aloadN X5.here hx rfl (hb hby d3_86) rfl rfl ?_
  show Steps p.tables e below (T5.setTop (mkF m 87 #[.val (.ref o0), s1, s2, s3] [(.ref o0)])) _
  refine st7 _ ?_
  show Steps p.tables e below (T7.setTop (mkF m 90 #[.val (.ref o0), s1, s2, s3] [(.ref w6)])) _
  refine XS.aloadN X7.here hx rfl (hb hby d3_90) rfl rfl ?_
  show Steps p.tables e below (T7.setTop (mkF m 91 #[.val (.ref o0), s1, s2, s3] [(.ref o0), (.ref w6)])) _
  refine st9 _ ?_
  show Steps p.tables e below (T9.setTop (mkF m 94 #[.val (.ref o0), s1, s2, s3] [(.int (Int32.ofNat sz)), (.ref w6)])) _
  refine XS.aloadN X9.here hx rfl (hb hby d3_94) rfl rfl ?_
  show Steps p.tables e below (T9.setTop (mkF m 95 #[.val (.ref o0), s1, s2, s3] [(.ref o0), (.int (Int32.ofNat sz)), (.ref w6)])) _
  refine st11 _ ?_
  show Steps p.tables e below (T11.setTop (mkF m 98 #[.val (.ref o0), s1, s2, s3] [(.long w10), (.int (Int32.ofNat sz)), (.ref w6)])) _
  refine XS.l2i X11.here hx rfl (hb hby d3_98) rfl ?_
  show Steps p.tables e below (T11.setTop (mkF m 99 #[.val (.ref o0), s1, s2, s3] [(.int (w10.toInt32)), (.int (Int32.ofNat sz)), (.ref w6)])) _
  refine XS.i2b X11.here hx rfl (hb hby d3_99) rfl ?_
  show Steps p.tables e below (T11.setTop (mkF m 100 #[.val (.ref o0), s1, s2, s3] [(.int ((w10.toInt32).toInt8.toInt32)), (.int (Int32.ofNat sz)), (.ref w6)])) _
  refine st12 _ ?_
  show Steps p.tables e below (T12.setTop (mkF m 101 #[.val (.ref o0), s1, s2, s3] [])) _
  refine XS.aloadN X12.here hx rfl (hb hby d3_101) rfl rfl ?_
  show Steps p.tables e below (T12.setTop (mkF m 102 #[.val (.ref o0), s1, s2, s3] [(.ref o0)])) _
  refine XS.dup X12.here hx rfl (hb hby d3_102) rfl rfl ?_
  show Steps p.tables e below (T12.setTop (mkF m 103 #[.val (.ref o0), s1, s2, s3] [(.ref o0), (.ref o0)])) _
  refine st13 _ ?_
  show Steps p.tables e below (T13.setTop (mkF m 106 #[.val (.ref o0), s1, s2, s3] [(.int (Int32.ofNat sz)), (.ref o0)])) _
  refine XS.iconst X13.here hx rfl (hb hby d3_106) ?_
  show Steps p.tables e below (T13.setTop (mkF m 107 #[.val (.ref o0), s1, s2, s3] [(.int (1 : Int32)), (.int (Int32.ofNat sz)), (.ref o0)])) _
  refine XS.iadd X13.here hx rfl (hb hby d3_107) rfl ?_
  show Steps p.tables e below (T13.setTop (mkF m 108 #[.val (.ref o0), s1, s2, s3] [(.int ((Int32.ofNat sz) + (1 : Int32))), (.ref o0)])) _
  refine st14 _ ?_
  show Steps p.tables e below (T14.setTop (mkF m 111 #[.val (.ref o0), s1, s2, s3] [])) _
  refine XS.aloadN X14.here hx rfl (hb hby d3_111) rfl rfl ?_
  show Steps p.tables e below (T14.setTop (mkF m 112 #[.val (.ref o0), s1, s2, s3] [(.ref o0)])) _
  refine XS.dup X14.here hx rfl (hb hby d3_112) rfl rfl ?_
  show Steps p.tables e below (T14.setTop (mkF m 113 #[.val (.ref o0), s1, s2, s3] [(.ref o0), (.ref o0)])) _
  refine st15 _ ?_
  show Steps p.tables e below (T15.setTop (mkF m 116 #[.val (.ref o0), s1, s2, s3] [(.long w10), (.ref o0)])) _
  refine XS.bipush X15.here hx rfl (hb hby d3_116) ?_
  show Steps p.tables e below (T15.setTop (mkF m 118 #[.val (.ref o0), s1, s2, s3] [(.int (8 : Int32)), (.long w10), (.ref o0)])) _
  refine XS.lushr X15.here hx rfl (hb hby d3_118) rfl ?_
  show Steps p.tables e below (T15.setTop (mkF m 119 #[.val (.ref o0), s1, s2, s3] [(.long ((w10.toUInt64 >>> ((8 : Int32) &&& 0x3f).toInt64.toUInt64).toInt64)), (.ref o0)])) _
  refine st16 _ ?_
  show Steps p.tables e below (T16.setTop (mkF m 122 #[.val (.ref o0), s1, s2, s3] [])) _
  refine XS.aloadN X16.here hx rfl (hb hby d3_122) rfl rfl ?_
  show Steps p.tables e below (T16.setTop (mkF m 123 #[.val (.ref o0), s1, s2, s3] [(.ref o0)])) _
  refine XS.dup X16.here hx rfl (hb hby d3_123) rfl rfl ?_
  show Steps p.tables e below (T16.setTop (mkF m 124 #[.val (.ref o0), s1, s2, s3] [(.ref o0), (.ref o0)])) _
  refine st17 _ ?_
  show Steps p.tables e below (T17.setTop (mkF m 127 #[.val (.ref o0), s1, s2, s3] [(.int (Int32.ofNat pb)), (.ref o0)])) _
  refine XS.bipush X17.here hx rfl (hb hby d3_127) ?_
  show Steps p.tables e below (T17.setTop (mkF m 129 #[.val (.ref o0), s1, s2, s3] [(.int (8 : Int32)), (.int (Int32.ofNat pb)), (.ref o0)])) _
  refine XS.isub X17.here hx rfl (hb hby d3_129) rfl ?_
  show Steps p.tables e below (T17.setTop (mkF m 130 #[.val (.ref o0), s1, s2, s3] [(.int ((Int32.ofNat pb) - (8 : Int32))), (.ref o0)])) _
  refine st18 _ ?_
  show Steps p.tables e below (T18.setTop (mkF m 133 #[.val (.ref o0), s1, s2, s3] [])) _
  refine XS.goto X18.here hx rfl (pc0 := 133) (pc' := 77) rfl (hb hby d3_133) (by decide) (by decide) ?_
  exact kt
theorem own_loop {p : Program} {l : Launch} {e : Env} {R : Room} {s : State} {m : MethodId} {args : Array Value} {below : List Frame} {meth : Method} {c : Code} {cells slots : Nat} {Z : State} {a0 : Array Value} {n0 : Nat} (o0 : Addr) (s1 : Slot) (s2 : Slot) (s3 : Slot) (N : Nat) (hx : p.tables.exec = Jvm.exec) (hZ : Z.Warmed39 s.vm) (hw : ∀ d ∈ tables_1, d.before a0 Z = true) (hby : c.code = prog_33_method_2_code) (hml : c.maxLocals = 4) (hown : s.vm.findClass "com/example/wrasse/wrasse/index/BitWriter" = some m.cls) (hN : N ≤ 64) :
    ∀ (j : Nat) {T0 : State} {locs : List Loc} {h0 : Heap} {sz pb : Nat}, Stand p l e R s m args below meth c T0 locs cells slots → T0.heap = h0 → Fr n0 locs → BW Z h0 n0 o0 N sz pb → pb / 8 = j → pb ≤ 63 → sz + j ≤ N →
    ∃ (T' : State) (h' : Heap) (locs' : List Loc), Stand p l e R s m args below meth c T' locs' cells slots ∧ T'.heap = h' ∧ Fr n0 locs' ∧ BW Z h' n0 o0 N (sz + j) (pb % 8) ∧
      ∀ target, Steps p.tables e below (T'.setTop (mkF m 136 #[.val (.ref o0), s1, s2, s3] [])) target → Steps p.tables e below (T0.setTop (mkF m 77 #[.val (.ref o0), s1, s2, s3] [])) target := by
  intro j
  induction j with
  | zero =>
    intro T0 locs h0 sz pb X0 e0 N0 hI hj hp hs
    obtain ⟨Z0, E, g, t, cl, w, F1, F2, F3, F4, r⟩ := hI
    obtain ⟨T', X', e', st'⟩ := tn3_77_136_t o0 s1 s2 s3 (Int32.ofNat pb) X0 hx hZ hw hby hml hown e0 F4 (Jvm.Free.XT.lt32 (b := 8) (by decide) (by omega))
    refine ⟨T', h0, locs, X', e', N0, ?_, st'⟩
    rw [show pb % 8 = pb from by omega]
    exact ⟨Z0, E, g, t, cl, w, F1, F2, F3, F4, r⟩
  | succ j ih =>
    intro T0 locs h0 sz pb X0 e0 N0 hI hj hp hs
    obtain ⟨T1, h1, L1, X1, e1, N1, I1, st1⟩ := tn3_77_77 o0 s1 s2 s3 N sz pb X0 hx hZ hw hby hml hown e0 N0 hI (by omega) hN (by omega) hp
    obtain ⟨T2, h2, L2, X2, e2, N2, I2, st2⟩ := ih X1 e1 N1 I1 (by omega) (by omega) (by omega)
    refine ⟨T2, h2, L2, X2, e2, N2, ?_, fun target kt => st1 _ (st2 _ kt)⟩
    rw [show sz + (j + 1) = sz + 1 + j from by omega, show pb % 8 = (pb - 8) % 8 from by omega]
    exact I2
def Q3 (Z : State) (a1 : Addr) (k N sz pb : Nat) (h0 : Heap) (n0 : Nat) (v : Option Value) (h : Heap) (L : List Loc) : Prop := v = none ∧ Fr n0 L ∧ BW Z h n0 a1 (own_N N sz (pb + k)) (sz + (pb + k) / 8) ((pb + k) % 8)
set_option maxRecDepth 65536 in
set_option maxHeartbeats 40000000 in
theorem rm3 (l : Launch) (Z : State) (a0 : Array Value) (hw : ∀ d ∈ tables_1, d.before a0 Z = true) (ws : List Jvm.Cond) (a1 : Addr) (p2 : Int64) (k N sz pb : Nat) (h0 : Heap) (n0 : Nat) (hI : BW Z h0 n0 a1 N sz pb) (hpb : pb ≤ 7) (hk : k ≤ 56) (hN : 16 ≤ N) (hN64 : N ≤ 64) (hsz : sz ≤ N) (hg : N < sz + 8 → N ≤ 32) :
    MetFree l (⟨"com/example/wrasse/wrasse/index/BitWriter", "writeBits", "(JI)V"⟩ : MethodName) (head1 (Jvm.Cond.code (⟨"com/example/wrasse/wrasse/index/BitWriter", "writeBits", "(JI)V"⟩ : MethodName) prog_33_method_2_code 4 none :: ws) ({ frames := 2, cells := own_gc N sz (pb + k), slots := own_gs N sz (pb + k), locals := 55 } : Room)) (fun a U => a = #[(.ref a1), (.long p2), (.int (Int32.ofNat k))] ∧ Z.Warmed39 U.vm ∧ U.heap = h0) (fun _ _ _ _ _ => True) (fun _ U o U' => ∃ v L, o = .returned v ∧ Q3 Z a1 k N sz pb h0 n0 v U'.heap L ∧ FrameEnd U o U' L ({ frames := 2, cells := own_gc N sz (pb + k), slots := own_gs N sz (pb + k), locals := 55 } : Room).cells ({ frames := 2, cells := own_gc N sz (pb + k), slots := own_gs N sz (pb + k), locals := 55 } : Room).slots) := by
  refine MetFree.of_bodySF (plainFor_of_name pn_3) hisR ?_
  intro p e s m args below meth c s₁ Bd hml0 hP hK
  obtain ⟨rfl, hZ, hh⟩ := hP
  have hx := Bd.exec
  have hby := Bd.bytes
  have hml : c.maxLocals = 4 := hml0
  have hown : s.vm.findClass "com/example/wrasse/wrasse/index/BitWriter" = some m.cls := findClass_of_methodNamed Bd.named
  have hnm := (name_of_methodNamed Bd.named Bd.method).1
  have X0 : Stand p l e ({ frames := 2, cells := own_gc N sz (pb + k), slots := own_gs N sz (pb + k), locals := 55 } : Room) s m #[(.ref a1), (.long p2), (.int (Int32.ofNat k))] below meth c s₁ [] 0 0 := Stand.of_body Bd
  have e0 : s₁.heap = h0 := by rw [← hh, Bd.state]; rfl
  have N0 := Fr.nil n0
  have pre0 : ∀ t, Steps p.tables e below (s₁.setTop (mkF m 0 #[.val (.ref a1), .val (.long p2), .second, .val (.int (Int32.ofNat k))] [])) t → Steps p.tables e below (s₁.setTop (entryFrame m #[(.ref a1), (.long p2), (.int (Int32.ofNat k))] 4)) t := fun t kk => castTop (ef_3 m a1 p2 (Int32.ofNat k)) kk
  obtain ⟨T1, h1, L1, X1, e1, N1, I1, st1⟩ := tn3_0_25 (n0 := n0) a1 p2 k N sz pb X0 hx hZ hw hby hml hown e0 N0 hI
  obtain ⟨Z1, E1, g1, t1, cl1, w1, Fb1, Fs1, Fp1, Fq1, r1⟩ := I1
  have I1 : BW Z h1 n0 a1 N sz (pb + k) := ⟨Z1, E1, g1, t1, cl1, w1, Fb1, Fs1, Fp1, Fq1, r1⟩
  by_cases h8 : pb + k < 8
  · have gr : own_gr N sz (pb + k) = false := by simp [own_gr]; omega
    have gc : own_gc N sz (pb + k) = 0 := by simp [own_gc, gr]
    have gs : own_gs N sz (pb + k) = 0 := by simp [own_gs, gr]
    have gN : own_N N sz (pb + k) = N := by simp [own_N, gr]
    obtain ⟨T2, X2, e2, st2⟩ := tn3_25_136_t a1 (.val (.long p2)) .second (.val (.int (Int32.ofNat k))) (Int32.ofNat (pb + k)) X1 hx hZ hw hby hml hown e1 Fq1 (Jvm.Free.XT.lt32 (b := 8) (by decide) h8)
    obtain ⟨fs, hr, hrun, hended, hW, hsame⟩ := X2.leave (v := none) (fun _ => rfl)
    refine ⟨_, _, pre0 _ ?_, hrun, hended, _, _, rfl, ?_, ⟨_, rfl⟩, hW, hsame.mono (by show 0 ≤ own_gc N sz (pb + k); rw [gc]; omega) (by show 0 ≤ own_gs N sz (pb + k); rw [gs]; omega)⟩
    · refine st1 _ ?_
      refine st2 _ ?_
      show Steps p.tables e below (T2.setTop (mkF m 136 #[.val (.ref a1), .val (.long p2), .second, .val (.int (Int32.ofNat k))] [])) _
      exact X2.returnOut hx Bd.returns (hb hby d3_136) hr
    · show Q3 Z a1 k N sz pb h0 n0 _ T2.heap _
      rw [e2]
      refine ⟨rfl, N1, ?_⟩
      rw [gN]
      rw [show (pb + k) / 8 = 0 from by omega, show (pb + k) % 8 = pb + k from by omega]
      exact I1
  · obtain ⟨T2, X2, e2, st2⟩ := tn3_25_34_f a1 (.val (.long p2)) .second (.val (.int (Int32.ofNat k))) (Int32.ofNat (pb + k)) X1 hx hZ hw hby hml hown e1 Fq1 (Jvm.Free.XT.nlt32 (b := 8) (by omega) (by omega))
    by_cases hG : N < sz + 8
    · have gr : own_gr N sz (pb + k) = true := by simp [own_gr]; omega
      have gc : own_gc N sz (pb + k) = 1 := by simp [own_gc, gr]
      have gs : own_gs N sz (pb + k) = 2 * N := by simp [own_gs, gr]
      have gN : own_N N sz (pb + k) = 2 * N := by simp [own_N, gr]
      obtain ⟨T3, h3, L3, X3, e3, N3, I3, st3⟩ := tn3_34_77_f (n0 := n0) a1 (.val (.long p2)) .second (.val (.int (Int32.ofNat k))) N sz (pb + k) X2 hx hZ hw hby hml hown e2 N1 I1 hG hN (hg hG) hsz (Nat.le_refl _) (Nat.le_refl _) (by show 0 + 1 ≤ own_gc N sz (pb + k); omega) (by show 0 + 2 * N ≤ own_gs N sz (pb + k); omega)
      obtain ⟨T4, h4, L4, X4, e4, N4, I4, st4⟩ := own_loop (n0 := n0) a1 (.val (.long p2)) .second (.val (.int (Int32.ofNat k))) (2 * N) hx hZ hw hby hml hown (by have := hg hG; omega) ((pb + k) / 8) X3 e3 N3 I3 rfl (by omega) (by omega)
      obtain ⟨fs, hr, hrun, hended, hW, hsame⟩ := X4.leave (v := none) (fun _ => rfl)
      refine ⟨_, _, pre0 _ ?_, hrun, hended, _, _, rfl, ?_, ⟨_, rfl⟩, hW, hsame.mono (by show 0 + 1 ≤ own_gc N sz (pb + k); rw [gc]; omega) (by show 0 + 2 * N ≤ own_gs N sz (pb + k); rw [gs]; omega)⟩
      · refine st1 _ ?_
        refine st2 _ ?_
        refine st3 _ ?_
        refine st4 _ ?_
        show Steps p.tables e below (T4.setTop (mkF m 136 #[.val (.ref a1), .val (.long p2), .second, .val (.int (Int32.ofNat k))] [])) _
        exact X4.returnOut hx Bd.returns (hb hby d3_136) hr
      · show Q3 Z a1 k N sz pb h0 n0 _ T4.heap _
        rw [e4]
        refine ⟨rfl, N4, ?_⟩
        rw [gN]
        exact I4
    · have gr : own_gr N sz (pb + k) = false := by simp [own_gr]; omega
      have gc : own_gc N sz (pb + k) = 0 := by simp [own_gc, gr]
      have gs : own_gs N sz (pb + k) = 0 := by simp [own_gs, gr]
      have gN : own_N N sz (pb + k) = N := by simp [own_N, gr]
      have S1 : cl1.slots.size = (Int32.ofNat N).toNatClampNeg := by rw [own_n32 (by omega)]; exact r1.2.2.1
      obtain ⟨T3, X3, e3, st3⟩ := tn3_34_77_t a1 (.val (.long p2)) .second (.val (.int (Int32.ofNat k))) t1 cl1 (Int32.ofNat N) (Int32.ofNat sz) X2 hx hZ hw hby hml hown e2 Fb1 r1.2.1 S1 (own_nn (by omega)) Fs1 (by rw [own_sub32 hsz]; exact Jvm.Free.XT.nlt32 (b := 8) (by omega) (by omega))
      obtain ⟨T4, h4, L4, X4, e4, N4, I4, st4⟩ := own_loop (n0 := n0) a1 (.val (.long p2)) .second (.val (.int (Int32.ofNat k))) N hx hZ hw hby hml hown hN64 ((pb + k) / 8) X3 e3 N1 I1 rfl (by omega) (by omega)
      obtain ⟨fs, hr, hrun, hended, hW, hsame⟩ := X4.leave (v := none) (fun _ => rfl)
      refine ⟨_, _, pre0 _ ?_, hrun, hended, _, _, rfl, ?_, ⟨_, rfl⟩, hW, hsame.mono (by show 0 ≤ own_gc N sz (pb + k); rw [gc]; omega) (by show 0 ≤ own_gs N sz (pb + k); rw [gs]; omega)⟩
      · refine st1 _ ?_
        refine st2 _ ?_
        refine st3 _ ?_
        refine st4 _ ?_
        show Steps p.tables e below (T4.setTop (mkF m 136 #[.val (.ref a1), .val (.long p2), .second, .val (.int (Int32.ofNat k))] [])) _
        exact X4.returnOut hx Bd.returns (hb hby d3_136) hr
      · show Q3 Z a1 k N sz pb h0 n0 _ T4.heap _
        rw [e4]
        refine ⟨rfl, N4, ?_⟩
        rw [gN]
        exact I4
theorem d4_0 : decode prog_33_method_8_code 0 = .ok (.aload_n 0, 1) := by decide +kernel
theorem d4_1 : decode prog_33_method_8_code 1 = .ok (.getfield 23, 3) := by decide +kernel
theorem d4_4 : decode prog_33_method_8_code 4 = .ok (.i2l, 1) := by decide +kernel
theorem d4_5 : decode prog_33_method_8_code 5 = .ok (.ldc2_w 67, 3) := by decide +kernel
theorem d4_8 : decode prog_33_method_8_code 8 = .ok (.lmul, 1) := by decide +kernel
theorem d4_9 : decode prog_33_method_8_code 9 = .ok (.aload_n 0, 1) := by decide +kernel
theorem d4_10 : decode prog_33_method_8_code 10 = .ok (.getfield 17, 3) := by decide +kernel
theorem d4_13 : decode prog_33_method_8_code 13 = .ok (.i2l, 1) := by decide +kernel
theorem d4_14 : decode prog_33_method_8_code 14 = .ok (.ladd, 1) := by decide +kernel
theorem d4_15 : decode prog_33_method_8_code 15 = .ok (.lreturn, 1) := by decide +kernel
theorem pn_4 : plainName "com/example/wrasse/wrasse/index/BitWriter" = true := by first | (simp [plainName, overriddenIn]; done) | decide +kernel
theorem ef_4 (m : MethodId) (x0 : Addr) : entryFrame m #[(.ref x0)] 1 = mkF m 0 #[.val (.ref x0)] [] := by first | (simp [entryFrame, mkF, argsToLocals, Value.category]; done) | rfl
def Q4 (Z : State) (a1 : Addr) (w2 : Int32) (w4 : Int32) (h0 : Heap) (n0 : Nat) (v : Option Value) (h : Heap) (L : List Loc) : Prop := v = some (.long (((w2.toInt64) * (8 : Int64)) + (w4.toInt64))) ∧ Fr n0 L ∧ h = h0
set_option maxRecDepth 65536 in
set_option maxHeartbeats 40000000 in
theorem rm4 (l : Launch) (Z : State) (a0 : Array Value) (hw : ∀ d ∈ tables_1, d.before a0 Z = true) (ws : List Jvm.Cond) (a1 : Addr) (w2 : Int32) (w4 : Int32) (h0 : Heap) (n0 : Nat) (Z0 : n0 ≤ h0.size) (F_size_a1 : Fld Z h0 a1 "com/example/wrasse/wrasse/index/BitWriter" "size" "I" (.int w2)) (F_pendingBits_a1 : Fld Z h0 a1 "com/example/wrasse/wrasse/index/BitWriter" "pendingBits" "I" (.int w4)) :
    MetFree l (⟨"com/example/wrasse/wrasse/index/BitWriter", "bitSize", "()J"⟩ : MethodName) (head1 (Jvm.Cond.code (⟨"com/example/wrasse/wrasse/index/BitWriter", "bitSize", "()J"⟩ : MethodName) prog_33_method_8_code 1 (some .long) :: ws) ({ frames := 0, cells := 0, slots := 0, locals := 0 } : Room)) (fun a U => a = #[(.ref a1)] ∧ Z.Warmed39 U.vm ∧ U.heap = h0) (fun _ _ _ _ _ => True) (fun _ U o U' => ∃ v L, o = .returned v ∧ Q4 Z a1 w2 w4 h0 n0 v U'.heap L ∧ FrameEnd U o U' L ({ frames := 0, cells := 0, slots := 0, locals := 0 } : Room).cells ({ frames := 0, cells := 0, slots := 0, locals := 0 } : Room).slots) := by
  refine MetFree.of_bodySF (plainFor_of_name pn_4) hisR ?_
  intro p e s m args below meth c s₁ Bd hml0 hP hK
  obtain ⟨rfl, hZ, hh⟩ := hP
  have hx := Bd.exec
  have hby := Bd.bytes
  have hml : c.maxLocals = 1 := hml0
  have hown : s.vm.findClass "com/example/wrasse/wrasse/index/BitWriter" = some m.cls := findClass_of_methodNamed Bd.named
  have hnm := (name_of_methodNamed Bd.named Bd.method).1
  have X0 : Stand p l e ({ frames := 0, cells := 0, slots := 0, locals := 0 } : Room) s m #[(.ref a1)] below meth c s₁ [] 0 0 := Stand.of_body Bd
  have e0 : s₁.heap = h0 := by rw [← hh, Bd.state]; rfl
  have N0 := Fr.nil n0
  have pre0 : ∀ t, Steps p.tables e below (s₁.setTop (mkF m 0 #[.val (.ref a1)] [])) t → Steps p.tables e below (s₁.setTop (entryFrame m #[(.ref a1)] 1)) t := fun t k => castTop (ef_4 m a1) k
  obtain ⟨T3, X3, e3, st3⟩ := getF X0 hx hZ hown (host := "") (Or.inl (hw _ (List.mem_of_getElem? (i := 27) rfl))) Via.refl e0 F_size_a1 (g := (mkF m 1 #[.val (.ref a1)] [(.ref a1)])) rfl rfl (hb hby d4_1)
  obtain ⟨T5, X5, e5, st5⟩ := getF X3 hx hZ hown (host := "") (Or.inl (hw _ (List.mem_of_getElem? (i := 20) rfl))) Via.refl e3 F_pendingBits_a1 (g := (mkF m 10 #[.val (.ref a1)] [(.ref a1), (.long ((w2.toInt64) * (8 : Int64)))])) rfl rfl (hb hby d4_10)
  obtain ⟨fs, hr, hrun, hended, hW, hsame⟩ := X5.leave (v := some (.long (((w2.toInt64) * (8 : Int64)) + (w4.toInt64)))) (fun h => by rw [Bd.returns] at h; cases h)
  refine ⟨_, _, pre0 _ ?_, hrun, hended, _, _, rfl, ?_, ⟨_, rfl⟩, hW, hsame.mono (by decide) (by decide)⟩
  · show Steps p.tables e below (s₁.setTop (mkF m 0 #[.val (.ref a1)] [])) _
    refine XS.aloadN X0.here hx rfl (hb hby d4_0) rfl rfl ?_
    show Steps p.tables e below (s₁.setTop (mkF m 1 #[.val (.ref a1)] [(.ref a1)])) _
    refine st3 _ ?_
    show Steps p.tables e below (T3.setTop (mkF m 4 #[.val (.ref a1)] [(.int w2)])) _
    refine XS.i2l X3.here hx rfl (hb hby d4_4) rfl ?_
    show Steps p.tables e below (T3.setTop (mkF m 5 #[.val (.ref a1)] [(.long (w2.toInt64))])) _
    refine X3.ldc2Long hx hown (mvT hZ (hw _ (List.mem_of_getElem? (i := 29) rfl))) (g := (mkF m 5 #[.val (.ref a1)] [(.long (w2.toInt64))])) rfl (hb hby d4_5) _ ?_
    show Steps p.tables e below (T3.setTop (mkF m 8 #[.val (.ref a1)] [(.long (8 : Int64)), (.long (w2.toInt64))])) _
    refine XS.lmul X3.here hx rfl (hb hby d4_8) rfl ?_
    show Steps p.tables e below (T3.setTop (mkF m 9 #[.val (.ref a1)] [(.long ((w2.toInt64) * (8 : Int64)))])) _
    refine XS.aloadN X3.here hx rfl (hb hby d4_9) rfl rfl ?_
    show Steps p.tables e below (T3.setTop (mkF m 10 #[.val (.ref a1)] [(.ref a1), (.long ((w2.toInt64) * (8 : Int64)))])) _
    refine st5 _ ?_
    show Steps p.tables e below (T5.setTop (mkF m 13 #[.val (.ref a1)] [(.int w4), (.long ((w2.toInt64) * (8 : Int64)))])) _
    refine XS.i2l X5.here hx rfl (hb hby d4_13) rfl ?_
    show Steps p.tables e below (T5.setTop (mkF m 14 #[.val (.ref a1)] [(.long (w4.toInt64)), (.long ((w2.toInt64) * (8 : Int64)))])) _
    refine XS.ladd X5.here hx rfl (hb hby d4_14) rfl ?_
    show Steps p.tables e below (T5.setTop (mkF m 15 #[.val (.ref a1)] [(.long (((w2.toInt64) * (8 : Int64)) + (w4.toInt64)))])) _
    jvm_step X5.here [X5.here.top, hx, (hb hby d4_15), X5.method', Bd.returns, narrow]
    first | (intro acts; rw [hr _ acts rfl rfl rfl]) | rw [hr _ _ rfl rfl rfl]
    exact Steps.refl _
  · show Q4 Z a1 w2 w4 h0 n0 _ T5.heap _
    rw [e5]
    exact ⟨rfl, N0, rfl⟩
theorem d7_0 : decode prog_33_method_12_code 0 = .ok (.aload_n 0, 1) := by decide +kernel
theorem d7_1 : decode prog_33_method_12_code 1 = .ok (.iconst 0, 1) := by decide +kernel
theorem d7_2 : decode prog_33_method_12_code 2 = .ok (.putfield 23, 3) := by decide +kernel
theorem d7_5 : decode prog_33_method_12_code 5 = .ok (.aload_n 0, 1) := by decide +kernel
theorem d7_6 : decode prog_33_method_12_code 6 = .ok (.lconst 0, 1) := by decide +kernel
theorem d7_7 : decode prog_33_method_12_code 7 = .ok (.putfield 13, 3) := by decide +kernel
theorem d7_10 : decode prog_33_method_12_code 10 = .ok (.aload_n 0, 1) := by decide +kernel
theorem d7_11 : decode prog_33_method_12_code 11 = .ok (.iconst 0, 1) := by decide +kernel
theorem d7_12 : decode prog_33_method_12_code 12 = .ok (.putfield 17, 3) := by decide +kernel
theorem d7_15 : decode prog_33_method_12_code 15 = .ok (.return_, 1) := by decide +kernel
theorem pn_7 : plainName "com/example/wrasse/wrasse/index/BitWriter" = true := by first | (simp [plainName, overriddenIn]; done) | decide +kernel
theorem ef_7 (m : MethodId) (x0 : Addr) : entryFrame m #[(.ref x0)] 1 = mkF m 0 #[.val (.ref x0)] [] := by first | (simp [entryFrame, mkF, argsToLocals, Value.category]; done) | rfl
def Q7 (Z : State) (a1 : Addr) (N : Nat) (h0 : Heap) (n0 : Nat) (v : Option Value) (h : Heap) (L : List Loc) : Prop := v = none ∧ Fr n0 L ∧ BW Z h n0 a1 N 0 0
set_option maxRecDepth 65536 in
set_option maxHeartbeats 40000000 in
theorem rm7 (l : Launch) (Z : State) (a0 : Array Value) (hw : ∀ d ∈ tables_1, d.before a0 Z = true) (ws : List Jvm.Cond) (a1 : Addr) (N sz pb : Nat) (h0 : Heap) (n0 : Nat) (hI : BW Z h0 n0 a1 N sz pb) :
    MetFree l (⟨"com/example/wrasse/wrasse/index/BitWriter", "clear", "()V"⟩ : MethodName) (head1 (Jvm.Cond.code (⟨"com/example/wrasse/wrasse/index/BitWriter", "clear", "()V"⟩ : MethodName) prog_33_method_12_code 1 none :: ws) ({ frames := 0, cells := 0, slots := 0, locals := 0 } : Room)) (fun a U => a = #[(.ref a1)] ∧ Z.Warmed39 U.vm ∧ U.heap = h0) (fun _ _ _ _ _ => True) (fun _ U o U' => ∃ v L, o = .returned v ∧ Q7 Z a1 N h0 n0 v U'.heap L ∧ FrameEnd U o U' L ({ frames := 0, cells := 0, slots := 0, locals := 0 } : Room).cells ({ frames := 0, cells := 0, slots := 0, locals := 0 } : Room).slots) := by
  refine MetFree.of_bodySF (plainFor_of_name pn_7) hisR ?_
  intro p e s m args below meth c s₁ Bd hml0 hP hK
  obtain ⟨rfl, hZ, hh⟩ := hP
  have hx := Bd.exec
  have hby := Bd.bytes
  have hml : c.maxLocals = 1 := hml0
  have hown : s.vm.findClass "com/example/wrasse/wrasse/index/BitWriter" = some m.cls := findClass_of_methodNamed Bd.named
  have hnm := (name_of_methodNamed Bd.named Bd.method).1
  have X0 : Stand p l e ({ frames := 0, cells := 0, slots := 0, locals := 0 } : Room) s m #[(.ref a1)] below meth c s₁ [] 0 0 := Stand.of_body Bd
  have e0 : s₁.heap = h0 := by rw [← hh, Bd.state]; rfl
  have N0 := Fr.nil n0
  obtain ⟨Z0, E_a1, g_a1, t, cl, w, F_bytes_a1, F_size_a1, F_pending_a1, F_pendingBits_a1, gt, Ar, S, G⟩ := hI
  have hne : a1 ≠ t := ne_arr E_a1 (hw _ (List.mem_of_getElem? (i := 2) rfl)) Ar
  have pre0 : ∀ t, Steps p.tables e below (s₁.setTop (mkF m 0 #[.val (.ref a1)] [])) t → Steps p.tables e below (s₁.setTop (entryFrame m #[(.ref a1)] 1)) t := fun t k => castTop (ef_7 m a1) k
  obtain ⟨T2, h2, X2, e2, W2, st2⟩ := putF X0 hx hZ hown (host := "") (Or.inl (hw _ (List.mem_of_getElem? (i := 27) rfl))) Via.refl e0 F_size_a1 E_a1 (Or.inl (hw _ (List.mem_of_getElem? (i := 28) rfl))) (hw _ (List.mem_of_getElem? (i := 2) rfl)) (ty := .int) (by decide) rfl rfl (g := (mkF m 2 #[.val (.ref a1)] [(.int (0 : Int32)), (.ref a1)])) rfl rfl (hb hby d7_2)
  have Fw2 := F_size_a1.same W2
  have N2 := Fr.snoc X2 N0 g_a1
  obtain ⟨T3, h3, X3, e3, W3, st3⟩ := putF X2 hx hZ hown (host := "") (Or.inl (hw _ (List.mem_of_getElem? (i := 18) rfl))) Via.refl e2 (F_pending_a1.other W2 (Or.inr (slot_ne (Or.inl (hw _ (List.mem_of_getElem? (i := 19) rfl))) (Or.inl (hw _ (List.mem_of_getElem? (i := 28) rfl))) (by decide) (t := .long) (t' := .int) (by decide) (by decide)))) (E_a1.wr W2) (Or.inl (hw _ (List.mem_of_getElem? (i := 19) rfl))) (hw _ (List.mem_of_getElem? (i := 2) rfl)) (ty := .long) (by decide) rfl rfl (g := (mkF m 7 #[.val (.ref a1)] [(.long (0 : Int64)), (.ref a1)])) rfl rfl (hb hby d7_7)
  have Fw3 := (F_pending_a1.other W2 (Or.inr (slot_ne (Or.inl (hw _ (List.mem_of_getElem? (i := 19) rfl))) (Or.inl (hw _ (List.mem_of_getElem? (i := 28) rfl))) (by decide) (t := .long) (t' := .int) (by decide) (by decide)))).same W3
  have N3 := Fr.snoc X3 N2 g_a1
  obtain ⟨T4, h4, X4, e4, W4, st4⟩ := putF X3 hx hZ hown (host := "") (Or.inl (hw _ (List.mem_of_getElem? (i := 20) rfl))) Via.refl e3 ((F_pendingBits_a1.other W2 (Or.inr (slot_ne (Or.inl (hw _ (List.mem_of_getElem? (i := 21) rfl))) (Or.inl (hw _ (List.mem_of_getElem? (i := 28) rfl))) (by decide) (t := .int) (t' := .int) (by decide) (by decide)))).other W3 (Or.inr (slot_ne (Or.inl (hw _ (List.mem_of_getElem? (i := 21) rfl))) (Or.inl (hw _ (List.mem_of_getElem? (i := 19) rfl))) (by decide) (t := .int) (t' := .long) (by decide) (by decide)))) ((E_a1.wr W2).wr W3) (Or.inl (hw _ (List.mem_of_getElem? (i := 21) rfl))) (hw _ (List.mem_of_getElem? (i := 2) rfl)) (ty := .int) (by decide) rfl rfl (g := (mkF m 12 #[.val (.ref a1)] [(.int (0 : Int32)), (.ref a1)])) rfl rfl (hb hby d7_12)
  have Fw4 := ((F_pendingBits_a1.other W2 (Or.inr (slot_ne (Or.inl (hw _ (List.mem_of_getElem? (i := 21) rfl))) (Or.inl (hw _ (List.mem_of_getElem? (i := 28) rfl))) (by decide) (t := .int) (t' := .int) (by decide) (by decide)))).other W3 (Or.inr (slot_ne (Or.inl (hw _ (List.mem_of_getElem? (i := 21) rfl))) (Or.inl (hw _ (List.mem_of_getElem? (i := 19) rfl))) (by decide) (t := .int) (t' := .long) (by decide) (by decide)))).same W4
  have N4 := Fr.snoc X4 N3 g_a1
  obtain ⟨fs, hr, hrun, hended, hW, hsame⟩ := X4.leave (v := none) (fun _ => rfl)
  refine ⟨_, _, pre0 _ ?_, hrun, hended, _, _, rfl, ?_, ⟨_, rfl⟩, hW, hsame.mono (by decide) (by decide)⟩
  · show Steps p.tables e below (s₁.setTop (mkF m 0 #[.val (.ref a1)] [])) _
    refine XS.aloadN X0.here hx rfl (hb hby d7_0) rfl rfl ?_
    show Steps p.tables e below (s₁.setTop (mkF m 1 #[.val (.ref a1)] [(.ref a1)])) _
    refine XS.iconst X0.here hx rfl (hb hby d7_1) ?_
    show Steps p.tables e below (s₁.setTop (mkF m 2 #[.val (.ref a1)] [(.int (0 : Int32)), (.ref a1)])) _
    refine st2 _ ?_
    show Steps p.tables e below (T2.setTop (mkF m 5 #[.val (.ref a1)] [])) _
    refine XS.aloadN X2.here hx rfl (hb hby d7_5) rfl rfl ?_
    show Steps p.tables e below (T2.setTop (mkF m 6 #[.val (.ref a1)] [(.ref a1)])) _
    refine XS.lconst X2.here hx rfl (hb hby d7_6) ?_
    show Steps p.tables e below (T2.setTop (mkF m 7 #[.val (.ref a1)] [(.long (0 : Int64)), (.ref a1)])) _
    refine st3 _ ?_
    show Steps p.tables e below (T3.setTop (mkF m 10 #[.val (.ref a1)] [])) _
    refine XS.aloadN X3.here hx rfl (hb hby d7_10) rfl rfl ?_
    show Steps p.tables e below (T3.setTop (mkF m 11 #[.val (.ref a1)] [(.ref a1)])) _
    refine XS.iconst X3.here hx rfl (hb hby d7_11) ?_
    show Steps p.tables e below (T3.setTop (mkF m 12 #[.val (.ref a1)] [(.int (0 : Int32)), (.ref a1)])) _
    refine st4 _ ?_
    show Steps p.tables e below (T4.setTop (mkF m 15 #[.val (.ref a1)] [])) _
    exact X4.returnOut hx Bd.returns (hb hby d7_15) hr
  · show Q7 Z a1 N h0 n0 _ T4.heap _
    rw [e4]
    exact ⟨rfl, N4, by rw [W4.size, W3.size, W2.size]; exact Z0, (((E_a1.wr W2).wr W3).wr W4), g_a1, t, cl, _, (((F_bytes_a1.other W2 (Or.inr (slot_ne (Or.inl (hw _ (List.mem_of_getElem? (i := 12) rfl))) (Or.inl (hw _ (List.mem_of_getElem? (i := 28) rfl))) (by decide) (t := (.array .byte)) (t' := .int) (by decide) (by decide)))).other W3 (Or.inr (slot_ne (Or.inl (hw _ (List.mem_of_getElem? (i := 12) rfl))) (Or.inl (hw _ (List.mem_of_getElem? (i := 19) rfl))) (by decide) (t := (.array .byte)) (t' := .long) (by decide) (by decide)))).other W4 (Or.inr (slot_ne (Or.inl (hw _ (List.mem_of_getElem? (i := 12) rfl))) (Or.inl (hw _ (List.mem_of_getElem? (i := 21) rfl))) (by decide) (t := (.array .byte)) (t' := .int) (by decide) (by decide)))), ((Fw2.other W3 (Or.inr (slot_ne (Or.inl (hw _ (List.mem_of_getElem? (i := 28) rfl))) (Or.inl (hw _ (List.mem_of_getElem? (i := 19) rfl))) (by decide) (t := .int) (t' := .long) (by decide) (by decide)))).other W4 (Or.inr (slot_ne (Or.inl (hw _ (List.mem_of_getElem? (i := 28) rfl))) (Or.inl (hw _ (List.mem_of_getElem? (i := 21) rfl))) (by decide) (t := .int) (t' := .int) (by decide) (by decide)))), (Fw3.other W4 (Or.inr (slot_ne (Or.inl (hw _ (List.mem_of_getElem? (i := 19) rfl))) (Or.inl (hw _ (List.mem_of_getElem? (i := 21) rfl))) (by decide) (t := .long) (t' := .int) (by decide) (by decide)))), Fw4, gt, ((Ar.other W2 hne.symm).other W3 hne.symm).other W4 hne.symm, S, G⟩
theorem own_toInt64 {a : Nat} (h : a < 2 ^ 31) : (Int64.ofNat a).toInt = a := Int64.toInt_ofNat_of_lt (by omega)
theorem own_l2i {a : Nat} (h : a < 2 ^ 31) : (Int64.ofNat a).toInt32 = Int32.ofNat a := by
  apply Int32.toInt_inj.mp
  rw [Int64.toInt_toInt32, own_toInt64 h, Int32.toInt_ofNat_small h]
  exact Int.bmod_eq_of_le (by omega) (by omega)
theorem own_i2l {a : Nat} (h : a < 2 ^ 31) : (Int32.ofNat a).toInt64 = Int64.ofNat a := by
  apply Int64.toInt_inj.mp
  rw [Int32.toInt_toInt64, own_toInt64 h, Int32.toInt_ofNat_small h]
theorem own_lsub {a b : Nat} (h : b ≤ a) : Int64.ofNat a - Int64.ofNat b = Int64.ofNat (a - b) := (Int64.ofNat_sub a b h).symm
theorem own_llt {a b : Nat} (ha : a < 2 ^ 31) (hb : b < 2 ^ 31) : Int64.ofNat a < Int64.ofNat b ↔ a < b := by
  rw [Int64.lt_iff_toInt_lt, own_toInt64 ha, own_toInt64 hb]; omega
/-- cells and slots that the greater arrays have taken, from 16 on -/
def own_cU (N : Nat) : Nat := if N = 16 then 0 else if N = 32 then 1 else 2
def own_sU (N : Nat) : Nat := if N = 16 then 0 else if N = 32 then 32 else 96
def own_is (N : Nat) : Prop := N = 16 ∨ N = 32 ∨ N = 64
theorem own_step {N sz q : Nat} (hN : own_is N) (hs : sz ≤ 30) (hsN : sz ≤ N) (hq : q ≤ 63) : own_cU N + own_gc N sz q = own_cU (own_N N sz q) ∧ own_sU N + own_gs N sz q = own_sU (own_N N sz q) ∧ own_is (own_N N sz q) ∧ sz + q / 8 ≤ own_N N sz q ∧ own_cU (own_N N sz q) ≤ 2 ∧ own_sU (own_N N sz q) ≤ 96 := by
  by_cases h : 8 ≤ q ∧ N < sz + 8
  · have gr : own_gr N sz q = true := by simp [own_gr]; omega
    simp only [own_gc, own_gs, own_N, gr, if_true]
    rcases hN with rfl | rfl | rfl
    · refine ⟨by decide, by decide, by simp [own_is], by omega, by decide, by decide⟩
    · refine ⟨by decide, by decide, by simp [own_is], by omega, by decide, by decide⟩
    · omega
  · have gr : own_gr N sz q = false := by simp [own_gr]; omega
    simp only [own_gc, own_gs, own_N, gr, Bool.false_eq_true, if_false]
    refine ⟨rfl, rfl, hN, by rcases hN with rfl | rfl | rfl <;> omega, ?_, ?_⟩ <;> rcases hN with rfl | rfl | rfl <;> decide
theorem d5_0 : decode prog_33_method_3_code 0 = .ok (.lload_n 1, 1) := by decide +kernel
theorem d5_1 : decode prog_33_method_3_code 1 = .ok (.lstore_n 3, 1) := by decide +kernel
theorem d5_2 : decode prog_33_method_3_code 2 = .ok (.lload_n 3, 1) := by decide +kernel
theorem d5_3 : decode prog_33_method_3_code 3 = .ok (.ldc2_w 40, 3) := by decide +kernel
theorem d5_6 : decode prog_33_method_3_code 6 = .ok (.lcmp, 1) := by decide +kernel
theorem d5_7 : decode prog_33_method_3_code 7 = .ok (.ifCond .lt 19, 3) := by decide +kernel
theorem d5_10 : decode prog_33_method_3_code 10 = .ok (.aload_n 0, 1) := by decide +kernel
theorem d5_11 : decode prog_33_method_3_code 11 = .ok (.lconst 0, 1) := by decide +kernel
theorem d5_12 : decode prog_33_method_3_code 12 = .ok (.bipush 56, 2) := by decide +kernel
theorem d5_14 : decode prog_33_method_3_code 14 = .ok (.invokevirtual 42, 3) := by decide +kernel
theorem d5_17 : decode prog_33_method_3_code 17 = .ok (.lload_n 3, 1) := by decide +kernel
theorem d5_18 : decode prog_33_method_3_code 18 = .ok (.ldc2_w 40, 3) := by decide +kernel
theorem d5_21 : decode prog_33_method_3_code 21 = .ok (.lsub, 1) := by decide +kernel
theorem d5_22 : decode prog_33_method_3_code 22 = .ok (.lstore_n 3, 1) := by decide +kernel
theorem d5_23 : decode prog_33_method_3_code 23 = .ok (.goto (-21), 3) := by decide +kernel
theorem pd_5_1 : parseMethodDescriptor "(JI)V" = some ⟨[.long, .int], none⟩ := by decide +kernel
theorem d5_26 : decode prog_33_method_3_code 26 = .ok (.aload_n 0, 1) := by decide +kernel
theorem d5_27 : decode prog_33_method_3_code 27 = .ok (.lconst 1, 1) := by decide +kernel
theorem d5_28 : decode prog_33_method_3_code 28 = .ok (.lload_n 3, 1) := by decide +kernel
theorem d5_29 : decode prog_33_method_3_code 29 = .ok (.l2i, 1) := by decide +kernel
theorem d5_30 : decode prog_33_method_3_code 30 = .ok (.lshl, 1) := by decide +kernel
theorem d5_31 : decode prog_33_method_3_code 31 = .ok (.lload_n 3, 1) := by decide +kernel
theorem d5_32 : decode prog_33_method_3_code 32 = .ok (.l2i, 1) := by decide +kernel
theorem d5_33 : decode prog_33_method_3_code 33 = .ok (.iconst 1, 1) := by decide +kernel
theorem d5_34 : decode prog_33_method_3_code 34 = .ok (.iadd, 1) := by decide +kernel
theorem d5_35 : decode prog_33_method_3_code 35 = .ok (.invokevirtual 42, 3) := by decide +kernel
theorem d5_38 : decode prog_33_method_3_code 38 = .ok (.return_, 1) := by decide +kernel
theorem pn_5 : plainName "com/example/wrasse/wrasse/index/BitWriter" = true := by first | (simp [plainName, overriddenIn]; done) | decide +kernel
theorem ef_5 (m : MethodId) (x0 : Addr) (x1 : Int64) : entryFrame m #[(.ref x0), (.long x1)] 5 = mkF m 0 #[.val (.ref x0), .val (.long x1), .second, .unset, .unset] [] := by first | (simp [entryFrame, mkF, argsToLocals, Value.category]; done) | rfl
set_option maxRecDepth 65536 in
set_option maxHeartbeats 40000000 in
theorem tn5_0_2 {p : Program} {l : Launch} {e : Env} {R : Room} {s : State} {m : MethodId} {args : Array Value} {below : List Frame} {meth : Method} {c : Code} {T0 : State} {locs : List Loc} {cells slots : Nat} {Z : State} {a0 : Array Value} {h0 : Heap} (s0 : Slot) (j1 : Int64)
    (X0 : Stand p l e R s m args below meth c T0 locs cells slots) (hx : p.tables.exec = Jvm.exec) (hZ : Z.Warmed39 s.vm) (hw : ∀ d ∈ tables_1, d.before a0 Z = true) (hby : c.code = prog_33_method_3_code) (hml : c.maxLocals = 5) (hown : s.vm.findClass "com/example/wrasse/wrasse/index/BitWriter" = some m.cls) (e0 : T0.heap = h0) :
    ∃ (T' : State), Stand p l e R s m args below meth c T' locs cells slots ∧ T'.heap = h0 ∧
      ∀ target, Steps p.tables e below (T'.setTop (mkF m 2 #[s0, .val (.long j1), .second, .val (.long j1), .second] [])) target → Steps p.tables e below (T0.setTop (mkF m 0 #[s0, .val (.long j1), .second, .unset, .unset] [])) target := by
  refine ⟨T0, X0, e0, fun target kt => ?_⟩
  show Steps p.tables e below (T0.setTop (mkF m 0 #[s0, .val (.long j1), .second, .unset, .unset] [])) _
  refine XS.lloadN X0.here hx rfl (hb hby d5_0) rfl ?_
  show Steps p.tables e below (T0.setTop (mkF m 1 #[s0, .val (.long j1), .second, .unset, .unset] [(.long j1)])) _
  refine XS.lstoreN X0.here hx rfl (hb hby d5_1) rfl (l' := #[s0, .val (.long j1), .second, .val (.long j1), .second]) rfl ?_
  exact kt
set_option maxRecDepth 65536 in
set_option maxHeartbeats 40000000 in
theorem tn5_2_2 {p : Program} {l : Launch} {e : Env} {s : State} {m : MethodId} {args : Array Value} {below : List Frame} {meth : Method} {c : Code} {T0 : State} {locs : List Loc} {cells slots : Nat} {Z : State} {a0 : Array Value} {h0 : Heap} {n0 : Nat} (o0 : Addr) (s1 : Slot) (s2 : Slot) (r N sz pb : Nat)
    (X0 : Stand p l e ({ frames := 3, cells := 2, slots := 96, locals := 70 } : Room) s m args below meth c T0 locs cells slots) (hx : p.tables.exec = Jvm.exec) (hZ : Z.Warmed39 s.vm) (hw : ∀ d ∈ tables_1, d.before a0 Z = true) (hby : c.code = prog_33_method_3_code) (hml : c.maxLocals = 5) (hown : s.vm.findClass "com/example/wrasse/wrasse/index/BitWriter" = some m.cls) (e0 : T0.heap = h0) (N0 : Fr n0 locs) (hI : BW Z h0 n0 o0 N sz pb) (hr : 56 ≤ r) (hr2 : r ≤ 127) (hpb : pb ≤ 7) (hN : own_is N) (hs : sz ≤ 30) (hsN : sz ≤ N) (hcc : cells = own_cU N) (hss : slots = own_sU N) :
    ∃ (T' : State) (h' : Heap) (locs' : List Loc), Stand p l e ({ frames := 3, cells := 2, slots := 96, locals := 70 } : Room) s m args below meth c T' locs' (own_cU (own_N N sz (pb + 56))) (own_sU (own_N N sz (pb + 56))) ∧ T'.heap = h' ∧ Fr n0 locs' ∧ BW Z h' n0 o0 (own_N N sz (pb + 56)) (sz + (pb + 56) / 8) ((pb + 56) % 8) ∧
      ∀ target, Steps p.tables e below (T'.setTop (mkF m 2 #[.val (.ref o0), s1, s2, .val (.long ((Int64.ofNat r) - (56 : Int64))), .second] [])) target → Steps p.tables e below (T0.setTop (mkF m 2 #[.val (.ref o0), s1, s2, .val (.long (Int64.ofNat r)), .second] [])) target := by
  obtain ⟨u1, u2, u3, u4, u5, u6⟩ := own_step (q := (pb + 56)) hN hs hsN (by omega)
  have hN16 : 16 ≤ N := by rcases hN with rfl | rfl | rfl <;> decide
  have hN64 : N ≤ 64 := by rcases hN with rfl | rfl | rfl <;> decide
  have hg : N < sz + 8 → N ≤ 32 := by rcases hN with rfl | rfl | rfl <;> omega
  have hc7 : ¬ ((lcmpW (Int64.ofNat r) (56 : Int64)) < (0 : Int32)) := fun q => absurd ((own_llt (b := 56) (by omega) (by decide)).mp ((lw_lt _ _).mp q)) (by omega)
  have hsub : Int64.ofNat r - (56 : Int64) = Int64.ofNat (r - 56) := own_lsub (b := 56) hr
  obtain ⟨cq3, kq3, q3a, q3b, q3c⟩ := isOf hZ e0 hI.2.1
  obtain ⟨_, _, ⟨T3, L3, k3, n3⟩, -, X3, ⟨Lc3, hQ3, l3, y3, z3⟩, st3⟩ := X0.virtualBack hx (y := (⟨"com/example/wrasse/wrasse/index/BitWriter", "writeBits", "(JI)V"⟩ : MethodName)) (z := (⟨"com/example/wrasse/wrasse/index/BitWriter", "writeBits", "(JI)V"⟩ : MethodName)) hown (mvT hZ (hw _ (List.mem_of_getElem? (i := 36) rfl))) (mvT hZ (hw _ (List.mem_of_getElem? (i := 14) rfl))) (notFace_of_selects (args := #[]) (mvT hZ (hw _ (List.mem_of_getElem? (i := 16) rfl)))) (mvT hZ (hw _ (List.mem_of_getElem? (i := 16) rfl))) (mvT hZ (hw _ (List.mem_of_getElem? (i := 15) rfl))) (by decide) (backOf (W := 0) (rm3 l Z a0 hw [] o0 (0 : Int64) 56 N sz pb h0 n0 hI hpb (by omega) hN16 hN64 hsN hg) hZ (hw _ (List.mem_of_getElem? (i := 17) rfl)) (hw _ (List.mem_of_getElem? (i := 3) rfl)) (by show 2 + 1 ≤ 3; decide) (by show 0 + (4 + 11) + 55 ≤ 70; decide)) q3a q3c (g := (mkF m 14 #[.val (.ref o0), s1, s2, .val (.long (Int64.ofNat r)), .second] [(.int (56 : Int32)), (.long (0 : Int64)), (.ref o0)])) rfl (by rw [hml]; rfl) (Steps.refl _) (argsL := [(.long (0 : Int64)), (.int (56 : Int32))]) (rest := []) (lenOf pd_5_1 rfl) rfl (by show 2 * 0 + _ ≤ _; exact Nat.le_of_eq rfl) (hb hby d5_14) (fun _ _ => ⟨rfl, e0, (by show cells + own_gc N sz (pb + 56) ≤ 2; omega), (by show slots + own_gs N sz (pb + 56) ≤ 96; omega)⟩)
  dsimp only [Pt.U, Pt.locs, Pt.cells, Pt.slots] at X3 l3 y3 z3 st3 hQ3
  subst l3 y3 z3
  obtain ⟨rfl, N3q, I3⟩ := hQ3
  have N3 := Fr.app N0 N3q
  refine ⟨T3, _, _, X3.loosen (by show cells + own_gc N sz (pb + 56) ≤ _; omega) (by show slots + own_gs N sz (pb + 56) ≤ _; omega), rfl, N3, I3, fun target kt => ?_⟩
  show Steps p.tables e below (T0.setTop (mkF m 2 #[.val (.ref o0), s1, s2, .val (.long (Int64.ofNat r)), .second] [])) _
  refine XS.lloadN X0.here hx rfl (hb hby d5_2) rfl ?_
  show Steps p.tables e below (T0.setTop (mkF m 3 #[.val (.ref o0), s1, s2, .val (.long (Int64.ofNat r)), .second] [(.long (Int64.ofNat r))])) _
  refine X0.ldc2Long hx hown (mvT hZ (hw _ (List.mem_of_getElem? (i := 35) rfl))) (g := (mkF m 3 #[.val (.ref o0), s1, s2, .val (.long (Int64.ofNat r)), .second] [(.long (Int64.ofNat r))])) rfl (hb hby d5_3) _ ?_
  show Steps p.tables e below (T0.setTop (mkF m 6 #[.val (.ref o0), s1, s2, .val (.long (Int64.ofNat r)), .second] [(.long (56 : Int64)), (.long (Int64.ofNat r))])) _
  refine XS.lcmp X0.here hx rfl (hb hby d5_6) rfl ?_
  show Steps p.tables e below (T0.setTop (mkF m 7 #[.val (.ref o0), s1, s2, .val (.long (Int64.ofNat r)), .second] [(.int (lcmpW (Int64.ofNat r) (56 : Int64)))])) _
  refine XS.ifNo X0.here hx rfl (hb hby d5_7) rfl ((if0 _ _).trans (flt hc7).1) ?_
  show Steps p.tables e below (T0.setTop (mkF m 10 #[.val (.ref o0), s1, s2, .val (.long (Int64.ofNat r)), .second] [])) _
  refine XS.aloadN X0.here hx rfl (hb hby d5_10) rfl rfl ?_
  show Steps p.tables e below (T0.setTop (mkF m 11 #[.val (.ref o0), s1, s2, .val (.long (Int64.ofNat r)), .second] [(.ref o0)])) _
  refine XS.lconst X0.here hx rfl (hb hby d5_11) ?_
  show Steps p.tables e below (T0.setTop (mkF m 12 #[.val (.ref o0), s1, s2, .val (.long (Int64.ofNat r)), .second] [(.long (0 : Int64)), (.ref o0)])) _
  refine XS.bipush X0.here hx rfl (hb hby d5_12) ?_
  show Steps p.tables e below (T0.setTop (mkF m 14 #[.val (.ref o0), s1, s2, .val (.long (Int64.ofNat r)), .second] [(.int (56 : Int32)), (.long (0 : Int64)), (.ref o0)])) _
  refine st3.trans ?_
  show Steps p.tables e below (T3.setTop (mkF m 17 #[.val (.ref o0), s1, s2, .val (.long (Int64.ofNat r)), .second] [])) _
  refine XS.lloadN X3.here hx rfl (hb hby d5_17) rfl ?_
  show Steps p.tables e below (T3.setTop (mkF m 18 #[.val (.ref o0), s1, s2, .val (.long (Int64.ofNat r)), .second] [(.long (Int64.ofNat r))])) _
  refine X3.ldc2Long hx hown (mvT hZ (hw _ (List.mem_of_getElem? (i := 35) rfl))) (g := (mkF m 18 #[.val (.ref o0), s1, s2, .val (.long (Int64.ofNat r)), .second] [(.long (Int64.ofNat r))])) rfl (hb hby d5_18) _ ?_
  show Steps p.tables e below (T3.setTop (mkF m 21 #[.val (.ref o0), s1, s2, .val (.long (Int64.ofNat r)), .second] [(.long (56 : Int64)), (.long (Int64.ofNat r))])) _
  refine XS.lsub X3.here hx rfl (hb hby d5_21) rfl ?_
  show Steps p.tables e below (T3.setTop (mkF m 22 #[.val (.ref o0), s1, s2, .val (.long (Int64.ofNat r)), .second] [(.long ((Int64.ofNat r) - (56 : Int64)))])) _
  refine XS.lstoreN X3.here hx rfl (hb hby d5_22) rfl (l' := #[.val (.ref o0), s1, s2, .val (.long ((Int64.ofNat r) - (56 : Int64))), .second]) rfl ?_
  show Steps p.tables e below (T3.setTop (mkF m 23 #[.val (.ref o0), s1, s2, .val (.long ((Int64.ofNat r) - (56 : Int64))), .second] [])) _
  refine XS.goto X3.here hx rfl (pc0 := 23) (pc' := 2) rfl (hb hby d5_23) (by decide) (by decide) ?_
  exact kt
set_option maxRecDepth 65536 in
set_option maxHeartbeats 40000000 in
theorem tn5_2_38 {p : Program} {l : Launch} {e : Env} {s : State} {m : MethodId} {args : Array Value} {below : List Frame} {meth : Method} {c : Code} {T0 : State} {locs : List Loc} {cells slots : Nat} {Z : State} {a0 : Array Value} {h0 : Heap} {n0 : Nat} (o0 : Addr) (s1 : Slot) (s2 : Slot) (r N sz pb : Nat)
    (X0 : Stand p l e ({ frames := 3, cells := 2, slots := 96, locals := 70 } : Room) s m args below meth c T0 locs cells slots) (hx : p.tables.exec = Jvm.exec) (hZ : Z.Warmed39 s.vm) (hw : ∀ d ∈ tables_1, d.before a0 Z = true) (hby : c.code = prog_33_method_3_code) (hml : c.maxLocals = 5) (hown : s.vm.findClass "com/example/wrasse/wrasse/index/BitWriter" = some m.cls) (e0 : T0.heap = h0) (N0 : Fr n0 locs) (hI : BW Z h0 n0 o0 N sz pb) (hr : r < 56) (hpb : pb ≤ 7) (hN : own_is N) (hs : sz ≤ 30) (hsN : sz ≤ N) (hcc : cells = own_cU N) (hss : slots = own_sU N) :
    ∃ (T' : State) (h' : Heap) (locs' : List Loc), Stand p l e ({ frames := 3, cells := 2, slots := 96, locals := 70 } : Room) s m args below meth c T' locs' (own_cU (own_N N sz (pb + (r + 1)))) (own_sU (own_N N sz (pb + (r + 1)))) ∧ T'.heap = h' ∧ Fr n0 locs' ∧ BW Z h' n0 o0 (own_N N sz (pb + (r + 1))) (sz + (pb + (r + 1)) / 8) ((pb + (r + 1)) % 8) ∧
      ∀ target, Steps p.tables e below (T'.setTop (mkF m 38 #[.val (.ref o0), s1, s2, .val (.long (Int64.ofNat r)), .second] [])) target → Steps p.tables e below (T0.setTop (mkF m 2 #[.val (.ref o0), s1, s2, .val (.long (Int64.ofNat r)), .second] [])) target := by
  obtain ⟨u1, u2, u3, u4, u5, u6⟩ := own_step (q := (pb + (r + 1))) hN hs hsN (by omega)
  have hN16 : 16 ≤ N := by rcases hN with rfl | rfl | rfl <;> decide
  have hN64 : N ≤ 64 := by rcases hN with rfl | rfl | rfl <;> decide
  have hg : N < sz + 8 → N ≤ 32 := by rcases hN with rfl | rfl | rfl <;> omega
  have hc7 : (lcmpW (Int64.ofNat r) (56 : Int64)) < (0 : Int32) := (lw_lt _ _).mpr ((own_llt (b := 56) (by omega) (by decide)).mpr hr)
  have hcn : (Int64.ofNat r).toInt32 + (1 : Int32) = Int32.ofNat (r + 1) := by rw [own_l2i (by omega)]; exact own_add32 r 1
  obtain ⟨cq3, kq3, q3a, q3b, q3c⟩ := isOf hZ e0 hI.2.1
  obtain ⟨_, _, ⟨T3, L3, k3, n3⟩, -, X3, ⟨Lc3, hQ3, l3, y3, z3⟩, st3⟩ := X0.virtualBack hx (y := (⟨"com/example/wrasse/wrasse/index/BitWriter", "writeBits", "(JI)V"⟩ : MethodName)) (z := (⟨"com/example/wrasse/wrasse/index/BitWriter", "writeBits", "(JI)V"⟩ : MethodName)) hown (mvT hZ (hw _ (List.mem_of_getElem? (i := 36) rfl))) (mvT hZ (hw _ (List.mem_of_getElem? (i := 14) rfl))) (notFace_of_selects (args := #[]) (mvT hZ (hw _ (List.mem_of_getElem? (i := 16) rfl)))) (mvT hZ (hw _ (List.mem_of_getElem? (i := 16) rfl))) (mvT hZ (hw _ (List.mem_of_getElem? (i := 15) rfl))) (by decide) (backOf (W := 0) (rm3 l Z a0 hw [] o0 ((1 : Int64) <<< (((Int64.ofNat r).toInt32) &&& 0x3f).toInt64) (r + 1) N sz pb h0 n0 hI hpb (by omega) hN16 hN64 hsN hg) hZ (hw _ (List.mem_of_getElem? (i := 17) rfl)) (hw _ (List.mem_of_getElem? (i := 3) rfl)) (by show 2 + 1 ≤ 3; decide) (by show 0 + (4 + 11) + 55 ≤ 70; decide)) q3a q3c (g := (mkF m 35 #[.val (.ref o0), s1, s2, .val (.long (Int64.ofNat r)), .second] [(.int (((Int64.ofNat r).toInt32) + (1 : Int32))), (.long ((1 : Int64) <<< (((Int64.ofNat r).toInt32) &&& 0x3f).toInt64)), (.ref o0)])) rfl (by rw [hml]; rfl) (Steps.refl _) (argsL := [(.long ((1 : Int64) <<< (((Int64.ofNat r).toInt32) &&& 0x3f).toInt64)), (.int (((Int64.ofNat r).toInt32) + (1 : Int32)))]) (rest := []) (lenOf pd_5_1 rfl) rfl (by show 2 * 0 + _ ≤ _; exact Nat.le_of_eq rfl) (hb hby d5_35) (fun _ _ => ⟨by rw [hcn], e0, (by show cells + own_gc N sz (pb + (r + 1)) ≤ 2; omega), (by show slots + own_gs N sz (pb + (r + 1)) ≤ 96; omega)⟩)
  dsimp only [Pt.U, Pt.locs, Pt.cells, Pt.slots] at X3 l3 y3 z3 st3 hQ3
  subst l3 y3 z3
  obtain ⟨rfl, N3q, I3⟩ := hQ3
  have N3 := Fr.app N0 N3q
  refine ⟨T3, _, _, X3.loosen (by show cells + own_gc N sz (pb + (r + 1)) ≤ _; omega) (by show slots + own_gs N sz (pb + (r + 1)) ≤ _; omega), rfl, N3, I3, fun target kt => ?_⟩
  show Steps p.tables e below (T0.setTop (mkF m 2 #[.val (.ref o0), s1, s2, .val (.long (Int64.ofNat r)), .second] [])) _
  refine XS.lloadN X0.here hx rfl (hb hby d5_2) rfl ?_
  show Steps p.tables e below (T0.setTop (mkF m 3 #[.val (.ref o0), s1, s2, .val (.long (Int64.ofNat r)), .second] [(.long (Int64.ofNat r))])) _
  refine X0.ldc2Long hx hown (mvT hZ (hw _ (List.mem_of_getElem? (i := 35) rfl))) (g := (mkF m 3 #[.val (.ref o0), s1, s2, .val (.long (Int64.ofNat r)), .second] [(.long (Int64.ofNat r))])) rfl (hb hby d5_3) _ ?_
  show Steps p.tables e below (T0.setTop (mkF m 6 #[.val (.ref o0), s1, s2, .val (.long (Int64.ofNat r)), .second] [(.long (56 : Int64)), (.long (Int64.ofNat r))])) _
  refine XS.lcmp X0.here hx rfl (hb hby d5_6) rfl ?_
  show Steps p.tables e below (T0.setTop (mkF m 7 #[.val (.ref o0), s1, s2, .val (.long (Int64.ofNat r)), .second] [(.int (lcmpW (Int64.ofNat r) (56 : Int64)))])) _
  refine XS.ifYes X0.here hx rfl (pc0 := 7) (pc' := 26) rfl (hb hby d5_7) rfl ((if0 _ _).trans (tlt hc7).1) (by decide) (by decide) ?_
  show Steps p.tables e below (T0.setTop (mkF m 26 #[.val (.ref o0), s1, s2, .val (.long (Int64.ofNat r)), .second] [])) _
  refine XS.aloadN X0.here hx rfl (hb hby d5_26) rfl rfl ?_
  show Steps p.tables e below (T0.setTop (mkF m 27 #[.val (.ref o0), s1, s2, .val (.long (Int64.ofNat r)), .second] [(.ref o0)])) _
  refine XS.lconst X0.here hx rfl (hb hby d5_27) ?_
  show Steps p.tables e below (T0.setTop (mkF m 28 #[.val (.ref o0), s1, s2, .val (.long (Int64.ofNat r)), .second] [(.long (1 : Int64)), (.ref o0)])) _
  refine XS.lloadN X0.here hx rfl (hb hby d5_28) rfl ?_
  show Steps p.tables e below (T0.setTop (mkF m 29 #[.val (.ref o0), s1, s2, .val (.long (Int64.ofNat r)), .second] [(.long (Int64.ofNat r)), (.long (1 : Int64)), (.ref o0)])) _
  refine XS.l2i X0.here hx rfl (hb hby d5_29) rfl ?_
  show Steps p.tables e below (T0.setTop (mkF m 30 #[.val (.ref o0), s1, s2, .val (.long (Int64.ofNat r)), .second] [(.int ((Int64.ofNat r).toInt32)), (.long (1 : Int64)), (.ref o0)])) _
  refine XS.lshl X0.here hx rfl (hb hby d5_30) rfl ?_
  show Steps p.tables e below (T0.setTop (mkF m 31 #[.val (.ref o0), s1, s2, .val (.long (Int64.ofNat r)), .second] [(.long ((1 : Int64) <<< (((Int64.ofNat r).toInt32) &&& 0x3f).toInt64)), (.ref o0)])) _
  refine XS.lloadN X0.here hx rfl (hb hby d5_31) rfl ?_
  show Steps p.tables e below (T0.setTop (mkF m 32 #[.val (.ref o0), s1, s2, .val (.long (Int64.ofNat r)), .second] [(.long (Int64.ofNat r)), (.long ((1 : Int64) <<< (((Int64.ofNat r).toInt32) &&& 0x3f).toInt64)), (.ref o0)])) _
  refine XS.l2i X0.here hx rfl (hb hby d5_32) rfl ?_
  show Steps p.tables e below (T0.setTop (mkF m 33 #[.val (.ref o0), s1, s2, .val (.long (Int64.ofNat r)), .second] [(.int ((Int64.ofNat r).toInt32)), (.long ((1 : Int64) <<< (((Int64.ofNat r).toInt32) &&& 0x3f).toInt64)), (.ref o0)])) _
  refine XS.iconst X0.here hx rfl (hb hby d5_33) ?_
  show Steps p.tables e below (T0.setTop (mkF m 34 #[.val (.ref o0), s1, s2, .val (.long (Int64.ofNat r)), .second] [(.int (1 : Int32)), (.int ((Int64.ofNat r).toInt32)), (.long ((1 : Int64) <<< (((Int64.ofNat r).toInt32) &&& 0x3f).toInt64)), (.ref o0)])) _
  refine XS.iadd X0.here hx rfl (hb hby d5_34) rfl ?_
  show Steps p.tables e below (T0.setTop (mkF m 35 #[.val (.ref o0), s1, s2, .val (.long (Int64.ofNat r)), .second] [(.int (((Int64.ofNat r).toInt32) + (1 : Int32))), (.long ((1 : Int64) <<< (((Int64.ofNat r).toInt32) &&& 0x3f).toInt64)), (.ref o0)])) _
  refine st3.trans ?_
  exact kt
theorem own_un {p : Program} {l : Launch} {e : Env} {s : State} {m : MethodId} {args : Array Value} {below : List Frame} {meth : Method} {c : Code} {Z : State} {a0 : Array Value} {n0 : Nat} (o0 : Addr) (s1 : Slot) (s2 : Slot) (hx : p.tables.exec = Jvm.exec) (hZ : Z.Warmed39 s.vm) (hw : ∀ d ∈ tables_1, d.before a0 Z = true) (hby : c.code = prog_33_method_3_code) (hml : c.maxLocals = 5) (hown : s.vm.findClass "com/example/wrasse/wrasse/index/BitWriter" = some m.cls) :
    ∀ (q : Nat) {T0 : State} {locs : List Loc} {h0 : Heap} {N sz pb r : Nat}, Stand p l e ({ frames := 3, cells := 2, slots := 96, locals := 70 } : Room) s m args below meth c T0 locs (own_cU N) (own_sU N) → T0.heap = h0 → Fr n0 locs → BW Z h0 n0 o0 N sz pb → r / 56 = q → r ≤ 127 → own_is N → sz ≤ N → pb ≤ 7 → 8 * sz + pb + r + 1 ≤ 247 →
    ∃ (T' : State) (h' : Heap) (locs' : List Loc) (N' sz' pb' : Nat) (j : Int64), Stand p l e ({ frames := 3, cells := 2, slots := 96, locals := 70 } : Room) s m args below meth c T' locs' (own_cU N') (own_sU N') ∧ T'.heap = h' ∧ Fr n0 locs' ∧ BW Z h' n0 o0 N' sz' pb' ∧ own_is N' ∧ sz' ≤ N' ∧ pb' ≤ 7 ∧ 8 * sz' + pb' = 8 * sz + pb + r + 1 ∧
      ∀ target, Steps p.tables e below (T'.setTop (mkF m 38 #[.val (.ref o0), s1, s2, .val (.long j), .second] [])) target → Steps p.tables e below (T0.setTop (mkF m 2 #[.val (.ref o0), s1, s2, .val (.long (Int64.ofNat r)), .second] [])) target := by
  intro q
  induction q with
  | zero =>
    intro T0 locs h0 N sz pb r X0 e0 N0 hI hq hr hN hsN hpb hb
    obtain ⟨u1, u2, u3, u4, u5, u6⟩ := own_step (q := pb + (r + 1)) hN (by omega) hsN (by omega)
    obtain ⟨T', h', L', X', e', N', I', st'⟩ := tn5_2_38 o0 s1 s2 r N sz pb X0 hx hZ hw hby hml hown e0 N0 hI (by omega) hpb hN (by omega) hsN rfl rfl
    exact ⟨T', h', L', _, _, _, _, X', e', N', I', u3, u4, by omega, by omega, st'⟩
  | succ q ih =>
    intro T0 locs h0 N sz pb r X0 e0 N0 hI hq hr hN hsN hpb hb
    obtain ⟨u1, u2, u3, u4, u5, u6⟩ := own_step (q := pb + 56) hN (by omega) hsN (by omega)
    obtain ⟨T1, h1, L1, X1, e1, N1, I1, st1⟩ := tn5_2_2 o0 s1 s2 r N sz pb X0 hx hZ hw hby hml hown e0 N0 hI (by omega) hr hpb hN (by omega) hsN rfl rfl
    obtain ⟨T2, h2, L2, N2, z2, p2, j2, X2, e2, F2, I2, v1, v2, v3, v4, st2⟩ := ih (r := r - 56) X1 e1 N1 I1 (by omega) (by omega) u3 u4 (by omega) (by omega)
    refine ⟨T2, h2, L2, N2, z2, p2, j2, X2, e2, F2, I2, v1, v2, v3, by omega, fun target kt => st1 _ ?_⟩
    rw [show Int64.ofNat r - (56 : Int64) = Int64.ofNat (r - 56) from own_lsub (b := 56) (by omega)]
    exact st2 _ kt
def Q5 (Z : State) (a1 : Addr) (u sz pb : Nat) (h0 : Heap) (n0 : Nat) (v : Option Value) (h : Heap) (L : List Loc) : Prop := v = none ∧ Fr n0 L ∧ ∃ N' sz' pb' : Nat, BW Z h n0 a1 N' sz' pb' ∧ own_is N' ∧ sz' ≤ N' ∧ pb' ≤ 7 ∧ 8 * sz' + pb' = 8 * sz + pb + u + 1
set_option maxRecDepth 65536 in
set_option maxHeartbeats 40000000 in
theorem rm5 (l : Launch) (Z : State) (a0 : Array Value) (hw : ∀ d ∈ tables_1, d.before a0 Z = true) (ws : List Jvm.Cond) (a1 : Addr) (u sz pb : Nat) (h0 : Heap) (n0 : Nat) (hI : BW Z h0 n0 a1 16 sz pb) (hu : u ≤ 127) (hs : sz ≤ 14) (hpb : pb ≤ 7) :
    MetFree l (⟨"com/example/wrasse/wrasse/index/BitWriter", "writeUnary", "(J)V"⟩ : MethodName) (head1 (Jvm.Cond.code (⟨"com/example/wrasse/wrasse/index/BitWriter", "writeUnary", "(J)V"⟩ : MethodName) prog_33_method_3_code 5 none :: ws) ({ frames := 3, cells := 2, slots := 96, locals := 70 } : Room)) (fun a U => a = #[(.ref a1), (.long (Int64.ofNat u))] ∧ Z.Warmed39 U.vm ∧ U.heap = h0) (fun _ _ _ _ _ => True) (fun _ U o U' => ∃ v L, o = .returned v ∧ Q5 Z a1 u sz pb h0 n0 v U'.heap L ∧ FrameEnd U o U' L ({ frames := 3, cells := 2, slots := 96, locals := 70 } : Room).cells ({ frames := 3, cells := 2, slots := 96, locals := 70 } : Room).slots) := by
  refine MetFree.of_bodySF (plainFor_of_name pn_5) hisR ?_
  intro p e s m args below meth c s₁ Bd hml0 hP hK
  obtain ⟨rfl, hZ, hh⟩ := hP
  have hx := Bd.exec
  have hby := Bd.bytes
  have hml : c.maxLocals = 5 := hml0
  have hown : s.vm.findClass "com/example/wrasse/wrasse/index/BitWriter" = some m.cls := findClass_of_methodNamed Bd.named
  have hnm := (name_of_methodNamed Bd.named Bd.method).1
  have X0 : Stand p l e ({ frames := 3, cells := 2, slots := 96, locals := 70 } : Room) s m #[(.ref a1), (.long (Int64.ofNat u))] below meth c s₁ [] 0 0 := Stand.of_body Bd
  have e0 : s₁.heap = h0 := by rw [← hh, Bd.state]; rfl
  have N0 := Fr.nil n0
  have pre0 : ∀ t, Steps p.tables e below (s₁.setTop (mkF m 0 #[.val (.ref a1), .val (.long (Int64.ofNat u)), .second, .unset, .unset] [])) t → Steps p.tables e below (s₁.setTop (entryFrame m #[(.ref a1), (.long (Int64.ofNat u))] 5)) t := fun t k => castTop (ef_5 m a1 (Int64.ofNat u)) k
  obtain ⟨T1, X1, e1, st1⟩ := tn5_0_2 (.val (.ref a1)) (Int64.ofNat u) X0 hx hZ hw hby hml hown e0
  obtain ⟨T2, h2, L2, N2, z2, p2, j2, X2, e2, F2, I2, v1, v2, v3, v4, st2⟩ := own_un (n0 := n0) a1 (.val (.long (Int64.ofNat u))) .second hx hZ hw hby hml hown (u / 56) (N := 16) X1 e1 N0 hI rfl hu (Or.inl rfl) (by omega) hpb (by omega)
  have c2 : own_cU N2 ≤ 2 := by rcases v1 with rfl | rfl | rfl <;> decide
  have s2 : own_sU N2 ≤ 96 := by rcases v1 with rfl | rfl | rfl <;> decide
  obtain ⟨fs, hr, hrun, hended, hW, hsame⟩ := X2.leave (v := none) (fun _ => rfl)
  refine ⟨_, _, pre0 _ ?_, hrun, hended, _, _, rfl, ?_, ⟨_, rfl⟩, hW, hsame.mono c2 s2⟩
  · refine st1 _ ?_
    refine st2 _ ?_
    show Steps p.tables e below (T2.setTop (mkF m 38 #[.val (.ref a1), .val (.long (Int64.ofNat u)), .second, .val (.long j2), .second] [])) _
    exact X2.returnOut hx Bd.returns (hb hby d5_38) hr
  · show Q5 Z a1 u sz pb h0 n0 _ T2.heap _
    rw [e2]
    exact ⟨rfl, F2, N2, z2, p2, I2, v1, v2, v3, v4⟩
theorem d6_0 : decode prog_33_method_9_code 0 = .ok (.aload_n 0, 1) := by decide +kernel
theorem d6_1 : decode prog_33_method_9_code 1 = .ok (.getfield 17, 3) := by decide +kernel
theorem d6_4 : decode prog_33_method_9_code 4 = .ok (.ifCond .le 15, 3) := by decide +kernel
theorem d6_19 : decode prog_33_method_9_code 19 = .ok (.return_, 1) := by decide +kernel
theorem pn_6 : plainName "com/example/wrasse/wrasse/index/BitWriter" = true := by first | (simp [plainName, overriddenIn]; done) | decide +kernel
theorem ef_6 (m : MethodId) (x0 : Addr) : entryFrame m #[(.ref x0)] 1 = mkF m 0 #[.val (.ref x0)] [] := by first | (simp [entryFrame, mkF, argsToLocals, Value.category]; done) | rfl
def Q6 (Z : State) (a1 : Addr) (sz pb : Nat) (h0 : Heap) (n0 : Nat) (v : Option Value) (h : Heap) (L : List Loc) : Prop := v = none ∧ Fr n0 L ∧ ∃ N' sz' : Nat, BW Z h n0 a1 N' sz' 0 ∧ 8 * sz' = (8 * sz + pb + 7) / 8 * 8
set_option maxRecDepth 65536 in
set_option maxHeartbeats 40000000 in
theorem rm6t (l : Launch) (Z : State) (a0 : Array Value) (hw : ∀ d ∈ tables_1, d.before a0 Z = true) (ws : List Jvm.Cond) (a1 : Addr) (N sz pb : Nat) (h0 : Heap) (n0 : Nat) (hI : BW Z h0 n0 a1 N sz pb) (hpb : pb ≤ 7) (hN : own_is N) (hs : sz ≤ 30) (hsN : sz ≤ N) (hc : pb = 0) :
    MetFree l (⟨"com/example/wrasse/wrasse/index/BitWriter", "alignToByte", "()V"⟩ : MethodName) (head1 (Jvm.Cond.code (⟨"com/example/wrasse/wrasse/index/BitWriter", "alignToByte", "()V"⟩ : MethodName) prog_33_method_9_code 1 none :: ws) ({ frames := 3, cells := 1, slots := 64, locals := 70 } : Room)) (fun a U => a = #[(.ref a1)] ∧ Z.Warmed39 U.vm ∧ U.heap = h0) (fun _ _ _ _ _ => True) (fun _ U o U' => ∃ v L, o = .returned v ∧ Q6 Z a1 sz pb h0 n0 v U'.heap L ∧ FrameEnd U o U' L ({ frames := 3, cells := 1, slots := 64, locals := 70 } : Room).cells ({ frames := 3, cells := 1, slots := 64, locals := 70 } : Room).slots) := by
  refine MetFree.of_bodySF (plainFor_of_name pn_6) hisR ?_
  intro p e s m args below meth c s₁ Bd hml0 hP hK
  obtain ⟨rfl, hZ, hh⟩ := hP
  have hx := Bd.exec
  have hby := Bd.bytes
  have hml : c.maxLocals = 1 := hml0
  have hown : s.vm.findClass "com/example/wrasse/wrasse/index/BitWriter" = some m.cls := findClass_of_methodNamed Bd.named
  have hnm := (name_of_methodNamed Bd.named Bd.method).1
  have X0 : Stand p l e ({ frames := 3, cells := 1, slots := 64, locals := 70 } : Room) s m #[(.ref a1)] below meth c s₁ [] 0 0 := Stand.of_body Bd
  have e0 : s₁.heap = h0 := by rw [← hh, Bd.state]; rfl
  have N0 := Fr.nil n0
  obtain ⟨Z0, E_a1, g_a1, t, cl, w, F_bytes_a1, F_size_a1, F_pending_a1, F_pendingBits_a1, rr⟩ := hI
  have hc4 : ¬ ((0 : Int32) < Int32.ofNat pb) := by rw [hc]; decide
  have pre0 : ∀ t, Steps p.tables e below (s₁.setTop (mkF m 0 #[.val (.ref a1)] [])) t → Steps p.tables e below (s₁.setTop (entryFrame m #[(.ref a1)] 1)) t := fun t k => castTop (ef_6 m a1) k
  obtain ⟨T3, X3, e3, st3⟩ := getF X0 hx hZ hown (host := "") (Or.inl (hw _ (List.mem_of_getElem? (i := 20) rfl))) Via.refl e0 F_pendingBits_a1 (g := (mkF m 1 #[.val (.ref a1)] [(.ref a1)])) rfl rfl (hb hby d6_1)
  obtain ⟨fs, hr, hrun, hended, hW, hsame⟩ := X3.leave (v := none) (fun _ => rfl)
  refine ⟨_, _, pre0 _ ?_, hrun, hended, _, _, rfl, ?_, ⟨_, rfl⟩, hW, hsame.mono (by decide) (by decide)⟩
  · show Steps p.tables e below (s₁.setTop (mkF m 0 #[.val (.ref a1)] [])) _
    refine XS.aloadN X0.here hx rfl (hb hby d6_0) rfl rfl ?_
    show Steps p.tables e below (s₁.setTop (mkF m 1 #[.val (.ref a1)] [(.ref a1)])) _
    refine st3 _ ?_
    show Steps p.tables e below (T3.setTop (mkF m 4 #[.val (.ref a1)] [(.int (Int32.ofNat pb))])) _
    refine XS.ifYes X3.here hx rfl (pc0 := 4) (pc' := 19) rfl (hb hby d6_4) rfl ((if0 _ _).trans (flt hc4).2.2.2) (by decide) (by decide) ?_
    show Steps p.tables e below (T3.setTop (mkF m 19 #[.val (.ref a1)] [])) _
    exact X3.returnOut hx Bd.returns (hb hby d6_19) hr
  · show Q6 Z a1 sz pb h0 n0 _ T3.heap _
    rw [e3]
    exact ⟨rfl, N0, N, sz, ⟨Z0, E_a1, g_a1, t, cl, w, F_bytes_a1, F_size_a1, F_pending_a1, by rw [← hc]; exact F_pendingBits_a1, rr⟩, by omega⟩
theorem d6_7 : decode prog_33_method_9_code 7 = .ok (.aload_n 0, 1) := by decide +kernel
theorem d6_8 : decode prog_33_method_9_code 8 = .ok (.lconst 0, 1) := by decide +kernel
theorem d6_9 : decode prog_33_method_9_code 9 = .ok (.bipush 8, 2) := by decide +kernel
theorem d6_11 : decode prog_33_method_9_code 11 = .ok (.aload_n 0, 1) := by decide +kernel
theorem d6_12 : decode prog_33_method_9_code 12 = .ok (.getfield 17, 3) := by decide +kernel
theorem d6_15 : decode prog_33_method_9_code 15 = .ok (.isub, 1) := by decide +kernel
theorem d6_16 : decode prog_33_method_9_code 16 = .ok (.invokevirtual 42, 3) := by decide +kernel
theorem pd_6_1 : parseMethodDescriptor "(JI)V" = some ⟨[.long, .int], none⟩ := by decide +kernel
set_option maxRecDepth 65536 in
set_option maxHeartbeats 40000000 in
theorem rm6f (l : Launch) (Z : State) (a0 : Array Value) (hw : ∀ d ∈ tables_1, d.before a0 Z = true) (ws : List Jvm.Cond) (a1 : Addr) (N sz pb : Nat) (h0 : Heap) (n0 : Nat) (hI : BW Z h0 n0 a1 N sz pb) (hpb : pb ≤ 7) (hN : own_is N) (hs : sz ≤ 30) (hsN : sz ≤ N) (hc : 0 < pb) :
    MetFree l (⟨"com/example/wrasse/wrasse/index/BitWriter", "alignToByte", "()V"⟩ : MethodName) (head1 (Jvm.Cond.code (⟨"com/example/wrasse/wrasse/index/BitWriter", "alignToByte", "()V"⟩ : MethodName) prog_33_method_9_code 1 none :: ws) ({ frames := 3, cells := 1, slots := 64, locals := 70 } : Room)) (fun a U => a = #[(.ref a1)] ∧ Z.Warmed39 U.vm ∧ U.heap = h0) (fun _ _ _ _ _ => True) (fun _ U o U' => ∃ v L, o = .returned v ∧ Q6 Z a1 sz pb h0 n0 v U'.heap L ∧ FrameEnd U o U' L ({ frames := 3, cells := 1, slots := 64, locals := 70 } : Room).cells ({ frames := 3, cells := 1, slots := 64, locals := 70 } : Room).slots) := by
  refine MetFree.of_bodySF (plainFor_of_name pn_6) hisR ?_
  intro p e s m args below meth c s₁ Bd hml0 hP hK
  obtain ⟨rfl, hZ, hh⟩ := hP
  have hx := Bd.exec
  have hby := Bd.bytes
  have hml : c.maxLocals = 1 := hml0
  have hown : s.vm.findClass "com/example/wrasse/wrasse/index/BitWriter" = some m.cls := findClass_of_methodNamed Bd.named
  have hnm := (name_of_methodNamed Bd.named Bd.method).1
  have X0 : Stand p l e ({ frames := 3, cells := 1, slots := 64, locals := 70 } : Room) s m #[(.ref a1)] below meth c s₁ [] 0 0 := Stand.of_body Bd
  have e0 : s₁.heap = h0 := by rw [← hh, Bd.state]; rfl
  have N0 := Fr.nil n0
  have hI0 := hI
  obtain ⟨Z0, E_a1, g_a1, t, cl, w, F_bytes_a1, F_size_a1, F_pending_a1, F_pendingBits_a1, rr⟩ := hI
  have hc4 : (0 : Int32) < Int32.ofNat pb := Jvm.Free.XT.pos32 (by omega) hc
  have h8 : (8 : Int32) - Int32.ofNat pb = Int32.ofNat (8 - pb) := own_sub32 (a := 8) (by omega)
  obtain ⟨u1, u2, u3, u4, u5, u6⟩ := own_step (q := pb + (8 - pb)) hN hs hsN (by omega)
  have hN16 : 16 ≤ N := by rcases hN with rfl | rfl | rfl <;> decide
  have hN64 : N ≤ 64 := by rcases hN with rfl | rfl | rfl <;> decide
  have hg : N < sz + 8 → N ≤ 32 := by rcases hN with rfl | rfl | rfl <;> omega
  have gc : own_gc N sz (pb + (8 - pb)) ≤ 1 := by unfold own_gc; split <;> decide
  have gs : own_gs N sz (pb + (8 - pb)) ≤ 64 := by
    unfold own_gs own_gr
    split
    · rename_i q; simp only [decide_eq_true_eq] at q; have := hg q.2; omega
    · decide
  have pre0 : ∀ t, Steps p.tables e below (s₁.setTop (mkF m 0 #[.val (.ref a1)] [])) t → Steps p.tables e below (s₁.setTop (entryFrame m #[(.ref a1)] 1)) t := fun t k => castTop (ef_6 m a1) k
  obtain ⟨T3, X3, e3, st3⟩ := getF X0 hx hZ hown (host := "") (Or.inl (hw _ (List.mem_of_getElem? (i := 20) rfl))) Via.refl e0 F_pendingBits_a1 (g := (mkF m 1 #[.val (.ref a1)] [(.ref a1)])) rfl rfl (hb hby d6_1)
  obtain ⟨T4, X4, e4, st4⟩ := getF X3 hx hZ hown (host := "") (Or.inl (hw _ (List.mem_of_getElem? (i := 20) rfl))) Via.refl e3 F_pendingBits_a1 (g := (mkF m 12 #[.val (.ref a1)] [(.ref a1), (.int (8 : Int32)), (.long (0 : Int64)), (.ref a1)])) rfl rfl (hb hby d6_12)
  obtain ⟨cq5, kq5, q5a, q5b, q5c⟩ := isOf hZ e4 E_a1
  obtain ⟨_, _, ⟨T5, L5, k5, n5⟩, -, X5, ⟨Lc5, hQ5, l5, y5, z5⟩, st5⟩ := X4.virtualBack hx (y := (⟨"com/example/wrasse/wrasse/index/BitWriter", "writeBits", "(JI)V"⟩ : MethodName)) (z := (⟨"com/example/wrasse/wrasse/index/BitWriter", "writeBits", "(JI)V"⟩ : MethodName)) hown (mvT hZ (hw _ (List.mem_of_getElem? (i := 36) rfl))) (mvT hZ (hw _ (List.mem_of_getElem? (i := 14) rfl))) (notFace_of_selects (args := #[]) (mvT hZ (hw _ (List.mem_of_getElem? (i := 16) rfl)))) (mvT hZ (hw _ (List.mem_of_getElem? (i := 16) rfl))) (mvT hZ (hw _ (List.mem_of_getElem? (i := 15) rfl))) (by decide) (backOf (W := 0) (rm3 l Z a0 hw [] a1 (0 : Int64) (8 - pb) N sz pb h0 n0 hI0 hpb (by omega) hN16 hN64 hsN hg) hZ (hw _ (List.mem_of_getElem? (i := 17) rfl)) (hw _ (List.mem_of_getElem? (i := 3) rfl)) (by show 2 + 1 ≤ 3; decide) (by show 0 + (4 + 11) + 55 ≤ 70; decide)) q5a q5c (g := (mkF m 16 #[.val (.ref a1)] [(.int ((8 : Int32) - (Int32.ofNat pb))), (.long (0 : Int64)), (.ref a1)])) rfl (by rw [hml]; rfl) (Steps.refl _) (argsL := [(.long (0 : Int64)), (.int ((8 : Int32) - (Int32.ofNat pb)))]) (rest := []) (lenOf pd_6_1 rfl) rfl (by show 2 * 0 + _ ≤ _; exact Nat.le_of_eq rfl) (hb hby d6_16) (fun _ _ => ⟨by rw [h8], e4, (by show 0 + own_gc N sz (pb + (8 - pb)) ≤ 1; omega), (by show 0 + own_gs N sz (pb + (8 - pb)) ≤ 64; omega)⟩)
  dsimp only [Pt.U, Pt.locs, Pt.cells, Pt.slots] at X5 l5 y5 z5 st5 hQ5
  subst l5 y5 z5
  obtain ⟨rfl, N5q, I5⟩ := hQ5
  have N5 := Fr.app N0 N5q
  obtain ⟨fs, hr, hrun, hended, hW, hsame⟩ := X5.leave (v := none) (fun _ => rfl)
  refine ⟨_, _, pre0 _ ?_, hrun, hended, _, _, rfl, ?_, ⟨_, rfl⟩, hW, hsame.mono (by show 0 + own_gc N sz (pb + (8 - pb)) ≤ 1; omega) (by show 0 + own_gs N sz (pb + (8 - pb)) ≤ 64; omega)⟩
  · show Steps p.tables e below (s₁.setTop (mkF m 0 #[.val (.ref a1)] [])) _
    refine XS.aloadN X0.here hx rfl (hb hby d6_0) rfl rfl ?_
    show Steps p.tables e below (s₁.setTop (mkF m 1 #[.val (.ref a1)] [(.ref a1)])) _
    refine st3 _ ?_
    show Steps p.tables e below (T3.setTop (mkF m 4 #[.val (.ref a1)] [(.int (Int32.ofNat pb))])) _
    refine XS.ifNo X3.here hx rfl (hb hby d6_4) rfl ((if0 _ _).trans (tlt hc4).2.2.2) ?_
    show Steps p.tables e below (T3.setTop (mkF m 7 #[.val (.ref a1)] [])) _
    refine XS.aloadN X3.here hx rfl (hb hby d6_7) rfl rfl ?_
    show Steps p.tables e below (T3.setTop (mkF m 8 #[.val (.ref a1)] [(.ref a1)])) _
    refine XS.lconst X3.here hx rfl (hb hby d6_8) ?_
    show Steps p.tables e below (T3.setTop (mkF m 9 #[.val (.ref a1)] [(.long (0 : Int64)), (.ref a1)])) _
    refine XS.bipush X3.here hx rfl (hb hby d6_9) ?_
    show Steps p.tables e below (T3.setTop (mkF m 11 #[.val (.ref a1)] [(.int (8 : Int32)), (.long (0 : Int64)), (.ref a1)])) _
    refine XS.aloadN X3.here hx rfl (hb hby d6_11) rfl rfl ?_
    show Steps p.tables e below (T3.setTop (mkF m 12 #[.val (.ref a1)] [(.ref a1), (.int (8 : Int32)), (.long (0 : Int64)), (.ref a1)])) _
    refine st4 _ ?_
    show Steps p.tables e below (T4.setTop (mkF m 15 #[.val (.ref a1)] [(.int (Int32.ofNat pb)), (.int (8 : Int32)), (.long (0 : Int64)), (.ref a1)])) _
    refine XS.isub X4.here hx rfl (hb hby d6_15) rfl ?_
    show Steps p.tables e below (T4.setTop (mkF m 16 #[.val (.ref a1)] [(.int ((8 : Int32) - (Int32.ofNat pb))), (.long (0 : Int64)), (.ref a1)])) _
    refine st5.trans ?_
    show Steps p.tables e below (T5.setTop (mkF m 19 #[.val (.ref a1)] [])) _
    exact X5.returnOut hx Bd.returns (hb hby d6_19) hr
  · show Q6 Z a1 sz pb h0 n0 _ T5.heap _
    rw [show (pb + (8 - pb)) / 8 = 1 from by omega, show (pb + (8 - pb)) % 8 = 0 from by omega] at I5
    exact ⟨rfl, N5, _, _, I5, by omega⟩
theorem rm6 (l : Launch) (Z : State) (a0 : Array Value) (hw : ∀ d ∈ tables_1, d.before a0 Z = true) (ws : List Jvm.Cond) (a1 : Addr) (N sz pb : Nat) (h0 : Heap) (n0 : Nat) (hI : BW Z h0 n0 a1 N sz pb) (hpb : pb ≤ 7) (hN : own_is N) (hs : sz ≤ 30) (hsN : sz ≤ N) :
    MetFree l (⟨"com/example/wrasse/wrasse/index/BitWriter", "alignToByte", "()V"⟩ : MethodName) (head1 (Jvm.Cond.code (⟨"com/example/wrasse/wrasse/index/BitWriter", "alignToByte", "()V"⟩ : MethodName) prog_33_method_9_code 1 none :: ws) ({ frames := 3, cells := 1, slots := 64, locals := 70 } : Room)) (fun a U => a = #[(.ref a1)] ∧ Z.Warmed39 U.vm ∧ U.heap = h0) (fun _ _ _ _ _ => True) (fun _ U o U' => ∃ v L, o = .returned v ∧ Q6 Z a1 sz pb h0 n0 v U'.heap L ∧ FrameEnd U o U' L ({ frames := 3, cells := 1, slots := 64, locals := 70 } : Room).cells ({ frames := 3, cells := 1, slots := 64, locals := 70 } : Room).slots) := by
  by_cases hc : pb = 0
  · exact rm6t l Z a0 hw ws a1 N sz pb h0 n0 hI hpb hN hs hsN hc
  · exact rm6f l Z a0 hw ws a1 N sz pb h0 n0 hI hpb hN hs hsN (by omega)
theorem own_bits {sz pb X : Nat} (h : 8 * sz + pb = X) (hX : X < 2 ^ 30) : ((Int32.ofNat sz).toInt64 * (8 : Int64)) + (Int32.ofNat pb).toInt64 = Int64.ofNat X := by
  rw [own_i2l (by omega), own_i2l (by omega), show (8 : Int64) = Int64.ofNat 8 from rfl, ← Int64.ofNat_mul, ← Int64.ofNat_add, ← h, Nat.mul_comm sz 8]
theorem own_expect {a b u : Nat} (ha : a < 2 ^ 20) (hb : b < 2 ^ 20) (hu : u < 2 ^ 20) : ((((Int32.ofNat a).toInt64 + (Int32.ofNat b).toInt64) + Int64.ofNat u) + (1 : Int64)) = Int64.ofNat (a + b + u + 1) := by
  rw [own_i2l (by omega), own_i2l (by omega), show (1 : Int64) = Int64.ofNat 1 from rfl, ← Int64.ofNat_add, ← Int64.ofNat_add, ← Int64.ofNat_add]
theorem own_round {X : Nat} (hX : X < 2 ^ 20) : ((Int64.ofNat X + (7 : Int64)) / (8 : Int64)) * (8 : Int64) = Int64.ofNat ((X + 7) / 8 * 8) := by
  have h1 : Int64.ofNat X + (7 : Int64) = Int64.ofNat (X + 7) := by rw [show (7 : Int64) = Int64.ofNat 7 from rfl, ← Int64.ofNat_add]
  have h2 : Int64.ofNat (X + 7) / (8 : Int64) = Int64.ofNat ((X + 7) / 8) := by
    apply Int64.toInt_inj.mp
    have q := (c_ldiv (Int64.ofNat (X + 7)) (8 : Int64) 8 (by decide) (by decide)).1 (by rw [own_toInt64 (by omega)]; omega)
    rw [q, own_toInt64 (by omega), own_toInt64 (by omega)]; omega
  rw [h1, h2, show (8 : Int64) = Int64.ofNat 8 from rfl, ← Int64.ofNat_mul]
theorem own_mod57 (x : Int32) : ∃ n : Nat, n ≤ 56 ∧ ((x &&& (2147483647 : Int32)) - ((x &&& (2147483647 : Int32)) / (57 : Int32)) * (57 : Int32)) = Int32.ofNat n := by
  have h := c_mask x (2147483647 : Int32) 31 (by decide) (by decide)
  have h0 : (57 : Int32).toInt = 57 := by decide
  generalize (x &&& (2147483647 : Int32)) = y at *
  have h1 := (c_idiv y (57 : Int32) 57 h0 (by decide)).1 (by omega)
  have h2 := c_imul (y / (57 : Int32)) (57 : Int32)
  have h3 := c_isub y ((y / (57 : Int32)) * (57 : Int32))
  have r1 := rng32 ((y / (57 : Int32)) * (57 : Int32))
  have r2 := rng32 (y - ((y / (57 : Int32)) * (57 : Int32)))
  have r3 := rng32 y
  rw [h1, h0] at h2
  have e : (y - ((y / (57 : Int32)) * (57 : Int32))).toInt = y.toInt % 57 := by omega
  refine ⟨(y - ((y / (57 : Int32)) * (57 : Int32))).toInt.toNat, by omega, ?_⟩
  apply Int32.toInt_inj.mp
  rw [Int32.toInt_ofNat_small (by omega)]
  omega
theorem own_and127 (x : Int32) : ∃ n : Nat, n ≤ 127 ∧ (x &&& (127 : Int32)).toInt64 = Int64.ofNat n := by
  have h := c_mask x (127 : Int32) 7 (by decide) (by decide)
  refine ⟨(x &&& (127 : Int32)).toInt.toNat, by omega, ?_⟩
  apply Int64.toInt_inj.mp
  rw [Int32.toInt_toInt64, own_toInt64 (by omega)]
  omega
def own_b (x : Int32) : Int32 := if x = 0 then 0 else 1
set_option maxRecDepth 65536 in
set_option maxHeartbeats 40000000 in
theorem tn0_19_39 {p : Program} {l : Launch} {e : Env} {R : Room} {s : State} {m : MethodId} {args : Array Value} {below : List Frame} {meth : Method} {c : Code} {T0 : State} {locs : List Loc} {cells slots : Nat} {Z : State} {a0 : Array Value} {h0 : Heap} (j0 : Int64) (s2 : Slot) (j3 : Int64) (s5 : Slot) (s6 : Slot) (s7 : Slot) (i8 : Int32) (i9 : Int32) (s14 : Slot) (s15 : Slot) (s16 : Slot) (s17 : Slot) (s18 : Slot) (s19 : Slot) (s20 : Slot) (s21 : Slot) (s22 : Slot) (s23 : Slot) (s24 : Slot) (s25 : Slot) (s26 : Slot)
    (X0 : Stand p l e R s m args below meth c T0 locs cells slots) (hx : p.tables.exec = Jvm.exec) (hZ : Z.Warmed39 s.vm) (hw : ∀ d ∈ tables_1, d.before a0 Z = true) (hby : c.code = code) (hml : c.maxLocals = 27) (hown : s.vm.findClass "com/example/wrasse/wrasse/index/BitWriterBitSizePinLaw" = some m.cls) (e0 : T0.heap = h0) :
    ∃ (T' : State), Stand p l e R s m args below meth c T' locs cells slots ∧ T'.heap = h0 ∧
      ∀ target, Steps p.tables e below (T'.setTop (mkF m 39 #[.val (.long j0), .second, s2, .val (.long j3), .second, s5, s6, s7, .val (.int i8), .val (.int i9), .val (.long (j0 &&& (((1 : Int64) <<< (i8 &&& 0x3f).toInt64) - (1 : Int64)))), .second, .val (.long (j3 &&& (((1 : Int64) <<< (i9 &&& 0x3f).toInt64) - (1 : Int64)))), .second, s14, s15, s16, s17, s18, s19, s20, s21, s22, s23, s24, s25, s26] [])) target → Steps p.tables e below (T0.setTop (mkF m 19 #[.val (.long j0), .second, s2, .val (.long j3), .second, s5, s6, s7, .val (.int i8), .val (.int i9), .unset, .unset, .unset, .unset, s14, s15, s16, s17, s18, s19, s20, s21, s22, s23, s24, s25, s26] [])) target := by
  refine ⟨T0, X0, e0, fun target kt => ?_⟩
  show Steps p.tables e below (T0.setTop (mkF m 19 #[.val (.long j0), .second, s2, .val (.long j3), .second, s5, s6, s7, .val (.int i8), .val (.int i9), .unset, .unset, .unset, .unset, s14, s15, s16, s17, s18, s19, s20, s21, s22, s23, s24, s25, s26] [])) _
  refine XS.lloadN X0.here hx rfl (hb hby at_19) rfl ?_
  show Steps p.tables e below (T0.setTop (mkF m 20 #[.val (.long j0), .second, s2, .val (.long j3), .second, s5, s6, s7, .val (.int i8), .val (.int i9), .unset, .unset, .unset, .unset, s14, s15, s16, s17, s18, s19, s20, s21, s22, s23, s24, s25, s26] [(.long j0)])) _
  refine XS.lconst X0.here hx rfl (hb hby at_20) ?_
  show Steps p.tables e below (T0.setTop (mkF m 21 #[.val (.long j0), .second, s2, .val (.long j3), .second, s5, s6, s7, .val (.int i8), .val (.int i9), .unset, .unset, .unset, .unset, s14, s15, s16, s17, s18, s19, s20, s21, s22, s23, s24, s25, s26] [(.long (1 : Int64)), (.long j0)])) _
  refine XS.iload X0.here hx rfl (hb hby at_21) rfl ?_
  show Steps p.tables e below (T0.setTop (mkF m 23 #[.val (.long j0), .second, s2, .val (.long j3), .second, s5, s6, s7, .val (.int i8), .val (.int i9), .unset, .unset, .unset, .unset, s14, s15, s16, s17, s18, s19, s20, s21, s22, s23, s24, s25, s26] [(.int i8), (.long (1 : Int64)), (.long j0)])) _
  refine XS.lshl X0.here hx rfl (hb hby at_23) rfl ?_
  show Steps p.tables e below (T0.setTop (mkF m 24 #[.val (.long j0), .second, s2, .val (.long j3), .second, s5, s6, s7, .val (.int i8), .val (.int i9), .unset, .unset, .unset, .unset, s14, s15, s16, s17, s18, s19, s20, s21, s22, s23, s24, s25, s26] [(.long ((1 : Int64) <<< (i8 &&& 0x3f).toInt64)), (.long j0)])) _
  refine XS.lconst X0.here hx rfl (hb hby at_24) ?_
  show Steps p.tables e below (T0.setTop (mkF m 25 #[.val (.long j0), .second, s2, .val (.long j3), .second, s5, s6, s7, .val (.int i8), .val (.int i9), .unset, .unset, .unset, .unset, s14, s15, s16, s17, s18, s19, s20, s21, s22, s23, s24, s25, s26] [(.long (1 : Int64)), (.long ((1 : Int64) <<< (i8 &&& 0x3f).toInt64)), (.long j0)])) _
  refine XS.lsub X0.here hx rfl (hb hby at_25) rfl ?_
  show Steps p.tables e below (T0.setTop (mkF m 26 #[.val (.long j0), .second, s2, .val (.long j3), .second, s5, s6, s7, .val (.int i8), .val (.int i9), .unset, .unset, .unset, .unset, s14, s15, s16, s17, s18, s19, s20, s21, s22, s23, s24, s25, s26] [(.long (((1 : Int64) <<< (i8 &&& 0x3f).toInt64) - (1 : Int64))), (.long j0)])) _
  refine XS.land X0.here hx rfl (hb hby at_26) rfl ?_
  show Steps p.tables e below (T0.setTop (mkF m 27 #[.val (.long j0), .second, s2, .val (.long j3), .second, s5, s6, s7, .val (.int i8), .val (.int i9), .unset, .unset, .unset, .unset, s14, s15, s16, s17, s18, s19, s20, s21, s22, s23, s24, s25, s26] [(.long (j0 &&& (((1 : Int64) <<< (i8 &&& 0x3f).toInt64) - (1 : Int64))))])) _
  refine XS.lstore X0.here hx rfl (hb hby at_27) rfl (l' := #[.val (.long j0), .second, s2, .val (.long j3), .second, s5, s6, s7, .val (.int i8), .val (.int i9), .val (.long (j0 &&& (((1 : Int64) <<< (i8 &&& 0x3f).toInt64) - (1 : Int64)))), .second, .unset, .unset, s14, s15, s16, s17, s18, s19, s20, s21, s22, s23, s24, s25, s26]) rfl ?_
  show Steps p.tables e below (T0.setTop (mkF m 29 #[.val (.long j0), .second, s2, .val (.long j3), .second, s5, s6, s7, .val (.int i8), .val (.int i9), .val (.long (j0 &&& (((1 : Int64) <<< (i8 &&& 0x3f).toInt64) - (1 : Int64)))), .second, .unset, .unset, s14, s15, s16, s17, s18, s19, s20, s21, s22, s23, s24, s25, s26] [])) _
  refine XS.lloadN X0.here hx rfl (hb hby at_29) rfl ?_
  show Steps p.tables e below (T0.setTop (mkF m 30 #[.val (.long j0), .second, s2, .val (.long j3), .second, s5, s6, s7, .val (.int i8), .val (.int i9), .val (.long (j0 &&& (((1 : Int64) <<< (i8 &&& 0x3f).toInt64) - (1 : Int64)))), .second, .unset, .unset, s14, s15, s16, s17, s18, s19, s20, s21, s22, s23, s24, s25, s26] [(.long j3)])) _
  refine XS.lconst X0.here hx rfl (hb hby at_30) ?_
  show Steps p.tables e below (T0.setTop (mkF m 31 #[.val (.long j0), .second, s2, .val (.long j3), .second, s5, s6, s7, .val (.int i8), .val (.int i9), .val (.long (j0 &&& (((1 : Int64) <<< (i8 &&& 0x3f).toInt64) - (1 : Int64)))), .second, .unset, .unset, s14, s15, s16, s17, s18, s19, s20, s21, s22, s23, s24, s25, s26] [(.long (1 : Int64)), (.long j3)])) _
  refine XS.iload X0.here hx rfl (hb hby at_31) rfl ?_
  show Steps p.tables e below (T0.setTop (mkF m 33 #[.val (.long j0), .second, s2, .val (.long j3), .second, s5, s6, s7, .val (.int i8), .val (.int i9), .val (.long (j0 &&& (((1 : Int64) <<< (i8 &&& 0x3f).toInt64) - (1 : Int64)))), .second, .unset, .unset, s14, s15, s16, s17, s18, s19, s20, s21, s22, s23, s24, s25, s26] [(.int i9), (.long (1 : Int64)), (.long j3)])) _
  refine XS.lshl X0.here hx rfl (hb hby at_33) rfl ?_
  show Steps p.tables e below (T0.setTop (mkF m 34 #[.val (.long j0), .second, s2, .val (.long j3), .second, s5, s6, s7, .val (.int i8), .val (.int i9), .val (.long (j0 &&& (((1 : Int64) <<< (i8 &&& 0x3f).toInt64) - (1 : Int64)))), .second, .unset, .unset, s14, s15, s16, s17, s18, s19, s20, s21, s22, s23, s24, s25, s26] [(.long ((1 : Int64) <<< (i9 &&& 0x3f).toInt64)), (.long j3)])) _
  refine XS.lconst X0.here hx rfl (hb hby at_34) ?_
  show Steps p.tables e below (T0.setTop (mkF m 35 #[.val (.long j0), .second, s2, .val (.long j3), .second, s5, s6, s7, .val (.int i8), .val (.int i9), .val (.long (j0 &&& (((1 : Int64) <<< (i8 &&& 0x3f).toInt64) - (1 : Int64)))), .second, .unset, .unset, s14, s15, s16, s17, s18, s19, s20, s21, s22, s23, s24, s25, s26] [(.long (1 : Int64)), (.long ((1 : Int64) <<< (i9 &&& 0x3f).toInt64)), (.long j3)])) _
  refine XS.lsub X0.here hx rfl (hb hby at_35) rfl ?_
  show Steps p.tables e below (T0.setTop (mkF m 36 #[.val (.long j0), .second, s2, .val (.long j3), .second, s5, s6, s7, .val (.int i8), .val (.int i9), .val (.long (j0 &&& (((1 : Int64) <<< (i8 &&& 0x3f).toInt64) - (1 : Int64)))), .second, .unset, .unset, s14, s15, s16, s17, s18, s19, s20, s21, s22, s23, s24, s25, s26] [(.long (((1 : Int64) <<< (i9 &&& 0x3f).toInt64) - (1 : Int64))), (.long j3)])) _
  refine XS.land X0.here hx rfl (hb hby at_36) rfl ?_
  show Steps p.tables e below (T0.setTop (mkF m 37 #[.val (.long j0), .second, s2, .val (.long j3), .second, s5, s6, s7, .val (.int i8), .val (.int i9), .val (.long (j0 &&& (((1 : Int64) <<< (i8 &&& 0x3f).toInt64) - (1 : Int64)))), .second, .unset, .unset, s14, s15, s16, s17, s18, s19, s20, s21, s22, s23, s24, s25, s26] [(.long (j3 &&& (((1 : Int64) <<< (i9 &&& 0x3f).toInt64) - (1 : Int64))))])) _
  refine XS.lstore X0.here hx rfl (hb hby at_37) rfl (l' := #[.val (.long j0), .second, s2, .val (.long j3), .second, s5, s6, s7, .val (.int i8), .val (.int i9), .val (.long (j0 &&& (((1 : Int64) <<< (i8 &&& 0x3f).toInt64) - (1 : Int64)))), .second, .val (.long (j3 &&& (((1 : Int64) <<< (i9 &&& 0x3f).toInt64) - (1 : Int64)))), .second, s14, s15, s16, s17, s18, s19, s20, s21, s22, s23, s24, s25, s26]) rfl ?_
  exact kt
set_option maxRecDepth 65536 in
set_option maxHeartbeats 40000000 in
theorem tn0_39_47 {p : Program} {l : Launch} {e : Env} {R : Room} {s : State} {m : MethodId} {args : Array Value} {below : List Frame} {meth : Method} {c : Code} {T0 : State} {locs : List Loc} {cells slots : Nat} {Z : State} {a0 : Array Value} {h0 : Heap} (s0 : Slot) (s1 : Slot) (s2 : Slot) (s3 : Slot) (s4 : Slot) (s5 : Slot) (i6 : Int32) (s7 : Slot) (s8 : Slot) (s9 : Slot) (s10 : Slot) (s11 : Slot) (s12 : Slot) (s13 : Slot) (s16 : Slot) (s17 : Slot) (s18 : Slot) (s19 : Slot) (s20 : Slot) (s21 : Slot) (s22 : Slot) (s23 : Slot) (s24 : Slot) (s25 : Slot) (s26 : Slot)
    (X0 : Stand p l e R s m args below meth c T0 locs cells slots) (hx : p.tables.exec = Jvm.exec) (hZ : Z.Warmed39 s.vm) (hw : ∀ d ∈ tables_1, d.before a0 Z = true) (hby : c.code = code) (hml : c.maxLocals = 27) (hown : s.vm.findClass "com/example/wrasse/wrasse/index/BitWriterBitSizePinLaw" = some m.cls) (e0 : T0.heap = h0) :
    ∃ (T' : State), Stand p l e R s m args below meth c T' locs cells slots ∧ T'.heap = h0 ∧
      ∀ target, Steps p.tables e below (T'.setTop (mkF m 47 #[s0, s1, s2, s3, s4, s5, .val (.int i6), s7, s8, s9, s10, s11, s12, s13, .val (.long ((i6 &&& (127 : Int32)).toInt64)), .second, s16, s17, s18, s19, s20, s21, s22, s23, s24, s25, s26] [])) target → Steps p.tables e below (T0.setTop (mkF m 39 #[s0, s1, s2, s3, s4, s5, .val (.int i6), s7, s8, s9, s10, s11, s12, s13, .unset, .unset, s16, s17, s18, s19, s20, s21, s22, s23, s24, s25, s26] [])) target := by
  refine ⟨T0, X0, e0, fun target kt => ?_⟩
  show Steps p.tables e below (T0.setTop (mkF m 39 #[s0, s1, s2, s3, s4, s5, .val (.int i6), s7, s8, s9, s10, s11, s12, s13, .unset, .unset, s16, s17, s18, s19, s20, s21, s22, s23, s24, s25, s26] [])) _
  refine XS.iload X0.here hx rfl (hb hby at_39) rfl ?_
  show Steps p.tables e below (T0.setTop (mkF m 41 #[s0, s1, s2, s3, s4, s5, .val (.int i6), s7, s8, s9, s10, s11, s12, s13, .unset, .unset, s16, s17, s18, s19, s20, s21, s22, s23, s24, s25, s26] [(.int i6)])) _
  refine XS.bipush X0.here hx rfl (hb hby at_41) ?_
  show Steps p.tables e below (T0.setTop (mkF m 43 #[s0, s1, s2, s3, s4, s5, .val (.int i6), s7, s8, s9, s10, s11, s12, s13, .unset, .unset, s16, s17, s18, s19, s20, s21, s22, s23, s24, s25, s26] [(.int (127 : Int32)), (.int i6)])) _
  refine XS.iand X0.here hx rfl (hb hby at_43) rfl ?_
  show Steps p.tables e below (T0.setTop (mkF m 44 #[s0, s1, s2, s3, s4, s5, .val (.int i6), s7, s8, s9, s10, s11, s12, s13, .unset, .unset, s16, s17, s18, s19, s20, s21, s22, s23, s24, s25, s26] [(.int (i6 &&& (127 : Int32)))])) _
  refine XS.i2l X0.here hx rfl (hb hby at_44) rfl ?_
  show Steps p.tables e below (T0.setTop (mkF m 45 #[s0, s1, s2, s3, s4, s5, .val (.int i6), s7, s8, s9, s10, s11, s12, s13, .unset, .unset, s16, s17, s18, s19, s20, s21, s22, s23, s24, s25, s26] [(.long ((i6 &&& (127 : Int32)).toInt64))])) _
  refine XS.lstore X0.here hx rfl (hb hby at_45) rfl (l' := #[s0, s1, s2, s3, s4, s5, .val (.int i6), s7, s8, s9, s10, s11, s12, s13, .val (.long ((i6 &&& (127 : Int32)).toInt64)), .second, s16, s17, s18, s19, s20, s21, s22, s23, s24, s25, s26]) rfl ?_
  exact kt
theorem os0_59 {s0 : Slot} {s1 : Slot} {s2 : Slot} {s3 : Slot} {s4 : Slot} {s5 : Slot} {s6 : Slot} {z7 : Value} {s8 : Slot} {s9 : Slot} {s10 : Slot} {s11 : Slot} {s12 : Slot} {s13 : Slot} {s14 : Slot} {s15 : Slot} {s16 : Slot} {s17 : Slot} {s18 : Slot} {s19 : Slot} {s20 : Slot} {s21 : Slot} {s22 : Slot} {s23 : Slot} {s24 : Slot} {s25 : Slot} {s26 : Slot} {v : Int32} (h : One s16) : storeLocals #[s0, s1, s2, s3, s4, s5, s6, .val z7, s8, s9, s10, s11, s12, s13, s14, s15, s16, s17, s18, s19, s20, s21, s22, s23, s24, s25, s26] 16 (.int v) = some #[s0, s1, s2, s3, s4, s5, s6, .val z7, s8, s9, s10, s11, s12, s13, s14, s15, .val (.int v), s17, s18, s19, s20, s21, s22, s23, s24, s25, s26] := by
  rcases h with rfl | ⟨w, rfl, hw⟩
  · rfl
  · cases w <;> first | rfl | (simp [Value.category] at hw)
set_option maxRecDepth 65536 in
set_option maxHeartbeats 40000000 in
theorem tn0_47_61_t {p : Program} {l : Launch} {e : Env} {R : Room} {s : State} {m : MethodId} {args : Array Value} {below : List Frame} {meth : Method} {c : Code} {T0 : State} {locs : List Loc} {cells slots : Nat} {Z : State} {a0 : Array Value} {h0 : Heap} (s0 : Slot) (s1 : Slot) (s2 : Slot) (s3 : Slot) (s4 : Slot) (s5 : Slot) (s6 : Slot) (i7 : Int32) (s8 : Slot) (s9 : Slot) (s10 : Slot) (s11 : Slot) (s12 : Slot) (s13 : Slot) (s14 : Slot) (s15 : Slot) (s16 : Slot) (s17 : Slot) (s18 : Slot) (s19 : Slot) (s20 : Slot) (s21 : Slot) (s22 : Slot) (s23 : Slot) (s24 : Slot) (s25 : Slot) (s26 : Slot)
    (X0 : Stand p l e R s m args below meth c T0 locs cells slots) (hx : p.tables.exec = Jvm.exec) (hZ : Z.Warmed39 s.vm) (hw : ∀ d ∈ tables_1, d.before a0 Z = true) (hby : c.code = code) (hml : c.maxLocals = 27) (hown : s.vm.findClass "com/example/wrasse/wrasse/index/BitWriterBitSizePinLaw" = some m.cls) (e0 : T0.heap = h0) (hs16 : One s16) (hc51 : (i7 &&& (1 : Int32)) = (0 : Int32)) :
    ∃ (T' : State), Stand p l e R s m args below meth c T' locs cells slots ∧ T'.heap = h0 ∧
      ∀ target, Steps p.tables e below (T'.setTop (mkF m 61 #[s0, s1, s2, s3, s4, s5, s6, .val (.int i7), s8, s9, s10, s11, s12, s13, s14, s15, .val (.int (0 : Int32)), s17, s18, s19, s20, s21, s22, s23, s24, s25, s26] [])) target → Steps p.tables e below (T0.setTop (mkF m 47 #[s0, s1, s2, s3, s4, s5, s6, .val (.int i7), s8, s9, s10, s11, s12, s13, s14, s15, s16, s17, s18, s19, s20, s21, s22, s23, s24, s25, s26] [])) target := by
  refine ⟨T0, X0, e0, fun target kt => ?_⟩
  show Steps p.tables e below (T0.setTop (mkF m 47 #[s0, s1, s2, s3, s4, s5, s6, .val (.int i7), s8, s9, s10, s11, s12, s13, s14, s15, s16, s17, s18, s19, s20, s21, s22, s23, s24, s25, s26] [])) _
  refine XS.iload X0.here hx rfl (hb hby at_47) rfl ?_
  show Steps p.tables e below (T0.setTop (mkF m 49 #[s0, s1, s2, s3, s4, s5, s6, .val (.int i7), s8, s9, s10, s11, s12, s13, s14, s15, s16, s17, s18, s19, s20, s21, s22, s23, s24, s25, s26] [(.int i7)])) _
  refine XS.iconst X0.here hx rfl (hb hby at_49) ?_
  show Steps p.tables e below (T0.setTop (mkF m 50 #[s0, s1, s2, s3, s4, s5, s6, .val (.int i7), s8, s9, s10, s11, s12, s13, s14, s15, s16, s17, s18, s19, s20, s21, s22, s23, s24, s25, s26] [(.int (1 : Int32)), (.int i7)])) _
  refine XS.iand X0.here hx rfl (hb hby at_50) rfl ?_
  show Steps p.tables e below (T0.setTop (mkF m 51 #[s0, s1, s2, s3, s4, s5, s6, .val (.int i7), s8, s9, s10, s11, s12, s13, s14, s15, s16, s17, s18, s19, s20, s21, s22, s23, s24, s25, s26] [(.int (i7 &&& (1 : Int32)))])) _
  refine XS.ifYes X0.here hx rfl (pc0 := 51) (pc' := 58) rfl (hb hby at_51) rfl ((if0 _ _).trans (teq hc51).1) (by decide) (by decide) ?_
  show Steps p.tables e below (T0.setTop (mkF m 58 #[s0, s1, s2, s3, s4, s5, s6, .val (.int i7), s8, s9, s10, s11, s12, s13, s14, s15, s16, s17, s18, s19, s20, s21, s22, s23, s24, s25, s26] [])) _
  refine XS.iconst X0.here hx rfl (hb hby at_58) ?_
  show Steps p.tables e below (T0.setTop (mkF m 59 #[s0, s1, s2, s3, s4, s5, s6, .val (.int i7), s8, s9, s10, s11, s12, s13, s14, s15, s16, s17, s18, s19, s20, s21, s22, s23, s24, s25, s26] [(.int (0 : Int32))])) _
  refine XS.istore X0.here hx rfl (hb hby at_59) rfl (l' := #[s0, s1, s2, s3, s4, s5, s6, .val (.int i7), s8, s9, s10, s11, s12, s13, s14, s15, .val (.int (0 : Int32)), s17, s18, s19, s20, s21, s22, s23, s24, s25, s26]) (os0_59 hs16) ?_
  exact kt
set_option maxRecDepth 65536 in
set_option maxHeartbeats 40000000 in
theorem tn0_47_61_f {p : Program} {l : Launch} {e : Env} {R : Room} {s : State} {m : MethodId} {args : Array Value} {below : List Frame} {meth : Method} {c : Code} {T0 : State} {locs : List Loc} {cells slots : Nat} {Z : State} {a0 : Array Value} {h0 : Heap} (s0 : Slot) (s1 : Slot) (s2 : Slot) (s3 : Slot) (s4 : Slot) (s5 : Slot) (s6 : Slot) (i7 : Int32) (s8 : Slot) (s9 : Slot) (s10 : Slot) (s11 : Slot) (s12 : Slot) (s13 : Slot) (s14 : Slot) (s15 : Slot) (s16 : Slot) (s17 : Slot) (s18 : Slot) (s19 : Slot) (s20 : Slot) (s21 : Slot) (s22 : Slot) (s23 : Slot) (s24 : Slot) (s25 : Slot) (s26 : Slot)
    (X0 : Stand p l e R s m args below meth c T0 locs cells slots) (hx : p.tables.exec = Jvm.exec) (hZ : Z.Warmed39 s.vm) (hw : ∀ d ∈ tables_1, d.before a0 Z = true) (hby : c.code = code) (hml : c.maxLocals = 27) (hown : s.vm.findClass "com/example/wrasse/wrasse/index/BitWriterBitSizePinLaw" = some m.cls) (e0 : T0.heap = h0) (hs16 : One s16) (hc51 : ¬ ((i7 &&& (1 : Int32)) = (0 : Int32))) :
    ∃ (T' : State), Stand p l e R s m args below meth c T' locs cells slots ∧ T'.heap = h0 ∧
      ∀ target, Steps p.tables e below (T'.setTop (mkF m 61 #[s0, s1, s2, s3, s4, s5, s6, .val (.int i7), s8, s9, s10, s11, s12, s13, s14, s15, .val (.int (1 : Int32)), s17, s18, s19, s20, s21, s22, s23, s24, s25, s26] [])) target → Steps p.tables e below (T0.setTop (mkF m 47 #[s0, s1, s2, s3, s4, s5, s6, .val (.int i7), s8, s9, s10, s11, s12, s13, s14, s15, s16, s17, s18, s19, s20, s21, s22, s23, s24, s25, s26] [])) target := by
  refine ⟨T0, X0, e0, fun target kt => ?_⟩
  show Steps p.tables e below (T0.setTop (mkF m 47 #[s0, s1, s2, s3, s4, s5, s6, .val (.int i7), s8, s9, s10, s11, s12, s13, s14, s15, s16, s17, s18, s19, s20, s21, s22, s23, s24, s25, s26] [])) _
  refine XS.iload X0.here hx rfl (hb hby at_47) rfl ?_
  show Steps p.tables e below (T0.setTop (mkF m 49 #[s0, s1, s2, s3, s4, s5, s6, .val (.int i7), s8, s9, s10, s11, s12, s13, s14, s15, s16, s17, s18, s19, s20, s21, s22, s23, s24, s25, s26] [(.int i7)])) _
  refine XS.iconst X0.here hx rfl (hb hby at_49) ?_
  show Steps p.tables e below (T0.setTop (mkF m 50 #[s0, s1, s2, s3, s4, s5, s6, .val (.int i7), s8, s9, s10, s11, s12, s13, s14, s15, s16, s17, s18, s19, s20, s21, s22, s23, s24, s25, s26] [(.int (1 : Int32)), (.int i7)])) _
  refine XS.iand X0.here hx rfl (hb hby at_50) rfl ?_
  show Steps p.tables e below (T0.setTop (mkF m 51 #[s0, s1, s2, s3, s4, s5, s6, .val (.int i7), s8, s9, s10, s11, s12, s13, s14, s15, s16, s17, s18, s19, s20, s21, s22, s23, s24, s25, s26] [(.int (i7 &&& (1 : Int32)))])) _
  refine XS.ifNo X0.here hx rfl (hb hby at_51) rfl ((if0 _ _).trans (feq hc51).1) ?_
  show Steps p.tables e below (T0.setTop (mkF m 54 #[s0, s1, s2, s3, s4, s5, s6, .val (.int i7), s8, s9, s10, s11, s12, s13, s14, s15, s16, s17, s18, s19, s20, s21, s22, s23, s24, s25, s26] [])) _
  refine XS.iconst X0.here hx rfl (hb hby at_54) ?_
  show Steps p.tables e below (T0.setTop (mkF m 55 #[s0, s1, s2, s3, s4, s5, s6, .val (.int i7), s8, s9, s10, s11, s12, s13, s14, s15, s16, s17, s18, s19, s20, s21, s22, s23, s24, s25, s26] [(.int (1 : Int32))])) _
  refine XS.goto X0.here hx rfl (pc0 := 55) (pc' := 59) rfl (hb hby at_55) (by decide) (by decide) ?_
  show Steps p.tables e below (T0.setTop (mkF m 59 #[s0, s1, s2, s3, s4, s5, s6, .val (.int i7), s8, s9, s10, s11, s12, s13, s14, s15, s16, s17, s18, s19, s20, s21, s22, s23, s24, s25, s26] [(.int (1 : Int32))])) _
  refine XS.istore X0.here hx rfl (hb hby at_59) rfl (l' := #[s0, s1, s2, s3, s4, s5, s6, .val (.int i7), s8, s9, s10, s11, s12, s13, s14, s15, .val (.int (1 : Int32)), s17, s18, s19, s20, s21, s22, s23, s24, s25, s26]) (os0_59 hs16) ?_
  exact kt
theorem sg16 {p : Program} {l : Launch} {e : Env} {R : Room} {s : State} {m : MethodId} {args : Array Value} {below : List Frame} {meth : Method} {c : Code} {T0 : State} {locs : List Loc} {cells slots : Nat} {Z : State} {a0 : Array Value} {h0 : Heap} (s0 : Slot) (s1 : Slot) (s2 : Slot) (s3 : Slot) (s4 : Slot) (s5 : Slot) (s6 : Slot) (i7 : Int32) (s8 : Slot) (s9 : Slot) (s10 : Slot) (s11 : Slot) (s12 : Slot) (s13 : Slot) (s14 : Slot) (s15 : Slot) (s16 : Slot) (s17 : Slot) (s18 : Slot) (s19 : Slot) (s20 : Slot) (s21 : Slot) (s22 : Slot) (s23 : Slot) (s24 : Slot) (s25 : Slot) (s26 : Slot)
    (X0 : Stand p l e R s m args below meth c T0 locs cells slots) (hx : p.tables.exec = Jvm.exec) (hZ : Z.Warmed39 s.vm) (hw : ∀ d ∈ tables_1, d.before a0 Z = true) (hby : c.code = code) (hml : c.maxLocals = 27) (hown : s.vm.findClass "com/example/wrasse/wrasse/index/BitWriterBitSizePinLaw" = some m.cls) (e0 : T0.heap = h0) (hs16 : One s16) :
    ∃ (T' : State), Stand p l e R s m args below meth c T' locs cells slots ∧ T'.heap = h0 ∧
      ∀ target, Steps p.tables e below (T'.setTop (mkF m 61 #[s0, s1, s2, s3, s4, s5, s6, .val (.int i7), s8, s9, s10, s11, s12, s13, s14, s15, .val (.int (own_b (i7 &&& (1 : Int32)))), s17, s18, s19, s20, s21, s22, s23, s24, s25, s26] [])) target → Steps p.tables e below (T0.setTop (mkF m 47 #[s0, s1, s2, s3, s4, s5, s6, .val (.int i7), s8, s9, s10, s11, s12, s13, s14, s15, s16, s17, s18, s19, s20, s21, s22, s23, s24, s25, s26] [])) target := by
  by_cases hc : (i7 &&& (1 : Int32)) = (0 : Int32)
  · rw [show own_b (i7 &&& (1 : Int32)) = 0 from if_pos hc]; exact tn0_47_61_t s0 s1 s2 s3 s4 s5 s6 i7 s8 s9 s10 s11 s12 s13 s14 s15 s16 s17 s18 s19 s20 s21 s22 s23 s24 s25 s26 X0 hx hZ hw hby hml hown e0 hs16 hc
  · rw [show own_b (i7 &&& (1 : Int32)) = 1 from if_neg hc]; exact tn0_47_61_f s0 s1 s2 s3 s4 s5 s6 i7 s8 s9 s10 s11 s12 s13 s14 s15 s16 s17 s18 s19 s20 s21 s22 s23 s24 s25 s26 X0 hx hZ hw hby hml hown e0 hs16 hc
theorem os0_73 {s0 : Slot} {s1 : Slot} {s2 : Slot} {s3 : Slot} {s4 : Slot} {s5 : Slot} {s6 : Slot} {z7 : Value} {s8 : Slot} {s9 : Slot} {s10 : Slot} {s11 : Slot} {s12 : Slot} {s13 : Slot} {s14 : Slot} {s15 : Slot} {s16 : Slot} {s17 : Slot} {s18 : Slot} {s19 : Slot} {s20 : Slot} {s21 : Slot} {s22 : Slot} {s23 : Slot} {s24 : Slot} {s25 : Slot} {s26 : Slot} {v : Int32} (h : One s17) : storeLocals #[s0, s1, s2, s3, s4, s5, s6, .val z7, s8, s9, s10, s11, s12, s13, s14, s15, s16, s17, s18, s19, s20, s21, s22, s23, s24, s25, s26] 17 (.int v) = some #[s0, s1, s2, s3, s4, s5, s6, .val z7, s8, s9, s10, s11, s12, s13, s14, s15, s16, .val (.int v), s18, s19, s20, s21, s22, s23, s24, s25, s26] := by
  rcases h with rfl | ⟨w, rfl, hw⟩
  · rfl
  · cases w <;> first | rfl | (simp [Value.category] at hw)
set_option maxRecDepth 65536 in
set_option maxHeartbeats 40000000 in
theorem tn0_61_75_t {p : Program} {l : Launch} {e : Env} {R : Room} {s : State} {m : MethodId} {args : Array Value} {below : List Frame} {meth : Method} {c : Code} {T0 : State} {locs : List Loc} {cells slots : Nat} {Z : State} {a0 : Array Value} {h0 : Heap} (s0 : Slot) (s1 : Slot) (s2 : Slot) (s3 : Slot) (s4 : Slot) (s5 : Slot) (s6 : Slot) (i7 : Int32) (s8 : Slot) (s9 : Slot) (s10 : Slot) (s11 : Slot) (s12 : Slot) (s13 : Slot) (s14 : Slot) (s15 : Slot) (s16 : Slot) (s17 : Slot) (s18 : Slot) (s19 : Slot) (s20 : Slot) (s21 : Slot) (s22 : Slot) (s23 : Slot) (s24 : Slot) (s25 : Slot) (s26 : Slot)
    (X0 : Stand p l e R s m args below meth c T0 locs cells slots) (hx : p.tables.exec = Jvm.exec) (hZ : Z.Warmed39 s.vm) (hw : ∀ d ∈ tables_1, d.before a0 Z = true) (hby : c.code = code) (hml : c.maxLocals = 27) (hown : s.vm.findClass "com/example/wrasse/wrasse/index/BitWriterBitSizePinLaw" = some m.cls) (e0 : T0.heap = h0) (hs17 : One s17) (hc65 : (i7 &&& (2 : Int32)) = (0 : Int32)) :
    ∃ (T' : State), Stand p l e R s m args below meth c T' locs cells slots ∧ T'.heap = h0 ∧
      ∀ target, Steps p.tables e below (T'.setTop (mkF m 75 #[s0, s1, s2, s3, s4, s5, s6, .val (.int i7), s8, s9, s10, s11, s12, s13, s14, s15, s16, .val (.int (0 : Int32)), s18, s19, s20, s21, s22, s23, s24, s25, s26] [])) target → Steps p.tables e below (T0.setTop (mkF m 61 #[s0, s1, s2, s3, s4, s5, s6, .val (.int i7), s8, s9, s10, s11, s12, s13, s14, s15, s16, s17, s18, s19, s20, s21, s22, s23, s24, s25, s26] [])) target := by
  refine ⟨T0, X0, e0, fun target kt => ?_⟩
  show Steps p.tables e below (T0.setTop (mkF m 61 #[s0, s1, s2, s3, s4, s5, s6, .val (.int i7), s8, s9, s10, s11, s12, s13, s14, s15, s16, s17, s18, s19, s20, s21, s22, s23, s24, s25, s26] [])) _
  refine XS.iload X0.here hx rfl (hb hby at_61) rfl ?_
  show Steps p.tables e below (T0.setTop (mkF m 63 #[s0, s1, s2, s3, s4, s5, s6, .val (.int i7), s8, s9, s10, s11, s12, s13, s14, s15, s16, s17, s18, s19, s20, s21, s22, s23, s24, s25, s26] [(.int i7)])) _
  refine XS.iconst X0.here hx rfl (hb hby at_63) ?_
  show Steps p.tables e below (T0.setTop (mkF m 64 #[s0, s1, s2, s3, s4, s5, s6, .val (.int i7), s8, s9, s10, s11, s12, s13, s14, s15, s16, s17, s18, s19, s20, s21, s22, s23, s24, s25, s26] [(.int (2 : Int32)), (.int i7)])) _
  refine XS.iand X0.here hx rfl (hb hby at_64) rfl ?_
  show Steps p.tables e below (T0.setTop (mkF m 65 #[s0, s1, s2, s3, s4, s5, s6, .val (.int i7), s8, s9, s10, s11, s12, s13, s14, s15, s16, s17, s18, s19, s20, s21, s22, s23, s24, s25, s26] [(.int (i7 &&& (2 : Int32)))])) _
  refine XS.ifYes X0.here hx rfl (pc0 := 65) (pc' := 72) rfl (hb hby at_65) rfl ((if0 _ _).trans (teq hc65).1) (by decide) (by decide) ?_
  show Steps p.tables e below (T0.setTop (mkF m 72 #[s0, s1, s2, s3, s4, s5, s6, .val (.int i7), s8, s9, s10, s11, s12, s13, s14, s15, s16, s17, s18, s19, s20, s21, s22, s23, s24, s25, s26] [])) _
  refine XS.iconst X0.here hx rfl (hb hby at_72) ?_
  show Steps p.tables e below (T0.setTop (mkF m 73 #[s0, s1, s2, s3, s4, s5, s6, .val (.int i7), s8, s9, s10, s11, s12, s13, s14, s15, s16, s17, s18, s19, s20, s21, s22, s23, s24, s25, s26] [(.int (0 : Int32))])) _
  refine XS.istore X0.here hx rfl (hb hby at_73) rfl (l' := #[s0, s1, s2, s3, s4, s5, s6, .val (.int i7), s8, s9, s10, s11, s12, s13, s14, s15, s16, .val (.int (0 : Int32)), s18, s19, s20, s21, s22, s23, s24, s25, s26]) (os0_73 hs17) ?_
  exact kt
set_option maxRecDepth 65536 in
set_option maxHeartbeats 40000000 in
theorem tn0_61_75_f {p : Program} {l : Launch} {e : Env} {R : Room} {s : State} {m : MethodId} {args : Array Value} {below : List Frame} {meth : Method} {c : Code} {T0 : State} {locs : List Loc} {cells slots : Nat} {Z : State} {a0 : Array Value} {h0 : Heap} (s0 : Slot) (s1 : Slot) (s2 : Slot) (s3 : Slot) (s4 : Slot) (s5 : Slot) (s6 : Slot) (i7 : Int32) (s8 : Slot) (s9 : Slot) (s10 : Slot) (s11 : Slot) (s12 : Slot) (s13 : Slot) (s14 : Slot) (s15 : Slot) (s16 : Slot) (s17 : Slot) (s18 : Slot) (s19 : Slot) (s20 : Slot) (s21 : Slot) (s22 : Slot) (s23 : Slot) (s24 : Slot) (s25 : Slot) (s26 : Slot)
    (X0 : Stand p l e R s m args below meth c T0 locs cells slots) (hx : p.tables.exec = Jvm.exec) (hZ : Z.Warmed39 s.vm) (hw : ∀ d ∈ tables_1, d.before a0 Z = true) (hby : c.code = code) (hml : c.maxLocals = 27) (hown : s.vm.findClass "com/example/wrasse/wrasse/index/BitWriterBitSizePinLaw" = some m.cls) (e0 : T0.heap = h0) (hs17 : One s17) (hc65 : ¬ ((i7 &&& (2 : Int32)) = (0 : Int32))) :
    ∃ (T' : State), Stand p l e R s m args below meth c T' locs cells slots ∧ T'.heap = h0 ∧
      ∀ target, Steps p.tables e below (T'.setTop (mkF m 75 #[s0, s1, s2, s3, s4, s5, s6, .val (.int i7), s8, s9, s10, s11, s12, s13, s14, s15, s16, .val (.int (1 : Int32)), s18, s19, s20, s21, s22, s23, s24, s25, s26] [])) target → Steps p.tables e below (T0.setTop (mkF m 61 #[s0, s1, s2, s3, s4, s5, s6, .val (.int i7), s8, s9, s10, s11, s12, s13, s14, s15, s16, s17, s18, s19, s20, s21, s22, s23, s24, s25, s26] [])) target := by
  refine ⟨T0, X0, e0, fun target kt => ?_⟩
  show Steps p.tables e below (T0.setTop (mkF m 61 #[s0, s1, s2, s3, s4, s5, s6, .val (.int i7), s8, s9, s10, s11, s12, s13, s14, s15, s16, s17, s18, s19, s20, s21, s22, s23, s24, s25, s26] [])) _
  refine XS.iload X0.here hx rfl (hb hby at_61) rfl ?_
  show Steps p.tables e below (T0.setTop (mkF m 63 #[s0, s1, s2, s3, s4, s5, s6, .val (.int i7), s8, s9, s10, s11, s12, s13, s14, s15, s16, s17, s18, s19, s20, s21, s22, s23, s24, s25, s26] [(.int i7)])) _
  refine XS.iconst X0.here hx rfl (hb hby at_63) ?_
  show Steps p.tables e below (T0.setTop (mkF m 64 #[s0, s1, s2, s3, s4, s5, s6, .val (.int i7), s8, s9, s10, s11, s12, s13, s14, s15, s16, s17, s18, s19, s20, s21, s22, s23, s24, s25, s26] [(.int (2 : Int32)), (.int i7)])) _
  refine XS.iand X0.here hx rfl (hb hby at_64) rfl ?_
  show Steps p.tables e below (T0.setTop (mkF m 65 #[s0, s1, s2, s3, s4, s5, s6, .val (.int i7), s8, s9, s10, s11, s12, s13, s14, s15, s16, s17, s18, s19, s20, s21, s22, s23, s24, s25, s26] [(.int (i7 &&& (2 : Int32)))])) _
  refine XS.ifNo X0.here hx rfl (hb hby at_65) rfl ((if0 _ _).trans (feq hc65).1) ?_
  show Steps p.tables e below (T0.setTop (mkF m 68 #[s0, s1, s2, s3, s4, s5, s6, .val (.int i7), s8, s9, s10, s11, s12, s13, s14, s15, s16, s17, s18, s19, s20, s21, s22, s23, s24, s25, s26] [])) _
  refine XS.iconst X0.here hx rfl (hb hby at_68) ?_
  show Steps p.tables e below (T0.setTop (mkF m 69 #[s0, s1, s2, s3, s4, s5, s6, .val (.int i7), s8, s9, s10, s11, s12, s13, s14, s15, s16, s17, s18, s19, s20, s21, s22, s23, s24, s25, s26] [(.int (1 : Int32))])) _
  refine XS.goto X0.here hx rfl (pc0 := 69) (pc' := 73) rfl (hb hby at_69) (by decide) (by decide) ?_
  show Steps p.tables e below (T0.setTop (mkF m 73 #[s0, s1, s2, s3, s4, s5, s6, .val (.int i7), s8, s9, s10, s11, s12, s13, s14, s15, s16, s17, s18, s19, s20, s21, s22, s23, s24, s25, s26] [(.int (1 : Int32))])) _
  refine XS.istore X0.here hx rfl (hb hby at_73) rfl (l' := #[s0, s1, s2, s3, s4, s5, s6, .val (.int i7), s8, s9, s10, s11, s12, s13, s14, s15, s16, .val (.int (1 : Int32)), s18, s19, s20, s21, s22, s23, s24, s25, s26]) (os0_73 hs17) ?_
  exact kt
theorem sg17 {p : Program} {l : Launch} {e : Env} {R : Room} {s : State} {m : MethodId} {args : Array Value} {below : List Frame} {meth : Method} {c : Code} {T0 : State} {locs : List Loc} {cells slots : Nat} {Z : State} {a0 : Array Value} {h0 : Heap} (s0 : Slot) (s1 : Slot) (s2 : Slot) (s3 : Slot) (s4 : Slot) (s5 : Slot) (s6 : Slot) (i7 : Int32) (s8 : Slot) (s9 : Slot) (s10 : Slot) (s11 : Slot) (s12 : Slot) (s13 : Slot) (s14 : Slot) (s15 : Slot) (s16 : Slot) (s17 : Slot) (s18 : Slot) (s19 : Slot) (s20 : Slot) (s21 : Slot) (s22 : Slot) (s23 : Slot) (s24 : Slot) (s25 : Slot) (s26 : Slot)
    (X0 : Stand p l e R s m args below meth c T0 locs cells slots) (hx : p.tables.exec = Jvm.exec) (hZ : Z.Warmed39 s.vm) (hw : ∀ d ∈ tables_1, d.before a0 Z = true) (hby : c.code = code) (hml : c.maxLocals = 27) (hown : s.vm.findClass "com/example/wrasse/wrasse/index/BitWriterBitSizePinLaw" = some m.cls) (e0 : T0.heap = h0) (hs17 : One s17) :
    ∃ (T' : State), Stand p l e R s m args below meth c T' locs cells slots ∧ T'.heap = h0 ∧
      ∀ target, Steps p.tables e below (T'.setTop (mkF m 75 #[s0, s1, s2, s3, s4, s5, s6, .val (.int i7), s8, s9, s10, s11, s12, s13, s14, s15, s16, .val (.int (own_b (i7 &&& (2 : Int32)))), s18, s19, s20, s21, s22, s23, s24, s25, s26] [])) target → Steps p.tables e below (T0.setTop (mkF m 61 #[s0, s1, s2, s3, s4, s5, s6, .val (.int i7), s8, s9, s10, s11, s12, s13, s14, s15, s16, s17, s18, s19, s20, s21, s22, s23, s24, s25, s26] [])) target := by
  by_cases hc : (i7 &&& (2 : Int32)) = (0 : Int32)
  · rw [show own_b (i7 &&& (2 : Int32)) = 0 from if_pos hc]; exact tn0_61_75_t s0 s1 s2 s3 s4 s5 s6 i7 s8 s9 s10 s11 s12 s13 s14 s15 s16 s17 s18 s19 s20 s21 s22 s23 s24 s25 s26 X0 hx hZ hw hby hml hown e0 hs17 hc
  · rw [show own_b (i7 &&& (2 : Int32)) = 1 from if_neg hc]; exact tn0_61_75_f s0 s1 s2 s3 s4 s5 s6 i7 s8 s9 s10 s11 s12 s13 s14 s15 s16 s17 s18 s19 s20 s21 s22 s23 s24 s25 s26 X0 hx hZ hw hby hml hown e0 hs17 hc
theorem pd_0_0 : parseMethodDescriptor "()V" = some ⟨[], none⟩ := by decide +kernel
theorem os0_82 {s0 : Slot} {s1 : Slot} {s2 : Slot} {s3 : Slot} {s4 : Slot} {s5 : Slot} {s6 : Slot} {s7 : Slot} {s8 : Slot} {s9 : Slot} {s10 : Slot} {s11 : Slot} {s12 : Slot} {s13 : Slot} {s14 : Slot} {s15 : Slot} {s16 : Slot} {s17 : Slot} {s18 : Slot} {s19 : Slot} {s20 : Slot} {s21 : Slot} {s22 : Slot} {s23 : Slot} {s24 : Slot} {s25 : Slot} {s26 : Slot} {v : Addr} (h : One s18) : storeLocals #[s0, s1, s2, s3, s4, s5, s6, s7, s8, s9, s10, s11, s12, s13, s14, s15, s16, s17, s18, s19, s20, s21, s22, s23, s24, s25, s26] 18 (.ref v) = some #[s0, s1, s2, s3, s4, s5, s6, s7, s8, s9, s10, s11, s12, s13, s14, s15, s16, s17, .val (.ref v), s19, s20, s21, s22, s23, s24, s25, s26] := by
  rcases h with rfl | ⟨w, rfl, hw⟩
  · rfl
  · cases w <;> first | rfl | (simp [Value.category] at hw)
set_option maxRecDepth 65536 in
set_option maxHeartbeats 40000000 in
theorem tn0_75_84 {p : Program} {l : Launch} {e : Env} {s : State} {m : MethodId} {args : Array Value} {below : List Frame} {meth : Method} {c : Code} {T0 : State} {locs : List Loc} {Z : State} {a0 : Array Value} {h0 : Heap} {n0 : Nat} (s0 : Slot) (s1 : Slot) (s2 : Slot) (s3 : Slot) (s4 : Slot) (s5 : Slot) (s6 : Slot) (s7 : Slot) (s8 : Slot) (s9 : Slot) (s10 : Slot) (s11 : Slot) (s12 : Slot) (s13 : Slot) (s14 : Slot) (s15 : Slot) (s16 : Slot) (s17 : Slot) (s18 : Slot) (s19 : Slot) (s20 : Slot) (s21 : Slot) (s22 : Slot) (s23 : Slot) (s24 : Slot) (s25 : Slot) (s26 : Slot)
    (X0 : Stand p l e room_1 s m args below meth c T0 locs 0 0) (hx : p.tables.exec = Jvm.exec) (hZ : Z.Warmed39 s.vm) (hw : ∀ d ∈ tables_1, d.before a0 Z = true) (hby : c.code = code) (hml : c.maxLocals = 27) (hown : s.vm.findClass "com/example/wrasse/wrasse/index/BitWriterBitSizePinLaw" = some m.cls) (e0 : T0.heap = h0) (hs18 : One s18) (N0 : Fr n0 locs) (Z0 : n0 ≤ h0.size) :
    ∃ (T' : State) (h' : Heap) (locs' : List Loc) (b7 : Addr), Stand p l e room_1 s m args below meth c T' locs' 2 20 ∧ T'.heap = h' ∧ Fr n0 locs' ∧ BW Z h' n0 b7 16 0 0 ∧
      ∀ target, Steps p.tables e below (T'.setTop (mkF m 84 #[s0, s1, s2, s3, s4, s5, s6, s7, s8, s9, s10, s11, s12, s13, s14, s15, s16, s17, .val (.ref b7), s19, s20, s21, s22, s23, s24, s25, s26] [])) target → Steps p.tables e below (T0.setTop (mkF m 75 #[s0, s1, s2, s3, s4, s5, s6, s7, s8, s9, s10, s11, s12, s13, s14, s15, s16, s17, s18, s19, s20, s21, s22, s23, s24, s25, s26] [])) target := by
  obtain ⟨T7, h7, X7, e7, E7, A7, D7, -, st7⟩ := newO X0 hx hZ hown (hw _ (List.mem_of_getElem? (i := 1) rfl)) (hw _ (List.mem_of_getElem? (i := 2) rfl)) (hw _ (List.mem_of_getElem? (i := 3) rfl)) e0 (g := (mkF m 75 #[s0, s1, s2, s3, s4, s5, s6, s7, s8, s9, s10, s11, s12, s13, s14, s15, s16, s17, s18, s19, s20, s21, s22, s23, s24, s25, s26] [])) rfl (hb hby at_75) (by decide) (by decide)
  obtain ⟨b7, g7⟩ : ∃ z, z = h0.size := ⟨_, rfl⟩
  rw [← g7] at A7 D7 st7
  have F_bytes_b7 : Fld Z h7 b7 "com/example/wrasse/wrasse/index/BitWriter" "bytes" "[B" .null := D7 (Or.inl (hw _ (List.mem_of_getElem? (i := 12) rfl))) (ty := (.array .byte)) (by decide)
  have F_pending_b7 : Fld Z h7 b7 "com/example/wrasse/wrasse/index/BitWriter" "pending" "J" (.long (0 : Int64)) := D7 (Or.inl (hw _ (List.mem_of_getElem? (i := 19) rfl))) (ty := .long) (by decide)
  have F_pendingBits_b7 : Fld Z h7 b7 "com/example/wrasse/wrasse/index/BitWriter" "pendingBits" "I" (.int (0 : Int32)) := D7 (Or.inl (hw _ (List.mem_of_getElem? (i := 21) rfl))) (ty := .int) (by decide)
  have F_size_b7 : Fld Z h7 b7 "com/example/wrasse/wrasse/index/BitWriter" "size" "I" (.int (0 : Int32)) := D7 (Or.inl (hw _ (List.mem_of_getElem? (i := 28) rfl))) (ty := .int) (by decide)
  have E_b7 := A7
  have g_b7 : n0 ≤ b7 := Nat.le_trans Z0 (Nat.le_of_eq g7.symm)
  obtain ⟨_, _, ⟨T8, L8, k8, n8⟩, -, X8, ⟨Lc8, hQ8, l8, y8, z8⟩, st8⟩ := X7.specialBack hx (y := (⟨"com/example/wrasse/wrasse/index/BitWriter", "<init>", "()V"⟩ : MethodName)) rfl hown (mvT hZ (hw _ (List.mem_of_getElem? (i := 4) rfl))) (mvT hZ (hw _ (List.mem_of_getElem? (i := 5) rfl))) (mvT hZ (hw _ (List.mem_of_getElem? (i := 6) rfl))) (by decide) (backOf (W := 1) (rm1 l Z a0 hw [] b7 .null h7 n0 (Nat.le_trans Z0 E7.1) A7 F_bytes_b7 g_b7 F_size_b7 F_pending_b7 F_pendingBits_b7) hZ (hw _ (List.mem_of_getElem? (i := 6) rfl)) (hw _ (List.mem_of_getElem? (i := 3) rfl)) (by decide) (by decide)) (g := (mkF m 79 #[s0, s1, s2, s3, s4, s5, s6, s7, s8, s9, s10, s11, s12, s13, s14, s15, s16, s17, s18, s19, s20, s21, s22, s23, s24, s25, s26] [(.ref b7), (.ref b7)])) rfl (by rw [hml]; rfl) (Steps.refl _) (a := b7) (argsL := []) (rest := [(.ref b7)]) (lenOf pd_0_0 rfl) rfl (by show 2 * 0 + _ ≤ _; exact Nat.le_of_eq rfl) (hb hby at_79) (fun _ _ => ⟨rfl, e7, (by decide : 1 + 1 ≤ _), (by decide : 4 + 16 ≤ _)⟩)
  dsimp only [Pt.U, Pt.locs, Pt.cells, Pt.slots] at X8 l8 y8 z8 st8 hQ8
  subst l8 y8 z8
  obtain ⟨rfl, N8q, I8⟩ := hQ8
  have N8 := Fr.app N0 N8q
  refine ⟨T8, _, _, b7, X8, rfl, N8, I8, fun target kt => ?_⟩
  show Steps p.tables e below (T0.setTop (mkF m 75 #[s0, s1, s2, s3, s4, s5, s6, s7, s8, s9, s10, s11, s12, s13, s14, s15, s16, s17, s18, s19, s20, s21, s22, s23, s24, s25, s26] [])) _
  refine st7 _ ?_
  show Steps p.tables e below (T7.setTop (mkF m 78 #[s0, s1, s2, s3, s4, s5, s6, s7, s8, s9, s10, s11, s12, s13, s14, s15, s16, s17, s18, s19, s20, s21, s22, s23, s24, s25, s26] [(.ref b7)])) _
  refine XS.dup X7.here hx rfl (hb hby at_78) rfl rfl ?_
  show Steps p.tables e below (T7.setTop (mkF m 79 #[s0, s1, s2, s3, s4, s5, s6, s7, s8, s9, s10, s11, s12, s13, s14, s15, s16, s17, s18, s19, s20, s21, s22, s23, s24, s25, s26] [(.ref b7), (.ref b7)])) _
  refine st8.trans ?_
  show Steps p.tables e below (T8.setTop (mkF m 82 #[s0, s1, s2, s3, s4, s5, s6, s7, s8, s9, s10, s11, s12, s13, s14, s15, s16, s17, s18, s19, s20, s21, s22, s23, s24, s25, s26] [(.ref b7)])) _
  refine XS.astore X8.here hx rfl (hb hby at_82) rfl rfl (l' := #[s0, s1, s2, s3, s4, s5, s6, s7, s8, s9, s10, s11, s12, s13, s14, s15, s16, s17, .val (.ref b7), s19, s20, s21, s22, s23, s24, s25, s26]) (os0_82 hs18) ?_
  exact kt
theorem pd_0_1 : parseMethodDescriptor "(JI)V" = some ⟨[.long, .int], none⟩ := by decide +kernel
theorem pd_0_2 : parseMethodDescriptor "()J" = some ⟨[], some .long⟩ := by decide +kernel
set_option maxRecDepth 65536 in
set_option maxHeartbeats 40000000 in
theorem tn0_84_111 {p : Program} {l : Launch} {e : Env} {s : State} {m : MethodId} {args : Array Value} {below : List Frame} {meth : Method} {c : Code} {T0 : State} {locs : List Loc} {Z : State} {a0 : Array Value} {h0 : Heap} {n0 : Nat} (s0 : Slot) (s1 : Slot) (s2 : Slot) (s3 : Slot) (s4 : Slot) (s5 : Slot) (s6 : Slot) (s7 : Slot) (n1 : Nat) (s9 : Slot) (j10 : Int64) (s12 : Slot) (s13 : Slot) (s14 : Slot) (s15 : Slot) (s16 : Slot) (s17 : Slot) (o18 : Addr) (s21 : Slot) (s22 : Slot) (s23 : Slot) (s24 : Slot) (s25 : Slot) (s26 : Slot)
    (X0 : Stand p l e room_1 s m args below meth c T0 locs 2 20) (hx : p.tables.exec = Jvm.exec) (hZ : Z.Warmed39 s.vm) (hw : ∀ d ∈ tables_1, d.before a0 Z = true) (hby : c.code = code) (hml : c.maxLocals = 27) (hown : s.vm.findClass "com/example/wrasse/wrasse/index/BitWriterBitSizePinLaw" = some m.cls) (e0 : T0.heap = h0) (N0 : Fr n0 locs) (hI : BW Z h0 n0 o18 16 0 0) (hn1 : n1 ≤ 56) :
    ∃ (T' : State) (h' : Heap) (locs' : List Loc), Stand p l e room_1 s m args below meth c T' locs' 2 20 ∧ T'.heap = h' ∧ Fr n0 locs' ∧ BW Z h' n0 o18 16 (n1 / 8) (n1 % 8) ∧
      ∀ target, Steps p.tables e below (T'.setTop (mkF m 111 #[s0, s1, s2, s3, s4, s5, s6, s7, .val (.int (Int32.ofNat n1)), s9, .val (.long j10), .second, s12, s13, s14, s15, s16, s17, .val (.ref o18), .val (.long (((Int32.ofNat (n1 / 8)).toInt64 * (8 : Int64)) + ((Int32.ofNat (n1 % 8)).toInt64))), .second, s21, s22, s23, s24, s25, s26] [])) target → Steps p.tables e below (T0.setTop (mkF m 84 #[s0, s1, s2, s3, s4, s5, s6, s7, .val (.int (Int32.ofNat n1)), s9, .val (.long j10), .second, s12, s13, s14, s15, s16, s17, .val (.ref o18), .unset, .unset, s21, s22, s23, s24, s25, s26] [])) target := by
  have gr : own_gr 16 0 (0 + n1) = false := by simp [own_gr]
  have gc : own_gc 16 0 (0 + n1) = 0 := by unfold own_gc; rw [gr]; rfl
  have gs : own_gs 16 0 (0 + n1) = 0 := by unfold own_gs; rw [gr]; rfl
  have gN : own_N 16 0 (0 + n1) = 16 := by unfold own_N; rw [gr]; rfl
  obtain ⟨cq7, kq7, q7a, q7b, q7c⟩ := isOf hZ e0 hI.2.1
  obtain ⟨_, _, ⟨T7, L7, k7, n7⟩, -, X7, ⟨Lc7, hQ7, l7, y7, z7⟩, st7⟩ := X0.virtualBack hx (y := (⟨"com/example/wrasse/wrasse/index/BitWriter", "writeBits", "(JI)V"⟩ : MethodName)) (z := (⟨"com/example/wrasse/wrasse/index/BitWriter", "writeBits", "(JI)V"⟩ : MethodName)) hown (mvT hZ (hw _ (List.mem_of_getElem? (i := 13) rfl))) (mvT hZ (hw _ (List.mem_of_getElem? (i := 14) rfl))) (notFace_of_selects (args := #[]) (mvT hZ (hw _ (List.mem_of_getElem? (i := 16) rfl)))) (mvT hZ (hw _ (List.mem_of_getElem? (i := 16) rfl))) (mvT hZ (hw _ (List.mem_of_getElem? (i := 15) rfl))) (by decide) (backOf (W := 0) (rm3 l Z a0 hw [] o18 j10 n1 16 0 0 h0 n0 hI (by decide) hn1 (by decide) (by decide) (by decide) (by omega)) hZ (hw _ (List.mem_of_getElem? (i := 17) rfl)) (hw _ (List.mem_of_getElem? (i := 3) rfl)) (by show 2 + 1 ≤ 7; decide) (by show 0 + (4 + 11) + 55 ≤ 176; decide)) q7a q7c (g := (mkF m 90 #[s0, s1, s2, s3, s4, s5, s6, s7, .val (.int (Int32.ofNat n1)), s9, .val (.long j10), .second, s12, s13, s14, s15, s16, s17, .val (.ref o18), .unset, .unset, s21, s22, s23, s24, s25, s26] [(.int (Int32.ofNat n1)), (.long j10), (.ref o18)])) rfl (by rw [hml]; rfl) (Steps.refl _) (argsL := [(.long j10), (.int (Int32.ofNat n1))]) (rest := []) (lenOf pd_0_1 rfl) rfl (by show 2 * 0 + _ ≤ _; exact Nat.le_of_eq rfl) (hb hby at_90) (fun _ _ => ⟨rfl, e0, (by show 2 + own_gc 16 0 (0 + n1) ≤ 16; omega), (by show 20 + own_gs 16 0 (0 + n1) ≤ 320; omega)⟩)
  dsimp only [Pt.U, Pt.locs, Pt.cells, Pt.slots] at X7 l7 y7 z7 st7 hQ7
  subst l7 y7 z7
  obtain ⟨rfl, N7q, I7⟩ := hQ7
  have N7 := Fr.app N0 N7q
  rw [gN, Nat.zero_add, Nat.zero_add] at I7
  have I7' := I7
  obtain ⟨Z7, E7, g7, t7, cl7, w7, Fb7, Fs7, Fp7, Fq7, r7⟩ := I7
  obtain ⟨cq8, kq8, q8a, q8b, q8c⟩ := isOf hZ rfl E7
  obtain ⟨_, _, ⟨T8, L8, k8, n8⟩, -, X8, ⟨Lc8, hQ8, l8, y8, z8⟩, st8⟩ := X7.virtualBack hx (y := (⟨"com/example/wrasse/wrasse/index/BitWriter", "bitSize", "()J"⟩ : MethodName)) (z := (⟨"com/example/wrasse/wrasse/index/BitWriter", "bitSize", "()J"⟩ : MethodName)) hown (mvT hZ (hw _ (List.mem_of_getElem? (i := 22) rfl))) (mvT hZ (hw _ (List.mem_of_getElem? (i := 23) rfl))) (notFace_of_selects (args := #[]) (mvT hZ (hw _ (List.mem_of_getElem? (i := 25) rfl)))) (mvT hZ (hw _ (List.mem_of_getElem? (i := 25) rfl))) (mvT hZ (hw _ (List.mem_of_getElem? (i := 24) rfl))) (by decide) (backOf (W := 0) (rm4 l Z a0 hw [] o18 (Int32.ofNat (n1 / 8)) (Int32.ofNat (n1 % 8)) T7.heap n0 Z7 Fs7 Fq7) hZ (hw _ (List.mem_of_getElem? (i := 26) rfl)) (hw _ (List.mem_of_getElem? (i := 3) rfl)) (by show 0 + 1 ≤ 7; decide) (by show 0 + (1 + 11) + 0 ≤ 176; decide)) q8a q8c (g := (mkF m 95 #[s0, s1, s2, s3, s4, s5, s6, s7, .val (.int (Int32.ofNat n1)), s9, .val (.long j10), .second, s12, s13, s14, s15, s16, s17, .val (.ref o18), .unset, .unset, s21, s22, s23, s24, s25, s26] [(.ref o18)])) rfl (by rw [hml]; rfl) (Steps.refl _) (argsL := []) (rest := []) (lenOf pd_0_2 rfl) rfl (by show 2 * 0 + _ ≤ _; exact Nat.le_of_eq rfl) (hb hby at_95) (fun _ _ => ⟨rfl, rfl, (by show 2 + own_gc 16 0 (0 + n1) + 0 ≤ 16; omega), (by show 20 + own_gs 16 0 (0 + n1) + 0 ≤ 320; omega)⟩)
  dsimp only [Pt.U, Pt.locs, Pt.cells, Pt.slots] at X8 l8 y8 z8 st8 hQ8
  subst l8 y8 z8
  obtain ⟨rfl, N8q, q8⟩ := hQ8
  have N8 := Fr.app N7 N8q
  have I8 : BW Z T8.heap n0 o18 16 (n1 / 8) (n1 % 8) := by rw [q8]; exact I7'
  refine ⟨T8, _, _, X8.loosen (by show 2 + own_gc 16 0 (0 + n1) + 0 ≤ 2; omega) (by show 20 + own_gs 16 0 (0 + n1) + 0 ≤ 20; omega), rfl, N8, I8, fun target kt => ?_⟩
  show Steps p.tables e below (T0.setTop (mkF m 84 #[s0, s1, s2, s3, s4, s5, s6, s7, .val (.int (Int32.ofNat n1)), s9, .val (.long j10), .second, s12, s13, s14, s15, s16, s17, .val (.ref o18), .unset, .unset, s21, s22, s23, s24, s25, s26] [])) _
  refine XS.aload X0.here hx rfl (hb hby at_84) rfl rfl ?_
  show Steps p.tables e below (T0.setTop (mkF m 86 #[s0, s1, s2, s3, s4, s5, s6, s7, .val (.int (Int32.ofNat n1)), s9, .val (.long j10), .second, s12, s13, s14, s15, s16, s17, .val (.ref o18), .unset, .unset, s21, s22, s23, s24, s25, s26] [(.ref o18)])) _
  refine XS.lload X0.here hx rfl (hb hby at_86) rfl ?_
  show Steps p.tables e below (T0.setTop (mkF m 88 #[s0, s1, s2, s3, s4, s5, s6, s7, .val (.int (Int32.ofNat n1)), s9, .val (.long j10), .second, s12, s13, s14, s15, s16, s17, .val (.ref o18), .unset, .unset, s21, s22, s23, s24, s25, s26] [(.long j10), (.ref o18)])) _
  refine XS.iload X0.here hx rfl (hb hby at_88) rfl ?_
  show Steps p.tables e below (T0.setTop (mkF m 90 #[s0, s1, s2, s3, s4, s5, s6, s7, .val (.int (Int32.ofNat n1)), s9, .val (.long j10), .second, s12, s13, s14, s15, s16, s17, .val (.ref o18), .unset, .unset, s21, s22, s23, s24, s25, s26] [(.int (Int32.ofNat n1)), (.long j10), (.ref o18)])) _
  refine st7.trans ?_
  show Steps p.tables e below (T7.setTop (mkF m 93 #[s0, s1, s2, s3, s4, s5, s6, s7, .val (.int (Int32.ofNat n1)), s9, .val (.long j10), .second, s12, s13, s14, s15, s16, s17, .val (.ref o18), .unset, .unset, s21, s22, s23, s24, s25, s26] [])) _
  refine XS.aload X7.here hx rfl (hb hby at_93) rfl rfl ?_
  show Steps p.tables e below (T7.setTop (mkF m 95 #[s0, s1, s2, s3, s4, s5, s6, s7, .val (.int (Int32.ofNat n1)), s9, .val (.long j10), .second, s12, s13, s14, s15, s16, s17, .val (.ref o18), .unset, .unset, s21, s22, s23, s24, s25, s26] [(.ref o18)])) _
  refine st8.trans ?_
  show Steps p.tables e below (T8.setTop (mkF m 98 #[s0, s1, s2, s3, s4, s5, s6, s7, .val (.int (Int32.ofNat n1)), s9, .val (.long j10), .second, s12, s13, s14, s15, s16, s17, .val (.ref o18), .unset, .unset, s21, s22, s23, s24, s25, s26] [(.long (((Int32.ofNat (n1 / 8)).toInt64 * (8 : Int64)) + ((Int32.ofNat (n1 % 8)).toInt64)))])) _
  refine XS.lstore X8.here hx rfl (hb hby at_98) rfl (l' := #[s0, s1, s2, s3, s4, s5, s6, s7, .val (.int (Int32.ofNat n1)), s9, .val (.long j10), .second, s12, s13, s14, s15, s16, s17, .val (.ref o18), .val (.long (((Int32.ofNat (n1 / 8)).toInt64 * (8 : Int64)) + ((Int32.ofNat (n1 % 8)).toInt64))), .second, s21, s22, s23, s24, s25, s26]) rfl ?_
  show Steps p.tables e below (T8.setTop (mkF m 100 #[s0, s1, s2, s3, s4, s5, s6, s7, .val (.int (Int32.ofNat n1)), s9, .val (.long j10), .second, s12, s13, s14, s15, s16, s17, .val (.ref o18), .val (.long (((Int32.ofNat (n1 / 8)).toInt64 * (8 : Int64)) + ((Int32.ofNat (n1 % 8)).toInt64))), .second, s21, s22, s23, s24, s25, s26] [])) _
  refine XS.lload X8.here hx rfl (hb hby at_100) rfl ?_
  show Steps p.tables e below (T8.setTop (mkF m 102 #[s0, s1, s2, s3, s4, s5, s6, s7, .val (.int (Int32.ofNat n1)), s9, .val (.long j10), .second, s12, s13, s14, s15, s16, s17, .val (.ref o18), .val (.long (((Int32.ofNat (n1 / 8)).toInt64 * (8 : Int64)) + ((Int32.ofNat (n1 % 8)).toInt64))), .second, s21, s22, s23, s24, s25, s26] [(.long (((Int32.ofNat (n1 / 8)).toInt64 * (8 : Int64)) + ((Int32.ofNat (n1 % 8)).toInt64)))])) _
  refine XS.iload X8.here hx rfl (hb hby at_102) rfl ?_
  show Steps p.tables e below (T8.setTop (mkF m 104 #[s0, s1, s2, s3, s4, s5, s6, s7, .val (.int (Int32.ofNat n1)), s9, .val (.long j10), .second, s12, s13, s14, s15, s16, s17, .val (.ref o18), .val (.long (((Int32.ofNat (n1 / 8)).toInt64 * (8 : Int64)) + ((Int32.ofNat (n1 % 8)).toInt64))), .second, s21, s22, s23, s24, s25, s26] [(.int (Int32.ofNat n1)), (.long (((Int32.ofNat (n1 / 8)).toInt64 * (8 : Int64)) + ((Int32.ofNat (n1 % 8)).toInt64)))])) _
  refine XS.i2l X8.here hx rfl (hb hby at_104) rfl ?_
  show Steps p.tables e below (T8.setTop (mkF m 105 #[s0, s1, s2, s3, s4, s5, s6, s7, .val (.int (Int32.ofNat n1)), s9, .val (.long j10), .second, s12, s13, s14, s15, s16, s17, .val (.ref o18), .val (.long (((Int32.ofNat (n1 / 8)).toInt64 * (8 : Int64)) + ((Int32.ofNat (n1 % 8)).toInt64))), .second, s21, s22, s23, s24, s25, s26] [(.long ((Int32.ofNat n1).toInt64)), (.long (((Int32.ofNat (n1 / 8)).toInt64 * (8 : Int64)) + ((Int32.ofNat (n1 % 8)).toInt64)))])) _
  refine XS.lcmp X8.here hx rfl (hb hby at_105) rfl ?_
  show Steps p.tables e below (T8.setTop (mkF m 106 #[s0, s1, s2, s3, s4, s5, s6, s7, .val (.int (Int32.ofNat n1)), s9, .val (.long j10), .second, s12, s13, s14, s15, s16, s17, .val (.ref o18), .val (.long (((Int32.ofNat (n1 / 8)).toInt64 * (8 : Int64)) + ((Int32.ofNat (n1 % 8)).toInt64))), .second, s21, s22, s23, s24, s25, s26] [(.int (lcmpW (((Int32.ofNat (n1 / 8)).toInt64 * (8 : Int64)) + ((Int32.ofNat (n1 % 8)).toInt64)) ((Int32.ofNat n1).toInt64)))])) _
  refine XS.ifYes X8.here hx rfl (pc0 := 106) (pc' := 111) rfl (hb hby at_106) rfl ((if0 _ _).trans (teq ((lw_eq _ _).mpr (by rw [own_bits (X := n1) (by omega) (by omega), own_i2l (by omega)]) : (lcmpW (((Int32.ofNat (n1 / 8)).toInt64 * (8 : Int64)) + ((Int32.ofNat (n1 % 8)).toInt64)) ((Int32.ofNat n1).toInt64)) = (0 : Int32))).1) (by decide) (by decide) ?_
  exact kt
theorem pd_0_3 : parseMethodDescriptor "(J)V" = some ⟨[.long], none⟩ := by decide +kernel
set_option maxRecDepth 65536 in
set_option maxHeartbeats 40000000 in
theorem tn0_111_158 {p : Program} {l : Launch} {e : Env} {s : State} {m : MethodId} {args : Array Value} {below : List Frame} {meth : Method} {c : Code} {T0 : State} {locs : List Loc} {Z : State} {a0 : Array Value} {h0 : Heap} {n0 : Nat} (s0 : Slot) (s1 : Slot) (s2 : Slot) (s3 : Slot) (s4 : Slot) (s5 : Slot) (s6 : Slot) (s7 : Slot) (n1 n2 : Nat) (s10 : Slot) (s11 : Slot) (j12 : Int64) (u : Nat) (s16 : Slot) (s17 : Slot) (o18 : Addr) (s19 : Slot) (s20 : Slot) (s25 : Slot) (s26 : Slot)
    (X0 : Stand p l e room_1 s m args below meth c T0 locs 2 20) (hx : p.tables.exec = Jvm.exec) (hZ : Z.Warmed39 s.vm) (hw : ∀ d ∈ tables_1, d.before a0 Z = true) (hby : c.code = code) (hml : c.maxLocals = 27) (hown : s.vm.findClass "com/example/wrasse/wrasse/index/BitWriterBitSizePinLaw" = some m.cls) (e0 : T0.heap = h0) (N0 : Fr n0 locs) (hI : BW Z h0 n0 o18 16 (n1 / 8) (n1 % 8)) (hn1 : n1 ≤ 56) (hn2 : n2 ≤ 56) (hu : u ≤ 127) :
    ∃ (T' : State) (h' : Heap) (locs' : List Loc) (N' sz' pb' : Nat) (j23 : Int64), Stand p l e room_1 s m args below meth c T' locs' 4 116 ∧ T'.heap = h' ∧ Fr n0 locs' ∧ BW Z h' n0 o18 N' sz' pb' ∧ own_is N' ∧ sz' ≤ N' ∧ pb' ≤ 7 ∧ 8 * sz' + pb' = n1 + n2 + u + 1 ∧
      ∀ target, Steps p.tables e below (T'.setTop (mkF m 158 #[s0, s1, s2, s3, s4, s5, s6, s7, .val (.int (Int32.ofNat n1)), .val (.int (Int32.ofNat n2)), s10, s11, .val (.long j12), .second, .val (.long (Int64.ofNat u)), .second, s16, s17, .val (.ref o18), s19, s20, .val (.long (((((Int32.ofNat n1).toInt64) + ((Int32.ofNat n2).toInt64)) + (Int64.ofNat u)) + (1 : Int64))), .second, .val (.long j23), .second, s25, s26] [])) target → Steps p.tables e below (T0.setTop (mkF m 111 #[s0, s1, s2, s3, s4, s5, s6, s7, .val (.int (Int32.ofNat n1)), .val (.int (Int32.ofNat n2)), s10, s11, .val (.long j12), .second, .val (.long (Int64.ofNat u)), .second, s16, s17, .val (.ref o18), s19, s20, .unset, .unset, .unset, .unset, s25, s26] [])) target := by
  have gr : own_gr 16 (n1 / 8) (n1 % 8 + n2) = false := by simp [own_gr]; omega
  have gc : own_gc 16 (n1 / 8) (n1 % 8 + n2) = 0 := by unfold own_gc; rw [gr]; rfl
  have gs : own_gs 16 (n1 / 8) (n1 % 8 + n2) = 0 := by unfold own_gs; rw [gr]; rfl
  have gN : own_N 16 (n1 / 8) (n1 % 8 + n2) = 16 := by unfold own_N; rw [gr]; rfl
  obtain ⟨cq7, kq7, q7a, q7b, q7c⟩ := isOf hZ e0 hI.2.1
  obtain ⟨_, _, ⟨T7, L7, k7, n7⟩, -, X7, ⟨Lc7, hQ7, l7, y7, z7⟩, st7⟩ := X0.virtualBack hx (y := (⟨"com/example/wrasse/wrasse/index/BitWriter", "writeBits", "(JI)V"⟩ : MethodName)) (z := (⟨"com/example/wrasse/wrasse/index/BitWriter", "writeBits", "(JI)V"⟩ : MethodName)) hown (mvT hZ (hw _ (List.mem_of_getElem? (i := 13) rfl))) (mvT hZ (hw _ (List.mem_of_getElem? (i := 14) rfl))) (notFace_of_selects (args := #[]) (mvT hZ (hw _ (List.mem_of_getElem? (i := 16) rfl)))) (mvT hZ (hw _ (List.mem_of_getElem? (i := 16) rfl))) (mvT hZ (hw _ (List.mem_of_getElem? (i := 15) rfl))) (by decide) (backOf (W := 0) (rm3 l Z a0 hw [] o18 j12 n2 16 (n1 / 8) (n1 % 8) h0 n0 hI (by omega) hn2 (by decide) (by decide) (by omega) (by omega)) hZ (hw _ (List.mem_of_getElem? (i := 17) rfl)) (hw _ (List.mem_of_getElem? (i := 3) rfl)) (by show 2 + 1 ≤ 7; decide) (by show 0 + (4 + 11) + 55 ≤ 176; decide)) q7a q7c (g := (mkF m 117 #[s0, s1, s2, s3, s4, s5, s6, s7, .val (.int (Int32.ofNat n1)), .val (.int (Int32.ofNat n2)), s10, s11, .val (.long j12), .second, .val (.long (Int64.ofNat u)), .second, s16, s17, .val (.ref o18), s19, s20, .unset, .unset, .unset, .unset, s25, s26] [(.int (Int32.ofNat n2)), (.long j12), (.ref o18)])) rfl (by rw [hml]; rfl) (Steps.refl _) (argsL := [(.long j12), (.int (Int32.ofNat n2))]) (rest := []) (lenOf pd_0_1 rfl) rfl (by show 2 * 0 + _ ≤ _; exact Nat.le_of_eq rfl) (hb hby at_117) (fun _ _ => ⟨rfl, e0, (by show 2 + own_gc 16 (n1 / 8) (n1 % 8 + n2) ≤ 16; omega), (by show 20 + own_gs 16 (n1 / 8) (n1 % 8 + n2) ≤ 320; omega)⟩)
  dsimp only [Pt.U, Pt.locs, Pt.cells, Pt.slots] at X7 l7 y7 z7 st7 hQ7
  subst l7 y7 z7
  obtain ⟨rfl, N7q, I7⟩ := hQ7
  have N7 := Fr.app N0 N7q
  rw [gN] at I7
  obtain ⟨cq8, kq8, q8a, q8b, q8c⟩ := isOf hZ rfl I7.2.1
  obtain ⟨_, _, ⟨T8, L8, k8, n8⟩, -, X8, ⟨Lc8, hQ8, l8, y8, z8⟩, st8⟩ := X7.virtualBack hx (y := (⟨"com/example/wrasse/wrasse/index/BitWriter", "writeUnary", "(J)V"⟩ : MethodName)) (z := (⟨"com/example/wrasse/wrasse/index/BitWriter", "writeUnary", "(J)V"⟩ : MethodName)) hown (mvT hZ (hw _ (List.mem_of_getElem? (i := 30) rfl))) (mvT hZ (hw _ (List.mem_of_getElem? (i := 31) rfl))) (notFace_of_selects (args := #[]) (mvT hZ (hw _ (List.mem_of_getElem? (i := 33) rfl)))) (mvT hZ (hw _ (List.mem_of_getElem? (i := 33) rfl))) (mvT hZ (hw _ (List.mem_of_getElem? (i := 32) rfl))) (by decide) (backOf (W := 0) (rm5 l Z a0 hw [] o18 u (n1 / 8 + (n1 % 8 + n2) / 8) ((n1 % 8 + n2) % 8) T7.heap n0 I7 hu (by omega) (by omega)) hZ (hw _ (List.mem_of_getElem? (i := 34) rfl)) (hw _ (List.mem_of_getElem? (i := 3) rfl)) (by show 3 + 1 ≤ 7; decide) (by show 0 + (5 + 11) + 70 ≤ 176; decide)) q8a q8c (g := (mkF m 124 #[s0, s1, s2, s3, s4, s5, s6, s7, .val (.int (Int32.ofNat n1)), .val (.int (Int32.ofNat n2)), s10, s11, .val (.long j12), .second, .val (.long (Int64.ofNat u)), .second, s16, s17, .val (.ref o18), s19, s20, .unset, .unset, .unset, .unset, s25, s26] [(.long (Int64.ofNat u)), (.ref o18)])) rfl (by rw [hml]; rfl) (Steps.refl _) (argsL := [(.long (Int64.ofNat u))]) (rest := []) (lenOf pd_0_3 rfl) rfl (by show 2 * 0 + _ ≤ _; exact Nat.le_of_eq rfl) (hb hby at_124) (fun _ _ => ⟨rfl, rfl, (by show 2 + own_gc 16 (n1 / 8) (n1 % 8 + n2) + 2 ≤ 16; omega), (by show 20 + own_gs 16 (n1 / 8) (n1 % 8 + n2) + 96 ≤ 320; omega)⟩)
  dsimp only [Pt.U, Pt.locs, Pt.cells, Pt.slots] at X8 l8 y8 z8 st8 hQ8
  subst l8 y8 z8
  obtain ⟨rfl, N8q, N8', z8', p8', I8, v1, v2, v3, v4⟩ := hQ8
  have N8 := Fr.app N7 N8q
  have I8' := I8
  obtain ⟨Z8, E8, g8, t8, cl8, w8, Fb8, Fs8, Fp8, Fq8, r8⟩ := I8
  obtain ⟨cq9, kq9, q9a, q9b, q9c⟩ := isOf hZ rfl E8
  obtain ⟨_, _, ⟨T9, L9, k9, n9⟩, -, X9, ⟨Lc9, hQ9, l9, y9, z9⟩, st9⟩ := X8.virtualBack hx (y := (⟨"com/example/wrasse/wrasse/index/BitWriter", "bitSize", "()J"⟩ : MethodName)) (z := (⟨"com/example/wrasse/wrasse/index/BitWriter", "bitSize", "()J"⟩ : MethodName)) hown (mvT hZ (hw _ (List.mem_of_getElem? (i := 22) rfl))) (mvT hZ (hw _ (List.mem_of_getElem? (i := 23) rfl))) (notFace_of_selects (args := #[]) (mvT hZ (hw _ (List.mem_of_getElem? (i := 25) rfl)))) (mvT hZ (hw _ (List.mem_of_getElem? (i := 25) rfl))) (mvT hZ (hw _ (List.mem_of_getElem? (i := 24) rfl))) (by decide) (backOf (W := 0) (rm4 l Z a0 hw [] o18 (Int32.ofNat z8') (Int32.ofNat p8') T8.heap n0 Z8 Fs8 Fq8) hZ (hw _ (List.mem_of_getElem? (i := 26) rfl)) (hw _ (List.mem_of_getElem? (i := 3) rfl)) (by show 0 + 1 ≤ 7; decide) (by show 0 + (1 + 11) + 0 ≤ 176; decide)) q9a q9c (g := (mkF m 143 #[s0, s1, s2, s3, s4, s5, s6, s7, .val (.int (Int32.ofNat n1)), .val (.int (Int32.ofNat n2)), s10, s11, .val (.long j12), .second, .val (.long (Int64.ofNat u)), .second, s16, s17, .val (.ref o18), s19, s20, .val (.long (((((Int32.ofNat n1).toInt64) + ((Int32.ofNat n2).toInt64)) + (Int64.ofNat u)) + (1 : Int64))), .second, .unset, .unset, s25, s26] [(.ref o18)])) rfl (by rw [hml]; rfl) (Steps.refl _) (argsL := []) (rest := []) (lenOf pd_0_2 rfl) rfl (by show 2 * 0 + _ ≤ _; exact Nat.le_of_eq rfl) (hb hby at_143) (fun _ _ => ⟨rfl, rfl, (by show 2 + own_gc 16 (n1 / 8) (n1 % 8 + n2) + 2 + 0 ≤ 16; omega), (by show 20 + own_gs 16 (n1 / 8) (n1 % 8 + n2) + 96 + 0 ≤ 320; omega)⟩)
  dsimp only [Pt.U, Pt.locs, Pt.cells, Pt.slots] at X9 l9 y9 z9 st9 hQ9
  subst l9 y9 z9
  obtain ⟨rfl, N9q, q9⟩ := hQ9
  have N9 := Fr.app N8 N9q
  have I9 : BW Z T9.heap n0 o18 N8' z8' p8' := by rw [q9]; exact I8'
  have v5 : 8 * z8' + p8' = n1 + n2 + u + 1 := by omega
  refine ⟨T9, _, _, N8', z8', p8', (((Int32.ofNat z8').toInt64 * (8 : Int64)) + ((Int32.ofNat p8').toInt64)), X9.loosen (by show 2 + own_gc 16 (n1 / 8) (n1 % 8 + n2) + 2 + 0 ≤ 4; omega) (by show 20 + own_gs 16 (n1 / 8) (n1 % 8 + n2) + 96 + 0 ≤ 116; omega), rfl, N9, I9, v1, v2, v3, v5, fun target kt => ?_⟩
  show Steps p.tables e below (T0.setTop (mkF m 111 #[s0, s1, s2, s3, s4, s5, s6, s7, .val (.int (Int32.ofNat n1)), .val (.int (Int32.ofNat n2)), s10, s11, .val (.long j12), .second, .val (.long (Int64.ofNat u)), .second, s16, s17, .val (.ref o18), s19, s20, .unset, .unset, .unset, .unset, s25, s26] [])) _
  refine XS.aload X0.here hx rfl (hb hby at_111) rfl rfl ?_
  show Steps p.tables e below (T0.setTop (mkF m 113 #[s0, s1, s2, s3, s4, s5, s6, s7, .val (.int (Int32.ofNat n1)), .val (.int (Int32.ofNat n2)), s10, s11, .val (.long j12), .second, .val (.long (Int64.ofNat u)), .second, s16, s17, .val (.ref o18), s19, s20, .unset, .unset, .unset, .unset, s25, s26] [(.ref o18)])) _
  refine XS.lload X0.here hx rfl (hb hby at_113) rfl ?_
  show Steps p.tables e below (T0.setTop (mkF m 115 #[s0, s1, s2, s3, s4, s5, s6, s7, .val (.int (Int32.ofNat n1)), .val (.int (Int32.ofNat n2)), s10, s11, .val (.long j12), .second, .val (.long (Int64.ofNat u)), .second, s16, s17, .val (.ref o18), s19, s20, .unset, .unset, .unset, .unset, s25, s26] [(.long j12), (.ref o18)])) _
  refine XS.iload X0.here hx rfl (hb hby at_115) rfl ?_
  show Steps p.tables e below (T0.setTop (mkF m 117 #[s0, s1, s2, s3, s4, s5, s6, s7, .val (.int (Int32.ofNat n1)), .val (.int (Int32.ofNat n2)), s10, s11, .val (.long j12), .second, .val (.long (Int64.ofNat u)), .second, s16, s17, .val (.ref o18), s19, s20, .unset, .unset, .unset, .unset, s25, s26] [(.int (Int32.ofNat n2)), (.long j12), (.ref o18)])) _
  refine st7.trans ?_
  show Steps p.tables e below (T7.setTop (mkF m 120 #[s0, s1, s2, s3, s4, s5, s6, s7, .val (.int (Int32.ofNat n1)), .val (.int (Int32.ofNat n2)), s10, s11, .val (.long j12), .second, .val (.long (Int64.ofNat u)), .second, s16, s17, .val (.ref o18), s19, s20, .unset, .unset, .unset, .unset, s25, s26] [])) _
  refine XS.aload X7.here hx rfl (hb hby at_120) rfl rfl ?_
  show Steps p.tables e below (T7.setTop (mkF m 122 #[s0, s1, s2, s3, s4, s5, s6, s7, .val (.int (Int32.ofNat n1)), .val (.int (Int32.ofNat n2)), s10, s11, .val (.long j12), .second, .val (.long (Int64.ofNat u)), .second, s16, s17, .val (.ref o18), s19, s20, .unset, .unset, .unset, .unset, s25, s26] [(.ref o18)])) _
  refine XS.lload X7.here hx rfl (hb hby at_122) rfl ?_
  show Steps p.tables e below (T7.setTop (mkF m 124 #[s0, s1, s2, s3, s4, s5, s6, s7, .val (.int (Int32.ofNat n1)), .val (.int (Int32.ofNat n2)), s10, s11, .val (.long j12), .second, .val (.long (Int64.ofNat u)), .second, s16, s17, .val (.ref o18), s19, s20, .unset, .unset, .unset, .unset, s25, s26] [(.long (Int64.ofNat u)), (.ref o18)])) _
  refine st8.trans ?_
  show Steps p.tables e below (T8.setTop (mkF m 127 #[s0, s1, s2, s3, s4, s5, s6, s7, .val (.int (Int32.ofNat n1)), .val (.int (Int32.ofNat n2)), s10, s11, .val (.long j12), .second, .val (.long (Int64.ofNat u)), .second, s16, s17, .val (.ref o18), s19, s20, .unset, .unset, .unset, .unset, s25, s26] [])) _
  refine XS.iload X8.here hx rfl (hb hby at_127) rfl ?_
  show Steps p.tables e below (T8.setTop (mkF m 129 #[s0, s1, s2, s3, s4, s5, s6, s7, .val (.int (Int32.ofNat n1)), .val (.int (Int32.ofNat n2)), s10, s11, .val (.long j12), .second, .val (.long (Int64.ofNat u)), .second, s16, s17, .val (.ref o18), s19, s20, .unset, .unset, .unset, .unset, s25, s26] [(.int (Int32.ofNat n1))])) _
  refine XS.i2l X8.here hx rfl (hb hby at_129) rfl ?_
  show Steps p.tables e below (T8.setTop (mkF m 130 #[s0, s1, s2, s3, s4, s5, s6, s7, .val (.int (Int32.ofNat n1)), .val (.int (Int32.ofNat n2)), s10, s11, .val (.long j12), .second, .val (.long (Int64.ofNat u)), .second, s16, s17, .val (.ref o18), s19, s20, .unset, .unset, .unset, .unset, s25, s26] [(.long ((Int32.ofNat n1).toInt64))])) _
  refine XS.iload X8.here hx rfl (hb hby at_130) rfl ?_
  show Steps p.tables e below (T8.setTop (mkF m 132 #[s0, s1, s2, s3, s4, s5, s6, s7, .val (.int (Int32.ofNat n1)), .val (.int (Int32.ofNat n2)), s10, s11, .val (.long j12), .second, .val (.long (Int64.ofNat u)), .second, s16, s17, .val (.ref o18), s19, s20, .unset, .unset, .unset, .unset, s25, s26] [(.int (Int32.ofNat n2)), (.long ((Int32.ofNat n1).toInt64))])) _
  refine XS.i2l X8.here hx rfl (hb hby at_132) rfl ?_
  show Steps p.tables e below (T8.setTop (mkF m 133 #[s0, s1, s2, s3, s4, s5, s6, s7, .val (.int (Int32.ofNat n1)), .val (.int (Int32.ofNat n2)), s10, s11, .val (.long j12), .second, .val (.long (Int64.ofNat u)), .second, s16, s17, .val (.ref o18), s19, s20, .unset, .unset, .unset, .unset, s25, s26] [(.long ((Int32.ofNat n2).toInt64)), (.long ((Int32.ofNat n1).toInt64))])) _
  refine XS.ladd X8.here hx rfl (hb hby at_133) rfl ?_
  show Steps p.tables e below (T8.setTop (mkF m 134 #[s0, s1, s2, s3, s4, s5, s6, s7, .val (.int (Int32.ofNat n1)), .val (.int (Int32.ofNat n2)), s10, s11, .val (.long j12), .second, .val (.long (Int64.ofNat u)), .second, s16, s17, .val (.ref o18), s19, s20, .unset, .unset, .unset, .unset, s25, s26] [(.long (((Int32.ofNat n1).toInt64) + ((Int32.ofNat n2).toInt64)))])) _
  refine XS.lload X8.here hx rfl (hb hby at_134) rfl ?_
  show Steps p.tables e below (T8.setTop (mkF m 136 #[s0, s1, s2, s3, s4, s5, s6, s7, .val (.int (Int32.ofNat n1)), .val (.int (Int32.ofNat n2)), s10, s11, .val (.long j12), .second, .val (.long (Int64.ofNat u)), .second, s16, s17, .val (.ref o18), s19, s20, .unset, .unset, .unset, .unset, s25, s26] [(.long (Int64.ofNat u)), (.long (((Int32.ofNat n1).toInt64) + ((Int32.ofNat n2).toInt64)))])) _
  refine XS.ladd X8.here hx rfl (hb hby at_136) rfl ?_
  show Steps p.tables e below (T8.setTop (mkF m 137 #[s0, s1, s2, s3, s4, s5, s6, s7, .val (.int (Int32.ofNat n1)), .val (.int (Int32.ofNat n2)), s10, s11, .val (.long j12), .second, .val (.long (Int64.ofNat u)), .second, s16, s17, .val (.ref o18), s19, s20, .unset, .unset, .unset, .unset, s25, s26] [(.long ((((Int32.ofNat n1).toInt64) + ((Int32.ofNat n2).toInt64)) + (Int64.ofNat u)))])) _
  refine XS.lconst X8.here hx rfl (hb hby at_137) ?_
  show Steps p.tables e below (T8.setTop (mkF m 138 #[s0, s1, s2, s3, s4, s5, s6, s7, .val (.int (Int32.ofNat n1)), .val (.int (Int32.ofNat n2)), s10, s11, .val (.long j12), .second, .val (.long (Int64.ofNat u)), .second, s16, s17, .val (.ref o18), s19, s20, .unset, .unset, .unset, .unset, s25, s26] [(.long (1 : Int64)), (.long ((((Int32.ofNat n1).toInt64) + ((Int32.ofNat n2).toInt64)) + (Int64.ofNat u)))])) _
  refine XS.ladd X8.here hx rfl (hb hby at_138) rfl ?_
  show Steps p.tables e below (T8.setTop (mkF m 139 #[s0, s1, s2, s3, s4, s5, s6, s7, .val (.int (Int32.ofNat n1)), .val (.int (Int32.ofNat n2)), s10, s11, .val (.long j12), .second, .val (.long (Int64.ofNat u)), .second, s16, s17, .val (.ref o18), s19, s20, .unset, .unset, .unset, .unset, s25, s26] [(.long (((((Int32.ofNat n1).toInt64) + ((Int32.ofNat n2).toInt64)) + (Int64.ofNat u)) + (1 : Int64)))])) _
  refine XS.lstore X8.here hx rfl (hb hby at_139) rfl (l' := #[s0, s1, s2, s3, s4, s5, s6, s7, .val (.int (Int32.ofNat n1)), .val (.int (Int32.ofNat n2)), s10, s11, .val (.long j12), .second, .val (.long (Int64.ofNat u)), .second, s16, s17, .val (.ref o18), s19, s20, .val (.long (((((Int32.ofNat n1).toInt64) + ((Int32.ofNat n2).toInt64)) + (Int64.ofNat u)) + (1 : Int64))), .second, .unset, .unset, s25, s26]) rfl ?_
  show Steps p.tables e below (T8.setTop (mkF m 141 #[s0, s1, s2, s3, s4, s5, s6, s7, .val (.int (Int32.ofNat n1)), .val (.int (Int32.ofNat n2)), s10, s11, .val (.long j12), .second, .val (.long (Int64.ofNat u)), .second, s16, s17, .val (.ref o18), s19, s20, .val (.long (((((Int32.ofNat n1).toInt64) + ((Int32.ofNat n2).toInt64)) + (Int64.ofNat u)) + (1 : Int64))), .second, .unset, .unset, s25, s26] [])) _
  refine XS.aload X8.here hx rfl (hb hby at_141) rfl rfl ?_
  show Steps p.tables e below (T8.setTop (mkF m 143 #[s0, s1, s2, s3, s4, s5, s6, s7, .val (.int (Int32.ofNat n1)), .val (.int (Int32.ofNat n2)), s10, s11, .val (.long j12), .second, .val (.long (Int64.ofNat u)), .second, s16, s17, .val (.ref o18), s19, s20, .val (.long (((((Int32.ofNat n1).toInt64) + ((Int32.ofNat n2).toInt64)) + (Int64.ofNat u)) + (1 : Int64))), .second, .unset, .unset, s25, s26] [(.ref o18)])) _
  refine st9.trans ?_
  show Steps p.tables e below (T9.setTop (mkF m 146 #[s0, s1, s2, s3, s4, s5, s6, s7, .val (.int (Int32.ofNat n1)), .val (.int (Int32.ofNat n2)), s10, s11, .val (.long j12), .second, .val (.long (Int64.ofNat u)), .second, s16, s17, .val (.ref o18), s19, s20, .val (.long (((((Int32.ofNat n1).toInt64) + ((Int32.ofNat n2).toInt64)) + (Int64.ofNat u)) + (1 : Int64))), .second, .unset, .unset, s25, s26] [(.long (((Int32.ofNat z8').toInt64 * (8 : Int64)) + ((Int32.ofNat p8').toInt64)))])) _
  refine XS.lstore X9.here hx rfl (hb hby at_146) rfl (l' := #[s0, s1, s2, s3, s4, s5, s6, s7, .val (.int (Int32.ofNat n1)), .val (.int (Int32.ofNat n2)), s10, s11, .val (.long j12), .second, .val (.long (Int64.ofNat u)), .second, s16, s17, .val (.ref o18), s19, s20, .val (.long (((((Int32.ofNat n1).toInt64) + ((Int32.ofNat n2).toInt64)) + (Int64.ofNat u)) + (1 : Int64))), .second, .val (.long (((Int32.ofNat z8').toInt64 * (8 : Int64)) + ((Int32.ofNat p8').toInt64))), .second, s25, s26]) rfl ?_
  show Steps p.tables e below (T9.setTop (mkF m 148 #[s0, s1, s2, s3, s4, s5, s6, s7, .val (.int (Int32.ofNat n1)), .val (.int (Int32.ofNat n2)), s10, s11, .val (.long j12), .second, .val (.long (Int64.ofNat u)), .second, s16, s17, .val (.ref o18), s19, s20, .val (.long (((((Int32.ofNat n1).toInt64) + ((Int32.ofNat n2).toInt64)) + (Int64.ofNat u)) + (1 : Int64))), .second, .val (.long (((Int32.ofNat z8').toInt64 * (8 : Int64)) + ((Int32.ofNat p8').toInt64))), .second, s25, s26] [])) _
  refine XS.lload X9.here hx rfl (hb hby at_148) rfl ?_
  show Steps p.tables e below (T9.setTop (mkF m 150 #[s0, s1, s2, s3, s4, s5, s6, s7, .val (.int (Int32.ofNat n1)), .val (.int (Int32.ofNat n2)), s10, s11, .val (.long j12), .second, .val (.long (Int64.ofNat u)), .second, s16, s17, .val (.ref o18), s19, s20, .val (.long (((((Int32.ofNat n1).toInt64) + ((Int32.ofNat n2).toInt64)) + (Int64.ofNat u)) + (1 : Int64))), .second, .val (.long (((Int32.ofNat z8').toInt64 * (8 : Int64)) + ((Int32.ofNat p8').toInt64))), .second, s25, s26] [(.long (((Int32.ofNat z8').toInt64 * (8 : Int64)) + ((Int32.ofNat p8').toInt64)))])) _
  refine XS.lload X9.here hx rfl (hb hby at_150) rfl ?_
  show Steps p.tables e below (T9.setTop (mkF m 152 #[s0, s1, s2, s3, s4, s5, s6, s7, .val (.int (Int32.ofNat n1)), .val (.int (Int32.ofNat n2)), s10, s11, .val (.long j12), .second, .val (.long (Int64.ofNat u)), .second, s16, s17, .val (.ref o18), s19, s20, .val (.long (((((Int32.ofNat n1).toInt64) + ((Int32.ofNat n2).toInt64)) + (Int64.ofNat u)) + (1 : Int64))), .second, .val (.long (((Int32.ofNat z8').toInt64 * (8 : Int64)) + ((Int32.ofNat p8').toInt64))), .second, s25, s26] [(.long (((((Int32.ofNat n1).toInt64) + ((Int32.ofNat n2).toInt64)) + (Int64.ofNat u)) + (1 : Int64))), (.long (((Int32.ofNat z8').toInt64 * (8 : Int64)) + ((Int32.ofNat p8').toInt64)))])) _
  refine XS.lcmp X9.here hx rfl (hb hby at_152) rfl ?_
  show Steps p.tables e below (T9.setTop (mkF m 153 #[s0, s1, s2, s3, s4, s5, s6, s7, .val (.int (Int32.ofNat n1)), .val (.int (Int32.ofNat n2)), s10, s11, .val (.long j12), .second, .val (.long (Int64.ofNat u)), .second, s16, s17, .val (.ref o18), s19, s20, .val (.long (((((Int32.ofNat n1).toInt64) + ((Int32.ofNat n2).toInt64)) + (Int64.ofNat u)) + (1 : Int64))), .second, .val (.long (((Int32.ofNat z8').toInt64 * (8 : Int64)) + ((Int32.ofNat p8').toInt64))), .second, s25, s26] [(.int (lcmpW (((Int32.ofNat z8').toInt64 * (8 : Int64)) + ((Int32.ofNat p8').toInt64)) (((((Int32.ofNat n1).toInt64) + ((Int32.ofNat n2).toInt64)) + (Int64.ofNat u)) + (1 : Int64))))])) _
  refine XS.ifYes X9.here hx rfl (pc0 := 153) (pc' := 158) rfl (hb hby at_153) rfl ((if0 _ _).trans (teq ((lw_eq _ _).mpr (by rw [own_bits v5 (by omega), own_expect (by omega) (by omega) (by omega)]) : (lcmpW (((Int32.ofNat z8').toInt64 * (8 : Int64)) + ((Int32.ofNat p8').toInt64)) (((((Int32.ofNat n1).toInt64) + ((Int32.ofNat n2).toInt64)) + (Int64.ofNat u)) + (1 : Int64))) = (0 : Int32))).1) (by decide) (by decide) ?_
  exact kt
set_option maxRecDepth 65536 in
set_option maxHeartbeats 40000000 in
theorem tn0_158_197_t {p : Program} {l : Launch} {e : Env} {R : Room} {s : State} {m : MethodId} {args : Array Value} {below : List Frame} {meth : Method} {c : Code} {T0 : State} {locs : List Loc} {cells slots : Nat} {Z : State} {a0 : Array Value} {h0 : Heap} (s0 : Slot) (s1 : Slot) (s2 : Slot) (s3 : Slot) (s4 : Slot) (s5 : Slot) (s6 : Slot) (s7 : Slot) (s8 : Slot) (s9 : Slot) (s10 : Slot) (s11 : Slot) (s12 : Slot) (s13 : Slot) (s14 : Slot) (s15 : Slot) (i16 : Int32) (s17 : Slot) (s18 : Slot) (s19 : Slot) (s20 : Slot) (s21 : Slot) (s22 : Slot) (s23 : Slot) (s24 : Slot) (s25 : Slot) (s26 : Slot)
    (X0 : Stand p l e R s m args below meth c T0 locs cells slots) (hx : p.tables.exec = Jvm.exec) (hZ : Z.Warmed39 s.vm) (hw : ∀ d ∈ tables_1, d.before a0 Z = true) (hby : c.code = code) (hml : c.maxLocals = 27) (hown : s.vm.findClass "com/example/wrasse/wrasse/index/BitWriterBitSizePinLaw" = some m.cls) (e0 : T0.heap = h0) (hc160 : i16 = (0 : Int32)) :
    ∃ (T' : State), Stand p l e R s m args below meth c T' locs cells slots ∧ T'.heap = h0 ∧
      ∀ target, Steps p.tables e below (T'.setTop (mkF m 197 #[s0, s1, s2, s3, s4, s5, s6, s7, s8, s9, s10, s11, s12, s13, s14, s15, .val (.int i16), s17, s18, s19, s20, s21, s22, s23, s24, s25, s26] [])) target → Steps p.tables e below (T0.setTop (mkF m 158 #[s0, s1, s2, s3, s4, s5, s6, s7, s8, s9, s10, s11, s12, s13, s14, s15, .val (.int i16), s17, s18, s19, s20, s21, s22, s23, s24, s25, s26] [])) target := by
  refine ⟨T0, X0, e0, fun target kt => ?_⟩
  show Steps p.tables e below (T0.setTop (mkF m 158 #[s0, s1, s2, s3, s4, s5, s6, s7, s8, s9, s10, s11, s12, s13, s14, s15, .val (.int i16), s17, s18, s19, s20, s21, s22, s23, s24, s25, s26] [])) _
  refine XS.iload X0.here hx rfl (hb hby at_158) rfl ?_
  show Steps p.tables e below (T0.setTop (mkF m 160 #[s0, s1, s2, s3, s4, s5, s6, s7, s8, s9, s10, s11, s12, s13, s14, s15, .val (.int i16), s17, s18, s19, s20, s21, s22, s23, s24, s25, s26] [(.int i16)])) _
  refine XS.ifYes X0.here hx rfl (pc0 := 160) (pc' := 197) rfl (hb hby at_160) rfl ((if0 _ _).trans (teq hc160).1) (by decide) (by decide) ?_
  exact kt
set_option maxRecDepth 65536 in
set_option maxHeartbeats 40000000 in
theorem tn0_158_197_f {p : Program} {l : Launch} {e : Env} {s : State} {m : MethodId} {args : Array Value} {below : List Frame} {meth : Method} {c : Code} {T0 : State} {locs : List Loc} {Z : State} {a0 : Array Value} {h0 : Heap} {n0 : Nat} (s0 : Slot) (s1 : Slot) (s2 : Slot) (s3 : Slot) (s4 : Slot) (s5 : Slot) (s6 : Slot) (s7 : Slot) (s8 : Slot) (s9 : Slot) (s10 : Slot) (s11 : Slot) (s12 : Slot) (s13 : Slot) (s14 : Slot) (s15 : Slot) (i16 : Int32) (s17 : Slot) (o18 : Addr) (s19 : Slot) (s20 : Slot) (X N sz pb : Nat) (s23 : Slot) (s24 : Slot)
    (X0 : Stand p l e room_1 s m args below meth c T0 locs 4 116) (hx : p.tables.exec = Jvm.exec) (hZ : Z.Warmed39 s.vm) (hw : ∀ d ∈ tables_1, d.before a0 Z = true) (hby : c.code = code) (hml : c.maxLocals = 27) (hown : s.vm.findClass "com/example/wrasse/wrasse/index/BitWriterBitSizePinLaw" = some m.cls) (e0 : T0.heap = h0) (N0 : Fr n0 locs) (hI : BW Z h0 n0 o18 N sz pb) (hN : own_is N) (hsN : sz ≤ N) (hpb : pb ≤ 7) (hX : 8 * sz + pb = X) (hX2 : X ≤ 240) (hc160 : ¬ (i16 = (0 : Int32))) :
    ∃ (T' : State) (h' : Heap) (locs' : List Loc) (N' sz' : Nat), Stand p l e room_1 s m args below meth c T' locs' 5 180 ∧ T'.heap = h' ∧ Fr n0 locs' ∧ BW Z h' n0 o18 N' sz' 0 ∧
      ∀ target, Steps p.tables e below (T'.setTop (mkF m 197 #[s0, s1, s2, s3, s4, s5, s6, s7, s8, s9, s10, s11, s12, s13, s14, s15, .val (.int i16), s17, .val (.ref o18), s19, s20, .val (.long (Int64.ofNat X)), .second, s23, s24, .val (.long ((((Int64.ofNat X) + (7 : Int64)) / (8 : Int64)) * (8 : Int64))), .second] [])) target → Steps p.tables e below (T0.setTop (mkF m 158 #[s0, s1, s2, s3, s4, s5, s6, s7, s8, s9, s10, s11, s12, s13, s14, s15, .val (.int i16), s17, .val (.ref o18), s19, s20, .val (.long (Int64.ofNat X)), .second, s23, s24, .unset, .unset] [])) target := by
  have hnz177 : ¬ ((8 : Int64) = (0 : Int64)) := by decide
  obtain ⟨cq7, kq7, q7a, q7b, q7c⟩ := isOf hZ e0 hI.2.1
  obtain ⟨_, _, ⟨T7, L7, k7, n7⟩, -, X7, ⟨Lc7, hQ7, l7, y7, z7⟩, st7⟩ := X0.virtualBack hx (y := (⟨"com/example/wrasse/wrasse/index/BitWriter", "alignToByte", "()V"⟩ : MethodName)) (z := (⟨"com/example/wrasse/wrasse/index/BitWriter", "alignToByte", "()V"⟩ : MethodName)) hown (mvT hZ (hw _ (List.mem_of_getElem? (i := 37) rfl))) (mvT hZ (hw _ (List.mem_of_getElem? (i := 38) rfl))) (notFace_of_selects (args := #[]) (mvT hZ (hw _ (List.mem_of_getElem? (i := 40) rfl)))) (mvT hZ (hw _ (List.mem_of_getElem? (i := 40) rfl))) (mvT hZ (hw _ (List.mem_of_getElem? (i := 39) rfl))) (by decide) (backOf (W := 0) (rm6 l Z a0 hw [] o18 N sz pb h0 n0 hI hpb hN (by omega) hsN) hZ (hw _ (List.mem_of_getElem? (i := 41) rfl)) (hw _ (List.mem_of_getElem? (i := 3) rfl)) (by show 3 + 1 ≤ 7; decide) (by show 0 + (1 + 11) + 70 ≤ 176; decide)) q7a q7c (g := (mkF m 165 #[s0, s1, s2, s3, s4, s5, s6, s7, s8, s9, s10, s11, s12, s13, s14, s15, .val (.int i16), s17, .val (.ref o18), s19, s20, .val (.long (Int64.ofNat X)), .second, s23, s24, .unset, .unset] [(.ref o18)])) rfl (by rw [hml]; rfl) (Steps.refl _) (argsL := []) (rest := []) (lenOf pd_0_0 rfl) rfl (by show 2 * 0 + _ ≤ _; exact Nat.le_of_eq rfl) (hb hby at_165) (fun _ _ => ⟨rfl, e0, (by show 4 + 1 ≤ 16; decide), (by show 116 + 64 ≤ 320; decide)⟩)
  dsimp only [Pt.U, Pt.locs, Pt.cells, Pt.slots] at X7 l7 y7 z7 st7 hQ7
  subst l7 y7 z7
  obtain ⟨rfl, N7q, N7', z7', I7, v7⟩ := hQ7
  have N7 := Fr.app N0 N7q
  have I7' := I7
  obtain ⟨Z7, E7, g7, t7, cl7, w7, Fb7, Fs7, Fp7, Fq7, r7⟩ := I7
  obtain ⟨cq8, kq8, q8a, q8b, q8c⟩ := isOf hZ rfl E7
  obtain ⟨_, _, ⟨T8, L8, k8, n8⟩, -, X8, ⟨Lc8, hQ8, l8, y8, z8⟩, st8⟩ := X7.virtualBack hx (y := (⟨"com/example/wrasse/wrasse/index/BitWriter", "bitSize", "()J"⟩ : MethodName)) (z := (⟨"com/example/wrasse/wrasse/index/BitWriter", "bitSize", "()J"⟩ : MethodName)) hown (mvT hZ (hw _ (List.mem_of_getElem? (i := 22) rfl))) (mvT hZ (hw _ (List.mem_of_getElem? (i := 23) rfl))) (notFace_of_selects (args := #[]) (mvT hZ (hw _ (List.mem_of_getElem? (i := 25) rfl)))) (mvT hZ (hw _ (List.mem_of_getElem? (i := 25) rfl))) (mvT hZ (hw _ (List.mem_of_getElem? (i := 24) rfl))) (by decide) (backOf (W := 0) (rm4 l Z a0 hw [] o18 (Int32.ofNat z7') (Int32.ofNat 0) T7.heap n0 Z7 Fs7 Fq7) hZ (hw _ (List.mem_of_getElem? (i := 26) rfl)) (hw _ (List.mem_of_getElem? (i := 3) rfl)) (by show 0 + 1 ≤ 7; decide) (by show 0 + (1 + 11) + 0 ≤ 176; decide)) q8a q8c (g := (mkF m 186 #[s0, s1, s2, s3, s4, s5, s6, s7, s8, s9, s10, s11, s12, s13, s14, s15, .val (.int i16), s17, .val (.ref o18), s19, s20, .val (.long (Int64.ofNat X)), .second, s23, s24, .val (.long ((((Int64.ofNat X) + (7 : Int64)) / (8 : Int64)) * (8 : Int64))), .second] [(.ref o18)])) rfl (by rw [hml]; rfl) (Steps.refl _) (argsL := []) (rest := []) (lenOf pd_0_2 rfl) rfl (by show 2 * 0 + _ ≤ _; exact Nat.le_of_eq rfl) (hb hby at_186) (fun _ _ => ⟨rfl, rfl, (by show 4 + 1 + 0 ≤ 16; decide), (by show 116 + 64 + 0 ≤ 320; decide)⟩)
  dsimp only [Pt.U, Pt.locs, Pt.cells, Pt.slots] at X8 l8 y8 z8 st8 hQ8
  subst l8 y8 z8
  obtain ⟨rfl, N8q, q8⟩ := hQ8
  have N8 := Fr.app N7 N8q
  have I8 : BW Z T8.heap n0 o18 N7' z7' 0 := by rw [q8]; exact I7'
  refine ⟨T8, _, _, N7', z7', X8, rfl, N8, I8, fun target kt => ?_⟩
  show Steps p.tables e below (T0.setTop (mkF m 158 #[s0, s1, s2, s3, s4, s5, s6, s7, s8, s9, s10, s11, s12, s13, s14, s15, .val (.int i16), s17, .val (.ref o18), s19, s20, .val (.long (Int64.ofNat X)), .second, s23, s24, .unset, .unset] [])) _
  refine XS.iload X0.here hx rfl (hb hby at_158) rfl ?_
  show Steps p.tables e below (T0.setTop (mkF m 160 #[s0, s1, s2, s3, s4, s5, s6, s7, s8, s9, s10, s11, s12, s13, s14, s15, .val (.int i16), s17, .val (.ref o18), s19, s20, .val (.long (Int64.ofNat X)), .second, s23, s24, .unset, .unset] [(.int i16)])) _
  refine XS.ifNo X0.here hx rfl (hb hby at_160) rfl ((if0 _ _).trans (feq hc160).1) ?_
  show Steps p.tables e below (T0.setTop (mkF m 163 #[s0, s1, s2, s3, s4, s5, s6, s7, s8, s9, s10, s11, s12, s13, s14, s15, .val (.int i16), s17, .val (.ref o18), s19, s20, .val (.long (Int64.ofNat X)), .second, s23, s24, .unset, .unset] [])) _
  refine XS.aload X0.here hx rfl (hb hby at_163) rfl rfl ?_
  show Steps p.tables e below (T0.setTop (mkF m 165 #[s0, s1, s2, s3, s4, s5, s6, s7, s8, s9, s10, s11, s12, s13, s14, s15, .val (.int i16), s17, .val (.ref o18), s19, s20, .val (.long (Int64.ofNat X)), .second, s23, s24, .unset, .unset] [(.ref o18)])) _
  refine st7.trans ?_
  show Steps p.tables e below (T7.setTop (mkF m 168 #[s0, s1, s2, s3, s4, s5, s6, s7, s8, s9, s10, s11, s12, s13, s14, s15, .val (.int i16), s17, .val (.ref o18), s19, s20, .val (.long (Int64.ofNat X)), .second, s23, s24, .unset, .unset] [])) _
  refine XS.lload X7.here hx rfl (hb hby at_168) rfl ?_
  show Steps p.tables e below (T7.setTop (mkF m 170 #[s0, s1, s2, s3, s4, s5, s6, s7, s8, s9, s10, s11, s12, s13, s14, s15, .val (.int i16), s17, .val (.ref o18), s19, s20, .val (.long (Int64.ofNat X)), .second, s23, s24, .unset, .unset] [(.long (Int64.ofNat X))])) _
  refine X7.ldc2Long hx hown (mvT hZ (hw _ (List.mem_of_getElem? (i := 42) rfl))) (g := (mkF m 170 #[s0, s1, s2, s3, s4, s5, s6, s7, s8, s9, s10, s11, s12, s13, s14, s15, .val (.int i16), s17, .val (.ref o18), s19, s20, .val (.long (Int64.ofNat X)), .second, s23, s24, .unset, .unset] [(.long (Int64.ofNat X))])) rfl (hb hby at_170) _ ?_
  show Steps p.tables e below (T7.setTop (mkF m 173 #[s0, s1, s2, s3, s4, s5, s6, s7, s8, s9, s10, s11, s12, s13, s14, s15, .val (.int i16), s17, .val (.ref o18), s19, s20, .val (.long (Int64.ofNat X)), .second, s23, s24, .unset, .unset] [(.long (7 : Int64)), (.long (Int64.ofNat X))])) _
  refine XS.ladd X7.here hx rfl (hb hby at_173) rfl ?_
  show Steps p.tables e below (T7.setTop (mkF m 174 #[s0, s1, s2, s3, s4, s5, s6, s7, s8, s9, s10, s11, s12, s13, s14, s15, .val (.int i16), s17, .val (.ref o18), s19, s20, .val (.long (Int64.ofNat X)), .second, s23, s24, .unset, .unset] [(.long ((Int64.ofNat X) + (7 : Int64)))])) _
  refine X7.ldc2Long hx hown (mvT hZ (hw _ (List.mem_of_getElem? (i := 43) rfl))) (g := (mkF m 174 #[s0, s1, s2, s3, s4, s5, s6, s7, s8, s9, s10, s11, s12, s13, s14, s15, .val (.int i16), s17, .val (.ref o18), s19, s20, .val (.long (Int64.ofNat X)), .second, s23, s24, .unset, .unset] [(.long ((Int64.ofNat X) + (7 : Int64)))])) rfl (hb hby at_174) _ ?_
  show Steps p.tables e below (T7.setTop (mkF m 177 #[s0, s1, s2, s3, s4, s5, s6, s7, s8, s9, s10, s11, s12, s13, s14, s15, .val (.int i16), s17, .val (.ref o18), s19, s20, .val (.long (Int64.ofNat X)), .second, s23, s24, .unset, .unset] [(.long (8 : Int64)), (.long ((Int64.ofNat X) + (7 : Int64)))])) _
  refine XS.ldiv X7.here hx rfl (hb hby at_177) rfl hnz177 ?_
  show Steps p.tables e below (T7.setTop (mkF m 178 #[s0, s1, s2, s3, s4, s5, s6, s7, s8, s9, s10, s11, s12, s13, s14, s15, .val (.int i16), s17, .val (.ref o18), s19, s20, .val (.long (Int64.ofNat X)), .second, s23, s24, .unset, .unset] [(.long (((Int64.ofNat X) + (7 : Int64)) / (8 : Int64)))])) _
  refine X7.ldc2Long hx hown (mvT hZ (hw _ (List.mem_of_getElem? (i := 43) rfl))) (g := (mkF m 178 #[s0, s1, s2, s3, s4, s5, s6, s7, s8, s9, s10, s11, s12, s13, s14, s15, .val (.int i16), s17, .val (.ref o18), s19, s20, .val (.long (Int64.ofNat X)), .second, s23, s24, .unset, .unset] [(.long (((Int64.ofNat X) + (7 : Int64)) / (8 : Int64)))])) rfl (hb hby at_178) _ ?_
  show Steps p.tables e below (T7.setTop (mkF m 181 #[s0, s1, s2, s3, s4, s5, s6, s7, s8, s9, s10, s11, s12, s13, s14, s15, .val (.int i16), s17, .val (.ref o18), s19, s20, .val (.long (Int64.ofNat X)), .second, s23, s24, .unset, .unset] [(.long (8 : Int64)), (.long (((Int64.ofNat X) + (7 : Int64)) / (8 : Int64)))])) _
  refine XS.lmul X7.here hx rfl (hb hby at_181) rfl ?_
  show Steps p.tables e below (T7.setTop (mkF m 182 #[s0, s1, s2, s3, s4, s5, s6, s7, s8, s9, s10, s11, s12, s13, s14, s15, .val (.int i16), s17, .val (.ref o18), s19, s20, .val (.long (Int64.ofNat X)), .second, s23, s24, .unset, .unset] [(.long ((((Int64.ofNat X) + (7 : Int64)) / (8 : Int64)) * (8 : Int64)))])) _
  refine XS.lstore X7.here hx rfl (hb hby at_182) rfl (l' := #[s0, s1, s2, s3, s4, s5, s6, s7, s8, s9, s10, s11, s12, s13, s14, s15, .val (.int i16), s17, .val (.ref o18), s19, s20, .val (.long (Int64.ofNat X)), .second, s23, s24, .val (.long ((((Int64.ofNat X) + (7 : Int64)) / (8 : Int64)) * (8 : Int64))), .second]) rfl ?_
  show Steps p.tables e below (T7.setTop (mkF m 184 #[s0, s1, s2, s3, s4, s5, s6, s7, s8, s9, s10, s11, s12, s13, s14, s15, .val (.int i16), s17, .val (.ref o18), s19, s20, .val (.long (Int64.ofNat X)), .second, s23, s24, .val (.long ((((Int64.ofNat X) + (7 : Int64)) / (8 : Int64)) * (8 : Int64))), .second] [])) _
  refine XS.aload X7.here hx rfl (hb hby at_184) rfl rfl ?_
  show Steps p.tables e below (T7.setTop (mkF m 186 #[s0, s1, s2, s3, s4, s5, s6, s7, s8, s9, s10, s11, s12, s13, s14, s15, .val (.int i16), s17, .val (.ref o18), s19, s20, .val (.long (Int64.ofNat X)), .second, s23, s24, .val (.long ((((Int64.ofNat X) + (7 : Int64)) / (8 : Int64)) * (8 : Int64))), .second] [(.ref o18)])) _
  refine st8.trans ?_
  show Steps p.tables e below (T8.setTop (mkF m 189 #[s0, s1, s2, s3, s4, s5, s6, s7, s8, s9, s10, s11, s12, s13, s14, s15, .val (.int i16), s17, .val (.ref o18), s19, s20, .val (.long (Int64.ofNat X)), .second, s23, s24, .val (.long ((((Int64.ofNat X) + (7 : Int64)) / (8 : Int64)) * (8 : Int64))), .second] [(.long (((Int32.ofNat z7').toInt64 * (8 : Int64)) + ((Int32.ofNat 0).toInt64)))])) _
  refine XS.lload X8.here hx rfl (hb hby at_189) rfl ?_
  show Steps p.tables e below (T8.setTop (mkF m 191 #[s0, s1, s2, s3, s4, s5, s6, s7, s8, s9, s10, s11, s12, s13, s14, s15, .val (.int i16), s17, .val (.ref o18), s19, s20, .val (.long (Int64.ofNat X)), .second, s23, s24, .val (.long ((((Int64.ofNat X) + (7 : Int64)) / (8 : Int64)) * (8 : Int64))), .second] [(.long ((((Int64.ofNat X) + (7 : Int64)) / (8 : Int64)) * (8 : Int64))), (.long (((Int32.ofNat z7').toInt64 * (8 : Int64)) + ((Int32.ofNat 0).toInt64)))])) _
  refine XS.lcmp X8.here hx rfl (hb hby at_191) rfl ?_
  show Steps p.tables e below (T8.setTop (mkF m 192 #[s0, s1, s2, s3, s4, s5, s6, s7, s8, s9, s10, s11, s12, s13, s14, s15, .val (.int i16), s17, .val (.ref o18), s19, s20, .val (.long (Int64.ofNat X)), .second, s23, s24, .val (.long ((((Int64.ofNat X) + (7 : Int64)) / (8 : Int64)) * (8 : Int64))), .second] [(.int (lcmpW (((Int32.ofNat z7').toInt64 * (8 : Int64)) + ((Int32.ofNat 0).toInt64)) ((((Int64.ofNat X) + (7 : Int64)) / (8 : Int64)) * (8 : Int64))))])) _
  refine XS.ifYes X8.here hx rfl (pc0 := 192) (pc' := 197) rfl (hb hby at_192) rfl ((if0 _ _).trans (teq ((lw_eq _ _).mpr (by rw [own_round (by omega), own_bits (X := (X + 7) / 8 * 8) (by omega) (by omega)]) : (lcmpW (((Int32.ofNat z7').toInt64 * (8 : Int64)) + ((Int32.ofNat 0).toInt64)) ((((Int64.ofNat X) + (7 : Int64)) / (8 : Int64)) * (8 : Int64))) = (0 : Int32))).1) (by decide) (by decide) ?_
  exact kt
theorem sgA {p : Program} {l : Launch} {e : Env} {s : State} {m : MethodId} {args : Array Value} {below : List Frame} {meth : Method} {c : Code} {T0 : State} {locs : List Loc} {Z : State} {a0 : Array Value} {h0 : Heap} {n0 : Nat} (s0 : Slot) (s1 : Slot) (s2 : Slot) (s3 : Slot) (s4 : Slot) (s5 : Slot) (s6 : Slot) (s7 : Slot) (s8 : Slot) (s9 : Slot) (s10 : Slot) (s11 : Slot) (s12 : Slot) (s13 : Slot) (s14 : Slot) (s15 : Slot) (i16 : Int32) (s17 : Slot) (o18 : Addr) (s19 : Slot) (s20 : Slot) (X N sz pb : Nat) (s23 : Slot) (s24 : Slot)
    (X0 : Stand p l e room_1 s m args below meth c T0 locs 4 116) (hx : p.tables.exec = Jvm.exec) (hZ : Z.Warmed39 s.vm) (hw : ∀ d ∈ tables_1, d.before a0 Z = true) (hby : c.code = code) (hml : c.maxLocals = 27) (hown : s.vm.findClass "com/example/wrasse/wrasse/index/BitWriterBitSizePinLaw" = some m.cls) (e0 : T0.heap = h0) (N0 : Fr n0 locs) (hI : BW Z h0 n0 o18 N sz pb) (hN : own_is N) (hsN : sz ≤ N) (hpb : pb ≤ 7) (hX : 8 * sz + pb = X) (hX2 : X ≤ 240) :
    ∃ (T' : State) (h' : Heap) (locs' : List Loc) (N' sz' pb' : Nat) (s25 s26 : Slot), Stand p l e room_1 s m args below meth c T' locs' 5 180 ∧ T'.heap = h' ∧ Fr n0 locs' ∧ BW Z h' n0 o18 N' sz' pb' ∧
      ∀ target, Steps p.tables e below (T'.setTop (mkF m 197 #[s0, s1, s2, s3, s4, s5, s6, s7, s8, s9, s10, s11, s12, s13, s14, s15, .val (.int i16), s17, .val (.ref o18), s19, s20, .val (.long (Int64.ofNat X)), .second, s23, s24, s25, s26] [])) target → Steps p.tables e below (T0.setTop (mkF m 158 #[s0, s1, s2, s3, s4, s5, s6, s7, s8, s9, s10, s11, s12, s13, s14, s15, .val (.int i16), s17, .val (.ref o18), s19, s20, .val (.long (Int64.ofNat X)), .second, s23, s24, .unset, .unset] [])) target := by
  by_cases hc : i16 = (0 : Int32)
  · obtain ⟨T', X', e', st'⟩ := tn0_158_197_t s0 s1 s2 s3 s4 s5 s6 s7 s8 s9 s10 s11 s12 s13 s14 s15 i16 s17 (.val (.ref o18)) s19 s20 (.val (.long (Int64.ofNat X))) .second s23 s24 .unset .unset X0 hx hZ hw hby hml hown e0 hc
    exact ⟨T', h0, locs, N, sz, pb, .unset, .unset, X'.loosen (by decide) (by decide), e', N0, hI, st'⟩
  · obtain ⟨T', h', L', N', z', X', e', F', I', st'⟩ := tn0_158_197_f s0 s1 s2 s3 s4 s5 s6 s7 s8 s9 s10 s11 s12 s13 s14 s15 i16 s17 o18 s19 s20 X N sz pb s23 s24 X0 hx hZ hw hby hml hown e0 N0 hI hN hsN hpb hX hX2 hc
    exact ⟨T', h', L', N', z', 0, _, _, X', e', F', I', st'⟩
set_option maxRecDepth 65536 in
set_option maxHeartbeats 40000000 in
theorem tn0_197_219_t {p : Program} {l : Launch} {e : Env} {R : Room} {s : State} {m : MethodId} {args : Array Value} {below : List Frame} {meth : Method} {c : Code} {T0 : State} {locs : List Loc} {cells slots : Nat} {Z : State} {a0 : Array Value} {h0 : Heap} (s0 : Slot) (s1 : Slot) (s2 : Slot) (s3 : Slot) (s4 : Slot) (s5 : Slot) (s6 : Slot) (s7 : Slot) (s8 : Slot) (s9 : Slot) (s10 : Slot) (s11 : Slot) (s12 : Slot) (s13 : Slot) (s14 : Slot) (s15 : Slot) (s16 : Slot) (i17 : Int32) (s18 : Slot) (s19 : Slot) (s20 : Slot) (s21 : Slot) (s22 : Slot) (s23 : Slot) (s24 : Slot) (s25 : Slot) (s26 : Slot)
    (X0 : Stand p l e R s m args below meth c T0 locs cells slots) (hx : p.tables.exec = Jvm.exec) (hZ : Z.Warmed39 s.vm) (hw : ∀ d ∈ tables_1, d.before a0 Z = true) (hby : c.code = code) (hml : c.maxLocals = 27) (hown : s.vm.findClass "com/example/wrasse/wrasse/index/BitWriterBitSizePinLaw" = some m.cls) (e0 : T0.heap = h0) (hc199 : i17 = (0 : Int32)) :
    ∃ (T' : State), Stand p l e R s m args below meth c T' locs cells slots ∧ T'.heap = h0 ∧
      ∀ target, Steps p.tables e below (T'.setTop (mkF m 219 #[s0, s1, s2, s3, s4, s5, s6, s7, s8, s9, s10, s11, s12, s13, s14, s15, s16, .val (.int i17), s18, s19, s20, s21, s22, s23, s24, s25, s26] [])) target → Steps p.tables e below (T0.setTop (mkF m 197 #[s0, s1, s2, s3, s4, s5, s6, s7, s8, s9, s10, s11, s12, s13, s14, s15, s16, .val (.int i17), s18, s19, s20, s21, s22, s23, s24, s25, s26] [])) target := by
  refine ⟨T0, X0, e0, fun target kt => ?_⟩
  show Steps p.tables e below (T0.setTop (mkF m 197 #[s0, s1, s2, s3, s4, s5, s6, s7, s8, s9, s10, s11, s12, s13, s14, s15, s16, .val (.int i17), s18, s19, s20, s21, s22, s23, s24, s25, s26] [])) _
  refine XS.iload X0.here hx rfl (hb hby at_197) rfl ?_
  show Steps p.tables e below (T0.setTop (mkF m 199 #[s0, s1, s2, s3, s4, s5, s6, s7, s8, s9, s10, s11, s12, s13, s14, s15, s16, .val (.int i17), s18, s19, s20, s21, s22, s23, s24, s25, s26] [(.int i17)])) _
  refine XS.ifYes X0.here hx rfl (pc0 := 199) (pc' := 219) rfl (hb hby at_199) rfl ((if0 _ _).trans (teq hc199).1) (by decide) (by decide) ?_
  exact kt
set_option maxRecDepth 65536 in
set_option maxHeartbeats 40000000 in
theorem tn0_197_219_f {p : Program} {l : Launch} {e : Env} {s : State} {m : MethodId} {args : Array Value} {below : List Frame} {meth : Method} {c : Code} {T0 : State} {locs : List Loc} {Z : State} {a0 : Array Value} {h0 : Heap} {n0 : Nat} {N sz pb : Nat} (s0 : Slot) (s1 : Slot) (s2 : Slot) (s3 : Slot) (s4 : Slot) (s5 : Slot) (s6 : Slot) (s7 : Slot) (s8 : Slot) (s9 : Slot) (s10 : Slot) (s11 : Slot) (s12 : Slot) (s13 : Slot) (s14 : Slot) (s15 : Slot) (s16 : Slot) (i17 : Int32) (o18 : Addr) (s19 : Slot) (s20 : Slot) (s21 : Slot) (s22 : Slot) (s23 : Slot) (s24 : Slot) (s25 : Slot) (s26 : Slot)
    (X0 : Stand p l e room_1 s m args below meth c T0 locs 5 180) (hx : p.tables.exec = Jvm.exec) (hZ : Z.Warmed39 s.vm) (hw : ∀ d ∈ tables_1, d.before a0 Z = true) (hby : c.code = code) (hml : c.maxLocals = 27) (hown : s.vm.findClass "com/example/wrasse/wrasse/index/BitWriterBitSizePinLaw" = some m.cls) (e0 : T0.heap = h0) (N0 : Fr n0 locs) (hI : BW Z h0 n0 o18 N sz pb) (hc199 : ¬ (i17 = (0 : Int32))) :
    ∃ (T' : State) (locs' : List Loc), Stand p l e room_1 s m args below meth c T' locs' 5 180 ∧ Fr n0 locs' ∧
      ∀ target, Steps p.tables e below (T'.setTop (mkF m 219 #[s0, s1, s2, s3, s4, s5, s6, s7, s8, s9, s10, s11, s12, s13, s14, s15, s16, .val (.int i17), .val (.ref o18), s19, s20, s21, s22, s23, s24, s25, s26] [])) target → Steps p.tables e below (T0.setTop (mkF m 197 #[s0, s1, s2, s3, s4, s5, s6, s7, s8, s9, s10, s11, s12, s13, s14, s15, s16, .val (.int i17), .val (.ref o18), s19, s20, s21, s22, s23, s24, s25, s26] [])) target := by
  obtain ⟨cq7, kq7, q7a, q7b, q7c⟩ := isOf hZ e0 hI.2.1
  obtain ⟨_, _, ⟨T7, L7, k7, n7⟩, -, X7, ⟨Lc7, hQ7, l7, y7, z7⟩, st7⟩ := X0.virtualBack hx (y := (⟨"com/example/wrasse/wrasse/index/BitWriter", "clear", "()V"⟩ : MethodName)) (z := (⟨"com/example/wrasse/wrasse/index/BitWriter", "clear", "()V"⟩ : MethodName)) hown (mvT hZ (hw _ (List.mem_of_getElem? (i := 44) rfl))) (mvT hZ (hw _ (List.mem_of_getElem? (i := 45) rfl))) (notFace_of_selects (args := #[]) (mvT hZ (hw _ (List.mem_of_getElem? (i := 47) rfl)))) (mvT hZ (hw _ (List.mem_of_getElem? (i := 47) rfl))) (mvT hZ (hw _ (List.mem_of_getElem? (i := 46) rfl))) (by decide) (backOf (W := 0) (rm7 l Z a0 hw [] o18 N sz pb h0 n0 hI) hZ (hw _ (List.mem_of_getElem? (i := 48) rfl)) (hw _ (List.mem_of_getElem? (i := 3) rfl)) (by show 0 + 1 ≤ 7; decide) (by show 0 + (1 + 11) + 0 ≤ 176; decide)) q7a q7c (g := (mkF m 204 #[s0, s1, s2, s3, s4, s5, s6, s7, s8, s9, s10, s11, s12, s13, s14, s15, s16, .val (.int i17), .val (.ref o18), s19, s20, s21, s22, s23, s24, s25, s26] [(.ref o18)])) rfl (by rw [hml]; rfl) (Steps.refl _) (argsL := []) (rest := []) (lenOf pd_0_0 rfl) rfl (by show 2 * 0 + _ ≤ _; exact Nat.le_of_eq rfl) (hb hby at_204) (fun _ _ => ⟨rfl, e0, (by show 5 + 0 ≤ 16; decide), (by show 180 + 0 ≤ 320; decide)⟩)
  dsimp only [Pt.U, Pt.locs, Pt.cells, Pt.slots] at X7 l7 y7 z7 st7 hQ7
  subst l7 y7 z7
  obtain ⟨rfl, N7q, I7⟩ := hQ7
  have N7 := Fr.app N0 N7q
  obtain ⟨Z7, E7, g7, t7, cl7, w7, Fb7, Fs7, Fp7, Fq7, r7⟩ := I7
  obtain ⟨cq8, kq8, q8a, q8b, q8c⟩ := isOf hZ rfl E7
  obtain ⟨_, _, ⟨T8, L8, k8, n8⟩, -, X8, ⟨Lc8, hQ8, l8, y8, z8⟩, st8⟩ := X7.virtualBack hx (y := (⟨"com/example/wrasse/wrasse/index/BitWriter", "bitSize", "()J"⟩ : MethodName)) (z := (⟨"com/example/wrasse/wrasse/index/BitWriter", "bitSize", "()J"⟩ : MethodName)) hown (mvT hZ (hw _ (List.mem_of_getElem? (i := 22) rfl))) (mvT hZ (hw _ (List.mem_of_getElem? (i := 23) rfl))) (notFace_of_selects (args := #[]) (mvT hZ (hw _ (List.mem_of_getElem? (i := 25) rfl)))) (mvT hZ (hw _ (List.mem_of_getElem? (i := 25) rfl))) (mvT hZ (hw _ (List.mem_of_getElem? (i := 24) rfl))) (by decide) (backOf (W := 0) (rm4 l Z a0 hw [] o18 (Int32.ofNat 0) (Int32.ofNat 0) T7.heap n0 Z7 Fs7 Fq7) hZ (hw _ (List.mem_of_getElem? (i := 26) rfl)) (hw _ (List.mem_of_getElem? (i := 3) rfl)) (by show 0 + 1 ≤ 7; decide) (by show 0 + (1 + 11) + 0 ≤ 176; decide)) q8a q8c (g := (mkF m 209 #[s0, s1, s2, s3, s4, s5, s6, s7, s8, s9, s10, s11, s12, s13, s14, s15, s16, .val (.int i17), .val (.ref o18), s19, s20, s21, s22, s23, s24, s25, s26] [(.ref o18)])) rfl (by rw [hml]; rfl) (Steps.refl _) (argsL := []) (rest := []) (lenOf pd_0_2 rfl) rfl (by show 2 * 0 + _ ≤ _; exact Nat.le_of_eq rfl) (hb hby at_209) (fun _ _ => ⟨rfl, rfl, (by show 5 + 0 + 0 ≤ 16; decide), (by show 180 + 0 + 0 ≤ 320; decide)⟩)
  dsimp only [Pt.U, Pt.locs, Pt.cells, Pt.slots] at X8 l8 y8 z8 st8 hQ8
  subst l8 y8 z8
  obtain ⟨rfl, N8q, -⟩ := hQ8
  have N8 := Fr.app N7 N8q
  refine ⟨T8, _, X8, N8, fun target kt => ?_⟩
  show Steps p.tables e below (T0.setTop (mkF m 197 #[s0, s1, s2, s3, s4, s5, s6, s7, s8, s9, s10, s11, s12, s13, s14, s15, s16, .val (.int i17), .val (.ref o18), s19, s20, s21, s22, s23, s24, s25, s26] [])) _
  refine XS.iload X0.here hx rfl (hb hby at_197) rfl ?_
  show Steps p.tables e below (T0.setTop (mkF m 199 #[s0, s1, s2, s3, s4, s5, s6, s7, s8, s9, s10, s11, s12, s13, s14, s15, s16, .val (.int i17), .val (.ref o18), s19, s20, s21, s22, s23, s24, s25, s26] [(.int i17)])) _
  refine XS.ifNo X0.here hx rfl (hb hby at_199) rfl ((if0 _ _).trans (feq hc199).1) ?_
  show Steps p.tables e below (T0.setTop (mkF m 202 #[s0, s1, s2, s3, s4, s5, s6, s7, s8, s9, s10, s11, s12, s13, s14, s15, s16, .val (.int i17), .val (.ref o18), s19, s20, s21, s22, s23, s24, s25, s26] [])) _
  refine XS.aload X0.here hx rfl (hb hby at_202) rfl rfl ?_
  show Steps p.tables e below (T0.setTop (mkF m 204 #[s0, s1, s2, s3, s4, s5, s6, s7, s8, s9, s10, s11, s12, s13, s14, s15, s16, .val (.int i17), .val (.ref o18), s19, s20, s21, s22, s23, s24, s25, s26] [(.ref o18)])) _
  refine st7.trans ?_
  show Steps p.tables e below (T7.setTop (mkF m 207 #[s0, s1, s2, s3, s4, s5, s6, s7, s8, s9, s10, s11, s12, s13, s14, s15, s16, .val (.int i17), .val (.ref o18), s19, s20, s21, s22, s23, s24, s25, s26] [])) _
  refine XS.aload X7.here hx rfl (hb hby at_207) rfl rfl ?_
  show Steps p.tables e below (T7.setTop (mkF m 209 #[s0, s1, s2, s3, s4, s5, s6, s7, s8, s9, s10, s11, s12, s13, s14, s15, s16, .val (.int i17), .val (.ref o18), s19, s20, s21, s22, s23, s24, s25, s26] [(.ref o18)])) _
  refine st8.trans ?_
  show Steps p.tables e below (T8.setTop (mkF m 212 #[s0, s1, s2, s3, s4, s5, s6, s7, s8, s9, s10, s11, s12, s13, s14, s15, s16, .val (.int i17), .val (.ref o18), s19, s20, s21, s22, s23, s24, s25, s26] [(.long (((Int32.ofNat 0).toInt64 * (8 : Int64)) + ((Int32.ofNat 0).toInt64)))])) _
  refine XS.lconst X8.here hx rfl (hb hby at_212) ?_
  show Steps p.tables e below (T8.setTop (mkF m 213 #[s0, s1, s2, s3, s4, s5, s6, s7, s8, s9, s10, s11, s12, s13, s14, s15, s16, .val (.int i17), .val (.ref o18), s19, s20, s21, s22, s23, s24, s25, s26] [(.long (0 : Int64)), (.long (((Int32.ofNat 0).toInt64 * (8 : Int64)) + ((Int32.ofNat 0).toInt64)))])) _
  refine XS.lcmp X8.here hx rfl (hb hby at_213) rfl ?_
  show Steps p.tables e below (T8.setTop (mkF m 214 #[s0, s1, s2, s3, s4, s5, s6, s7, s8, s9, s10, s11, s12, s13, s14, s15, s16, .val (.int i17), .val (.ref o18), s19, s20, s21, s22, s23, s24, s25, s26] [(.int (lcmpW (((Int32.ofNat 0).toInt64 * (8 : Int64)) + ((Int32.ofNat 0).toInt64)) (0 : Int64)))])) _
  refine XS.ifYes X8.here hx rfl (pc0 := 214) (pc' := 219) rfl (hb hby at_214) rfl ((if0 _ _).trans (teq ((lw_eq _ _).mpr (by decide) : (lcmpW (((Int32.ofNat 0).toInt64 * (8 : Int64)) + ((Int32.ofNat 0).toInt64)) (0 : Int64)) = (0 : Int32))).1) (by decide) (by decide) ?_
  exact kt
theorem sgC {p : Program} {l : Launch} {e : Env} {s : State} {m : MethodId} {args : Array Value} {below : List Frame} {meth : Method} {c : Code} {T0 : State} {locs : List Loc} {Z : State} {a0 : Array Value} {h0 : Heap} {n0 : Nat} {N sz pb : Nat} (s0 : Slot) (s1 : Slot) (s2 : Slot) (s3 : Slot) (s4 : Slot) (s5 : Slot) (s6 : Slot) (s7 : Slot) (s8 : Slot) (s9 : Slot) (s10 : Slot) (s11 : Slot) (s12 : Slot) (s13 : Slot) (s14 : Slot) (s15 : Slot) (s16 : Slot) (i17 : Int32) (o18 : Addr) (s19 : Slot) (s20 : Slot) (s21 : Slot) (s22 : Slot) (s23 : Slot) (s24 : Slot) (s25 : Slot) (s26 : Slot)
    (X0 : Stand p l e room_1 s m args below meth c T0 locs 5 180) (hx : p.tables.exec = Jvm.exec) (hZ : Z.Warmed39 s.vm) (hw : ∀ d ∈ tables_1, d.before a0 Z = true) (hby : c.code = code) (hml : c.maxLocals = 27) (hown : s.vm.findClass "com/example/wrasse/wrasse/index/BitWriterBitSizePinLaw" = some m.cls) (e0 : T0.heap = h0) (N0 : Fr n0 locs) (hI : BW Z h0 n0 o18 N sz pb) :
    ∃ (T' : State) (locs' : List Loc), Stand p l e room_1 s m args below meth c T' locs' 5 180 ∧ Fr n0 locs' ∧
      ∀ target, Steps p.tables e below (T'.setTop (mkF m 219 #[s0, s1, s2, s3, s4, s5, s6, s7, s8, s9, s10, s11, s12, s13, s14, s15, s16, .val (.int i17), .val (.ref o18), s19, s20, s21, s22, s23, s24, s25, s26] [])) target → Steps p.tables e below (T0.setTop (mkF m 197 #[s0, s1, s2, s3, s4, s5, s6, s7, s8, s9, s10, s11, s12, s13, s14, s15, s16, .val (.int i17), .val (.ref o18), s19, s20, s21, s22, s23, s24, s25, s26] [])) target := by
  by_cases hc : i17 = (0 : Int32)
  · obtain ⟨T', X', e', st'⟩ := tn0_197_219_t s0 s1 s2 s3 s4 s5 s6 s7 s8 s9 s10 s11 s12 s13 s14 s15 s16 i17 (.val (.ref o18)) s19 s20 s21 s22 s23 s24 s25 s26 X0 hx hZ hw hby hml hown e0 hc
    exact ⟨T', locs, X', N0, st'⟩
  · exact tn0_197_219_f s0 s1 s2 s3 s4 s5 s6 s7 s8 s9 s10 s11 s12 s13 s14 s15 s16 i17 o18 s19 s20 s21 s22 s23 s24 s25 s26 X0 hx hZ hw hby hml hown e0 N0 hI hc
theorem pn_0 : plainName "com/example/wrasse/wrasse/index/BitWriterBitSizePinLaw" = true := by first | (simp [plainName, overriddenIn]; done) | decide +kernel
theorem ef_0 (m : MethodId) (x0 : Int64) (x1 : Int32) (x2 : Int64) (x3 : Int32) (x4 : Int32) (x5 : Int32) : entryFrame m #[(.long x0), (.int x1), (.long x2), (.int x3), (.int x4), (.int x5)] maxLocals = mkF m 0 #[.val (.long x0), .second, .val (.int x1), .val (.long x2), .second, .val (.int x3), .val (.int x4), .val (.int x5), .unset, .unset, .unset, .unset, .unset, .unset, .unset, .unset, .unset, .unset, .unset, .unset, .unset, .unset, .unset, .unset, .unset, .unset, .unset] [] := by first | (simp [entryFrame, mkF, argsToLocals, Value.category, maxLocals]; done) | rfl
def Q0 (Z : State) (q1 : Int64) (p2 : Int32) (q3 : Int64) (p4 : Int32) (p5 : Int32) (p6 : Int32) (h0 : Heap) (n0 : Nat) (v : Option Value) (h : Heap) (L : List Loc) : Prop := v = some (.int (1 : Int32)) ∧ Fr n0 L
set_option maxRecDepth 65536 in
set_option maxHeartbeats 40000000 in
theorem rm0 (l : Launch) (Z : State) (a0 : Array Value) (hw : ∀ d ∈ tables_1, d.before a0 Z = true) (ws : List Jvm.Cond) (q1 : Int64) (p2 : Int32) (q3 : Int64) (p4 : Int32) (p5 : Int32) (p6 : Int32) (h0 : Heap) (n0 : Nat) (Z0 : n0 ≤ h0.size) :
    MetFree l x (head1 (Jvm.Cond.code x code maxLocals ret :: ws) room_1) (fun a U => a = #[(.long q1), (.int p2), (.long q3), (.int p4), (.int p5), (.int p6)] ∧ Z.Warmed39 U.vm ∧ U.heap = h0) (fun _ _ _ _ _ => True) (fun _ U o U' => ∃ v L, o = .returned v ∧ Q0 Z q1 p2 q3 p4 p5 p6 h0 n0 v U'.heap L ∧ FrameEnd U o U' L room_1.cells room_1.slots) := by
  refine MetFree.of_bodySF (plainFor_of_name pn_0) hisR ?_
  intro p e s m args below meth c s₁ Bd hml0 hP hK
  obtain ⟨rfl, hZ, hh⟩ := hP
  have hx := Bd.exec
  have hby := Bd.bytes
  have hml : c.maxLocals = 27 := hml0
  have hown : s.vm.findClass "com/example/wrasse/wrasse/index/BitWriterBitSizePinLaw" = some m.cls := findClass_of_methodNamed Bd.named
  have hnm := (name_of_methodNamed Bd.named Bd.method).1
  have X0 : Stand p l e room_1 s m #[(.long q1), (.int p2), (.long q3), (.int p4), (.int p5), (.int p6)] below meth c s₁ [] 0 0 := Stand.of_body Bd
  have e0 : s₁.heap = h0 := by rw [← hh, Bd.state]; rfl
  have N0 := Fr.nil n0
  have pre0 : ∀ t, Steps p.tables e below (s₁.setTop (mkF m 0 #[.val (.long q1), .second, .val (.int p2), .val (.long q3), .second, .val (.int p4), .val (.int p5), .val (.int p6), .unset, .unset, .unset, .unset, .unset, .unset, .unset, .unset, .unset, .unset, .unset, .unset, .unset, .unset, .unset, .unset, .unset, .unset, .unset] [])) t → Steps p.tables e below (s₁.setTop (entryFrame m #[(.long q1), (.int p2), (.long q3), (.int p4), (.int p5), (.int p6)] maxLocals)) t := fun t k => castTop (ef_0 m q1 p2 q3 p4 p5 p6) k
  obtain ⟨n1, hn1, en1⟩ := own_mod57 p2
  obtain ⟨n2, hn2, en2⟩ := own_mod57 p4
  obtain ⟨u, hu, eu⟩ := own_and127 p5
  obtain ⟨Ta, Xa, ea, sa⟩ := tn0_19_39 q1 (.val (.int p2)) q3 (.val (.int p4)) (.val (.int p5)) (.val (.int p6)) (Int32.ofNat n1) (Int32.ofNat n2) .unset .unset .unset .unset .unset .unset .unset .unset .unset .unset .unset .unset .unset X0 hx hZ hw hby hml hown e0
  obtain ⟨Tb, Xb, eb, sb⟩ := tn0_39_47 (.val (.long q1)) .second (.val (.int p2)) (.val (.long q3)) .second (.val (.int p4)) p5 (.val (.int p6)) (.val (.int (Int32.ofNat n1))) (.val (.int (Int32.ofNat n2))) (.val (.long (q1 &&& (((1 : Int64) <<< ((Int32.ofNat n1) &&& 0x3f).toInt64) - (1 : Int64))))) .second (.val (.long (q3 &&& (((1 : Int64) <<< ((Int32.ofNat n2) &&& 0x3f).toInt64) - (1 : Int64))))) .second .unset .unset .unset .unset .unset .unset .unset .unset .unset .unset .unset Xa hx hZ hw hby hml hown ea
  obtain ⟨Tc, Xc, ec, sc⟩ := sg16 (.val (.long q1)) .second (.val (.int p2)) (.val (.long q3)) .second (.val (.int p4)) (.val (.int p5)) p6 (.val (.int (Int32.ofNat n1))) (.val (.int (Int32.ofNat n2))) (.val (.long (q1 &&& (((1 : Int64) <<< ((Int32.ofNat n1) &&& 0x3f).toInt64) - (1 : Int64))))) .second (.val (.long (q3 &&& (((1 : Int64) <<< ((Int32.ofNat n2) &&& 0x3f).toInt64) - (1 : Int64))))) .second (.val (.long (Int64.ofNat u))) .second .unset .unset .unset .unset .unset .unset .unset .unset .unset .unset .unset Xb hx hZ hw hby hml hown eb One.u
  obtain ⟨Td, Xd, ed, sd⟩ := sg17 (.val (.long q1)) .second (.val (.int p2)) (.val (.long q3)) .second (.val (.int p4)) (.val (.int p5)) p6 (.val (.int (Int32.ofNat n1))) (.val (.int (Int32.ofNat n2))) (.val (.long (q1 &&& (((1 : Int64) <<< ((Int32.ofNat n1) &&& 0x3f).toInt64) - (1 : Int64))))) .second (.val (.long (q3 &&& (((1 : Int64) <<< ((Int32.ofNat n2) &&& 0x3f).toInt64) - (1 : Int64))))) .second (.val (.long (Int64.ofNat u))) .second (.val (.int (own_b (p6 &&& (1 : Int32))))) .unset .unset .unset .unset .unset .unset .unset .unset .unset .unset Xc hx hZ hw hby hml hown ec One.u
  obtain ⟨Te, he, Le, be, Xe, ee, Ne, Ie, se⟩ := tn0_75_84 (n0 := n0) (.val (.long q1)) .second (.val (.int p2)) (.val (.long q3)) .second (.val (.int p4)) (.val (.int p5)) (.val (.int p6)) (.val (.int (Int32.ofNat n1))) (.val (.int (Int32.ofNat n2))) (.val (.long (q1 &&& (((1 : Int64) <<< ((Int32.ofNat n1) &&& 0x3f).toInt64) - (1 : Int64))))) .second (.val (.long (q3 &&& (((1 : Int64) <<< ((Int32.ofNat n2) &&& 0x3f).toInt64) - (1 : Int64))))) .second (.val (.long (Int64.ofNat u))) .second (.val (.int (own_b (p6 &&& (1 : Int32))))) (.val (.int (own_b (p6 &&& (2 : Int32))))) .unset .unset .unset .unset .unset .unset .unset .unset .unset Xd hx hZ hw hby hml hown ed One.u N0 Z0
  obtain ⟨Tf, hf_, Lf, Xf, ef, Nf, If, sf⟩ := tn0_84_111 (n0 := n0) (.val (.long q1)) .second (.val (.int p2)) (.val (.long q3)) .second (.val (.int p4)) (.val (.int p5)) (.val (.int p6)) n1 (.val (.int (Int32.ofNat n2))) (q1 &&& (((1 : Int64) <<< ((Int32.ofNat n1) &&& 0x3f).toInt64) - (1 : Int64))) (.val (.long (q3 &&& (((1 : Int64) <<< ((Int32.ofNat n2) &&& 0x3f).toInt64) - (1 : Int64))))) .second (.val (.long (Int64.ofNat u))) .second (.val (.int (own_b (p6 &&& (1 : Int32))))) (.val (.int (own_b (p6 &&& (2 : Int32))))) be .unset .unset .unset .unset .unset .unset Xe hx hZ hw hby hml hown ee Ne Ie hn1
  obtain ⟨Tg, hg_, Lg, N', sz', pb', j23, Xg, eg, Ng, Ig, v1, v2, v3, v4, sg⟩ := tn0_111_158 (n0 := n0) (.val (.long q1)) .second (.val (.int p2)) (.val (.long q3)) .second (.val (.int p4)) (.val (.int p5)) (.val (.int p6)) n1 n2 (.val (.long (q1 &&& (((1 : Int64) <<< ((Int32.ofNat n1) &&& 0x3f).toInt64) - (1 : Int64))))) .second (q3 &&& (((1 : Int64) <<< ((Int32.ofNat n2) &&& 0x3f).toInt64) - (1 : Int64))) u (.val (.int (own_b (p6 &&& (1 : Int32))))) (.val (.int (own_b (p6 &&& (2 : Int32))))) be (.val (.long (((Int32.ofNat (n1 / 8)).toInt64 * (8 : Int64)) + ((Int32.ofNat (n1 % 8)).toInt64)))) .second .unset .unset Xf hx hZ hw hby hml hown ef Nf If hn1 hn2 hu
  obtain ⟨Th, hh_, Lh, Nh', szh, pbh, s25, s26, Xh, eh, Nh, Ih, sh⟩ := sgA (n0 := n0) (.val (.long q1)) .second (.val (.int p2)) (.val (.long q3)) .second (.val (.int p4)) (.val (.int p5)) (.val (.int p6)) (.val (.int (Int32.ofNat n1))) (.val (.int (Int32.ofNat n2))) (.val (.long (q1 &&& (((1 : Int64) <<< ((Int32.ofNat n1) &&& 0x3f).toInt64) - (1 : Int64))))) .second (.val (.long (q3 &&& (((1 : Int64) <<< ((Int32.ofNat n2) &&& 0x3f).toInt64) - (1 : Int64))))) .second (.val (.long (Int64.ofNat u))) .second (own_b (p6 &&& (1 : Int32))) (.val (.int (own_b (p6 &&& (2 : Int32))))) be (.val (.long (((Int32.ofNat (n1 / 8)).toInt64 * (8 : Int64)) + ((Int32.ofNat (n1 % 8)).toInt64)))) .second (n1 + n2 + u + 1) N' sz' pb' (.val (.long j23)) .second Xg hx hZ hw hby hml hown eg Ng Ig v1 v2 v3 v4 (by omega)
  obtain ⟨Ti, Li, Xi, Ni, si⟩ := sgC (n0 := n0) (.val (.long q1)) .second (.val (.int p2)) (.val (.long q3)) .second (.val (.int p4)) (.val (.int p5)) (.val (.int p6)) (.val (.int (Int32.ofNat n1))) (.val (.int (Int32.ofNat n2))) (.val (.long (q1 &&& (((1 : Int64) <<< ((Int32.ofNat n1) &&& 0x3f).toInt64) - (1 : Int64))))) .second (.val (.long (q3 &&& (((1 : Int64) <<< ((Int32.ofNat n2) &&& 0x3f).toInt64) - (1 : Int64))))) .second (.val (.long (Int64.ofNat u))) .second (.val (.int (own_b (p6 &&& (1 : Int32))))) (own_b (p6 &&& (2 : Int32))) be (.val (.long (((Int32.ofNat (n1 / 8)).toInt64 * (8 : Int64)) + ((Int32.ofNat (n1 % 8)).toInt64)))) .second (.val (.long (Int64.ofNat (n1 + n2 + u + 1)))) .second (.val (.long j23)) .second s25 s26 Xh hx hZ hw hby hml hown eh Nh Ih
  obtain ⟨fs, hr, hrun, hended, hW, hsame⟩ := Xi.leave (v := some (.int (1 : Int32))) (fun h => by rw [Bd.returns] at h; cases h)
  refine ⟨_, _, pre0 _ ?_, hrun, hended, _, _, rfl, ?_, ⟨_, rfl⟩, hW, hsame.mono (by decide) (by decide)⟩
  · show Steps p.tables e below (s₁.setTop (mkF m 0 #[.val (.long q1), .second, .val (.int p2), .val (.long q3), .second, .val (.int p4), .val (.int p5), .val (.int p6), .unset, .unset, .unset, .unset, .unset, .unset, .unset, .unset, .unset, .unset, .unset, .unset, .unset, .unset, .unset, .unset, .unset, .unset, .unset] [])) _
    refine XS.iloadN X0.here hx rfl (hb hby at_0) rfl ?_
    show Steps p.tables e below (s₁.setTop (mkF m 1 #[.val (.long q1), .second, .val (.int p2), .val (.long q3), .second, .val (.int p4), .val (.int p5), .val (.int p6), .unset, .unset, .unset, .unset, .unset, .unset, .unset, .unset, .unset, .unset, .unset, .unset, .unset, .unset, .unset, .unset, .unset, .unset, .unset] [(.int p2)])) _
    refine X0.ldcInt hx hown (mvT hZ (hw _ (List.mem_of_getElem? (i := 0) rfl))) (g := (mkF m 1 #[.val (.long q1), .second, .val (.int p2), .val (.long q3), .second, .val (.int p4), .val (.int p5), .val (.int p6), .unset, .unset, .unset, .unset, .unset, .unset, .unset, .unset, .unset, .unset, .unset, .unset, .unset, .unset, .unset, .unset, .unset, .unset, .unset] [(.int p2)])) rfl (hb hby at_1) _ ?_
    show Steps p.tables e below (s₁.setTop (mkF m 3 #[.val (.long q1), .second, .val (.int p2), .val (.long q3), .second, .val (.int p4), .val (.int p5), .val (.int p6), .unset, .unset, .unset, .unset, .unset, .unset, .unset, .unset, .unset, .unset, .unset, .unset, .unset, .unset, .unset, .unset, .unset, .unset, .unset] [(.int (2147483647 : Int32)), (.int p2)])) _
    refine XS.iand X0.here hx rfl (hb hby at_3) rfl ?_
    show Steps p.tables e below (s₁.setTop (mkF m 4 #[.val (.long q1), .second, .val (.int p2), .val (.long q3), .second, .val (.int p4), .val (.int p5), .val (.int p6), .unset, .unset, .unset, .unset, .unset, .unset, .unset, .unset, .unset, .unset, .unset, .unset, .unset, .unset, .unset, .unset, .unset, .unset, .unset] [(.int (p2 &&& (2147483647 : Int32)))])) _
    refine XS.bipush X0.here hx rfl (hb hby at_4) ?_
    show Steps p.tables e below (s₁.setTop (mkF m 6 #[.val (.long q1), .second, .val (.int p2), .val (.long q3), .second, .val (.int p4), .val (.int p5), .val (.int p6), .unset, .unset, .unset, .unset, .unset, .unset, .unset, .unset, .unset, .unset, .unset, .unset, .unset, .unset, .unset, .unset, .unset, .unset, .unset] [(.int (57 : Int32)), (.int (p2 &&& (2147483647 : Int32)))])) _
    refine XS.irem X0.here hx rfl (hb hby at_6) rfl (by decide) ?_
    show Steps p.tables e below (s₁.setTop (mkF m 7 #[.val (.long q1), .second, .val (.int p2), .val (.long q3), .second, .val (.int p4), .val (.int p5), .val (.int p6), .unset, .unset, .unset, .unset, .unset, .unset, .unset, .unset, .unset, .unset, .unset, .unset, .unset, .unset, .unset, .unset, .unset, .unset, .unset] [(.int ((p2 &&& (2147483647 : Int32)) - ((p2 &&& (2147483647 : Int32)) / (57 : Int32)) * (57 : Int32)))])) _
    rw [en1]
    refine XS.istore X0.here hx rfl (hb hby at_7) rfl (l' := #[.val (.long q1), .second, .val (.int p2), .val (.long q3), .second, .val (.int p4), .val (.int p5), .val (.int p6), .val (.int (Int32.ofNat n1)), .unset, .unset, .unset, .unset, .unset, .unset, .unset, .unset, .unset, .unset, .unset, .unset, .unset, .unset, .unset, .unset, .unset, .unset]) rfl ?_
    show Steps p.tables e below (s₁.setTop (mkF m 9 #[.val (.long q1), .second, .val (.int p2), .val (.long q3), .second, .val (.int p4), .val (.int p5), .val (.int p6), .val (.int (Int32.ofNat n1)), .unset, .unset, .unset, .unset, .unset, .unset, .unset, .unset, .unset, .unset, .unset, .unset, .unset, .unset, .unset, .unset, .unset, .unset] [])) _
    refine XS.iload X0.here hx rfl (hb hby at_9) rfl ?_
    show Steps p.tables e below (s₁.setTop (mkF m 11 #[.val (.long q1), .second, .val (.int p2), .val (.long q3), .second, .val (.int p4), .val (.int p5), .val (.int p6), .val (.int (Int32.ofNat n1)), .unset, .unset, .unset, .unset, .unset, .unset, .unset, .unset, .unset, .unset, .unset, .unset, .unset, .unset, .unset, .unset, .unset, .unset] [(.int p4)])) _
    refine X0.ldcInt hx hown (mvT hZ (hw _ (List.mem_of_getElem? (i := 0) rfl))) (g := (mkF m 11 #[.val (.long q1), .second, .val (.int p2), .val (.long q3), .second, .val (.int p4), .val (.int p5), .val (.int p6), .val (.int (Int32.ofNat n1)), .unset, .unset, .unset, .unset, .unset, .unset, .unset, .unset, .unset, .unset, .unset, .unset, .unset, .unset, .unset, .unset, .unset, .unset] [(.int p4)])) rfl (hb hby at_11) _ ?_
    show Steps p.tables e below (s₁.setTop (mkF m 13 #[.val (.long q1), .second, .val (.int p2), .val (.long q3), .second, .val (.int p4), .val (.int p5), .val (.int p6), .val (.int (Int32.ofNat n1)), .unset, .unset, .unset, .unset, .unset, .unset, .unset, .unset, .unset, .unset, .unset, .unset, .unset, .unset, .unset, .unset, .unset, .unset] [(.int (2147483647 : Int32)), (.int p4)])) _
    refine XS.iand X0.here hx rfl (hb hby at_13) rfl ?_
    show Steps p.tables e below (s₁.setTop (mkF m 14 #[.val (.long q1), .second, .val (.int p2), .val (.long q3), .second, .val (.int p4), .val (.int p5), .val (.int p6), .val (.int (Int32.ofNat n1)), .unset, .unset, .unset, .unset, .unset, .unset, .unset, .unset, .unset, .unset, .unset, .unset, .unset, .unset, .unset, .unset, .unset, .unset] [(.int (p4 &&& (2147483647 : Int32)))])) _
    refine XS.bipush X0.here hx rfl (hb hby at_14) ?_
    show Steps p.tables e below (s₁.setTop (mkF m 16 #[.val (.long q1), .second, .val (.int p2), .val (.long q3), .second, .val (.int p4), .val (.int p5), .val (.int p6), .val (.int (Int32.ofNat n1)), .unset, .unset, .unset, .unset, .unset, .unset, .unset, .unset, .unset, .unset, .unset, .unset, .unset, .unset, .unset, .unset, .unset, .unset] [(.int (57 : Int32)), (.int (p4 &&& (2147483647 : Int32)))])) _
    refine XS.irem X0.here hx rfl (hb hby at_16) rfl (by decide) ?_
    show Steps p.tables e below (s₁.setTop (mkF m 17 #[.val (.long q1), .second, .val (.int p2), .val (.long q3), .second, .val (.int p4), .val (.int p5), .val (.int p6), .val (.int (Int32.ofNat n1)), .unset, .unset, .unset, .unset, .unset, .unset, .unset, .unset, .unset, .unset, .unset, .unset, .unset, .unset, .unset, .unset, .unset, .unset] [(.int ((p4 &&& (2147483647 : Int32)) - ((p4 &&& (2147483647 : Int32)) / (57 : Int32)) * (57 : Int32)))])) _
    rw [en2]
    refine XS.istore X0.here hx rfl (hb hby at_17) rfl (l' := #[.val (.long q1), .second, .val (.int p2), .val (.long q3), .second, .val (.int p4), .val (.int p5), .val (.int p6), .val (.int (Int32.ofNat n1)), .val (.int (Int32.ofNat n2)), .unset, .unset, .unset, .unset, .unset, .unset, .unset, .unset, .unset, .unset, .unset, .unset, .unset, .unset, .unset, .unset, .unset]) rfl ?_
    refine sa _ ?_
    refine sb _ ?_
    rw [eu]
    refine sc _ ?_
    refine sd _ ?_
    refine se _ ?_
    refine sf _ ?_
    refine sg _ ?_
    rw [own_expect (by omega) (by omega) (by omega)]
    refine sh _ ?_
    refine si _ ?_
    show Steps p.tables e below (Ti.setTop (mkF m 219 #[.val (.long q1), .second, .val (.int p2), .val (.long q3), .second, .val (.int p4), .val (.int p5), .val (.int p6), .val (.int (Int32.ofNat n1)), .val (.int (Int32.ofNat n2)), .val (.long (q1 &&& (((1 : Int64) <<< ((Int32.ofNat n1) &&& 0x3f).toInt64) - (1 : Int64)))), .second, .val (.long (q3 &&& (((1 : Int64) <<< ((Int32.ofNat n2) &&& 0x3f).toInt64) - (1 : Int64)))), .second, .val (.long (Int64.ofNat u)), .second, .val (.int (own_b (p6 &&& (1 : Int32)))), .val (.int (own_b (p6 &&& (2 : Int32)))), .val (.ref be), .val (.long (((Int32.ofNat (n1 / 8)).toInt64 * (8 : Int64)) + ((Int32.ofNat (n1 % 8)).toInt64))), .second, .val (.long (Int64.ofNat (n1 + n2 + u + 1))), .second, .val (.long j23), .second, s25, s26] [])) _
    refine XS.iconst Xi.here hx rfl (hb hby at_219) ?_
    show Steps p.tables e below (Ti.setTop (mkF m 220 #[.val (.long q1), .second, .val (.int p2), .val (.long q3), .second, .val (.int p4), .val (.int p5), .val (.int p6), .val (.int (Int32.ofNat n1)), .val (.int (Int32.ofNat n2)), .val (.long (q1 &&& (((1 : Int64) <<< ((Int32.ofNat n1) &&& 0x3f).toInt64) - (1 : Int64)))), .second, .val (.long (q3 &&& (((1 : Int64) <<< ((Int32.ofNat n2) &&& 0x3f).toInt64) - (1 : Int64)))), .second, .val (.long (Int64.ofNat u)), .second, .val (.int (own_b (p6 &&& (1 : Int32)))), .val (.int (own_b (p6 &&& (2 : Int32)))), .val (.ref be), .val (.long (((Int32.ofNat (n1 / 8)).toInt64 * (8 : Int64)) + ((Int32.ofNat (n1 % 8)).toInt64))), .second, .val (.long (Int64.ofNat (n1 + n2 + u + 1))), .second, .val (.long j23), .second, s25, s26] [(.int (1 : Int32))])) _
    exact retN Xi hx (t := .boolean) Bd.returns (by simp) (hb hby at_220) hr
  · show Q0 Z q1 p2 q3 p4 p5 p6 h0 n0 _ Ti.heap _
    exact ⟨rfl, Ni⟩
set_option maxRecDepth 65536 in
set_option maxHeartbeats 40000000 in
theorem comes_1 {Post : Tables → Env → Array Value → State → Outcome → State → Prop} (hpost : ∀ tb e args s v u, (limb_1_1.after args s (.returned v) u = true ∧ limb_1_2.after args s (.returned v) u = true ∧ True) → FrameEnd s (.returned v) u (Jvm.fieldLocs frame_1_writes args s ++ Jvm.arrayLocs frame_1_arrays args s ++ Jvm.staticLocs frame_1_statics s) 16 320 → Post tb e args s (.returned v) u) :
    ArmFor flags0 classFile x code maxLocals ret World_1 tables_1 room_1 Calls_1 rest_1 Pre_1 Post := by
  intro l hfl _ _ p e ha hc hk s m args below hf hA hF happ hP
  obtain ⟨hcalls, hrest, hpre⟩ := hP
  obtain ⟨-, -, -, hnamed, -, -, -, hat⟩ := (Spec.applies_iff hf).mp happ
  obtain ⟨hg, hn⟩ := and_e (Cond.before_iff.mp (show (Jvm.Cond.and given_1 narrow_1).before args s = true from hpre))
  obtain ⟨g0, k0⟩ := and_e hg
  obtain ⟨g1, k1⟩ := and_e k0
  obtain ⟨g2, k2⟩ := and_e k1
  obtain ⟨g3, k3⟩ := and_e k2
  obtain ⟨g4, k4⟩ := and_e k3
  obtain ⟨g5, g6⟩ := and_e k4
  obtain ⟨w0, w1, w2, w3, w4, w5, rfl⟩ : ∃ w0 w1 w2 w3 w4 w5 : Value, args = #[w0, w1, w2, w3, w4, w5] := by
    have hs : args.size = 6 := by simpa [Cond.value, given_1] using g0
    obtain ⟨L⟩ := args
    match L, hs with
    | [w0, w1, w2, w3, w4, w5], _ => exact ⟨w0, w1, w2, w3, w4, w5, rfl⟩
  have hw := fun d (hd : d ∈ tables_1) => atoms_spec (ws := Jvm.Cond.code x code maxLocals ret :: tables_1) hat d (List.mem_cons_of_mem _ hd)
  obtain ⟨i0, ei0⟩ := isL_v g1
  obtain rfl : w0 = (.long i0) := Option.some.inj ei0
  obtain ⟨i1, ei1⟩ := is_v g2
  obtain rfl : w1 = (.int i1) := Option.some.inj ei1
  obtain ⟨i2, ei2⟩ := isL_v g3
  obtain rfl : w2 = (.long i2) := Option.some.inj ei2
  obtain ⟨i3, ei3⟩ := is_v g4
  obtain rfl : w3 = (.int i3) := Option.some.inj ei3
  obtain ⟨i4, ei4⟩ := is_v g5
  obtain rfl : w4 = (.int i4) := Option.some.inj ei4
  obtain ⟨i5, ei5⟩ := is_v g6
  obtain rfl : w5 = (.int i5) := Option.some.inj ei5
  obtain ⟨n, o, h1, h2, h3, _, L, rfl, ⟨rfl, N⟩, hq⟩ := rm0 l s _ hw tables_1 i0 i1 i2 i3 i4 i5 s.heap s.heap.size (Nat.le_refl _) p e ha hc hk s m _ below hf ((Spec.applies_iff_loose hf).mp happ).1 ⟨rfl, State.Warmed39.refl s, rfl⟩ trivial
  refine ⟨n, _, h1, h2, h3, hpost _ _ _ _ _ _ ⟨Cond.after_iff.mpr rfl, Cond.after_iff.mpr (eq_i res_at (Term.int_eval (1)) rfl), trivial⟩ ⟨hq.1, hq.2.1, (hq.2.2.sift fun y hy => Or.inr (N y hy)).mono (by decide) (by decide)⟩⟩
theorem main_1_1 : Claimed_1_1 := comes_1 fun _ _ _ _ _ _ h hF => ⟨h.1, hF⟩
theorem main_1_2 : Claimed_1_2 := comes_1 fun _ _ _ _ _ _ h hF => ⟨h.2.1, hF⟩
end Jvm.Pilot.@@N@@
namespace Jvm.Pilot.@@N@@
open Jvm Jvm.ClassFile Sem Op Lib Jvm.Free Jvm.Stand Jvm.Pilot.@@N@@.Jvm.D
/-! MADE BY PROGRAM (witnessworld.py) out of the Statement's table words and the real class files: 12 classes; the members and pool entries that the words name. The judged class is class 1, her method 1. -/
namespace start1
open Jvm.ClassFile
def u (s : String) : CpInfo := .utf8 (stringToUtf16 s)
/-- a pool by its gaps: so many unusable entries, then the entry; so many at the end -/
def gap : Nat → List CpInfo → List CpInfo
  | 0, r => r
  | n + 1, r => .unusable :: gap n r
def poolList (es : List (Nat × CpInfo)) (last : Nat) : List CpInfo := es.foldr (fun e r => gap e.1 (e.2 :: r)) (gap last [])
def pool (es : List (Nat × CpInfo)) (last : Nat) : Array CpInfo := ⟨poolList es last⟩
def fileOf (pool : Array CpInfo) (this : Nat) (attrs : Array Attribute := #[]) (ms : Array MethodInfo := #[]) (fl : Nat := 33) (sup : Nat := 0) (ifs : Array Nat := #[]) (fds : Array FieldInfo := #[]) : ClassFile where
  minorVersion := 0
  majorVersion := 65
  constantPool := pool
  accessFlags := fl
  thisClass := this
  superClass := sup
  interfaces := ifs
  fields := fds
  methods := ms
  attributes := attrs
def plain (name : String) (sup : Option ClassId) : Class where
  name := name
  kind := .ordinary
  loader := none
  accessFlags := 33
  super := sup
  interfaces := #[]
  cf := none
  fields := #[]
  methods := #[]
  instanceTypes := #[]
  staticTypes := #[]
  resolved := #[]
  callSites := []
  init := .initialized
  statics := none
  mirror := none

def pool0 : Array CpInfo := pool [(5, u "<init>"), (0, u "()V"), (1, .class_ 10), (1, u "java/lang/Object")] 113

def k0c0 : Code := { maxStack := 0, maxLocals := 1, code := object_method_1_code, exceptionTable := #[], attributes := #[] }
def k0m0 : Method := { name := "<init>", desc := "()V", sig := { parameters := [], returnType := none }, accessFlags := 1, code := some k0c0 }
/-- java/lang/Object -/
def k0 : Class := { plain "java/lang/Object" none with
  accessFlags := 33
  interfaces := #[]
  cf := some (fileOf pool0 8 #[] #[{ accessFlags := 1, nameIndex := 5, descriptorIndex := 6, attributes := #[] }] 33 0 #[] #[])
  fields := #[]
  methods := #[k0m0]
  instanceTypes := #[]
  staticTypes := #[]
  resolved := Array.replicate 124 none
  statics := none }

def pool1 : Array CpInfo := pool [(2, .class_ 4), (0, .nameAndType 5 6), (0, u "java/lang/Object"), (0, u "<init>"), (0, u "()V"), (0, .integer 2147483647), (0, .class_ 9), (0, u "com/example/wrasse/wrasse/index/BitWriter"), (0, .methodref 8 3), (0, .methodref 8 12), (0, .nameAndType 13 14), (0, u "writeBits"), (0, u "(JI)V"), (0, .methodref 8 16), (0, .nameAndType 17 18), (0, u "bitSize"), (0, u "()J"), (0, .methodref 8 20), (0, .nameAndType 21 22), (0, u "writeUnary"), (0, u "(J)V"), (0, .methodref 8 24), (0, .nameAndType 25 6), (0, u "alignToByte"), (0, .long 7), (1, .long 8), (1, .methodref 8 31), (0, .nameAndType 32 6), (0, u "clear"), (0, .class_ 34), (0, u "com/example/wrasse/wrasse/index/BitWriterBitSizePinLaw"), (2, u "law"), (0, u "(JIJIII)Z")] 3

def k1m0 : Method := { name := "<init>", desc := "()V", sig := { parameters := [], returnType := none }, accessFlags := 1, code := none }
def k1c1 : Code := { maxStack := 6, maxLocals := 27, code := code, exceptionTable := #[], attributes := #[] }
def k1m1 : Method := { name := "law", desc := "(JIJIII)Z", sig := { parameters := [.long, .int, .long, .int, .int, .int], returnType := some .boolean }, accessFlags := 9, code := some k1c1 }
/-- com/example/wrasse/wrasse/index/BitWriterBitSizePinLaw -/
def k1 : Class := { plain "com/example/wrasse/wrasse/index/BitWriterBitSizePinLaw" (some 0) with
  accessFlags := 49
  interfaces := #[]
  cf := some (fileOf pool1 33 #[] #[{ accessFlags := 1, nameIndex := 5, descriptorIndex := 6, attributes := #[] }, { accessFlags := 9, nameIndex := 37, descriptorIndex := 38, attributes := #[] }] 49 2 #[] #[])
  fields := #[]
  methods := #[k1m0, k1m1]
  instanceTypes := #[]
  staticTypes := #[]
  resolved := Array.replicate 42 none
  statics := none }

def pool2 : Array CpInfo := pool [(1, .methodref 2 3), (0, .class_ 4), (0, .nameAndType 5 6), (0, u "java/lang/Object"), (0, u "<init>"), (0, u "()V"), (0, .fieldref 8 9), (0, .class_ 10), (0, .nameAndType 11 12), (0, u "com/example/wrasse/wrasse/index/BitWriter"), (0, u "bytes"), (0, u "[B"), (0, .fieldref 8 14), (0, .nameAndType 15 16), (0, u "pending"), (0, u "J"), (0, .fieldref 8 18), (0, .nameAndType 19 20), (0, u "pendingBits"), (0, u "I"), (2, .fieldref 8 24), (0, .nameAndType 25 20), (0, u "size"), (2, .methodref 29 30), (0, .class_ 31), (0, .nameAndType 32 33), (0, u "java/lang/Math"), (0, u "max"), (0, u "(II)I"), (0, .methodref 35 36), (0, .class_ 37), (0, .nameAndType 38 39), (0, u "java/util/Arrays"), (0, u "copyOf"), (0, u "([BI)[B"), (0, .long 56), (1, .methodref 8 43), (0, .nameAndType 44 45), (0, u "writeBits"), (0, u "(JI)V"), (2, u "writeUnary"), (0, u "(J)V"), (17, .long 8), (10, u "MOST_BITS"), (12, u "bitSize"), (0, u "()J"), (0, u "alignToByte"), (7, u "clear")] 2

def k2c0 : Code := { maxStack := 2, maxLocals := 1, code := prog_33_method_1_code, exceptionTable := #[], attributes := #[] }
def k2m0 : Method := { name := "<init>", desc := "()V", sig := { parameters := [], returnType := none }, accessFlags := 0, code := some k2c0 }
def k2c1 : Code := { maxStack := 6, maxLocals := 4, code := prog_33_method_2_code, exceptionTable := #[], attributes := #[] }
def k2m1 : Method := { name := "writeBits", desc := "(JI)V", sig := { parameters := [.long, .int], returnType := none }, accessFlags := 0, code := some k2c1 }
def k2c2 : Code := { maxStack := 5, maxLocals := 5, code := prog_33_method_3_code, exceptionTable := #[], attributes := #[] }
def k2m2 : Method := { name := "writeUnary", desc := "(J)V", sig := { parameters := [.long], returnType := none }, accessFlags := 0, code := some k2c2 }
def k2c3 : Code := { maxStack := 4, maxLocals := 1, code := prog_33_method_8_code, exceptionTable := #[], attributes := #[] }
def k2m3 : Method := { name := "bitSize", desc := "()J", sig := { parameters := [], returnType := some .long }, accessFlags := 0, code := some k2c3 }
def k2c4 : Code := { maxStack := 5, maxLocals := 1, code := prog_33_method_9_code, exceptionTable := #[], attributes := #[] }
def k2m4 : Method := { name := "alignToByte", desc := "()V", sig := { parameters := [], returnType := none }, accessFlags := 0, code := some k2c4 }
def k2c5 : Code := { maxStack := 3, maxLocals := 1, code := prog_33_method_12_code, exceptionTable := #[], attributes := #[] }
def k2m5 : Method := { name := "clear", desc := "()V", sig := { parameters := [], returnType := none }, accessFlags := 0, code := some k2c5 }
/-- com/example/wrasse/wrasse/index/BitWriter -/
def k2 : Class := { plain "com/example/wrasse/wrasse/index/BitWriter" (some 0) with
  accessFlags := 48
  interfaces := #[]
  cf := some (fileOf pool2 8 #[] #[{ accessFlags := 0, nameIndex := 5, descriptorIndex := 6, attributes := #[] }, { accessFlags := 0, nameIndex := 44, descriptorIndex := 45, attributes := #[] }, { accessFlags := 0, nameIndex := 48, descriptorIndex := 49, attributes := #[] }, { accessFlags := 0, nameIndex := 91, descriptorIndex := 92, attributes := #[] }, { accessFlags := 0, nameIndex := 93, descriptorIndex := 6, attributes := #[] }, { accessFlags := 0, nameIndex := 101, descriptorIndex := 6, attributes := #[] }] 48 2 #[] #[{ accessFlags := 26, nameIndex := 78, descriptorIndex := 20, attributes := #[] }, { accessFlags := 2, nameIndex := 11, descriptorIndex := 12, attributes := #[] }, { accessFlags := 2, nameIndex := 25, descriptorIndex := 20, attributes := #[] }, { accessFlags := 2, nameIndex := 15, descriptorIndex := 16, attributes := #[] }, { accessFlags := 2, nameIndex := 19, descriptorIndex := 20, attributes := #[] }])
  fields := #[{ name := "MOST_BITS", type := .int, accessFlags := 26, slot := 0, constantValue := 0 }, { name := "bytes", type := (.array .byte), accessFlags := 2, slot := 0, constantValue := 0 }, { name := "size", type := .int, accessFlags := 2, slot := 1, constantValue := 0 }, { name := "pending", type := .long, accessFlags := 2, slot := 2, constantValue := 0 }, { name := "pendingBits", type := .int, accessFlags := 2, slot := 3, constantValue := 0 }]
  methods := #[k2m0, k2m1, k2m2, k2m3, k2m4, k2m5]
  instanceTypes := #[(.array .byte), .int, .long, .int]
  staticTypes := #[.int]
  resolved := Array.replicate 104 none
  statics := none }

def pool3 : Array CpInfo := pool [(1, .class_ 2), (0, u "java/lang/Math"), (1, .class_ 6), (1, u "java/lang/Object"), (0, u "<init>"), (0, u "()V"), (89, .class_ 100), (1, u "java/lang/Math$RandomNumberGeneratorHolder"), (71, u "negativeZeroFloatBits"), (0, u "J"), (2, u "negativeZeroDoubleBits"), (21, u "max"), (2, u "min"), (43, u "$assertionsDisabled"), (0, u "Z"), (88, u "(II)I"), (2, u "twoToTheDoubleScaleDown"), (0, u "D"), (4, u "twoToTheDoubleScaleUp"), (9, u "E"), (3, u "PI"), (2, u "TAU"), (2, u "DEGREES_TO_RADIANS"), (0, u "RADIANS_TO_DEGREES")] 94

def k3m0 : Method := { name := "<init>", desc := "()V", sig := { parameters := [], returnType := none }, accessFlags := 2, code := none }
def k3c1 : Code := { maxStack := 2, maxLocals := 2, code := jdk_29_method_65_code, exceptionTable := #[], attributes := #[] }
def k3m1 : Method := { name := "max", desc := "(II)I", sig := { parameters := [.int, .int], returnType := some .int }, accessFlags := 9, code := some k3c1 }
def k3c2 : Code := { maxStack := 2, maxLocals := 2, code := jdk_29_method_69_code, exceptionTable := #[], attributes := #[] }
def k3m2 : Method := { name := "min", desc := "(II)I", sig := { parameters := [.int, .int], returnType := some .int }, accessFlags := 9, code := some k3c2 }
/-- java/lang/Math -/
def k3 : Class := { plain "java/lang/Math" (some 0) with
  accessFlags := 49
  interfaces := #[]
  cf := some (fileOf pool3 1 #[.nestMembers #[98]] #[{ accessFlags := 2, nameIndex := 7, descriptorIndex := 8, attributes := #[] }, { accessFlags := 9, nameIndex := 198, descriptorIndex := 335, attributes := #[] }, { accessFlags := 9, nameIndex := 201, descriptorIndex := 335, attributes := #[] }] 49 4 #[] #[{ accessFlags := 25, nameIndex := 354, descriptorIndex := 339, attributes := #[] }, { accessFlags := 25, nameIndex := 358, descriptorIndex := 339, attributes := #[] }, { accessFlags := 25, nameIndex := 361, descriptorIndex := 339, attributes := #[] }, { accessFlags := 26, nameIndex := 364, descriptorIndex := 339, attributes := #[] }, { accessFlags := 26, nameIndex := 365, descriptorIndex := 339, attributes := #[] }, { accessFlags := 26, nameIndex := 172, descriptorIndex := 173, attributes := #[] }, { accessFlags := 26, nameIndex := 176, descriptorIndex := 173, attributes := #[] }, { accessFlags := 8, nameIndex := 344, descriptorIndex := 339, attributes := #[] }, { accessFlags := 8, nameIndex := 338, descriptorIndex := 339, attributes := #[] }, { accessFlags := 4120, nameIndex := 245, descriptorIndex := 246, attributes := #[] }])
  fields := #[{ name := "E", type := .double, accessFlags := 25, slot := 0, constantValue := 0 }, { name := "PI", type := .double, accessFlags := 25, slot := 1, constantValue := 0 }, { name := "TAU", type := .double, accessFlags := 25, slot := 2, constantValue := 0 }, { name := "DEGREES_TO_RADIANS", type := .double, accessFlags := 26, slot := 3, constantValue := 0 }, { name := "RADIANS_TO_DEGREES", type := .double, accessFlags := 26, slot := 4, constantValue := 0 }, { name := "negativeZeroFloatBits", type := .long, accessFlags := 26, slot := 5, constantValue := 0 }, { name := "negativeZeroDoubleBits", type := .long, accessFlags := 26, slot := 6, constantValue := 0 }, { name := "twoToTheDoubleScaleUp", type := .double, accessFlags := 8, slot := 7, constantValue := 0 }, { name := "twoToTheDoubleScaleDown", type := .double, accessFlags := 8, slot := 8, constantValue := 0 }, { name := "$assertionsDisabled", type := .boolean, accessFlags := 4120, slot := 9, constantValue := 0 }]
  methods := #[k3m0, k3m1, k3m2]
  instanceTypes := #[]
  staticTypes := #[.double, .double, .double, .double, .double, .long, .long, .double, .double, .boolean]
  resolved := Array.replicate 460 none
  statics := none }

def pool4 : Array CpInfo := pool [(2, .class_ 4), (1, u "java/lang/Object"), (0, u "<init>"), (0, u "()V"), (7, .class_ 16), (1, u "java/util/Arrays"), (57, .class_ 76), (1, u "java/util/Arrays$NaturalOrder"), (36, .class_ 115), (1, u "java/util/Arrays$LegacyMergeSort"), (1, u "Z"), (32, .methodref 151 152), (0, .class_ 153), (0, .nameAndType 154 155), (0, u "java/lang/System"), (0, u "arraycopy"), (0, u "(Ljava/lang/Object;ILjava/lang/Object;II)V"), (146, u "copyOf"), (1, .methodref 305 306), (0, .class_ 307), (0, .nameAndType 308 309), (0, u "java/lang/Math"), (0, u "min"), (0, u "(II)I"), (65, .class_ 376), (0, u "java/util/Arrays$ArrayList"), (68, u "$assertionsDisabled"), (269, u "MIN_ARRAY_SORT_GRAN"), (0, u "I"), (2, u "INSERTIONSORT_THRESHOLD"), (149, u "([BI)[B"), (105, .class_ 976), (0, u "java/util/Arrays$ArrayItr")] 52

def k4m0 : Method := { name := "<init>", desc := "()V", sig := { parameters := [], returnType := none }, accessFlags := 2, code := none }
def k4c1 : Code := { maxStack := 6, maxLocals := 3, code := jdk_65_method_121_code, exceptionTable := #[], attributes := #[] }
def k4m1 : Method := { name := "copyOf", desc := "([BI)[B", sig := { parameters := [(.array .byte), .int], returnType := some (.array .byte) }, accessFlags := 9, code := some k4c1 }
/-- java/util/Arrays -/
def k4 : Class := { plain "java/util/Arrays" (some 0) with
  accessFlags := 49
  interfaces := #[]
  cf := some (fileOf pool4 14 #[.nestMembers #[975, 375, 113, 74]] #[{ accessFlags := 2, nameIndex := 5, descriptorIndex := 6, attributes := #[] }, { accessFlags := 9, nameIndex := 302, descriptorIndex := 869, attributes := #[] }] 49 2 #[] #[{ accessFlags := 26, nameIndex := 715, descriptorIndex := 716, attributes := #[] }, { accessFlags := 26, nameIndex := 719, descriptorIndex := 716, attributes := #[] }, { accessFlags := 4120, nameIndex := 445, descriptorIndex := 117, attributes := #[] }])
  fields := #[{ name := "MIN_ARRAY_SORT_GRAN", type := .int, accessFlags := 26, slot := 0, constantValue := 0 }, { name := "INSERTIONSORT_THRESHOLD", type := .int, accessFlags := 26, slot := 1, constantValue := 0 }, { name := "$assertionsDisabled", type := .boolean, accessFlags := 4120, slot := 2, constantValue := 0 }]
  methods := #[k4m0, k4m1]
  instanceTypes := #[]
  staticTypes := #[.int, .int, .boolean]
  resolved := Array.replicate 1029 none
  statics := none }

def pool5 : Array CpInfo := pool [(2, .class_ 4), (1, u "java/lang/Object"), (0, u "<init>"), (0, u "()V"), (1, .class_ 10), (1, u "java/lang/System"), (0, u "allowSecurityManager"), (0, u "I"), (16, u "cons"), (0, u "Ljava/io/Console;"), (77, .class_ 110), (1, u "java/lang/System$CallersHolder"), (43, u "initialErrStream"), (0, u "Ljava/io/PrintStream;"), (19, u "security"), (0, u "Ljava/lang/SecurityManager;"), (31, .class_ 209), (0, u "java/lang/System$1"), (7, u "props"), (0, u "Ljava/util/Properties;"), (2, u "lineSeparator"), (0, u "Ljava/lang/String;"), (96, .class_ 321), (1, u "java/lang/System$LoggerFinder"), (5, .class_ 328), (0, u "java/lang/System$Logger"), (67, u "err"), (2, u "out"), (91, u "notSupportedJnuEncoding"), (15, u "in"), (17, u "initialIn"), (0, u "Ljava/io/InputStream;"), (35, u "bootLayer"), (0, u "Ljava/lang/ModuleLayer;"), (99, .class_ 664), (0, u "java/lang/System$2"), (9, u "NEVER"), (2, u "MAYBE"), (49, u "arraycopy"), (0, u "(Ljava/lang/Object;ILjava/lang/Object;II)V"), (72, .class_ 802), (0, u "java/lang/System$Logger$Level")] 31

def k5m0 : Method := { name := "<init>", desc := "()V", sig := { parameters := [], returnType := none }, accessFlags := 2, code := none }
def k5m1 : Method := { name := "arraycopy", desc := "(Ljava/lang/Object;ILjava/lang/Object;II)V", sig := { parameters := [(.object "java/lang/Object"), .int, (.object "java/lang/Object"), .int, .int], returnType := none }, accessFlags := 265, code := none }
/-- java/lang/System -/
def k5 : Class := { plain "java/lang/System" (some 0) with
  accessFlags := 49
  interfaces := #[]
  cf := some (fileOf pool5 8 #[.nestMembers #[319, 327, 801, 108, 663, 208]] #[{ accessFlags := 2, nameIndex := 5, descriptorIndex := 6, attributes := #[] }, { accessFlags := 265, nameIndex := 727, descriptorIndex := 728, attributes := #[] }] 49 2 #[] #[{ accessFlags := 25, nameIndex := 507, descriptorIndex := 526, attributes := #[] }, { accessFlags := 25, nameIndex := 399, descriptorIndex := 155, attributes := #[] }, { accessFlags := 25, nameIndex := 396, descriptorIndex := 155, attributes := #[] }, { accessFlags := 10, nameIndex := 525, descriptorIndex := 526, attributes := #[] }, { accessFlags := 26, nameIndex := 674, descriptorIndex := 12, attributes := #[] }, { accessFlags := 26, nameIndex := 677, descriptorIndex := 12, attributes := #[] }, { accessFlags := 10, nameIndex := 11, descriptorIndex := 12, attributes := #[] }, { accessFlags := 74, nameIndex := 175, descriptorIndex := 176, attributes := #[] }, { accessFlags := 10, nameIndex := 491, descriptorIndex := 222, attributes := #[] }, { accessFlags := 74, nameIndex := 29, descriptorIndex := 30, attributes := #[] }, { accessFlags := 74, nameIndex := 154, descriptorIndex := 155, attributes := #[] }, { accessFlags := 10, nameIndex := 217, descriptorIndex := 218, attributes := #[] }, { accessFlags := 10, nameIndex := 221, descriptorIndex := 222, attributes := #[] }, { accessFlags := 8, nameIndex := 562, descriptorIndex := 563, attributes := #[] }])
  fields := #[{ name := "in", type := (.object "java/io/InputStream"), accessFlags := 25, slot := 0, constantValue := 0 }, { name := "out", type := (.object "java/io/PrintStream"), accessFlags := 25, slot := 1, constantValue := 0 }, { name := "err", type := (.object "java/io/PrintStream"), accessFlags := 25, slot := 2, constantValue := 0 }, { name := "initialIn", type := (.object "java/io/InputStream"), accessFlags := 10, slot := 3, constantValue := 0 }, { name := "NEVER", type := .int, accessFlags := 26, slot := 4, constantValue := 0 }, { name := "MAYBE", type := .int, accessFlags := 26, slot := 5, constantValue := 0 }, { name := "allowSecurityManager", type := .int, accessFlags := 10, slot := 6, constantValue := 0 }, { name := "security", type := (.object "java/lang/SecurityManager"), accessFlags := 74, slot := 7, constantValue := 0 }, { name := "notSupportedJnuEncoding", type := (.object "java/lang/String"), accessFlags := 10, slot := 8, constantValue := 0 }, { name := "cons", type := (.object "java/io/Console"), accessFlags := 74, slot := 9, constantValue := 0 }, { name := "initialErrStream", type := (.object "java/io/PrintStream"), accessFlags := 74, slot := 10, constantValue := 0 }, { name := "props", type := (.object "java/util/Properties"), accessFlags := 10, slot := 11, constantValue := 0 }, { name := "lineSeparator", type := (.object "java/lang/String"), accessFlags := 10, slot := 12, constantValue := 0 }, { name := "bootLayer", type := (.object "java/lang/ModuleLayer"), accessFlags := 8, slot := 13, constantValue := 0 }]
  methods := #[k5m0, k5m1]
  instanceTypes := #[]
  staticTypes := #[(.object "java/io/InputStream"), (.object "java/io/PrintStream"), (.object "java/io/PrintStream"), (.object "java/io/InputStream"), .int, .int, .int, (.object "java/lang/SecurityManager"), (.object "java/lang/String"), (.object "java/io/Console"), (.object "java/io/PrintStream"), (.object "java/util/Properties"), (.object "java/lang/String"), (.object "java/lang/ModuleLayer")]
  resolved := Array.replicate 834 none
  statics := none }

def pool6 : Array CpInfo := pool [(1, u "java/lang/Cloneable"), (0, .class_ 1), (0, u "java/lang/Object"), (0, .class_ 3)] 3

/-- java/lang/Cloneable -/
def k6 : Class := { plain "java/lang/Cloneable" (some 0) with
  accessFlags := 1537
  interfaces := #[]
  cf := some (fileOf pool6 2 #[] #[] 1537 4 #[] #[])
  fields := #[]
  methods := #[]
  instanceTypes := #[]
  staticTypes := #[]
  resolved := Array.replicate 8 none
  statics := none }

def pool7 : Array CpInfo := pool [(1, u "java/io/Serializable"), (0, .class_ 1), (0, u "java/lang/Object"), (0, .class_ 3)] 3

/-- java/io/Serializable -/
def k7 : Class := { plain "java/io/Serializable" (some 0) with
  accessFlags := 1537
  interfaces := #[]
  cf := some (fileOf pool7 2 #[] #[] 1537 4 #[] #[])
  fields := #[]
  methods := #[]
  instanceTypes := #[]
  staticTypes := #[]
  resolved := Array.replicate 8 none
  statics := none }

/-- the primitive byte -/
def k8 : Class := { plain "byte" none with kind := .primitive 'B', accessFlags := 0x411 }
/-- [B -/
def k9 : Class := { plain "[B" (some 0) with kind := .array 8 .byte, interfaces := #[6, 7], accessFlags := 1041 }

/-- the primitive int -/
def k10 : Class := { plain "int" none with kind := .primitive 'I', accessFlags := 0x411 }
/-- [I -/
def k11 : Class := { plain "[I" (some 0) with kind := .array 10 .int, interfaces := #[6, 7], accessFlags := 1041 }

def heap : Heap := #[]
def classes : Array Class := #[k0, k1, k2, k3, k4, k5, k6, k7, k8, k9, k10, k11]
def interned : List (Array UInt16 × Addr) := []
def slotsUsed : Nat := 0
def theMethod : MethodId := ⟨1, 1⟩
def args0 : Array Value := #[.long 5, .int 13, .long 77, .int 9, .int 60, .int 3]
def aboutOver (below : List Frame) : State where
  vm := { classes := classes, interned := interned.toArray }
  heap := heap
  slotsUsed := slotsUsed
  threads := #[{ frames := .invoking theMethod args0 :: below }]
def below0 : List Frame := [.native { method := ⟨0, 0⟩, args := #[] }]
def about1 : State := aboutOver below0
def p0 : Program := .bare "" "" ""
def e0 : Env := launch0.env 0 0 0
theorem w_frames : about1.frames = Frame.invoking theMethod args0 :: below0 := rfl
set_option maxRecDepth 65536 in
theorem w_args : argsFit about1.vm theMethod args0 = true := by decide +kernel
set_option maxRecDepth 65536 in
theorem w_heap : heapFits about1 = true := by decide +kernel
set_option maxRecDepth 65536 in
theorem w_runnable : about1.curStatus? = some .runnable := by decide +kernel
set_option maxRecDepth 65536 in
theorem w_alone : about1.alone = true := by decide +kernel
set_option maxRecDepth 65536 in
theorem w_named : about1.methodNamed? x = some theMethod := by decide +kernel
set_option maxRecDepth 65536 in
theorem w_hears : about1.hears theMethod below0 = true := by decide +kernel
set_option maxRecDepth 65536 in
theorem w_ripe : about1.ripe theMethod args0 below0 = true := by decide +kernel
theorem w_running : about1.status = .running := rfl
set_option maxRecDepth 65536 in
theorem w_room : about1.hasRoom e0.platform room_1 = true :=
  launch0.hasRoom_least _ room_1 (by decide +kernel) (by decide +kernel) (by decide +kernel) (by decide +kernel) (by decide +kernel) (by decide +kernel)
theorem allAtoms_all (ts : List Jvm.Cond) (a : Array Jvm.Value) (st : Jvm.State) : (allAtoms ts).before a st = ts.all (fun c => c.before a st) := by
  induction ts with
  | nil => rfl
  | cons c t ih =>
    show (Jvm.Cond.and c (allAtoms t)).before a st = _
    rw [Jvm.Cond.before_and, ih, List.all_cons]
def words1 : List Jvm.Cond := Jvm.Cond.code x code maxLocals ret :: tables_1
/-- a 'code' word, met by the world's own term for the bytes: nothing is compared byte by byte -/
theorem code_word {y : MethodName} {bytes : ByteArray} {mx : Nat} {rt : Option FieldType} {a : Array Value} {s : State} {m : MethodId} {meth : Method} {c : Code} (h1 : s.methodNamed? y = some m) (h2 : s.vm.method? m = some meth) (h3 : meth.code = some c) (h4 : c.code = bytes)
    (h5 : (c.maxLocals == mx && c.exceptionTable.isEmpty && decide (c.maxStack ≤ mostOperands) && decide (meth.sig.returnType = rt) && !meth.locks && decide (parseMethodDescriptor y.desc = some meth.sig)) = true) : (Jvm.Cond.code y bytes mx rt).before a s = true := by
  simp only [Bool.and_eq_true, beq_iff_eq, Bool.not_eq_true', decide_eq_true_eq] at h5
  obtain ⟨⟨⟨⟨⟨g1, g2⟩, g3⟩, g4⟩, g5⟩, g6⟩ := h5
  simp [Cond.before, Cond.holds, Cond.value, h1, h2, h3, h4, g1, g2, g3, g4, g5, g6]
def isCode : Jvm.Cond → Bool
  | .code _ _ _ _ => true
  | _ => false
theorem all_split {L : List Jvm.Cond} {P : Jvm.Cond → Bool} (h1 : L.all (fun c => isCode c || P c) = true) (h2 : ∀ c ∈ L.filter isCode, P c = true) : L.all P = true := by
  refine List.all_eq_true.mpr fun c hc => ?_
  have h := List.all_eq_true.mp h1 c hc
  rcases Bool.eq_false_or_eq_true (isCode c) with hi | hi
  · exact h2 c (List.mem_filter.mpr ⟨hc, hi⟩)
  · simpa [hi] using h
set_option maxRecDepth 65536 in
theorem w_c0 : (Jvm.Cond.code x code maxLocals ret).before args0 about1 = true := code_word (m := ⟨1, 1⟩) (meth := k1m1) (c := k1c1) (by decide +kernel) rfl rfl rfl (by decide +kernel)
set_option maxRecDepth 65536 in
theorem w_c1 : (Jvm.Cond.code ({ cls := "com/example/wrasse/wrasse/index/BitWriter", name := "<init>", desc := "()V" } : Jvm.MethodName) prog_33_method_1_code (1 : Nat) (Option.none : Option Jvm.ClassFile.FieldType)).before args0 about1 = true := code_word (m := ⟨2, 0⟩) (meth := k2m0) (c := k2c0) (by decide +kernel) rfl rfl rfl (by decide +kernel)
set_option maxRecDepth 65536 in
theorem w_c2 : (Jvm.Cond.code ({ cls := "java/lang/Object", name := "<init>", desc := "()V" } : Jvm.MethodName) object_method_1_code (1 : Nat) (Option.none : Option Jvm.ClassFile.FieldType)).before args0 about1 = true := code_word (m := ⟨0, 0⟩) (meth := k0m0) (c := k0c0) (by decide +kernel) rfl rfl rfl (by decide +kernel)
set_option maxRecDepth 65536 in
theorem w_c3 : (Jvm.Cond.code ({ cls := "com/example/wrasse/wrasse/index/BitWriter", name := "writeBits", desc := "(JI)V" } : Jvm.MethodName) prog_33_method_2_code (4 : Nat) (Option.none : Option Jvm.ClassFile.FieldType)).before args0 about1 = true := code_word (m := ⟨2, 1⟩) (meth := k2m1) (c := k2c1) (by decide +kernel) rfl rfl rfl (by decide +kernel)
set_option maxRecDepth 65536 in
theorem w_c4 : (Jvm.Cond.code ({ cls := "com/example/wrasse/wrasse/index/BitWriter", name := "bitSize", desc := "()J" } : Jvm.MethodName) prog_33_method_8_code (1 : Nat) (Option.some Jvm.ClassFile.FieldType.long)).before args0 about1 = true := code_word (m := ⟨2, 3⟩) (meth := k2m3) (c := k2c3) (by decide +kernel) rfl rfl rfl (by decide +kernel)
set_option maxRecDepth 65536 in
theorem w_c5 : (Jvm.Cond.code ({ cls := "com/example/wrasse/wrasse/index/BitWriter", name := "writeUnary", desc := "(J)V" } : Jvm.MethodName) prog_33_method_3_code (5 : Nat) (Option.none : Option Jvm.ClassFile.FieldType)).before args0 about1 = true := code_word (m := ⟨2, 2⟩) (meth := k2m2) (c := k2c2) (by decide +kernel) rfl rfl rfl (by decide +kernel)
set_option maxRecDepth 65536 in
theorem w_c6 : (Jvm.Cond.code ({ cls := "com/example/wrasse/wrasse/index/BitWriter", name := "alignToByte", desc := "()V" } : Jvm.MethodName) prog_33_method_9_code (1 : Nat) (Option.none : Option Jvm.ClassFile.FieldType)).before args0 about1 = true := code_word (m := ⟨2, 4⟩) (meth := k2m4) (c := k2c4) (by decide +kernel) rfl rfl rfl (by decide +kernel)
set_option maxRecDepth 65536 in
theorem w_c7 : (Jvm.Cond.code ({ cls := "com/example/wrasse/wrasse/index/BitWriter", name := "clear", desc := "()V" } : Jvm.MethodName) prog_33_method_12_code (1 : Nat) (Option.none : Option Jvm.ClassFile.FieldType)).before args0 about1 = true := code_word (m := ⟨2, 5⟩) (meth := k2m5) (c := k2c5) (by decide +kernel) rfl rfl rfl (by decide +kernel)
set_option maxRecDepth 65536 in
theorem w_c8 : (Jvm.Cond.code ({ cls := "java/lang/Math", name := "max", desc := "(II)I" } : Jvm.MethodName) jdk_29_method_65_code (2 : Nat) (Option.some Jvm.ClassFile.FieldType.int)).before args0 about1 = true := code_word (m := ⟨3, 1⟩) (meth := k3m1) (c := k3c1) (by decide +kernel) rfl rfl rfl (by decide +kernel)
set_option maxRecDepth 65536 in
theorem w_c9 : (Jvm.Cond.code ({ cls := "java/util/Arrays", name := "copyOf", desc := "([BI)[B" } : Jvm.MethodName) jdk_65_method_121_code (3 : Nat) (Option.some (Jvm.ClassFile.FieldType.array Jvm.ClassFile.FieldType.byte))).before args0 about1 = true := code_word (m := ⟨4, 1⟩) (meth := k4m1) (c := k4c1) (by decide +kernel) rfl rfl rfl (by decide +kernel)
set_option maxRecDepth 65536 in
theorem w_c10 : (Jvm.Cond.code ({ cls := "java/lang/Math", name := "min", desc := "(II)I" } : Jvm.MethodName) jdk_29_method_69_code (2 : Nat) (Option.some Jvm.ClassFile.FieldType.int)).before args0 about1 = true := code_word (m := ⟨3, 2⟩) (meth := k3m2) (c := k3c2) (by decide +kernel) rfl rfl rfl (by decide +kernel)
def codes1 : List Jvm.Cond := [Jvm.Cond.code x code maxLocals ret, Jvm.Cond.code ({ cls := "com/example/wrasse/wrasse/index/BitWriter", name := "<init>", desc := "()V" } : Jvm.MethodName) prog_33_method_1_code (1 : Nat) (Option.none : Option Jvm.ClassFile.FieldType), Jvm.Cond.code ({ cls := "java/lang/Object", name := "<init>", desc := "()V" } : Jvm.MethodName) object_method_1_code (1 : Nat) (Option.none : Option Jvm.ClassFile.FieldType), Jvm.Cond.code ({ cls := "com/example/wrasse/wrasse/index/BitWriter", name := "writeBits", desc := "(JI)V" } : Jvm.MethodName) prog_33_method_2_code (4 : Nat) (Option.none : Option Jvm.ClassFile.FieldType), Jvm.Cond.code ({ cls := "com/example/wrasse/wrasse/index/BitWriter", name := "bitSize", desc := "()J" } : Jvm.MethodName) prog_33_method_8_code (1 : Nat) (Option.some Jvm.ClassFile.FieldType.long), Jvm.Cond.code ({ cls := "com/example/wrasse/wrasse/index/BitWriter", name := "writeUnary", desc := "(J)V" } : Jvm.MethodName) prog_33_method_3_code (5 : Nat) (Option.none : Option Jvm.ClassFile.FieldType), Jvm.Cond.code ({ cls := "com/example/wrasse/wrasse/index/BitWriter", name := "alignToByte", desc := "()V" } : Jvm.MethodName) prog_33_method_9_code (1 : Nat) (Option.none : Option Jvm.ClassFile.FieldType), Jvm.Cond.code ({ cls := "com/example/wrasse/wrasse/index/BitWriter", name := "clear", desc := "()V" } : Jvm.MethodName) prog_33_method_12_code (1 : Nat) (Option.none : Option Jvm.ClassFile.FieldType), Jvm.Cond.code ({ cls := "java/lang/Math", name := "max", desc := "(II)I" } : Jvm.MethodName) jdk_29_method_65_code (2 : Nat) (Option.some Jvm.ClassFile.FieldType.int), Jvm.Cond.code ({ cls := "java/util/Arrays", name := "copyOf", desc := "([BI)[B" } : Jvm.MethodName) jdk_65_method_121_code (3 : Nat) (Option.some (Jvm.ClassFile.FieldType.array Jvm.ClassFile.FieldType.byte)), Jvm.Cond.code ({ cls := "java/lang/Math", name := "min", desc := "(II)I" } : Jvm.MethodName) jdk_29_method_69_code (2 : Nat) (Option.some Jvm.ClassFile.FieldType.int)]
set_option maxRecDepth 65536 in
theorem codes_eq : words1.filter isCode = codes1 := rfl
theorem w_codes : ∀ c ∈ words1.filter isCode, c.before args0 about1 = true := by
  rw [codes_eq]
  intro c hc
  simp only [codes1, List.mem_cons, List.not_mem_nil, or_false] at hc
  rcases hc with rfl | rfl | rfl | rfl | rfl | rfl | rfl | rfl | rfl | rfl | rfl
  · exact w_c0
  · exact w_c1
  · exact w_c2
  · exact w_c3
  · exact w_c4
  · exact w_c5
  · exact w_c6
  · exact w_c7
  · exact w_c8
  · exact w_c9
  · exact w_c10
set_option maxRecDepth 65536 in
theorem w_t1 : (words1.take 24).all (fun c => isCode c || c.before args0 about1) = true := by decide +kernel
set_option maxRecDepth 65536 in
theorem w_t2 : ((words1.drop 24).take 24).all (fun c => isCode c || c.before args0 about1) = true := by decide +kernel
set_option maxRecDepth 65536 in
theorem w_t3 : ((words1.drop 24).drop 24).all (fun c => isCode c || c.before args0 about1) = true := by decide +kernel
theorem w_tables : (allAtoms (Jvm.Cond.code x code maxLocals ret :: tables_1)).before args0 about1 = true := by
  rw [allAtoms_all]
  show words1.all (fun c => c.before args0 about1) = true
  refine all_split ?_ w_codes
  rw [← List.take_append_drop 24 words1, List.all_append, w_t1, ← List.take_append_drop 24 (words1.drop 24), List.all_append, w_t2, w_t3]
  rfl
set_option maxRecDepth 65536 in
theorem w_case : (Jvm.Cond.and given_1 narrow_1).before args0 about1 = true := by decide +kernel
theorem w_applies : (headSpec (Jvm.Cond.code x code maxLocals ret :: tables_1) room_1).applies x e0.platform about1 = true :=
  (Spec.applies_iff w_frames).mpr ⟨w_running, w_runnable, w_alone, w_named, w_hears, w_ripe, w_room, w_tables⟩
theorem atStart : AtStart classFile x code maxLocals ret World_1 tables_1 room_1 Calls_1 rest_1 Pre_1 launch0 p0 e0 about1 theMethod args0 below0 :=
  ⟨lists_1, trivial, launch0.admits_env _ _ _, launch0.least_env, fairChoices_fair.cas, fairChoices_fair.clock, w_frames, w_args, w_heap, w_applies, trivial, trivial, w_case⟩
end start1
theorem witness_1 : WitnessClaimed_1 := ⟨start1.p0, start1.e0, start1.about1, start1.theMethod, start1.args0, start1.below0, start1.atStart⟩
end Jvm.Pilot.@@N@@
