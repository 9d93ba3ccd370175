import JvmDerived
import JvmDerived.Pilot.@@N@@Statement
import JvmDerived.Pilot.@@N@@Code
set_option linter.unusedVariables false
set_option linter.unusedSimpArgs false
namespace Jvm.RoadKit
open Sem ClassFile Op Lib Jvm.Stand Jvm.Free Jvm.LawKit
section New
variable {p : Program} {l : Launch} {e : Env} {R : Room} {s : State} {m : MethodId} {args : Array Value} {below : List Frame} {meth : Method} {c : Code} {T : State} {locs : List Loc} {cells slots : Nat}
theorem retI (X : Stand p l e R s m args below meth c T locs cells slots) (hx : p.tables.exec = Jvm.exec) {pc : Nat} {Ls : Array Slot} {z : Int32} {rest : List Value} (hret : meth.sig.returnType = some .int) (hd : decode c.code pc = .ok (.ireturn, 1)) {fs : List Frame}
    (hl : ∀ (f : JFrame) (acts : List Action), f.method = m → f.locked = none → f.entered = [] → (doReturn e (T.setTop f) acts (some (.int z))).1 = T.setFrames fs) : Steps p.tables e below (T.setTop (mkF m pc Ls (.int z :: rest))) (T.setFrames fs) := by
  have hm' : T.vm.method? m = some meth := X.method'
  have hn : narrow .int (.int z) = .int z := rfl
  show Steps p.tables e below (T.setTop { method := m, pc := pc, locals := Ls, stack := _ :: rest, locked := none }) _
  jvm_step X.here [X.here.top, hx, hd, hm', hret, hn]
  first | (intro acts; rw [hl _ acts rfl rfl rfl]) | rw [hl _ _ rfl rfl rfl]
  exact Steps.refl _
end New
end Jvm.RoadKit
namespace Jvm.Pilot.@@N@@
open Jvm Jvm.ClassFile Sem Op Lib Jvm.Free Jvm.Stand Jvm.LawKit Jvm.RoadKit Bundle Jvm.Pilot.@@N@@.Jvm.D
theorem own_h1 (x : Int64) : (((0 : Int64) + 1) * 256 + ((0 : Int64) + x) * 2) = 256 + 2 * x := by
  rw [Int64.zero_add, Int64.zero_add, Int64.one_mul, Int64.mul_comm x 2]
theorem own_h2 (x y : Int64) : ((((0 : Int64) + 1) + 1) * 256 + ((((0 : Int64) + x) + y)) * 2) = 512 + 2 * (x + y) := by
  rw [Int64.zero_add x, Int64.mul_comm (x + y) 2]
  have : (((0 : Int64) + 1) + 1) * 256 = 512 := by decide
  rw [this]
theorem d1_0 : decode prog_23_method_1_code 0 = .ok (.aload_n 0, 1) := by decide +kernel
theorem d1_1 : decode prog_23_method_1_code 1 = .ok (.invokespecial 1, 3) := by decide +kernel
theorem d1_4 : decode prog_23_method_1_code 4 = .ok (.return_, 1) := by decide +kernel
theorem pn_1 : plainName "com/example/levies_on_invoices/leviesoninvoices/io/NameTally" = true := by first | (simp [plainName, overriddenIn]; done) | decide +kernel
theorem ef_1 (m : MethodId) (x0 : Addr) : entryFrame m #[(.ref x0)] 1 = mkF m 0 #[.val (.ref x0)] [] := by first | (simp [entryFrame, mkF, argsToLocals, Value.category]; done) | rfl
def Q1 (Z : State) (a1 : Addr) (h0 : Heap) (n0 : Nat) (v : Option Value) (h : Heap) (L : List Loc) : Prop := v = none ∧ Fr n0 L ∧ h = h0
set_option maxRecDepth 65536 in
set_option maxHeartbeats 40000000 in
theorem rm1 (l : Launch) (Z : State) (a0 : Array Value) (hw : ∀ d ∈ tables_1, d.before a0 Z = true) (ws : List Jvm.Cond) (a1 : Addr) (h0 : Heap) (n0 : Nat) (Z0 : n0 ≤ h0.size) :
    MetFree l (⟨"com/example/levies_on_invoices/leviesoninvoices/io/NameTally", "<init>", "()V"⟩ : MethodName) (head1 (Jvm.Cond.code (⟨"com/example/levies_on_invoices/leviesoninvoices/io/NameTally", "<init>", "()V"⟩ : MethodName) prog_23_method_1_code 1 none :: ws) ({ frames := 1, cells := 0, slots := 0, locals := 12 } : Room)) (fun a U => a = #[(.ref a1)] ∧ Z.Warmed39 U.vm ∧ U.heap = h0) (fun _ _ _ _ _ => True) (fun _ U o U' => ∃ v L, o = .returned v ∧ Q1 Z a1 h0 n0 v U'.heap L ∧ FrameEnd U o U' L ({ frames := 1, cells := 0, slots := 0, locals := 12 } : Room).cells ({ frames := 1, cells := 0, slots := 0, locals := 12 } : Room).slots) := by
  refine MetFree.of_bodySF (plainFor_of_name pn_1) hisR ?_
  intro p e s m args below meth c s₁ Bd hml0 hP hK
  obtain ⟨rfl, hZ, hh⟩ := hP
  have hx := Bd.exec
  have hby := Bd.bytes
  have hml : c.maxLocals = 1 := hml0
  have hown : s.vm.findClass "com/example/levies_on_invoices/leviesoninvoices/io/NameTally" = some m.cls := findClass_of_methodNamed Bd.named
  have hnm := (name_of_methodNamed Bd.named Bd.method).1
  have X0 : Stand p l e ({ frames := 1, cells := 0, slots := 0, locals := 12 } : Room) s m #[(.ref a1)] below meth c s₁ [] 0 0 := Stand.of_body Bd
  have e0 : s₁.heap = h0 := by rw [← hh, Bd.state]; rfl
  have N0 := Fr.nil n0
  have pre0 : ∀ t, Steps p.tables e below (s₁.setTop (mkF m 0 #[.val (.ref a1)] [])) t → Steps p.tables e below (s₁.setTop (entryFrame m #[(.ref a1)] 1)) t := fun t k => castTop (ef_1 m a1) k
  obtain ⟨T2, X2, e2, st2⟩ := initO X0 hx hZ hown (hw _ (List.mem_of_getElem? (i := 6) rfl)) (hw _ (List.mem_of_getElem? (i := 7) rfl)) (hw _ (List.mem_of_getElem? (i := 8) rfl)) e0 (g := (mkF m 1 #[.val (.ref a1)] [(.ref a1)])) rfl (by rw [hml]; rfl) rfl (hb hby d1_1) (by decide) (W := 0) (by show 2 * 0 + _ ≤ _; exact Nat.le_of_eq rfl) (by decide)
  obtain ⟨fs, hr, hrun, hended, hW, hsame⟩ := X2.leave (v := none) (fun _ => rfl)
  refine ⟨_, _, pre0 _ ?_, hrun, hended, _, _, rfl, ?_, ⟨_, rfl⟩, hW, hsame.mono (by decide) (by decide)⟩
  · show Steps p.tables e below (s₁.setTop (mkF m 0 #[.val (.ref a1)] [])) _
    refine XS.aloadN X0.here hx rfl (hb hby d1_0) rfl rfl ?_
    show Steps p.tables e below (s₁.setTop (mkF m 1 #[.val (.ref a1)] [(.ref a1)])) _
    refine st2 _ ?_
    show Steps p.tables e below (T2.setTop (mkF m 4 #[.val (.ref a1)] [])) _
    exact X2.returnOut hx Bd.returns (hb hby d1_4) hr
  · show Q1 Z a1 h0 n0 _ T2.heap _
    rw [e2]
    exact ⟨rfl, N0, rfl⟩
theorem d3_0 : decode prog_23_method_2_code 0 = .ok (.aload_n 0, 1) := by decide +kernel
theorem d3_1 : decode prog_23_method_2_code 1 = .ok (.dup, 1) := by decide +kernel
theorem d3_2 : decode prog_23_method_2_code 2 = .ok (.getfield 7, 3) := by decide +kernel
theorem d3_5 : decode prog_23_method_2_code 5 = .ok (.lconst 1, 1) := by decide +kernel
theorem d3_6 : decode prog_23_method_2_code 6 = .ok (.ladd, 1) := by decide +kernel
theorem d3_7 : decode prog_23_method_2_code 7 = .ok (.putfield 7, 3) := by decide +kernel
theorem d3_10 : decode prog_23_method_2_code 10 = .ok (.aload_n 0, 1) := by decide +kernel
theorem d3_11 : decode prog_23_method_2_code 11 = .ok (.dup, 1) := by decide +kernel
theorem d3_12 : decode prog_23_method_2_code 12 = .ok (.getfield 13, 3) := by decide +kernel
theorem d3_15 : decode prog_23_method_2_code 15 = .ok (.iload_n 1, 1) := by decide +kernel
theorem d3_16 : decode prog_23_method_2_code 16 = .ok (.i2l, 1) := by decide +kernel
theorem d3_17 : decode prog_23_method_2_code 17 = .ok (.ladd, 1) := by decide +kernel
theorem d3_18 : decode prog_23_method_2_code 18 = .ok (.putfield 13, 3) := by decide +kernel
theorem d3_21 : decode prog_23_method_2_code 21 = .ok (.return_, 1) := by decide +kernel
theorem pn_3 : plainName "com/example/levies_on_invoices/leviesoninvoices/io/NameTally" = true := by first | (simp [plainName, overriddenIn]; done) | decide +kernel
theorem ef_3 (m : MethodId) (x0 : Addr) (x1 : Int32) : entryFrame m #[(.ref x0), (.int x1)] 2 = mkF m 0 #[.val (.ref x0), .val (.int x1)] [] := by first | (simp [entryFrame, mkF, argsToLocals, Value.category]; done) | rfl
def Q3 (Z : State) (a1 : Addr) (p2 : Int32) (w3 : Int64) (w6 : Int64) (h0 : Heap) (n0 : Nat) (v : Option Value) (h : Heap) (L : List Loc) : Prop := v = none ∧ Fr n0 L ∧ Keep h0 h [a1] ∧ Exa Z h a1 "com/example/levies_on_invoices/leviesoninvoices/io/NameTally" ∧ Fld Z h a1 "com/example/levies_on_invoices/leviesoninvoices/io/NameTally" "names" "J" (.long (w3 + (1 : Int64))) ∧ Fld Z h a1 "com/example/levies_on_invoices/leviesoninvoices/io/NameTally" "bytes" "J" (.long (w6 + (p2.toInt64)))
set_option maxRecDepth 65536 in
set_option maxHeartbeats 40000000 in
theorem rm3 (l : Launch) (Z : State) (a0 : Array Value) (hw : ∀ d ∈ tables_1, d.before a0 Z = true) (ws : List Jvm.Cond) (a1 : Addr) (p2 : Int32) (w3 : Int64) (w6 : Int64) (h0 : Heap) (n0 : Nat) (Z0 : n0 ≤ h0.size) (F_names_a1 : Fld Z h0 a1 "com/example/levies_on_invoices/leviesoninvoices/io/NameTally" "names" "J" (.long w3)) (E_a1 : Exa Z h0 a1 "com/example/levies_on_invoices/leviesoninvoices/io/NameTally") (g_a1 : n0 ≤ a1) (F_bytes_a1 : Fld Z h0 a1 "com/example/levies_on_invoices/leviesoninvoices/io/NameTally" "bytes" "J" (.long w6)) :
    MetFree l (⟨"com/example/levies_on_invoices/leviesoninvoices/io/NameTally", "keep", "(I)V"⟩ : MethodName) (head1 (Jvm.Cond.code (⟨"com/example/levies_on_invoices/leviesoninvoices/io/NameTally", "keep", "(I)V"⟩ : MethodName) prog_23_method_2_code 2 none :: ws) ({ frames := 0, cells := 0, slots := 0, locals := 0 } : Room)) (fun a U => a = #[(.ref a1), (.int p2)] ∧ Z.Warmed39 U.vm ∧ U.heap = h0) (fun _ _ _ _ _ => True) (fun _ U o U' => ∃ v L, o = .returned v ∧ Q3 Z a1 p2 w3 w6 h0 n0 v U'.heap L ∧ FrameEnd U o U' L ({ frames := 0, cells := 0, slots := 0, locals := 0 } : Room).cells ({ frames := 0, cells := 0, slots := 0, locals := 0 } : Room).slots) := by
  refine MetFree.of_bodySF (plainFor_of_name pn_3) hisR ?_
  intro p e s m args below meth c s₁ Bd hml0 hP hK
  obtain ⟨rfl, hZ, hh⟩ := hP
  have hx := Bd.exec
  have hby := Bd.bytes
  have hml : c.maxLocals = 2 := hml0
  have hown : s.vm.findClass "com/example/levies_on_invoices/leviesoninvoices/io/NameTally" = some m.cls := findClass_of_methodNamed Bd.named
  have hnm := (name_of_methodNamed Bd.named Bd.method).1
  have X0 : Stand p l e ({ frames := 0, cells := 0, slots := 0, locals := 0 } : Room) s m #[(.ref a1), (.int p2)] below meth c s₁ [] 0 0 := Stand.of_body Bd
  have e0 : s₁.heap = h0 := by rw [← hh, Bd.state]; rfl
  have N0 := Fr.nil n0
  have pre0 : ∀ t, Steps p.tables e below (s₁.setTop (mkF m 0 #[.val (.ref a1), .val (.int p2)] [])) t → Steps p.tables e below (s₁.setTop (entryFrame m #[(.ref a1), (.int p2)] 2)) t := fun t k => castTop (ef_3 m a1 p2) k
  obtain ⟨T4, X4, e4, st4⟩ := getF X0 hx hZ hown (host := "") (Or.inl (hw _ (List.mem_of_getElem? (i := 14) rfl))) Via.refl e0 F_names_a1 (g := (mkF m 2 #[.val (.ref a1), .val (.int p2)] [(.ref a1), (.ref a1)])) rfl rfl (hb hby d3_2)
  obtain ⟨T5, h5, X5, e5, W5, st5⟩ := putF X4 hx hZ hown (host := "") (Or.inl (hw _ (List.mem_of_getElem? (i := 14) rfl))) Via.refl e4 F_names_a1 E_a1 (Or.inl (hw _ (List.mem_of_getElem? (i := 15) rfl))) (hw _ (List.mem_of_getElem? (i := 1) rfl)) (ty := .long) (by decide) rfl rfl (g := (mkF m 7 #[.val (.ref a1), .val (.int p2)] [(.long (w3 + (1 : Int64))), (.ref a1)])) rfl rfl (hb hby d3_7)
  have Fw5 := F_names_a1.same W5
  have K5 : Keep h0 h5 [a1] := (Keep.refl h0 [a1]).wr W5 (Or.inl (List.mem_of_getElem? (i := 0) rfl))
  have N5 := Fr.snoc X5 N0 g_a1
  obtain ⟨T7, X7, e7, st7⟩ := getF X5 hx hZ hown (host := "") (Or.inl (hw _ (List.mem_of_getElem? (i := 16) rfl))) Via.refl e5 (F_bytes_a1.other W5 (Or.inr (slot_ne (Or.inl (hw _ (List.mem_of_getElem? (i := 17) rfl))) (Or.inl (hw _ (List.mem_of_getElem? (i := 15) rfl))) (by decide) (t := .long) (t' := .long) (by decide) (by decide)))) (g := (mkF m 12 #[.val (.ref a1), .val (.int p2)] [(.ref a1), (.ref a1)])) rfl rfl (hb hby d3_12)
  obtain ⟨T8, h8, X8, e8, W8, st8⟩ := putF X7 hx hZ hown (host := "") (Or.inl (hw _ (List.mem_of_getElem? (i := 16) rfl))) Via.refl e7 (F_bytes_a1.other W5 (Or.inr (slot_ne (Or.inl (hw _ (List.mem_of_getElem? (i := 17) rfl))) (Or.inl (hw _ (List.mem_of_getElem? (i := 15) rfl))) (by decide) (t := .long) (t' := .long) (by decide) (by decide)))) (E_a1.wr W5) (Or.inl (hw _ (List.mem_of_getElem? (i := 17) rfl))) (hw _ (List.mem_of_getElem? (i := 1) rfl)) (ty := .long) (by decide) rfl rfl (g := (mkF m 18 #[.val (.ref a1), .val (.int p2)] [(.long (w6 + (p2.toInt64))), (.ref a1)])) rfl rfl (hb hby d3_18)
  have Fw8 := (F_bytes_a1.other W5 (Or.inr (slot_ne (Or.inl (hw _ (List.mem_of_getElem? (i := 17) rfl))) (Or.inl (hw _ (List.mem_of_getElem? (i := 15) rfl))) (by decide) (t := .long) (t' := .long) (by decide) (by decide)))).same W8
  have K8 : Keep h0 h8 [a1] := K5.wr W8 (Or.inl (List.mem_of_getElem? (i := 0) rfl))
  have N8 := Fr.snoc X8 N5 g_a1
  obtain ⟨fs, hr, hrun, hended, hW, hsame⟩ := X8.leave (v := none) (fun _ => rfl)
  refine ⟨_, _, pre0 _ ?_, hrun, hended, _, _, rfl, ?_, ⟨_, rfl⟩, hW, hsame.mono (by decide) (by decide)⟩
  · show Steps p.tables e below (s₁.setTop (mkF m 0 #[.val (.ref a1), .val (.int p2)] [])) _
    refine XS.aloadN X0.here hx rfl (hb hby d3_0) rfl rfl ?_
    show Steps p.tables e below (s₁.setTop (mkF m 1 #[.val (.ref a1), .val (.int p2)] [(.ref a1)])) _
    refine XS.dup X0.here hx rfl (hb hby d3_1) rfl rfl ?_
    show Steps p.tables e below (s₁.setTop (mkF m 2 #[.val (.ref a1), .val (.int p2)] [(.ref a1), (.ref a1)])) _
    refine st4 _ ?_
    show Steps p.tables e below (T4.setTop (mkF m 5 #[.val (.ref a1), .val (.int p2)] [(.long w3), (.ref a1)])) _
    refine XS.lconst X4.here hx rfl (hb hby d3_5) ?_
    show Steps p.tables e below (T4.setTop (mkF m 6 #[.val (.ref a1), .val (.int p2)] [(.long (1 : Int64)), (.long w3), (.ref a1)])) _
    refine XS.ladd X4.here hx rfl (hb hby d3_6) rfl ?_
    show Steps p.tables e below (T4.setTop (mkF m 7 #[.val (.ref a1), .val (.int p2)] [(.long (w3 + (1 : Int64))), (.ref a1)])) _
    refine st5 _ ?_
    show Steps p.tables e below (T5.setTop (mkF m 10 #[.val (.ref a1), .val (.int p2)] [])) _
    refine XS.aloadN X5.here hx rfl (hb hby d3_10) rfl rfl ?_
    show Steps p.tables e below (T5.setTop (mkF m 11 #[.val (.ref a1), .val (.int p2)] [(.ref a1)])) _
    refine XS.dup X5.here hx rfl (hb hby d3_11) rfl rfl ?_
    show Steps p.tables e below (T5.setTop (mkF m 12 #[.val (.ref a1), .val (.int p2)] [(.ref a1), (.ref a1)])) _
    refine st7 _ ?_
    show Steps p.tables e below (T7.setTop (mkF m 15 #[.val (.ref a1), .val (.int p2)] [(.long w6), (.ref a1)])) _
    refine XS.iloadN X7.here hx rfl (hb hby d3_15) rfl ?_
    show Steps p.tables e below (T7.setTop (mkF m 16 #[.val (.ref a1), .val (.int p2)] [(.int p2), (.long w6), (.ref a1)])) _
    refine XS.i2l X7.here hx rfl (hb hby d3_16) rfl ?_
    show Steps p.tables e below (T7.setTop (mkF m 17 #[.val (.ref a1), .val (.int p2)] [(.long (p2.toInt64)), (.long w6), (.ref a1)])) _
    refine XS.ladd X7.here hx rfl (hb hby d3_17) rfl ?_
    show Steps p.tables e below (T7.setTop (mkF m 18 #[.val (.ref a1), .val (.int p2)] [(.long (w6 + (p2.toInt64))), (.ref a1)])) _
    refine st8 _ ?_
    show Steps p.tables e below (T8.setTop (mkF m 21 #[.val (.ref a1), .val (.int p2)] [])) _
    exact X8.returnOut hx Bd.returns (hb hby d3_21) hr
  · show Q3 Z a1 p2 w3 w6 h0 n0 _ T8.heap _
    rw [e8]
    exact ⟨rfl, N8, K8, ((E_a1.wr W5).wr W8), (Fw5.other W8 (Or.inr (slot_ne (Or.inl (hw _ (List.mem_of_getElem? (i := 15) rfl))) (Or.inl (hw _ (List.mem_of_getElem? (i := 17) rfl))) (by decide) (t := .long) (t' := .long) (by decide) (by decide)))), Fw8⟩
theorem d4_0 : decode prog_23_method_3_code 0 = .ok (.aload_n 0, 1) := by decide +kernel
theorem d4_1 : decode prog_23_method_3_code 1 = .ok (.getfield 7, 3) := by decide +kernel
theorem d4_4 : decode prog_23_method_3_code 4 = .ok (.ldc2_w 16, 3) := by decide +kernel
theorem d4_7 : decode prog_23_method_3_code 7 = .ok (.lmul, 1) := by decide +kernel
theorem d4_8 : decode prog_23_method_3_code 8 = .ok (.aload_n 0, 1) := by decide +kernel
theorem d4_9 : decode prog_23_method_3_code 9 = .ok (.getfield 13, 3) := by decide +kernel
theorem d4_12 : decode prog_23_method_3_code 12 = .ok (.ldc2_w 18, 3) := by decide +kernel
theorem d4_15 : decode prog_23_method_3_code 15 = .ok (.lmul, 1) := by decide +kernel
theorem d4_16 : decode prog_23_method_3_code 16 = .ok (.ladd, 1) := by decide +kernel
theorem d4_17 : decode prog_23_method_3_code 17 = .ok (.lreturn, 1) := by decide +kernel
theorem pn_4 : plainName "com/example/levies_on_invoices/leviesoninvoices/io/NameTally" = true := by first | (simp [plainName, overriddenIn]; done) | decide +kernel
theorem ef_4 (m : MethodId) (x0 : Addr) : entryFrame m #[(.ref x0)] 1 = mkF m 0 #[.val (.ref x0)] [] := by first | (simp [entryFrame, mkF, argsToLocals, Value.category]; done) | rfl
def Q4 (Z : State) (a1 : Addr) (w2 : Int64) (w4 : Int64) (h0 : Heap) (n0 : Nat) (v : Option Value) (h : Heap) (L : List Loc) : Prop := v = some (.long ((w2 * (256 : Int64)) + (w4 * (2 : Int64)))) ∧ Fr n0 L ∧ h = h0
set_option maxRecDepth 65536 in
set_option maxHeartbeats 40000000 in
theorem rm4 (l : Launch) (Z : State) (a0 : Array Value) (hw : ∀ d ∈ tables_1, d.before a0 Z = true) (ws : List Jvm.Cond) (a1 : Addr) (w2 : Int64) (w4 : Int64) (h0 : Heap) (n0 : Nat) (Z0 : n0 ≤ h0.size) (F_names_a1 : Fld Z h0 a1 "com/example/levies_on_invoices/leviesoninvoices/io/NameTally" "names" "J" (.long w2)) (F_bytes_a1 : Fld Z h0 a1 "com/example/levies_on_invoices/leviesoninvoices/io/NameTally" "bytes" "J" (.long w4)) :
    MetFree l (⟨"com/example/levies_on_invoices/leviesoninvoices/io/NameTally", "held", "()J"⟩ : MethodName) (head1 (Jvm.Cond.code (⟨"com/example/levies_on_invoices/leviesoninvoices/io/NameTally", "held", "()J"⟩ : MethodName) prog_23_method_3_code 1 (some .long) :: ws) ({ frames := 0, cells := 0, slots := 0, locals := 0 } : Room)) (fun a U => a = #[(.ref a1)] ∧ Z.Warmed39 U.vm ∧ U.heap = h0) (fun _ _ _ _ _ => True) (fun _ U o U' => ∃ v L, o = .returned v ∧ Q4 Z a1 w2 w4 h0 n0 v U'.heap L ∧ FrameEnd U o U' L ({ frames := 0, cells := 0, slots := 0, locals := 0 } : Room).cells ({ frames := 0, cells := 0, slots := 0, locals := 0 } : Room).slots) := by
  refine MetFree.of_bodySF (plainFor_of_name pn_4) hisR ?_
  intro p e s m args below meth c s₁ Bd hml0 hP hK
  obtain ⟨rfl, hZ, hh⟩ := hP
  have hx := Bd.exec
  have hby := Bd.bytes
  have hml : c.maxLocals = 1 := hml0
  have hown : s.vm.findClass "com/example/levies_on_invoices/leviesoninvoices/io/NameTally" = some m.cls := findClass_of_methodNamed Bd.named
  have hnm := (name_of_methodNamed Bd.named Bd.method).1
  have X0 : Stand p l e ({ frames := 0, cells := 0, slots := 0, locals := 0 } : Room) s m #[(.ref a1)] below meth c s₁ [] 0 0 := Stand.of_body Bd
  have e0 : s₁.heap = h0 := by rw [← hh, Bd.state]; rfl
  have N0 := Fr.nil n0
  have pre0 : ∀ t, Steps p.tables e below (s₁.setTop (mkF m 0 #[.val (.ref a1)] [])) t → Steps p.tables e below (s₁.setTop (entryFrame m #[(.ref a1)] 1)) t := fun t k => castTop (ef_4 m a1) k
  obtain ⟨T3, X3, e3, st3⟩ := getF X0 hx hZ hown (host := "") (Or.inl (hw _ (List.mem_of_getElem? (i := 14) rfl))) Via.refl e0 F_names_a1 (g := (mkF m 1 #[.val (.ref a1)] [(.ref a1)])) rfl rfl (hb hby d4_1)
  obtain ⟨T5, X5, e5, st5⟩ := getF X3 hx hZ hown (host := "") (Or.inl (hw _ (List.mem_of_getElem? (i := 16) rfl))) Via.refl e3 F_bytes_a1 (g := (mkF m 9 #[.val (.ref a1)] [(.ref a1), (.long (w2 * (256 : Int64)))])) rfl rfl (hb hby d4_9)
  obtain ⟨fs, hr, hrun, hended, hW, hsame⟩ := X5.leave (v := some (.long ((w2 * (256 : Int64)) + (w4 * (2 : Int64))))) (fun h => by rw [Bd.returns] at h; cases h)
  refine ⟨_, _, pre0 _ ?_, hrun, hended, _, _, rfl, ?_, ⟨_, rfl⟩, hW, hsame.mono (by decide) (by decide)⟩
  · show Steps p.tables e below (s₁.setTop (mkF m 0 #[.val (.ref a1)] [])) _
    refine XS.aloadN X0.here hx rfl (hb hby d4_0) rfl rfl ?_
    show Steps p.tables e below (s₁.setTop (mkF m 1 #[.val (.ref a1)] [(.ref a1)])) _
    refine st3 _ ?_
    show Steps p.tables e below (T3.setTop (mkF m 4 #[.val (.ref a1)] [(.long w2)])) _
    refine X3.ldc2Long hx hown (mvT hZ (hw _ (List.mem_of_getElem? (i := 23) rfl))) (g := (mkF m 4 #[.val (.ref a1)] [(.long w2)])) rfl (hb hby d4_4) _ ?_
    show Steps p.tables e below (T3.setTop (mkF m 7 #[.val (.ref a1)] [(.long (256 : Int64)), (.long w2)])) _
    refine XS.lmul X3.here hx rfl (hb hby d4_7) rfl ?_
    show Steps p.tables e below (T3.setTop (mkF m 8 #[.val (.ref a1)] [(.long (w2 * (256 : Int64)))])) _
    refine XS.aloadN X3.here hx rfl (hb hby d4_8) rfl rfl ?_
    show Steps p.tables e below (T3.setTop (mkF m 9 #[.val (.ref a1)] [(.ref a1), (.long (w2 * (256 : Int64)))])) _
    refine st5 _ ?_
    show Steps p.tables e below (T5.setTop (mkF m 12 #[.val (.ref a1)] [(.long w4), (.long (w2 * (256 : Int64)))])) _
    refine X5.ldc2Long hx hown (mvT hZ (hw _ (List.mem_of_getElem? (i := 24) rfl))) (g := (mkF m 12 #[.val (.ref a1)] [(.long w4), (.long (w2 * (256 : Int64)))])) rfl (hb hby d4_12) _ ?_
    show Steps p.tables e below (T5.setTop (mkF m 15 #[.val (.ref a1)] [(.long (2 : Int64)), (.long w4), (.long (w2 * (256 : Int64)))])) _
    refine XS.lmul X5.here hx rfl (hb hby d4_15) rfl ?_
    show Steps p.tables e below (T5.setTop (mkF m 16 #[.val (.ref a1)] [(.long (w4 * (2 : Int64))), (.long (w2 * (256 : Int64)))])) _
    refine XS.ladd X5.here hx rfl (hb hby d4_16) rfl ?_
    show Steps p.tables e below (T5.setTop (mkF m 17 #[.val (.ref a1)] [(.long ((w2 * (256 : Int64)) + (w4 * (2 : Int64))))])) _
    jvm_step X5.here [X5.here.top, hx, (hb hby d4_17), X5.method', Bd.returns, narrow]
    first | (intro acts; rw [hr _ acts rfl rfl rfl]) | rw [hr _ _ rfl rfl rfl]
    exact Steps.refl _
  · show Q4 Z a1 w2 w4 h0 n0 _ T5.heap _
    rw [e5]
    exact ⟨rfl, N0, rfl⟩
theorem d5_0 : decode prog_23_method_4_code 0 = .ok (.aload_n 0, 1) := by decide +kernel
theorem d5_1 : decode prog_23_method_4_code 1 = .ok (.lconst 0, 1) := by decide +kernel
theorem d5_2 : decode prog_23_method_4_code 2 = .ok (.putfield 7, 3) := by decide +kernel
theorem d5_5 : decode prog_23_method_4_code 5 = .ok (.aload_n 0, 1) := by decide +kernel
theorem d5_6 : decode prog_23_method_4_code 6 = .ok (.lconst 0, 1) := by decide +kernel
theorem d5_7 : decode prog_23_method_4_code 7 = .ok (.putfield 13, 3) := by decide +kernel
theorem d5_10 : decode prog_23_method_4_code 10 = .ok (.return_, 1) := by decide +kernel
theorem pn_5 : plainName "com/example/levies_on_invoices/leviesoninvoices/io/NameTally" = true := by first | (simp [plainName, overriddenIn]; done) | decide +kernel
theorem ef_5 (m : MethodId) (x0 : Addr) : entryFrame m #[(.ref x0)] 1 = mkF m 0 #[.val (.ref x0)] [] := by first | (simp [entryFrame, mkF, argsToLocals, Value.category]; done) | rfl
def Q5 (Z : State) (a1 : Addr) (u_names_a1 : Value) (u_bytes_a1 : Value) (h0 : Heap) (n0 : Nat) (v : Option Value) (h : Heap) (L : List Loc) : Prop := v = none ∧ Fr n0 L ∧ Keep h0 h [a1] ∧ Exa Z h a1 "com/example/levies_on_invoices/leviesoninvoices/io/NameTally" ∧ Fld Z h a1 "com/example/levies_on_invoices/leviesoninvoices/io/NameTally" "names" "J" (.long (0 : Int64)) ∧ Fld Z h a1 "com/example/levies_on_invoices/leviesoninvoices/io/NameTally" "bytes" "J" (.long (0 : Int64))
set_option maxRecDepth 65536 in
set_option maxHeartbeats 40000000 in
theorem rm5 (l : Launch) (Z : State) (a0 : Array Value) (hw : ∀ d ∈ tables_1, d.before a0 Z = true) (ws : List Jvm.Cond) (a1 : Addr) (u_names_a1 : Value) (u_bytes_a1 : Value) (h0 : Heap) (n0 : Nat) (Z0 : n0 ≤ h0.size) (E_a1 : Exa Z h0 a1 "com/example/levies_on_invoices/leviesoninvoices/io/NameTally") (F_names_a1 : Fld Z h0 a1 "com/example/levies_on_invoices/leviesoninvoices/io/NameTally" "names" "J" u_names_a1) (g_a1 : n0 ≤ a1) (F_bytes_a1 : Fld Z h0 a1 "com/example/levies_on_invoices/leviesoninvoices/io/NameTally" "bytes" "J" u_bytes_a1) :
    MetFree l (⟨"com/example/levies_on_invoices/leviesoninvoices/io/NameTally", "clear", "()V"⟩ : MethodName) (head1 (Jvm.Cond.code (⟨"com/example/levies_on_invoices/leviesoninvoices/io/NameTally", "clear", "()V"⟩ : MethodName) prog_23_method_4_code 1 none :: ws) ({ frames := 0, cells := 0, slots := 0, locals := 0 } : Room)) (fun a U => a = #[(.ref a1)] ∧ Z.Warmed39 U.vm ∧ U.heap = h0) (fun _ _ _ _ _ => True) (fun _ U o U' => ∃ v L, o = .returned v ∧ Q5 Z a1 u_names_a1 u_bytes_a1 h0 n0 v U'.heap L ∧ FrameEnd U o U' L ({ frames := 0, cells := 0, slots := 0, locals := 0 } : Room).cells ({ frames := 0, cells := 0, slots := 0, locals := 0 } : Room).slots) := by
  refine MetFree.of_bodySF (plainFor_of_name pn_5) hisR ?_
  intro p e s m args below meth c s₁ Bd hml0 hP hK
  obtain ⟨rfl, hZ, hh⟩ := hP
  have hx := Bd.exec
  have hby := Bd.bytes
  have hml : c.maxLocals = 1 := hml0
  have hown : s.vm.findClass "com/example/levies_on_invoices/leviesoninvoices/io/NameTally" = some m.cls := findClass_of_methodNamed Bd.named
  have hnm := (name_of_methodNamed Bd.named Bd.method).1
  have X0 : Stand p l e ({ frames := 0, cells := 0, slots := 0, locals := 0 } : Room) s m #[(.ref a1)] below meth c s₁ [] 0 0 := Stand.of_body Bd
  have e0 : s₁.heap = h0 := by rw [← hh, Bd.state]; rfl
  have N0 := Fr.nil n0
  have pre0 : ∀ t, Steps p.tables e below (s₁.setTop (mkF m 0 #[.val (.ref a1)] [])) t → Steps p.tables e below (s₁.setTop (entryFrame m #[(.ref a1)] 1)) t := fun t k => castTop (ef_5 m a1) k
  obtain ⟨T2, h2, X2, e2, W2, st2⟩ := putF X0 hx hZ hown (host := "") (Or.inl (hw _ (List.mem_of_getElem? (i := 14) rfl))) Via.refl e0 F_names_a1 E_a1 (Or.inl (hw _ (List.mem_of_getElem? (i := 15) rfl))) (hw _ (List.mem_of_getElem? (i := 1) rfl)) (ty := .long) (by decide) rfl rfl (g := (mkF m 2 #[.val (.ref a1)] [(.long (0 : Int64)), (.ref a1)])) rfl rfl (hb hby d5_2)
  have Fw2 := F_names_a1.same W2
  have K2 : Keep h0 h2 [a1] := (Keep.refl h0 [a1]).wr W2 (Or.inl (List.mem_of_getElem? (i := 0) rfl))
  have N2 := Fr.snoc X2 N0 g_a1
  obtain ⟨T3, h3, X3, e3, W3, st3⟩ := putF X2 hx hZ hown (host := "") (Or.inl (hw _ (List.mem_of_getElem? (i := 16) rfl))) Via.refl e2 (F_bytes_a1.other W2 (Or.inr (slot_ne (Or.inl (hw _ (List.mem_of_getElem? (i := 17) rfl))) (Or.inl (hw _ (List.mem_of_getElem? (i := 15) rfl))) (by decide) (t := .long) (t' := .long) (by decide) (by decide)))) (E_a1.wr W2) (Or.inl (hw _ (List.mem_of_getElem? (i := 17) rfl))) (hw _ (List.mem_of_getElem? (i := 1) rfl)) (ty := .long) (by decide) rfl rfl (g := (mkF m 7 #[.val (.ref a1)] [(.long (0 : Int64)), (.ref a1)])) rfl rfl (hb hby d5_7)
  have Fw3 := (F_bytes_a1.other W2 (Or.inr (slot_ne (Or.inl (hw _ (List.mem_of_getElem? (i := 17) rfl))) (Or.inl (hw _ (List.mem_of_getElem? (i := 15) rfl))) (by decide) (t := .long) (t' := .long) (by decide) (by decide)))).same W3
  have K3 : Keep h0 h3 [a1] := K2.wr W3 (Or.inl (List.mem_of_getElem? (i := 0) rfl))
  have N3 := Fr.snoc X3 N2 g_a1
  obtain ⟨fs, hr, hrun, hended, hW, hsame⟩ := X3.leave (v := none) (fun _ => rfl)
  refine ⟨_, _, pre0 _ ?_, hrun, hended, _, _, rfl, ?_, ⟨_, rfl⟩, hW, hsame.mono (by decide) (by decide)⟩
  · show Steps p.tables e below (s₁.setTop (mkF m 0 #[.val (.ref a1)] [])) _
    refine XS.aloadN X0.here hx rfl (hb hby d5_0) rfl rfl ?_
    show Steps p.tables e below (s₁.setTop (mkF m 1 #[.val (.ref a1)] [(.ref a1)])) _
    refine XS.lconst X0.here hx rfl (hb hby d5_1) ?_
    show Steps p.tables e below (s₁.setTop (mkF m 2 #[.val (.ref a1)] [(.long (0 : Int64)), (.ref a1)])) _
    refine st2 _ ?_
    show Steps p.tables e below (T2.setTop (mkF m 5 #[.val (.ref a1)] [])) _
    refine XS.aloadN X2.here hx rfl (hb hby d5_5) rfl rfl ?_
    show Steps p.tables e below (T2.setTop (mkF m 6 #[.val (.ref a1)] [(.ref a1)])) _
    refine XS.lconst X2.here hx rfl (hb hby d5_6) ?_
    show Steps p.tables e below (T2.setTop (mkF m 7 #[.val (.ref a1)] [(.long (0 : Int64)), (.ref a1)])) _
    refine st3 _ ?_
    show Steps p.tables e below (T3.setTop (mkF m 10 #[.val (.ref a1)] [])) _
    exact X3.returnOut hx Bd.returns (hb hby d5_10) hr
  · show Q5 Z a1 u_names_a1 u_bytes_a1 h0 n0 _ T3.heap _
    rw [e3]
    exact ⟨rfl, N3, K3, ((E_a1.wr W2).wr W3), (Fw2.other W3 (Or.inr (slot_ne (Or.inl (hw _ (List.mem_of_getElem? (i := 15) rfl))) (Or.inl (hw _ (List.mem_of_getElem? (i := 17) rfl))) (by decide) (t := .long) (t' := .long) (by decide) (by decide)))), Fw3⟩
theorem pn_0 : plainName "com/example/levies_on_invoices/leviesoninvoices/io/NameTallyKeepPinLaw" = true := by first | (simp [plainName, overriddenIn]; done) | decide +kernel
theorem pd_0_0 : parseMethodDescriptor "()V" = some ⟨[], none⟩ := by decide +kernel
theorem pd_0_1 : parseMethodDescriptor "(I)V" = some ⟨[.int], none⟩ := by decide +kernel
theorem pd_0_2 : parseMethodDescriptor "()J" = some ⟨[], some .long⟩ := by decide +kernel
theorem ef_0 (m : MethodId) (x0 : Int32) (x1 : Int32) (x2 : Int32) : entryFrame m #[(.int x0), (.int x1), (.int x2)] maxLocals = mkF m 0 #[.val (.int x0), .val (.int x1), .val (.int x2), .unset, .unset, .unset, .unset, .unset, .unset, .unset, .unset, .unset, .unset] [] := by first | (simp [entryFrame, mkF, argsToLocals, Value.category, maxLocals]; done) | rfl
def Q0 (Z : State) (p1 : Int32) (p2 : Int32) (p3 : Int32) (h0 : Heap) (n0 : Nat) (v : Option Value) (h : Heap) (L : List Loc) : Prop := v = some (.int (1 : Int32)) ∧ Fr n0 L
set_option maxRecDepth 65536 in
set_option maxHeartbeats 40000000 in
theorem rm0 (l : Launch) (Z : State) (a0 : Array Value) (hw : ∀ d ∈ tables_1, d.before a0 Z = true) (ws : List Jvm.Cond) (p1 : Int32) (p2 : Int32) (p3 : Int32) (h0 : Heap) (n0 : Nat) (Z0 : n0 ≤ h0.size) (hc119 : ¬ ((1 : Int32) = (0 : Int32))) (hc124 : ¬ ((1 : Int32) = (0 : Int32))) (hc129 : ¬ ((1 : Int32) = (0 : Int32))) :
    MetFree l x (head1 (Jvm.Cond.code x code maxLocals ret :: ws) room_1) (fun a U => a = #[(.int p1), (.int p2), (.int p3)] ∧ Z.Warmed39 U.vm ∧ U.heap = h0) (fun _ _ _ _ _ => True) (fun _ U o U' => ∃ v L, o = .returned v ∧ Q0 Z p1 p2 p3 h0 n0 v U'.heap L ∧ FrameEnd U o U' L room_1.cells room_1.slots) := by
  refine MetFree.of_bodySF (plainFor_of_name pn_0) hisR ?_
  intro p e s m args below meth c s₁ Bd hml0 hP hK
  obtain ⟨rfl, hZ, hh⟩ := hP
  have hx := Bd.exec
  have hby := Bd.bytes
  have hml : c.maxLocals = 13 := hml0
  have hown : s.vm.findClass "com/example/levies_on_invoices/leviesoninvoices/io/NameTallyKeepPinLaw" = some m.cls := findClass_of_methodNamed Bd.named
  have hnm := (name_of_methodNamed Bd.named Bd.method).1
  have X0 : Stand p l e room_1 s m #[(.int p1), (.int p2), (.int p3)] below meth c s₁ [] 0 0 := Stand.of_body Bd
  have e0 : s₁.heap = h0 := by rw [← hh, Bd.state]; rfl
  have N0 := Fr.nil n0
  have pre0 : ∀ t, Steps p.tables e below (s₁.setTop (mkF m 0 #[.val (.int p1), .val (.int p2), .val (.int p3), .unset, .unset, .unset, .unset, .unset, .unset, .unset, .unset, .unset, .unset] [])) t → Steps p.tables e below (s₁.setTop (entryFrame m #[(.int p1), (.int p2), (.int p3)] maxLocals)) t := fun t k => castTop (ef_0 m p1 p2 p3) k
  obtain ⟨T4, h4, X4, e4, E4, A4, D4, -, st4⟩ := newO X0 hx hZ hown (hw _ (List.mem_of_getElem? (i := 0) rfl)) (hw _ (List.mem_of_getElem? (i := 1) rfl)) (hw _ (List.mem_of_getElem? (i := 2) rfl)) e0 (g := (mkF m 0 #[.val (.int p1), .val (.int p2), .val (.int p3), .unset, .unset, .unset, .unset, .unset, .unset, .unset, .unset, .unset, .unset] [])) rfl (hb hby at_0) (by decide) (by decide)
  obtain ⟨b4, g4⟩ : ∃ z, z = h0.size := ⟨_, rfl⟩
  rw [← g4] at A4 D4 st4
  have F_names_b4 : Fld Z h4 b4 "com/example/levies_on_invoices/leviesoninvoices/io/NameTally" "names" "J" (.long (0 : Int64)) := D4 (Or.inl (hw _ (List.mem_of_getElem? (i := 15) rfl))) (ty := .long) (by decide)
  have F_bytes_b4 : Fld Z h4 b4 "com/example/levies_on_invoices/leviesoninvoices/io/NameTally" "bytes" "J" (.long (0 : Int64)) := D4 (Or.inl (hw _ (List.mem_of_getElem? (i := 17) rfl))) (ty := .long) (by decide)
  have E4x := A4
  have Z4 : n0 ≤ h4.size := Nat.le_trans Z0 E4.1
  have g_b4 : n0 ≤ b4 := Nat.le_trans Z0 (Nat.le_of_eq g4.symm)
  have sz_b4 : h0.size ≤ b4 := (Nat.le_trans (Keep.refl h0 []).1 (Nat.le_of_eq g4.symm))
  have K4 : Keep h0 h4 [] := (Keep.refl h0 []).ext E4
  obtain ⟨_, _, ⟨T5, L5, k5, n5⟩, -, X5, ⟨Lc5, hQ5, l5, y5, z5⟩, st5⟩ := X4.specialBack hx (y := (⟨"com/example/levies_on_invoices/leviesoninvoices/io/NameTally", "<init>", "()V"⟩ : MethodName)) rfl hown (mvT hZ (hw _ (List.mem_of_getElem? (i := 3) rfl))) (mvT hZ (hw _ (List.mem_of_getElem? (i := 4) rfl))) (mvT hZ (hw _ (List.mem_of_getElem? (i := 5) rfl))) (by decide) (backOf (W := 1) (rm1 l Z a0 hw [] b4 h4 n0 Z4) hZ (hw _ (List.mem_of_getElem? (i := 5) rfl)) (hw _ (List.mem_of_getElem? (i := 2) rfl)) (by decide) (by decide)) (g := (mkF m 4 #[.val (.int p1), .val (.int p2), .val (.int p3), .unset, .unset, .unset, .unset, .unset, .unset, .unset, .unset, .unset, .unset] [(.ref b4), (.ref b4)])) rfl (by rw [hml]; rfl) (Steps.refl _) (a := b4) (argsL := []) (rest := [(.ref b4)]) (lenOf pd_0_0 rfl) rfl (by show 2 * 0 + _ ≤ _; exact Nat.le_of_eq rfl) (hb hby at_4) (fun _ _ => ⟨rfl, e4, (by decide : 1 + 0 ≤ _), (by decide : 2 + 0 ≤ _)⟩)
  dsimp only [Pt.U, Pt.locs, Pt.cells, Pt.slots] at X5 l5 y5 z5 st5 hQ5
  subst l5 y5 z5
  obtain ⟨rfl, N5q, q5⟩ := hQ5
  have N5 := Fr.app N0 N5q
  have Z5 : n0 ≤ T5.heap.size := by rw [q5]; exact Z4
  have E5 : Exa Z T5.heap b4 "com/example/levies_on_invoices/leviesoninvoices/io/NameTally" := by rw [q5]; exact A4
  have Fn5 : Fld Z T5.heap b4 "com/example/levies_on_invoices/leviesoninvoices/io/NameTally" "names" "J" (.long (0 : Int64)) := by rw [q5]; exact F_names_b4
  have Fb5 : Fld Z T5.heap b4 "com/example/levies_on_invoices/leviesoninvoices/io/NameTally" "bytes" "J" (.long (0 : Int64)) := by rw [q5]; exact F_bytes_b4
  obtain ⟨cq6, kq6, q6a, q6b, q6c⟩ := isOf hZ rfl E5
  obtain ⟨_, _, ⟨T6, L6, k6, n6⟩, -, X6, ⟨Lc6, hQ6, l6, y6, z6⟩, st6⟩ := X5.virtualBack hx (y := (⟨"com/example/levies_on_invoices/leviesoninvoices/io/NameTally", "keep", "(I)V"⟩ : MethodName)) (z := (⟨"com/example/levies_on_invoices/leviesoninvoices/io/NameTally", "keep", "(I)V"⟩ : MethodName)) hown (mvT hZ (hw _ (List.mem_of_getElem? (i := 9) rfl))) (mvT hZ (hw _ (List.mem_of_getElem? (i := 10) rfl))) (notFace_of_selects (args := #[]) (mvT hZ (hw _ (List.mem_of_getElem? (i := 12) rfl)))) (mvT hZ (hw _ (List.mem_of_getElem? (i := 12) rfl))) (mvT hZ (hw _ (List.mem_of_getElem? (i := 11) rfl))) (by decide) (backOf (W := 0) (rm3 l Z a0 hw [] b4 p1 (0 : Int64) (0 : Int64) T5.heap n0 Z5 Fn5 E5 g_b4 Fb5) hZ (hw _ (List.mem_of_getElem? (i := 13) rfl)) (hw _ (List.mem_of_getElem? (i := 2) rfl)) (by decide) (by decide)) q6a q6c (g := (mkF m 10 #[.val (.int p1), .val (.int p2), .val (.int p3), .val (.ref b4), .unset, .unset, .unset, .unset, .unset, .unset, .unset, .unset, .unset] [(.int p1), (.ref b4)])) rfl (by rw [hml]; rfl) (Steps.refl _) (argsL := [(.int p1)]) (rest := []) (lenOf pd_0_1 rfl) rfl (by show 2 * 0 + _ ≤ _; exact Nat.le_of_eq rfl) (hb hby at_10) (fun _ _ => ⟨rfl, rfl, (by decide : 1 + 0 ≤ _), (by decide : 2 + 0 ≤ _)⟩)
  dsimp only [Pt.U, Pt.locs, Pt.cells, Pt.slots] at X6 l6 y6 z6 st6 hQ6
  subst l6 y6 z6
  obtain ⟨rfl, N6q, K6, E6, Fn6, Fb6⟩ := hQ6
  have N6 := Fr.app N5 N6q
  have Z6 : n0 ≤ T6.heap.size := Nat.le_trans Z5 K6.1
  obtain ⟨cq7, kq7, q7a, q7b, q7c⟩ := isOf hZ rfl E6
  obtain ⟨_, _, ⟨T7, L7, k7, n7⟩, -, X7, ⟨Lc7, hQ7, l7, y7, z7⟩, st7⟩ := X6.virtualBack hx (y := (⟨"com/example/levies_on_invoices/leviesoninvoices/io/NameTally", "held", "()J"⟩ : MethodName)) (z := (⟨"com/example/levies_on_invoices/leviesoninvoices/io/NameTally", "held", "()J"⟩ : MethodName)) hown (mvT hZ (hw _ (List.mem_of_getElem? (i := 18) rfl))) (mvT hZ (hw _ (List.mem_of_getElem? (i := 19) rfl))) (notFace_of_selects (args := #[]) (mvT hZ (hw _ (List.mem_of_getElem? (i := 21) rfl)))) (mvT hZ (hw _ (List.mem_of_getElem? (i := 21) rfl))) (mvT hZ (hw _ (List.mem_of_getElem? (i := 20) rfl))) (by decide) (backOf (W := 0) (rm4 l Z a0 hw [] b4 ((0 : Int64) + (1 : Int64)) ((0 : Int64) + (p1.toInt64)) T6.heap n0 Z6 Fn6 Fb6) hZ (hw _ (List.mem_of_getElem? (i := 22) rfl)) (hw _ (List.mem_of_getElem? (i := 2) rfl)) (by decide) (by decide)) q7a q7c (g := (mkF m 14 #[.val (.int p1), .val (.int p2), .val (.int p3), .val (.ref b4), .unset, .unset, .unset, .unset, .unset, .unset, .unset, .unset, .unset] [(.ref b4)])) rfl (by rw [hml]; rfl) (Steps.refl _) (argsL := []) (rest := []) (lenOf pd_0_2 rfl) rfl (by show 2 * 0 + _ ≤ _; exact Nat.le_of_eq rfl) (hb hby at_14) (fun _ _ => ⟨rfl, rfl, (by decide : 1 + 0 ≤ _), (by decide : 2 + 0 ≤ _)⟩)
  dsimp only [Pt.U, Pt.locs, Pt.cells, Pt.slots] at X7 l7 y7 z7 st7 hQ7
  subst l7 y7 z7
  obtain ⟨rfl, N7q, q7⟩ := hQ7
  have N7 := Fr.app N6 N7q
  have Z7 : n0 ≤ T7.heap.size := by rw [q7]; exact Z6
  have E7 : Exa Z T7.heap b4 "com/example/levies_on_invoices/leviesoninvoices/io/NameTally" := by rw [q7]; exact E6
  have Fn7 : Fld Z T7.heap b4 "com/example/levies_on_invoices/leviesoninvoices/io/NameTally" "names" "J" (.long ((0 : Int64) + (1 : Int64))) := by rw [q7]; exact Fn6
  have Fb7 : Fld Z T7.heap b4 "com/example/levies_on_invoices/leviesoninvoices/io/NameTally" "bytes" "J" (.long ((0 : Int64) + (p1.toInt64))) := by rw [q7]; exact Fb6
  obtain ⟨cq8, kq8, q8a, q8b, q8c⟩ := isOf hZ rfl E7
  obtain ⟨_, _, ⟨T8, L8, k8, n8⟩, -, X8, ⟨Lc8, hQ8, l8, y8, z8⟩, st8⟩ := X7.virtualBack hx (y := (⟨"com/example/levies_on_invoices/leviesoninvoices/io/NameTally", "keep", "(I)V"⟩ : MethodName)) (z := (⟨"com/example/levies_on_invoices/leviesoninvoices/io/NameTally", "keep", "(I)V"⟩ : MethodName)) hown (mvT hZ (hw _ (List.mem_of_getElem? (i := 9) rfl))) (mvT hZ (hw _ (List.mem_of_getElem? (i := 10) rfl))) (notFace_of_selects (args := #[]) (mvT hZ (hw _ (List.mem_of_getElem? (i := 12) rfl)))) (mvT hZ (hw _ (List.mem_of_getElem? (i := 12) rfl))) (mvT hZ (hw _ (List.mem_of_getElem? (i := 11) rfl))) (by decide) (backOf (W := 0) (rm3 l Z a0 hw [] b4 p2 ((0 : Int64) + (1 : Int64)) ((0 : Int64) + (p1.toInt64)) T7.heap n0 Z7 Fn7 E7 g_b4 Fb7) hZ (hw _ (List.mem_of_getElem? (i := 13) rfl)) (hw _ (List.mem_of_getElem? (i := 2) rfl)) (by decide) (by decide)) q8a q8c (g := (mkF m 44 #[.val (.int p1), .val (.int p2), .val (.int p3), .val (.ref b4), .val (.long ((((0 : Int64) + (1 : Int64)) * (256 : Int64)) + (((0 : Int64) + (p1.toInt64)) * (2 : Int64)))), .second, .val (.int (1 : Int32)), .unset, .unset, .unset, .unset, .unset, .unset] [(.int p2), (.ref b4)])) rfl (by rw [hml]; rfl) (Steps.refl _) (argsL := [(.int p2)]) (rest := []) (lenOf pd_0_1 rfl) rfl (by show 2 * 0 + _ ≤ _; exact Nat.le_of_eq rfl) (hb hby at_44) (fun _ _ => ⟨rfl, rfl, (by decide : 1 + 0 ≤ _), (by decide : 2 + 0 ≤ _)⟩)
  dsimp only [Pt.U, Pt.locs, Pt.cells, Pt.slots] at X8 l8 y8 z8 st8 hQ8
  subst l8 y8 z8
  obtain ⟨rfl, N8q, K8, E8, Fn8, Fb8⟩ := hQ8
  have N8 := Fr.app N7 N8q
  have Z8 : n0 ≤ T8.heap.size := Nat.le_trans Z7 K8.1
  obtain ⟨cq9, kq9, q9a, q9b, q9c⟩ := isOf hZ rfl E8
  obtain ⟨_, _, ⟨T9, L9, k9, n9⟩, -, X9, ⟨Lc9, hQ9, l9, y9, z9⟩, st9⟩ := X8.virtualBack hx (y := (⟨"com/example/levies_on_invoices/leviesoninvoices/io/NameTally", "held", "()J"⟩ : MethodName)) (z := (⟨"com/example/levies_on_invoices/leviesoninvoices/io/NameTally", "held", "()J"⟩ : MethodName)) hown (mvT hZ (hw _ (List.mem_of_getElem? (i := 18) rfl))) (mvT hZ (hw _ (List.mem_of_getElem? (i := 19) rfl))) (notFace_of_selects (args := #[]) (mvT hZ (hw _ (List.mem_of_getElem? (i := 21) rfl)))) (mvT hZ (hw _ (List.mem_of_getElem? (i := 21) rfl))) (mvT hZ (hw _ (List.mem_of_getElem? (i := 20) rfl))) (by decide) (backOf (W := 0) (rm4 l Z a0 hw [] b4 (((0 : Int64) + (1 : Int64)) + (1 : Int64)) (((0 : Int64) + (p1.toInt64)) + (p2.toInt64)) T8.heap n0 Z8 Fn8 Fb8) hZ (hw _ (List.mem_of_getElem? (i := 22) rfl)) (hw _ (List.mem_of_getElem? (i := 2) rfl)) (by decide) (by decide)) q9a q9c (g := (mkF m 48 #[.val (.int p1), .val (.int p2), .val (.int p3), .val (.ref b4), .val (.long ((((0 : Int64) + (1 : Int64)) * (256 : Int64)) + (((0 : Int64) + (p1.toInt64)) * (2 : Int64)))), .second, .val (.int (1 : Int32)), .unset, .unset, .unset, .unset, .unset, .unset] [(.ref b4)])) rfl (by rw [hml]; rfl) (Steps.refl _) (argsL := []) (rest := []) (lenOf pd_0_2 rfl) rfl (by show 2 * 0 + _ ≤ _; exact Nat.le_of_eq rfl) (hb hby at_48) (fun _ _ => ⟨rfl, rfl, (by decide : 1 + 0 ≤ _), (by decide : 2 + 0 ≤ _)⟩)
  dsimp only [Pt.U, Pt.locs, Pt.cells, Pt.slots] at X9 l9 y9 z9 st9 hQ9
  subst l9 y9 z9
  obtain ⟨rfl, N9q, q9⟩ := hQ9
  have N9 := Fr.app N8 N9q
  have Z9 : n0 ≤ T9.heap.size := by rw [q9]; exact Z8
  have E9 : Exa Z T9.heap b4 "com/example/levies_on_invoices/leviesoninvoices/io/NameTally" := by rw [q9]; exact E8
  have Fn9 : Fld Z T9.heap b4 "com/example/levies_on_invoices/leviesoninvoices/io/NameTally" "names" "J" (.long (((0 : Int64) + (1 : Int64)) + (1 : Int64))) := by rw [q9]; exact Fn8
  have Fb9 : Fld Z T9.heap b4 "com/example/levies_on_invoices/leviesoninvoices/io/NameTally" "bytes" "J" (.long (((0 : Int64) + (p1.toInt64)) + (p2.toInt64))) := by rw [q9]; exact Fb8
  obtain ⟨cq10, kq10, q10a, q10b, q10c⟩ := isOf hZ rfl E9
  obtain ⟨_, _, ⟨T10, L10, k10, n10⟩, -, X10, ⟨Lc10, hQ10, l10, y10, z10⟩, st10⟩ := X9.virtualBack hx (y := (⟨"com/example/levies_on_invoices/leviesoninvoices/io/NameTally", "clear", "()V"⟩ : MethodName)) (z := (⟨"com/example/levies_on_invoices/leviesoninvoices/io/NameTally", "clear", "()V"⟩ : MethodName)) hown (mvT hZ (hw _ (List.mem_of_getElem? (i := 28) rfl))) (mvT hZ (hw _ (List.mem_of_getElem? (i := 29) rfl))) (notFace_of_selects (args := #[]) (mvT hZ (hw _ (List.mem_of_getElem? (i := 31) rfl)))) (mvT hZ (hw _ (List.mem_of_getElem? (i := 31) rfl))) (mvT hZ (hw _ (List.mem_of_getElem? (i := 30) rfl))) (by decide) (backOf (W := 0) (rm5 l Z a0 hw [] b4 _ _ T9.heap n0 Z9 E9 Fn9 g_b4 Fb9) hZ (hw _ (List.mem_of_getElem? (i := 32) rfl)) (hw _ (List.mem_of_getElem? (i := 2) rfl)) (by decide) (by decide)) q10a q10c (g := (mkF m 80 #[.val (.int p1), .val (.int p2), .val (.int p3), .val (.ref b4), .val (.long ((((0 : Int64) + (1 : Int64)) * (256 : Int64)) + (((0 : Int64) + (p1.toInt64)) * (2 : Int64)))), .second, .val (.int (1 : Int32)), .val (.long (((((0 : Int64) + (1 : Int64)) + (1 : Int64)) * (256 : Int64)) + ((((0 : Int64) + (p1.toInt64)) + (p2.toInt64)) * (2 : Int64)))), .second, .val (.int (1 : Int32)), .unset, .unset, .unset] [(.ref b4)])) rfl (by rw [hml]; rfl) (Steps.refl _) (argsL := []) (rest := []) (lenOf pd_0_0 rfl) rfl (by show 2 * 0 + _ ≤ _; exact Nat.le_of_eq rfl) (hb hby at_80) (fun _ _ => ⟨rfl, rfl, (by decide : 1 + 0 ≤ _), (by decide : 2 + 0 ≤ _)⟩)
  dsimp only [Pt.U, Pt.locs, Pt.cells, Pt.slots] at X10 l10 y10 z10 st10 hQ10
  subst l10 y10 z10
  obtain ⟨rfl, N10q, K10, E10, Fn10, Fb10⟩ := hQ10
  have N10 := Fr.app N9 N10q
  have Z10 : n0 ≤ T10.heap.size := Nat.le_trans Z9 K10.1
  obtain ⟨cq11, kq11, q11a, q11b, q11c⟩ := isOf hZ rfl E10
  obtain ⟨_, _, ⟨T11, L11, k11, n11⟩, -, X11, ⟨Lc11, hQ11, l11, y11, z11⟩, st11⟩ := X10.virtualBack hx (y := (⟨"com/example/levies_on_invoices/leviesoninvoices/io/NameTally", "keep", "(I)V"⟩ : MethodName)) (z := (⟨"com/example/levies_on_invoices/leviesoninvoices/io/NameTally", "keep", "(I)V"⟩ : MethodName)) hown (mvT hZ (hw _ (List.mem_of_getElem? (i := 9) rfl))) (mvT hZ (hw _ (List.mem_of_getElem? (i := 10) rfl))) (notFace_of_selects (args := #[]) (mvT hZ (hw _ (List.mem_of_getElem? (i := 12) rfl)))) (mvT hZ (hw _ (List.mem_of_getElem? (i := 12) rfl))) (mvT hZ (hw _ (List.mem_of_getElem? (i := 11) rfl))) (by decide) (backOf (W := 0) (rm3 l Z a0 hw [] b4 p3 (0 : Int64) (0 : Int64) T10.heap n0 Z10 Fn10 E10 g_b4 Fb10) hZ (hw _ (List.mem_of_getElem? (i := 13) rfl)) (hw _ (List.mem_of_getElem? (i := 2) rfl)) (by decide) (by decide)) q11a q11c (g := (mkF m 85 #[.val (.int p1), .val (.int p2), .val (.int p3), .val (.ref b4), .val (.long ((((0 : Int64) + (1 : Int64)) * (256 : Int64)) + (((0 : Int64) + (p1.toInt64)) * (2 : Int64)))), .second, .val (.int (1 : Int32)), .val (.long (((((0 : Int64) + (1 : Int64)) + (1 : Int64)) * (256 : Int64)) + ((((0 : Int64) + (p1.toInt64)) + (p2.toInt64)) * (2 : Int64)))), .second, .val (.int (1 : Int32)), .unset, .unset, .unset] [(.int p3), (.ref b4)])) rfl (by rw [hml]; rfl) (Steps.refl _) (argsL := [(.int p3)]) (rest := []) (lenOf pd_0_1 rfl) rfl (by show 2 * 0 + _ ≤ _; exact Nat.le_of_eq rfl) (hb hby at_85) (fun _ _ => ⟨rfl, rfl, (by decide : 1 + 0 ≤ _), (by decide : 2 + 0 ≤ _)⟩)
  dsimp only [Pt.U, Pt.locs, Pt.cells, Pt.slots] at X11 l11 y11 z11 st11 hQ11
  subst l11 y11 z11
  obtain ⟨rfl, N11q, K11, E11, Fn11, Fb11⟩ := hQ11
  have N11 := Fr.app N10 N11q
  have Z11 : n0 ≤ T11.heap.size := Nat.le_trans Z10 K11.1
  obtain ⟨cq12, kq12, q12a, q12b, q12c⟩ := isOf hZ rfl E11
  obtain ⟨_, _, ⟨T12, L12, k12, n12⟩, -, X12, ⟨Lc12, hQ12, l12, y12, z12⟩, st12⟩ := X11.virtualBack hx (y := (⟨"com/example/levies_on_invoices/leviesoninvoices/io/NameTally", "held", "()J"⟩ : MethodName)) (z := (⟨"com/example/levies_on_invoices/leviesoninvoices/io/NameTally", "held", "()J"⟩ : MethodName)) hown (mvT hZ (hw _ (List.mem_of_getElem? (i := 18) rfl))) (mvT hZ (hw _ (List.mem_of_getElem? (i := 19) rfl))) (notFace_of_selects (args := #[]) (mvT hZ (hw _ (List.mem_of_getElem? (i := 21) rfl)))) (mvT hZ (hw _ (List.mem_of_getElem? (i := 21) rfl))) (mvT hZ (hw _ (List.mem_of_getElem? (i := 20) rfl))) (by decide) (backOf (W := 0) (rm4 l Z a0 hw [] b4 ((0 : Int64) + (1 : Int64)) ((0 : Int64) + (p3.toInt64)) T11.heap n0 Z11 Fn11 Fb11) hZ (hw _ (List.mem_of_getElem? (i := 22) rfl)) (hw _ (List.mem_of_getElem? (i := 2) rfl)) (by decide) (by decide)) q12a q12c (g := (mkF m 89 #[.val (.int p1), .val (.int p2), .val (.int p3), .val (.ref b4), .val (.long ((((0 : Int64) + (1 : Int64)) * (256 : Int64)) + (((0 : Int64) + (p1.toInt64)) * (2 : Int64)))), .second, .val (.int (1 : Int32)), .val (.long (((((0 : Int64) + (1 : Int64)) + (1 : Int64)) * (256 : Int64)) + ((((0 : Int64) + (p1.toInt64)) + (p2.toInt64)) * (2 : Int64)))), .second, .val (.int (1 : Int32)), .unset, .unset, .unset] [(.ref b4)])) rfl (by rw [hml]; rfl) (Steps.refl _) (argsL := []) (rest := []) (lenOf pd_0_2 rfl) rfl (by show 2 * 0 + _ ≤ _; exact Nat.le_of_eq rfl) (hb hby at_89) (fun _ _ => ⟨rfl, rfl, (by decide : 1 + 0 ≤ _), (by decide : 2 + 0 ≤ _)⟩)
  dsimp only [Pt.U, Pt.locs, Pt.cells, Pt.slots] at X12 l12 y12 z12 st12 hQ12
  subst l12 y12 z12
  obtain ⟨rfl, N12q, q12⟩ := hQ12
  have N12 := Fr.app N11 N12q
  obtain ⟨fs, hr, hrun, hended, hW, hsame⟩ := X12.leave (v := some (.int (1 : Int32))) (fun h => by rw [Bd.returns] at h; cases h)
  refine ⟨_, _, pre0 _ ?_, hrun, hended, _, _, rfl, ?_, ⟨_, rfl⟩, hW, hsame.mono (by decide) (by decide)⟩
  · show Steps p.tables e below (s₁.setTop (mkF m 0 #[.val (.int p1), .val (.int p2), .val (.int p3), .unset, .unset, .unset, .unset, .unset, .unset, .unset, .unset, .unset, .unset] [])) _
    refine st4 _ ?_
    show Steps p.tables e below (T4.setTop (mkF m 3 #[.val (.int p1), .val (.int p2), .val (.int p3), .unset, .unset, .unset, .unset, .unset, .unset, .unset, .unset, .unset, .unset] [(.ref b4)])) _
    refine XS.dup X4.here hx rfl (hb hby at_3) rfl rfl ?_
    show Steps p.tables e below (T4.setTop (mkF m 4 #[.val (.int p1), .val (.int p2), .val (.int p3), .unset, .unset, .unset, .unset, .unset, .unset, .unset, .unset, .unset, .unset] [(.ref b4), (.ref b4)])) _
    refine st5.trans ?_
    show Steps p.tables e below (T5.setTop (mkF m 7 #[.val (.int p1), .val (.int p2), .val (.int p3), .unset, .unset, .unset, .unset, .unset, .unset, .unset, .unset, .unset, .unset] [(.ref b4)])) _
    refine XS.astoreN X5.here hx rfl (hb hby at_7) rfl rfl (l' := #[.val (.int p1), .val (.int p2), .val (.int p3), .val (.ref b4), .unset, .unset, .unset, .unset, .unset, .unset, .unset, .unset, .unset]) rfl ?_
    show Steps p.tables e below (T5.setTop (mkF m 8 #[.val (.int p1), .val (.int p2), .val (.int p3), .val (.ref b4), .unset, .unset, .unset, .unset, .unset, .unset, .unset, .unset, .unset] [])) _
    refine XS.aloadN X5.here hx rfl (hb hby at_8) rfl rfl ?_
    show Steps p.tables e below (T5.setTop (mkF m 9 #[.val (.int p1), .val (.int p2), .val (.int p3), .val (.ref b4), .unset, .unset, .unset, .unset, .unset, .unset, .unset, .unset, .unset] [(.ref b4)])) _
    refine XS.iloadN X5.here hx rfl (hb hby at_9) rfl ?_
    show Steps p.tables e below (T5.setTop (mkF m 10 #[.val (.int p1), .val (.int p2), .val (.int p3), .val (.ref b4), .unset, .unset, .unset, .unset, .unset, .unset, .unset, .unset, .unset] [(.int p1), (.ref b4)])) _
    refine st6.trans ?_
    show Steps p.tables e below (T6.setTop (mkF m 13 #[.val (.int p1), .val (.int p2), .val (.int p3), .val (.ref b4), .unset, .unset, .unset, .unset, .unset, .unset, .unset, .unset, .unset] [])) _
    refine XS.aloadN X6.here hx rfl (hb hby at_13) rfl rfl ?_
    show Steps p.tables e below (T6.setTop (mkF m 14 #[.val (.int p1), .val (.int p2), .val (.int p3), .val (.ref b4), .unset, .unset, .unset, .unset, .unset, .unset, .unset, .unset, .unset] [(.ref b4)])) _
    refine st7.trans ?_
    show Steps p.tables e below (T7.setTop (mkF m 17 #[.val (.int p1), .val (.int p2), .val (.int p3), .val (.ref b4), .unset, .unset, .unset, .unset, .unset, .unset, .unset, .unset, .unset] [(.long ((((0 : Int64) + (1 : Int64)) * (256 : Int64)) + (((0 : Int64) + (p1.toInt64)) * (2 : Int64))))])) _
    refine XS.lstore X7.here hx rfl (hb hby at_17) rfl (l' := #[.val (.int p1), .val (.int p2), .val (.int p3), .val (.ref b4), .val (.long ((((0 : Int64) + (1 : Int64)) * (256 : Int64)) + (((0 : Int64) + (p1.toInt64)) * (2 : Int64)))), .second, .unset, .unset, .unset, .unset, .unset, .unset, .unset]) rfl ?_
    show Steps p.tables e below (T7.setTop (mkF m 19 #[.val (.int p1), .val (.int p2), .val (.int p3), .val (.ref b4), .val (.long ((((0 : Int64) + (1 : Int64)) * (256 : Int64)) + (((0 : Int64) + (p1.toInt64)) * (2 : Int64)))), .second, .unset, .unset, .unset, .unset, .unset, .unset, .unset] [])) _
    refine XS.lload X7.here hx rfl (hb hby at_19) rfl ?_
    show Steps p.tables e below (T7.setTop (mkF m 21 #[.val (.int p1), .val (.int p2), .val (.int p3), .val (.ref b4), .val (.long ((((0 : Int64) + (1 : Int64)) * (256 : Int64)) + (((0 : Int64) + (p1.toInt64)) * (2 : Int64)))), .second, .unset, .unset, .unset, .unset, .unset, .unset, .unset] [(.long ((((0 : Int64) + (1 : Int64)) * (256 : Int64)) + (((0 : Int64) + (p1.toInt64)) * (2 : Int64))))])) _
    refine X7.ldc2Long hx hown (mvT hZ (hw _ (List.mem_of_getElem? (i := 25) rfl))) (g := (mkF m 21 #[.val (.int p1), .val (.int p2), .val (.int p3), .val (.ref b4), .val (.long ((((0 : Int64) + (1 : Int64)) * (256 : Int64)) + (((0 : Int64) + (p1.toInt64)) * (2 : Int64)))), .second, .unset, .unset, .unset, .unset, .unset, .unset, .unset] [(.long ((((0 : Int64) + (1 : Int64)) * (256 : Int64)) + (((0 : Int64) + (p1.toInt64)) * (2 : Int64))))])) rfl (hb hby at_21) _ ?_
    show Steps p.tables e below (T7.setTop (mkF m 24 #[.val (.int p1), .val (.int p2), .val (.int p3), .val (.ref b4), .val (.long ((((0 : Int64) + (1 : Int64)) * (256 : Int64)) + (((0 : Int64) + (p1.toInt64)) * (2 : Int64)))), .second, .unset, .unset, .unset, .unset, .unset, .unset, .unset] [(.long (256 : Int64)), (.long ((((0 : Int64) + (1 : Int64)) * (256 : Int64)) + (((0 : Int64) + (p1.toInt64)) * (2 : Int64))))])) _
    refine X7.ldc2Long hx hown (mvT hZ (hw _ (List.mem_of_getElem? (i := 26) rfl))) (g := (mkF m 24 #[.val (.int p1), .val (.int p2), .val (.int p3), .val (.ref b4), .val (.long ((((0 : Int64) + (1 : Int64)) * (256 : Int64)) + (((0 : Int64) + (p1.toInt64)) * (2 : Int64)))), .second, .unset, .unset, .unset, .unset, .unset, .unset, .unset] [(.long (256 : Int64)), (.long ((((0 : Int64) + (1 : Int64)) * (256 : Int64)) + (((0 : Int64) + (p1.toInt64)) * (2 : Int64))))])) rfl (hb hby at_24) _ ?_
    show Steps p.tables e below (T7.setTop (mkF m 27 #[.val (.int p1), .val (.int p2), .val (.int p3), .val (.ref b4), .val (.long ((((0 : Int64) + (1 : Int64)) * (256 : Int64)) + (((0 : Int64) + (p1.toInt64)) * (2 : Int64)))), .second, .unset, .unset, .unset, .unset, .unset, .unset, .unset] [(.long (2 : Int64)), (.long (256 : Int64)), (.long ((((0 : Int64) + (1 : Int64)) * (256 : Int64)) + (((0 : Int64) + (p1.toInt64)) * (2 : Int64))))])) _
    refine XS.iloadN X7.here hx rfl (hb hby at_27) rfl ?_
    show Steps p.tables e below (T7.setTop (mkF m 28 #[.val (.int p1), .val (.int p2), .val (.int p3), .val (.ref b4), .val (.long ((((0 : Int64) + (1 : Int64)) * (256 : Int64)) + (((0 : Int64) + (p1.toInt64)) * (2 : Int64)))), .second, .unset, .unset, .unset, .unset, .unset, .unset, .unset] [(.int p1), (.long (2 : Int64)), (.long (256 : Int64)), (.long ((((0 : Int64) + (1 : Int64)) * (256 : Int64)) + (((0 : Int64) + (p1.toInt64)) * (2 : Int64))))])) _
    refine XS.i2l X7.here hx rfl (hb hby at_28) rfl ?_
    show Steps p.tables e below (T7.setTop (mkF m 29 #[.val (.int p1), .val (.int p2), .val (.int p3), .val (.ref b4), .val (.long ((((0 : Int64) + (1 : Int64)) * (256 : Int64)) + (((0 : Int64) + (p1.toInt64)) * (2 : Int64)))), .second, .unset, .unset, .unset, .unset, .unset, .unset, .unset] [(.long (p1.toInt64)), (.long (2 : Int64)), (.long (256 : Int64)), (.long ((((0 : Int64) + (1 : Int64)) * (256 : Int64)) + (((0 : Int64) + (p1.toInt64)) * (2 : Int64))))])) _
    refine XS.lmul X7.here hx rfl (hb hby at_29) rfl ?_
    show Steps p.tables e below (T7.setTop (mkF m 30 #[.val (.int p1), .val (.int p2), .val (.int p3), .val (.ref b4), .val (.long ((((0 : Int64) + (1 : Int64)) * (256 : Int64)) + (((0 : Int64) + (p1.toInt64)) * (2 : Int64)))), .second, .unset, .unset, .unset, .unset, .unset, .unset, .unset] [(.long ((2 : Int64) * (p1.toInt64))), (.long (256 : Int64)), (.long ((((0 : Int64) + (1 : Int64)) * (256 : Int64)) + (((0 : Int64) + (p1.toInt64)) * (2 : Int64))))])) _
    refine XS.ladd X7.here hx rfl (hb hby at_30) rfl ?_
    show Steps p.tables e below (T7.setTop (mkF m 31 #[.val (.int p1), .val (.int p2), .val (.int p3), .val (.ref b4), .val (.long ((((0 : Int64) + (1 : Int64)) * (256 : Int64)) + (((0 : Int64) + (p1.toInt64)) * (2 : Int64)))), .second, .unset, .unset, .unset, .unset, .unset, .unset, .unset] [(.long ((256 : Int64) + ((2 : Int64) * (p1.toInt64)))), (.long ((((0 : Int64) + (1 : Int64)) * (256 : Int64)) + (((0 : Int64) + (p1.toInt64)) * (2 : Int64))))])) _
    refine XS.lcmp X7.here hx rfl (hb hby at_31) rfl ?_
    show Steps p.tables e below (T7.setTop (mkF m 32 #[.val (.int p1), .val (.int p2), .val (.int p3), .val (.ref b4), .val (.long ((((0 : Int64) + (1 : Int64)) * (256 : Int64)) + (((0 : Int64) + (p1.toInt64)) * (2 : Int64)))), .second, .unset, .unset, .unset, .unset, .unset, .unset, .unset] [(.int (lcmpW ((((0 : Int64) + (1 : Int64)) * (256 : Int64)) + (((0 : Int64) + (p1.toInt64)) * (2 : Int64))) ((256 : Int64) + ((2 : Int64) * (p1.toInt64)))))])) _
    refine XS.ifNo X7.here hx rfl (hb hby at_32) rfl ((if0 _ _).trans (teq ((lw_eq _ _).mpr (own_h1 _) : (lcmpW ((((0 : Int64) + (1 : Int64)) * (256 : Int64)) + (((0 : Int64) + (p1.toInt64)) * (2 : Int64))) ((256 : Int64) + ((2 : Int64) * (p1.toInt64)))) = (0 : Int32))).2) ?_
    show Steps p.tables e below (T7.setTop (mkF m 35 #[.val (.int p1), .val (.int p2), .val (.int p3), .val (.ref b4), .val (.long ((((0 : Int64) + (1 : Int64)) * (256 : Int64)) + (((0 : Int64) + (p1.toInt64)) * (2 : Int64)))), .second, .unset, .unset, .unset, .unset, .unset, .unset, .unset] [])) _
    refine XS.iconst X7.here hx rfl (hb hby at_35) ?_
    show Steps p.tables e below (T7.setTop (mkF m 36 #[.val (.int p1), .val (.int p2), .val (.int p3), .val (.ref b4), .val (.long ((((0 : Int64) + (1 : Int64)) * (256 : Int64)) + (((0 : Int64) + (p1.toInt64)) * (2 : Int64)))), .second, .unset, .unset, .unset, .unset, .unset, .unset, .unset] [(.int (1 : Int32))])) _
    refine XS.goto X7.here hx rfl (pc0 := 36) (pc' := 40) rfl (hb hby at_36) (by decide) (by decide) ?_
    show Steps p.tables e below (T7.setTop (mkF m 40 #[.val (.int p1), .val (.int p2), .val (.int p3), .val (.ref b4), .val (.long ((((0 : Int64) + (1 : Int64)) * (256 : Int64)) + (((0 : Int64) + (p1.toInt64)) * (2 : Int64)))), .second, .unset, .unset, .unset, .unset, .unset, .unset, .unset] [(.int (1 : Int32))])) _
    refine XS.istore X7.here hx rfl (hb hby at_40) rfl (l' := #[.val (.int p1), .val (.int p2), .val (.int p3), .val (.ref b4), .val (.long ((((0 : Int64) + (1 : Int64)) * (256 : Int64)) + (((0 : Int64) + (p1.toInt64)) * (2 : Int64)))), .second, .val (.int (1 : Int32)), .unset, .unset, .unset, .unset, .unset, .unset]) rfl ?_
    show Steps p.tables e below (T7.setTop (mkF m 42 #[.val (.int p1), .val (.int p2), .val (.int p3), .val (.ref b4), .val (.long ((((0 : Int64) + (1 : Int64)) * (256 : Int64)) + (((0 : Int64) + (p1.toInt64)) * (2 : Int64)))), .second, .val (.int (1 : Int32)), .unset, .unset, .unset, .unset, .unset, .unset] [])) _
    refine XS.aloadN X7.here hx rfl (hb hby at_42) rfl rfl ?_
    show Steps p.tables e below (T7.setTop (mkF m 43 #[.val (.int p1), .val (.int p2), .val (.int p3), .val (.ref b4), .val (.long ((((0 : Int64) + (1 : Int64)) * (256 : Int64)) + (((0 : Int64) + (p1.toInt64)) * (2 : Int64)))), .second, .val (.int (1 : Int32)), .unset, .unset, .unset, .unset, .unset, .unset] [(.ref b4)])) _
    refine XS.iloadN X7.here hx rfl (hb hby at_43) rfl ?_
    show Steps p.tables e below (T7.setTop (mkF m 44 #[.val (.int p1), .val (.int p2), .val (.int p3), .val (.ref b4), .val (.long ((((0 : Int64) + (1 : Int64)) * (256 : Int64)) + (((0 : Int64) + (p1.toInt64)) * (2 : Int64)))), .second, .val (.int (1 : Int32)), .unset, .unset, .unset, .unset, .unset, .unset] [(.int p2), (.ref b4)])) _
    refine st8.trans ?_
    show Steps p.tables e below (T8.setTop (mkF m 47 #[.val (.int p1), .val (.int p2), .val (.int p3), .val (.ref b4), .val (.long ((((0 : Int64) + (1 : Int64)) * (256 : Int64)) + (((0 : Int64) + (p1.toInt64)) * (2 : Int64)))), .second, .val (.int (1 : Int32)), .unset, .unset, .unset, .unset, .unset, .unset] [])) _
    refine XS.aloadN X8.here hx rfl (hb hby at_47) rfl rfl ?_
    show Steps p.tables e below (T8.setTop (mkF m 48 #[.val (.int p1), .val (.int p2), .val (.int p3), .val (.ref b4), .val (.long ((((0 : Int64) + (1 : Int64)) * (256 : Int64)) + (((0 : Int64) + (p1.toInt64)) * (2 : Int64)))), .second, .val (.int (1 : Int32)), .unset, .unset, .unset, .unset, .unset, .unset] [(.ref b4)])) _
    refine st9.trans ?_
    show Steps p.tables e below (T9.setTop (mkF m 51 #[.val (.int p1), .val (.int p2), .val (.int p3), .val (.ref b4), .val (.long ((((0 : Int64) + (1 : Int64)) * (256 : Int64)) + (((0 : Int64) + (p1.toInt64)) * (2 : Int64)))), .second, .val (.int (1 : Int32)), .unset, .unset, .unset, .unset, .unset, .unset] [(.long (((((0 : Int64) + (1 : Int64)) + (1 : Int64)) * (256 : Int64)) + ((((0 : Int64) + (p1.toInt64)) + (p2.toInt64)) * (2 : Int64))))])) _
    refine XS.lstore X9.here hx rfl (hb hby at_51) rfl (l' := #[.val (.int p1), .val (.int p2), .val (.int p3), .val (.ref b4), .val (.long ((((0 : Int64) + (1 : Int64)) * (256 : Int64)) + (((0 : Int64) + (p1.toInt64)) * (2 : Int64)))), .second, .val (.int (1 : Int32)), .val (.long (((((0 : Int64) + (1 : Int64)) + (1 : Int64)) * (256 : Int64)) + ((((0 : Int64) + (p1.toInt64)) + (p2.toInt64)) * (2 : Int64)))), .second, .unset, .unset, .unset, .unset]) rfl ?_
    show Steps p.tables e below (T9.setTop (mkF m 53 #[.val (.int p1), .val (.int p2), .val (.int p3), .val (.ref b4), .val (.long ((((0 : Int64) + (1 : Int64)) * (256 : Int64)) + (((0 : Int64) + (p1.toInt64)) * (2 : Int64)))), .second, .val (.int (1 : Int32)), .val (.long (((((0 : Int64) + (1 : Int64)) + (1 : Int64)) * (256 : Int64)) + ((((0 : Int64) + (p1.toInt64)) + (p2.toInt64)) * (2 : Int64)))), .second, .unset, .unset, .unset, .unset] [])) _
    refine XS.lload X9.here hx rfl (hb hby at_53) rfl ?_
    show Steps p.tables e below (T9.setTop (mkF m 55 #[.val (.int p1), .val (.int p2), .val (.int p3), .val (.ref b4), .val (.long ((((0 : Int64) + (1 : Int64)) * (256 : Int64)) + (((0 : Int64) + (p1.toInt64)) * (2 : Int64)))), .second, .val (.int (1 : Int32)), .val (.long (((((0 : Int64) + (1 : Int64)) + (1 : Int64)) * (256 : Int64)) + ((((0 : Int64) + (p1.toInt64)) + (p2.toInt64)) * (2 : Int64)))), .second, .unset, .unset, .unset, .unset] [(.long (((((0 : Int64) + (1 : Int64)) + (1 : Int64)) * (256 : Int64)) + ((((0 : Int64) + (p1.toInt64)) + (p2.toInt64)) * (2 : Int64))))])) _
    refine X9.ldc2Long hx hown (mvT hZ (hw _ (List.mem_of_getElem? (i := 27) rfl))) (g := (mkF m 55 #[.val (.int p1), .val (.int p2), .val (.int p3), .val (.ref b4), .val (.long ((((0 : Int64) + (1 : Int64)) * (256 : Int64)) + (((0 : Int64) + (p1.toInt64)) * (2 : Int64)))), .second, .val (.int (1 : Int32)), .val (.long (((((0 : Int64) + (1 : Int64)) + (1 : Int64)) * (256 : Int64)) + ((((0 : Int64) + (p1.toInt64)) + (p2.toInt64)) * (2 : Int64)))), .second, .unset, .unset, .unset, .unset] [(.long (((((0 : Int64) + (1 : Int64)) + (1 : Int64)) * (256 : Int64)) + ((((0 : Int64) + (p1.toInt64)) + (p2.toInt64)) * (2 : Int64))))])) rfl (hb hby at_55) _ ?_
    show Steps p.tables e below (T9.setTop (mkF m 58 #[.val (.int p1), .val (.int p2), .val (.int p3), .val (.ref b4), .val (.long ((((0 : Int64) + (1 : Int64)) * (256 : Int64)) + (((0 : Int64) + (p1.toInt64)) * (2 : Int64)))), .second, .val (.int (1 : Int32)), .val (.long (((((0 : Int64) + (1 : Int64)) + (1 : Int64)) * (256 : Int64)) + ((((0 : Int64) + (p1.toInt64)) + (p2.toInt64)) * (2 : Int64)))), .second, .unset, .unset, .unset, .unset] [(.long (512 : Int64)), (.long (((((0 : Int64) + (1 : Int64)) + (1 : Int64)) * (256 : Int64)) + ((((0 : Int64) + (p1.toInt64)) + (p2.toInt64)) * (2 : Int64))))])) _
    refine X9.ldc2Long hx hown (mvT hZ (hw _ (List.mem_of_getElem? (i := 26) rfl))) (g := (mkF m 58 #[.val (.int p1), .val (.int p2), .val (.int p3), .val (.ref b4), .val (.long ((((0 : Int64) + (1 : Int64)) * (256 : Int64)) + (((0 : Int64) + (p1.toInt64)) * (2 : Int64)))), .second, .val (.int (1 : Int32)), .val (.long (((((0 : Int64) + (1 : Int64)) + (1 : Int64)) * (256 : Int64)) + ((((0 : Int64) + (p1.toInt64)) + (p2.toInt64)) * (2 : Int64)))), .second, .unset, .unset, .unset, .unset] [(.long (512 : Int64)), (.long (((((0 : Int64) + (1 : Int64)) + (1 : Int64)) * (256 : Int64)) + ((((0 : Int64) + (p1.toInt64)) + (p2.toInt64)) * (2 : Int64))))])) rfl (hb hby at_58) _ ?_
    show Steps p.tables e below (T9.setTop (mkF m 61 #[.val (.int p1), .val (.int p2), .val (.int p3), .val (.ref b4), .val (.long ((((0 : Int64) + (1 : Int64)) * (256 : Int64)) + (((0 : Int64) + (p1.toInt64)) * (2 : Int64)))), .second, .val (.int (1 : Int32)), .val (.long (((((0 : Int64) + (1 : Int64)) + (1 : Int64)) * (256 : Int64)) + ((((0 : Int64) + (p1.toInt64)) + (p2.toInt64)) * (2 : Int64)))), .second, .unset, .unset, .unset, .unset] [(.long (2 : Int64)), (.long (512 : Int64)), (.long (((((0 : Int64) + (1 : Int64)) + (1 : Int64)) * (256 : Int64)) + ((((0 : Int64) + (p1.toInt64)) + (p2.toInt64)) * (2 : Int64))))])) _
    refine XS.iloadN X9.here hx rfl (hb hby at_61) rfl ?_
    show Steps p.tables e below (T9.setTop (mkF m 62 #[.val (.int p1), .val (.int p2), .val (.int p3), .val (.ref b4), .val (.long ((((0 : Int64) + (1 : Int64)) * (256 : Int64)) + (((0 : Int64) + (p1.toInt64)) * (2 : Int64)))), .second, .val (.int (1 : Int32)), .val (.long (((((0 : Int64) + (1 : Int64)) + (1 : Int64)) * (256 : Int64)) + ((((0 : Int64) + (p1.toInt64)) + (p2.toInt64)) * (2 : Int64)))), .second, .unset, .unset, .unset, .unset] [(.int p1), (.long (2 : Int64)), (.long (512 : Int64)), (.long (((((0 : Int64) + (1 : Int64)) + (1 : Int64)) * (256 : Int64)) + ((((0 : Int64) + (p1.toInt64)) + (p2.toInt64)) * (2 : Int64))))])) _
    refine XS.i2l X9.here hx rfl (hb hby at_62) rfl ?_
    show Steps p.tables e below (T9.setTop (mkF m 63 #[.val (.int p1), .val (.int p2), .val (.int p3), .val (.ref b4), .val (.long ((((0 : Int64) + (1 : Int64)) * (256 : Int64)) + (((0 : Int64) + (p1.toInt64)) * (2 : Int64)))), .second, .val (.int (1 : Int32)), .val (.long (((((0 : Int64) + (1 : Int64)) + (1 : Int64)) * (256 : Int64)) + ((((0 : Int64) + (p1.toInt64)) + (p2.toInt64)) * (2 : Int64)))), .second, .unset, .unset, .unset, .unset] [(.long (p1.toInt64)), (.long (2 : Int64)), (.long (512 : Int64)), (.long (((((0 : Int64) + (1 : Int64)) + (1 : Int64)) * (256 : Int64)) + ((((0 : Int64) + (p1.toInt64)) + (p2.toInt64)) * (2 : Int64))))])) _
    refine XS.iloadN X9.here hx rfl (hb hby at_63) rfl ?_
    show Steps p.tables e below (T9.setTop (mkF m 64 #[.val (.int p1), .val (.int p2), .val (.int p3), .val (.ref b4), .val (.long ((((0 : Int64) + (1 : Int64)) * (256 : Int64)) + (((0 : Int64) + (p1.toInt64)) * (2 : Int64)))), .second, .val (.int (1 : Int32)), .val (.long (((((0 : Int64) + (1 : Int64)) + (1 : Int64)) * (256 : Int64)) + ((((0 : Int64) + (p1.toInt64)) + (p2.toInt64)) * (2 : Int64)))), .second, .unset, .unset, .unset, .unset] [(.int p2), (.long (p1.toInt64)), (.long (2 : Int64)), (.long (512 : Int64)), (.long (((((0 : Int64) + (1 : Int64)) + (1 : Int64)) * (256 : Int64)) + ((((0 : Int64) + (p1.toInt64)) + (p2.toInt64)) * (2 : Int64))))])) _
    refine XS.i2l X9.here hx rfl (hb hby at_64) rfl ?_
    show Steps p.tables e below (T9.setTop (mkF m 65 #[.val (.int p1), .val (.int p2), .val (.int p3), .val (.ref b4), .val (.long ((((0 : Int64) + (1 : Int64)) * (256 : Int64)) + (((0 : Int64) + (p1.toInt64)) * (2 : Int64)))), .second, .val (.int (1 : Int32)), .val (.long (((((0 : Int64) + (1 : Int64)) + (1 : Int64)) * (256 : Int64)) + ((((0 : Int64) + (p1.toInt64)) + (p2.toInt64)) * (2 : Int64)))), .second, .unset, .unset, .unset, .unset] [(.long (p2.toInt64)), (.long (p1.toInt64)), (.long (2 : Int64)), (.long (512 : Int64)), (.long (((((0 : Int64) + (1 : Int64)) + (1 : Int64)) * (256 : Int64)) + ((((0 : Int64) + (p1.toInt64)) + (p2.toInt64)) * (2 : Int64))))])) _
    refine XS.ladd X9.here hx rfl (hb hby at_65) rfl ?_
    show Steps p.tables e below (T9.setTop (mkF m 66 #[.val (.int p1), .val (.int p2), .val (.int p3), .val (.ref b4), .val (.long ((((0 : Int64) + (1 : Int64)) * (256 : Int64)) + (((0 : Int64) + (p1.toInt64)) * (2 : Int64)))), .second, .val (.int (1 : Int32)), .val (.long (((((0 : Int64) + (1 : Int64)) + (1 : Int64)) * (256 : Int64)) + ((((0 : Int64) + (p1.toInt64)) + (p2.toInt64)) * (2 : Int64)))), .second, .unset, .unset, .unset, .unset] [(.long ((p1.toInt64) + (p2.toInt64))), (.long (2 : Int64)), (.long (512 : Int64)), (.long (((((0 : Int64) + (1 : Int64)) + (1 : Int64)) * (256 : Int64)) + ((((0 : Int64) + (p1.toInt64)) + (p2.toInt64)) * (2 : Int64))))])) _
    refine XS.lmul X9.here hx rfl (hb hby at_66) rfl ?_
    show Steps p.tables e below (T9.setTop (mkF m 67 #[.val (.int p1), .val (.int p2), .val (.int p3), .val (.ref b4), .val (.long ((((0 : Int64) + (1 : Int64)) * (256 : Int64)) + (((0 : Int64) + (p1.toInt64)) * (2 : Int64)))), .second, .val (.int (1 : Int32)), .val (.long (((((0 : Int64) + (1 : Int64)) + (1 : Int64)) * (256 : Int64)) + ((((0 : Int64) + (p1.toInt64)) + (p2.toInt64)) * (2 : Int64)))), .second, .unset, .unset, .unset, .unset] [(.long ((2 : Int64) * ((p1.toInt64) + (p2.toInt64)))), (.long (512 : Int64)), (.long (((((0 : Int64) + (1 : Int64)) + (1 : Int64)) * (256 : Int64)) + ((((0 : Int64) + (p1.toInt64)) + (p2.toInt64)) * (2 : Int64))))])) _
    refine XS.ladd X9.here hx rfl (hb hby at_67) rfl ?_
    show Steps p.tables e below (T9.setTop (mkF m 68 #[.val (.int p1), .val (.int p2), .val (.int p3), .val (.ref b4), .val (.long ((((0 : Int64) + (1 : Int64)) * (256 : Int64)) + (((0 : Int64) + (p1.toInt64)) * (2 : Int64)))), .second, .val (.int (1 : Int32)), .val (.long (((((0 : Int64) + (1 : Int64)) + (1 : Int64)) * (256 : Int64)) + ((((0 : Int64) + (p1.toInt64)) + (p2.toInt64)) * (2 : Int64)))), .second, .unset, .unset, .unset, .unset] [(.long ((512 : Int64) + ((2 : Int64) * ((p1.toInt64) + (p2.toInt64))))), (.long (((((0 : Int64) + (1 : Int64)) + (1 : Int64)) * (256 : Int64)) + ((((0 : Int64) + (p1.toInt64)) + (p2.toInt64)) * (2 : Int64))))])) _
    refine XS.lcmp X9.here hx rfl (hb hby at_68) rfl ?_
    show Steps p.tables e below (T9.setTop (mkF m 69 #[.val (.int p1), .val (.int p2), .val (.int p3), .val (.ref b4), .val (.long ((((0 : Int64) + (1 : Int64)) * (256 : Int64)) + (((0 : Int64) + (p1.toInt64)) * (2 : Int64)))), .second, .val (.int (1 : Int32)), .val (.long (((((0 : Int64) + (1 : Int64)) + (1 : Int64)) * (256 : Int64)) + ((((0 : Int64) + (p1.toInt64)) + (p2.toInt64)) * (2 : Int64)))), .second, .unset, .unset, .unset, .unset] [(.int (lcmpW (((((0 : Int64) + (1 : Int64)) + (1 : Int64)) * (256 : Int64)) + ((((0 : Int64) + (p1.toInt64)) + (p2.toInt64)) * (2 : Int64))) ((512 : Int64) + ((2 : Int64) * ((p1.toInt64) + (p2.toInt64))))))])) _
    refine XS.ifNo X9.here hx rfl (hb hby at_69) rfl ((if0 _ _).trans (teq ((lw_eq _ _).mpr (own_h2 _ _) : (lcmpW (((((0 : Int64) + (1 : Int64)) + (1 : Int64)) * (256 : Int64)) + ((((0 : Int64) + (p1.toInt64)) + (p2.toInt64)) * (2 : Int64))) ((512 : Int64) + ((2 : Int64) * ((p1.toInt64) + (p2.toInt64))))) = (0 : Int32))).2) ?_
    show Steps p.tables e below (T9.setTop (mkF m 72 #[.val (.int p1), .val (.int p2), .val (.int p3), .val (.ref b4), .val (.long ((((0 : Int64) + (1 : Int64)) * (256 : Int64)) + (((0 : Int64) + (p1.toInt64)) * (2 : Int64)))), .second, .val (.int (1 : Int32)), .val (.long (((((0 : Int64) + (1 : Int64)) + (1 : Int64)) * (256 : Int64)) + ((((0 : Int64) + (p1.toInt64)) + (p2.toInt64)) * (2 : Int64)))), .second, .unset, .unset, .unset, .unset] [])) _
    refine XS.iconst X9.here hx rfl (hb hby at_72) ?_
    show Steps p.tables e below (T9.setTop (mkF m 73 #[.val (.int p1), .val (.int p2), .val (.int p3), .val (.ref b4), .val (.long ((((0 : Int64) + (1 : Int64)) * (256 : Int64)) + (((0 : Int64) + (p1.toInt64)) * (2 : Int64)))), .second, .val (.int (1 : Int32)), .val (.long (((((0 : Int64) + (1 : Int64)) + (1 : Int64)) * (256 : Int64)) + ((((0 : Int64) + (p1.toInt64)) + (p2.toInt64)) * (2 : Int64)))), .second, .unset, .unset, .unset, .unset] [(.int (1 : Int32))])) _
    refine XS.goto X9.here hx rfl (pc0 := 73) (pc' := 77) rfl (hb hby at_73) (by decide) (by decide) ?_
    show Steps p.tables e below (T9.setTop (mkF m 77 #[.val (.int p1), .val (.int p2), .val (.int p3), .val (.ref b4), .val (.long ((((0 : Int64) + (1 : Int64)) * (256 : Int64)) + (((0 : Int64) + (p1.toInt64)) * (2 : Int64)))), .second, .val (.int (1 : Int32)), .val (.long (((((0 : Int64) + (1 : Int64)) + (1 : Int64)) * (256 : Int64)) + ((((0 : Int64) + (p1.toInt64)) + (p2.toInt64)) * (2 : Int64)))), .second, .unset, .unset, .unset, .unset] [(.int (1 : Int32))])) _
    refine XS.istore X9.here hx rfl (hb hby at_77) rfl (l' := #[.val (.int p1), .val (.int p2), .val (.int p3), .val (.ref b4), .val (.long ((((0 : Int64) + (1 : Int64)) * (256 : Int64)) + (((0 : Int64) + (p1.toInt64)) * (2 : Int64)))), .second, .val (.int (1 : Int32)), .val (.long (((((0 : Int64) + (1 : Int64)) + (1 : Int64)) * (256 : Int64)) + ((((0 : Int64) + (p1.toInt64)) + (p2.toInt64)) * (2 : Int64)))), .second, .val (.int (1 : Int32)), .unset, .unset, .unset]) rfl ?_
    show Steps p.tables e below (T9.setTop (mkF m 79 #[.val (.int p1), .val (.int p2), .val (.int p3), .val (.ref b4), .val (.long ((((0 : Int64) + (1 : Int64)) * (256 : Int64)) + (((0 : Int64) + (p1.toInt64)) * (2 : Int64)))), .second, .val (.int (1 : Int32)), .val (.long (((((0 : Int64) + (1 : Int64)) + (1 : Int64)) * (256 : Int64)) + ((((0 : Int64) + (p1.toInt64)) + (p2.toInt64)) * (2 : Int64)))), .second, .val (.int (1 : Int32)), .unset, .unset, .unset] [])) _
    refine XS.aloadN X9.here hx rfl (hb hby at_79) rfl rfl ?_
    show Steps p.tables e below (T9.setTop (mkF m 80 #[.val (.int p1), .val (.int p2), .val (.int p3), .val (.ref b4), .val (.long ((((0 : Int64) + (1 : Int64)) * (256 : Int64)) + (((0 : Int64) + (p1.toInt64)) * (2 : Int64)))), .second, .val (.int (1 : Int32)), .val (.long (((((0 : Int64) + (1 : Int64)) + (1 : Int64)) * (256 : Int64)) + ((((0 : Int64) + (p1.toInt64)) + (p2.toInt64)) * (2 : Int64)))), .second, .val (.int (1 : Int32)), .unset, .unset, .unset] [(.ref b4)])) _
    refine st10.trans ?_
    show Steps p.tables e below (T10.setTop (mkF m 83 #[.val (.int p1), .val (.int p2), .val (.int p3), .val (.ref b4), .val (.long ((((0 : Int64) + (1 : Int64)) * (256 : Int64)) + (((0 : Int64) + (p1.toInt64)) * (2 : Int64)))), .second, .val (.int (1 : Int32)), .val (.long (((((0 : Int64) + (1 : Int64)) + (1 : Int64)) * (256 : Int64)) + ((((0 : Int64) + (p1.toInt64)) + (p2.toInt64)) * (2 : Int64)))), .second, .val (.int (1 : Int32)), .unset, .unset, .unset] [])) _
    refine XS.aloadN X10.here hx rfl (hb hby at_83) rfl rfl ?_
    show Steps p.tables e below (T10.setTop (mkF m 84 #[.val (.int p1), .val (.int p2), .val (.int p3), .val (.ref b4), .val (.long ((((0 : Int64) + (1 : Int64)) * (256 : Int64)) + (((0 : Int64) + (p1.toInt64)) * (2 : Int64)))), .second, .val (.int (1 : Int32)), .val (.long (((((0 : Int64) + (1 : Int64)) + (1 : Int64)) * (256 : Int64)) + ((((0 : Int64) + (p1.toInt64)) + (p2.toInt64)) * (2 : Int64)))), .second, .val (.int (1 : Int32)), .unset, .unset, .unset] [(.ref b4)])) _
    refine XS.iloadN X10.here hx rfl (hb hby at_84) rfl ?_
    show Steps p.tables e below (T10.setTop (mkF m 85 #[.val (.int p1), .val (.int p2), .val (.int p3), .val (.ref b4), .val (.long ((((0 : Int64) + (1 : Int64)) * (256 : Int64)) + (((0 : Int64) + (p1.toInt64)) * (2 : Int64)))), .second, .val (.int (1 : Int32)), .val (.long (((((0 : Int64) + (1 : Int64)) + (1 : Int64)) * (256 : Int64)) + ((((0 : Int64) + (p1.toInt64)) + (p2.toInt64)) * (2 : Int64)))), .second, .val (.int (1 : Int32)), .unset, .unset, .unset] [(.int p3), (.ref b4)])) _
    refine st11.trans ?_
    show Steps p.tables e below (T11.setTop (mkF m 88 #[.val (.int p1), .val (.int p2), .val (.int p3), .val (.ref b4), .val (.long ((((0 : Int64) + (1 : Int64)) * (256 : Int64)) + (((0 : Int64) + (p1.toInt64)) * (2 : Int64)))), .second, .val (.int (1 : Int32)), .val (.long (((((0 : Int64) + (1 : Int64)) + (1 : Int64)) * (256 : Int64)) + ((((0 : Int64) + (p1.toInt64)) + (p2.toInt64)) * (2 : Int64)))), .second, .val (.int (1 : Int32)), .unset, .unset, .unset] [])) _
    refine XS.aloadN X11.here hx rfl (hb hby at_88) rfl rfl ?_
    show Steps p.tables e below (T11.setTop (mkF m 89 #[.val (.int p1), .val (.int p2), .val (.int p3), .val (.ref b4), .val (.long ((((0 : Int64) + (1 : Int64)) * (256 : Int64)) + (((0 : Int64) + (p1.toInt64)) * (2 : Int64)))), .second, .val (.int (1 : Int32)), .val (.long (((((0 : Int64) + (1 : Int64)) + (1 : Int64)) * (256 : Int64)) + ((((0 : Int64) + (p1.toInt64)) + (p2.toInt64)) * (2 : Int64)))), .second, .val (.int (1 : Int32)), .unset, .unset, .unset] [(.ref b4)])) _
    refine st12.trans ?_
    show Steps p.tables e below (T12.setTop (mkF m 92 #[.val (.int p1), .val (.int p2), .val (.int p3), .val (.ref b4), .val (.long ((((0 : Int64) + (1 : Int64)) * (256 : Int64)) + (((0 : Int64) + (p1.toInt64)) * (2 : Int64)))), .second, .val (.int (1 : Int32)), .val (.long (((((0 : Int64) + (1 : Int64)) + (1 : Int64)) * (256 : Int64)) + ((((0 : Int64) + (p1.toInt64)) + (p2.toInt64)) * (2 : Int64)))), .second, .val (.int (1 : Int32)), .unset, .unset, .unset] [(.long ((((0 : Int64) + (1 : Int64)) * (256 : Int64)) + (((0 : Int64) + (p3.toInt64)) * (2 : Int64))))])) _
    refine XS.lstore X12.here hx rfl (hb hby at_92) rfl (l' := #[.val (.int p1), .val (.int p2), .val (.int p3), .val (.ref b4), .val (.long ((((0 : Int64) + (1 : Int64)) * (256 : Int64)) + (((0 : Int64) + (p1.toInt64)) * (2 : Int64)))), .second, .val (.int (1 : Int32)), .val (.long (((((0 : Int64) + (1 : Int64)) + (1 : Int64)) * (256 : Int64)) + ((((0 : Int64) + (p1.toInt64)) + (p2.toInt64)) * (2 : Int64)))), .second, .val (.int (1 : Int32)), .val (.long ((((0 : Int64) + (1 : Int64)) * (256 : Int64)) + (((0 : Int64) + (p3.toInt64)) * (2 : Int64)))), .second, .unset]) rfl ?_
    show Steps p.tables e below (T12.setTop (mkF m 94 #[.val (.int p1), .val (.int p2), .val (.int p3), .val (.ref b4), .val (.long ((((0 : Int64) + (1 : Int64)) * (256 : Int64)) + (((0 : Int64) + (p1.toInt64)) * (2 : Int64)))), .second, .val (.int (1 : Int32)), .val (.long (((((0 : Int64) + (1 : Int64)) + (1 : Int64)) * (256 : Int64)) + ((((0 : Int64) + (p1.toInt64)) + (p2.toInt64)) * (2 : Int64)))), .second, .val (.int (1 : Int32)), .val (.long ((((0 : Int64) + (1 : Int64)) * (256 : Int64)) + (((0 : Int64) + (p3.toInt64)) * (2 : Int64)))), .second, .unset] [])) _
    refine XS.lload X12.here hx rfl (hb hby at_94) rfl ?_
    show Steps p.tables e below (T12.setTop (mkF m 96 #[.val (.int p1), .val (.int p2), .val (.int p3), .val (.ref b4), .val (.long ((((0 : Int64) + (1 : Int64)) * (256 : Int64)) + (((0 : Int64) + (p1.toInt64)) * (2 : Int64)))), .second, .val (.int (1 : Int32)), .val (.long (((((0 : Int64) + (1 : Int64)) + (1 : Int64)) * (256 : Int64)) + ((((0 : Int64) + (p1.toInt64)) + (p2.toInt64)) * (2 : Int64)))), .second, .val (.int (1 : Int32)), .val (.long ((((0 : Int64) + (1 : Int64)) * (256 : Int64)) + (((0 : Int64) + (p3.toInt64)) * (2 : Int64)))), .second, .unset] [(.long ((((0 : Int64) + (1 : Int64)) * (256 : Int64)) + (((0 : Int64) + (p3.toInt64)) * (2 : Int64))))])) _
    refine X12.ldc2Long hx hown (mvT hZ (hw _ (List.mem_of_getElem? (i := 25) rfl))) (g := (mkF m 96 #[.val (.int p1), .val (.int p2), .val (.int p3), .val (.ref b4), .val (.long ((((0 : Int64) + (1 : Int64)) * (256 : Int64)) + (((0 : Int64) + (p1.toInt64)) * (2 : Int64)))), .second, .val (.int (1 : Int32)), .val (.long (((((0 : Int64) + (1 : Int64)) + (1 : Int64)) * (256 : Int64)) + ((((0 : Int64) + (p1.toInt64)) + (p2.toInt64)) * (2 : Int64)))), .second, .val (.int (1 : Int32)), .val (.long ((((0 : Int64) + (1 : Int64)) * (256 : Int64)) + (((0 : Int64) + (p3.toInt64)) * (2 : Int64)))), .second, .unset] [(.long ((((0 : Int64) + (1 : Int64)) * (256 : Int64)) + (((0 : Int64) + (p3.toInt64)) * (2 : Int64))))])) rfl (hb hby at_96) _ ?_
    show Steps p.tables e below (T12.setTop (mkF m 99 #[.val (.int p1), .val (.int p2), .val (.int p3), .val (.ref b4), .val (.long ((((0 : Int64) + (1 : Int64)) * (256 : Int64)) + (((0 : Int64) + (p1.toInt64)) * (2 : Int64)))), .second, .val (.int (1 : Int32)), .val (.long (((((0 : Int64) + (1 : Int64)) + (1 : Int64)) * (256 : Int64)) + ((((0 : Int64) + (p1.toInt64)) + (p2.toInt64)) * (2 : Int64)))), .second, .val (.int (1 : Int32)), .val (.long ((((0 : Int64) + (1 : Int64)) * (256 : Int64)) + (((0 : Int64) + (p3.toInt64)) * (2 : Int64)))), .second, .unset] [(.long (256 : Int64)), (.long ((((0 : Int64) + (1 : Int64)) * (256 : Int64)) + (((0 : Int64) + (p3.toInt64)) * (2 : Int64))))])) _
    refine X12.ldc2Long hx hown (mvT hZ (hw _ (List.mem_of_getElem? (i := 26) rfl))) (g := (mkF m 99 #[.val (.int p1), .val (.int p2), .val (.int p3), .val (.ref b4), .val (.long ((((0 : Int64) + (1 : Int64)) * (256 : Int64)) + (((0 : Int64) + (p1.toInt64)) * (2 : Int64)))), .second, .val (.int (1 : Int32)), .val (.long (((((0 : Int64) + (1 : Int64)) + (1 : Int64)) * (256 : Int64)) + ((((0 : Int64) + (p1.toInt64)) + (p2.toInt64)) * (2 : Int64)))), .second, .val (.int (1 : Int32)), .val (.long ((((0 : Int64) + (1 : Int64)) * (256 : Int64)) + (((0 : Int64) + (p3.toInt64)) * (2 : Int64)))), .second, .unset] [(.long (256 : Int64)), (.long ((((0 : Int64) + (1 : Int64)) * (256 : Int64)) + (((0 : Int64) + (p3.toInt64)) * (2 : Int64))))])) rfl (hb hby at_99) _ ?_
    show Steps p.tables e below (T12.setTop (mkF m 102 #[.val (.int p1), .val (.int p2), .val (.int p3), .val (.ref b4), .val (.long ((((0 : Int64) + (1 : Int64)) * (256 : Int64)) + (((0 : Int64) + (p1.toInt64)) * (2 : Int64)))), .second, .val (.int (1 : Int32)), .val (.long (((((0 : Int64) + (1 : Int64)) + (1 : Int64)) * (256 : Int64)) + ((((0 : Int64) + (p1.toInt64)) + (p2.toInt64)) * (2 : Int64)))), .second, .val (.int (1 : Int32)), .val (.long ((((0 : Int64) + (1 : Int64)) * (256 : Int64)) + (((0 : Int64) + (p3.toInt64)) * (2 : Int64)))), .second, .unset] [(.long (2 : Int64)), (.long (256 : Int64)), (.long ((((0 : Int64) + (1 : Int64)) * (256 : Int64)) + (((0 : Int64) + (p3.toInt64)) * (2 : Int64))))])) _
    refine XS.iloadN X12.here hx rfl (hb hby at_102) rfl ?_
    show Steps p.tables e below (T12.setTop (mkF m 103 #[.val (.int p1), .val (.int p2), .val (.int p3), .val (.ref b4), .val (.long ((((0 : Int64) + (1 : Int64)) * (256 : Int64)) + (((0 : Int64) + (p1.toInt64)) * (2 : Int64)))), .second, .val (.int (1 : Int32)), .val (.long (((((0 : Int64) + (1 : Int64)) + (1 : Int64)) * (256 : Int64)) + ((((0 : Int64) + (p1.toInt64)) + (p2.toInt64)) * (2 : Int64)))), .second, .val (.int (1 : Int32)), .val (.long ((((0 : Int64) + (1 : Int64)) * (256 : Int64)) + (((0 : Int64) + (p3.toInt64)) * (2 : Int64)))), .second, .unset] [(.int p3), (.long (2 : Int64)), (.long (256 : Int64)), (.long ((((0 : Int64) + (1 : Int64)) * (256 : Int64)) + (((0 : Int64) + (p3.toInt64)) * (2 : Int64))))])) _
    refine XS.i2l X12.here hx rfl (hb hby at_103) rfl ?_
    show Steps p.tables e below (T12.setTop (mkF m 104 #[.val (.int p1), .val (.int p2), .val (.int p3), .val (.ref b4), .val (.long ((((0 : Int64) + (1 : Int64)) * (256 : Int64)) + (((0 : Int64) + (p1.toInt64)) * (2 : Int64)))), .second, .val (.int (1 : Int32)), .val (.long (((((0 : Int64) + (1 : Int64)) + (1 : Int64)) * (256 : Int64)) + ((((0 : Int64) + (p1.toInt64)) + (p2.toInt64)) * (2 : Int64)))), .second, .val (.int (1 : Int32)), .val (.long ((((0 : Int64) + (1 : Int64)) * (256 : Int64)) + (((0 : Int64) + (p3.toInt64)) * (2 : Int64)))), .second, .unset] [(.long (p3.toInt64)), (.long (2 : Int64)), (.long (256 : Int64)), (.long ((((0 : Int64) + (1 : Int64)) * (256 : Int64)) + (((0 : Int64) + (p3.toInt64)) * (2 : Int64))))])) _
    refine XS.lmul X12.here hx rfl (hb hby at_104) rfl ?_
    show Steps p.tables e below (T12.setTop (mkF m 105 #[.val (.int p1), .val (.int p2), .val (.int p3), .val (.ref b4), .val (.long ((((0 : Int64) + (1 : Int64)) * (256 : Int64)) + (((0 : Int64) + (p1.toInt64)) * (2 : Int64)))), .second, .val (.int (1 : Int32)), .val (.long (((((0 : Int64) + (1 : Int64)) + (1 : Int64)) * (256 : Int64)) + ((((0 : Int64) + (p1.toInt64)) + (p2.toInt64)) * (2 : Int64)))), .second, .val (.int (1 : Int32)), .val (.long ((((0 : Int64) + (1 : Int64)) * (256 : Int64)) + (((0 : Int64) + (p3.toInt64)) * (2 : Int64)))), .second, .unset] [(.long ((2 : Int64) * (p3.toInt64))), (.long (256 : Int64)), (.long ((((0 : Int64) + (1 : Int64)) * (256 : Int64)) + (((0 : Int64) + (p3.toInt64)) * (2 : Int64))))])) _
    refine XS.ladd X12.here hx rfl (hb hby at_105) rfl ?_
    show Steps p.tables e below (T12.setTop (mkF m 106 #[.val (.int p1), .val (.int p2), .val (.int p3), .val (.ref b4), .val (.long ((((0 : Int64) + (1 : Int64)) * (256 : Int64)) + (((0 : Int64) + (p1.toInt64)) * (2 : Int64)))), .second, .val (.int (1 : Int32)), .val (.long (((((0 : Int64) + (1 : Int64)) + (1 : Int64)) * (256 : Int64)) + ((((0 : Int64) + (p1.toInt64)) + (p2.toInt64)) * (2 : Int64)))), .second, .val (.int (1 : Int32)), .val (.long ((((0 : Int64) + (1 : Int64)) * (256 : Int64)) + (((0 : Int64) + (p3.toInt64)) * (2 : Int64)))), .second, .unset] [(.long ((256 : Int64) + ((2 : Int64) * (p3.toInt64)))), (.long ((((0 : Int64) + (1 : Int64)) * (256 : Int64)) + (((0 : Int64) + (p3.toInt64)) * (2 : Int64))))])) _
    refine XS.lcmp X12.here hx rfl (hb hby at_106) rfl ?_
    show Steps p.tables e below (T12.setTop (mkF m 107 #[.val (.int p1), .val (.int p2), .val (.int p3), .val (.ref b4), .val (.long ((((0 : Int64) + (1 : Int64)) * (256 : Int64)) + (((0 : Int64) + (p1.toInt64)) * (2 : Int64)))), .second, .val (.int (1 : Int32)), .val (.long (((((0 : Int64) + (1 : Int64)) + (1 : Int64)) * (256 : Int64)) + ((((0 : Int64) + (p1.toInt64)) + (p2.toInt64)) * (2 : Int64)))), .second, .val (.int (1 : Int32)), .val (.long ((((0 : Int64) + (1 : Int64)) * (256 : Int64)) + (((0 : Int64) + (p3.toInt64)) * (2 : Int64)))), .second, .unset] [(.int (lcmpW ((((0 : Int64) + (1 : Int64)) * (256 : Int64)) + (((0 : Int64) + (p3.toInt64)) * (2 : Int64))) ((256 : Int64) + ((2 : Int64) * (p3.toInt64)))))])) _
    refine XS.ifNo X12.here hx rfl (hb hby at_107) rfl ((if0 _ _).trans (teq ((lw_eq _ _).mpr (own_h1 _) : (lcmpW ((((0 : Int64) + (1 : Int64)) * (256 : Int64)) + (((0 : Int64) + (p3.toInt64)) * (2 : Int64))) ((256 : Int64) + ((2 : Int64) * (p3.toInt64)))) = (0 : Int32))).2) ?_
    show Steps p.tables e below (T12.setTop (mkF m 110 #[.val (.int p1), .val (.int p2), .val (.int p3), .val (.ref b4), .val (.long ((((0 : Int64) + (1 : Int64)) * (256 : Int64)) + (((0 : Int64) + (p1.toInt64)) * (2 : Int64)))), .second, .val (.int (1 : Int32)), .val (.long (((((0 : Int64) + (1 : Int64)) + (1 : Int64)) * (256 : Int64)) + ((((0 : Int64) + (p1.toInt64)) + (p2.toInt64)) * (2 : Int64)))), .second, .val (.int (1 : Int32)), .val (.long ((((0 : Int64) + (1 : Int64)) * (256 : Int64)) + (((0 : Int64) + (p3.toInt64)) * (2 : Int64)))), .second, .unset] [])) _
    refine XS.iconst X12.here hx rfl (hb hby at_110) ?_
    show Steps p.tables e below (T12.setTop (mkF m 111 #[.val (.int p1), .val (.int p2), .val (.int p3), .val (.ref b4), .val (.long ((((0 : Int64) + (1 : Int64)) * (256 : Int64)) + (((0 : Int64) + (p1.toInt64)) * (2 : Int64)))), .second, .val (.int (1 : Int32)), .val (.long (((((0 : Int64) + (1 : Int64)) + (1 : Int64)) * (256 : Int64)) + ((((0 : Int64) + (p1.toInt64)) + (p2.toInt64)) * (2 : Int64)))), .second, .val (.int (1 : Int32)), .val (.long ((((0 : Int64) + (1 : Int64)) * (256 : Int64)) + (((0 : Int64) + (p3.toInt64)) * (2 : Int64)))), .second, .unset] [(.int (1 : Int32))])) _
    refine XS.goto X12.here hx rfl (pc0 := 111) (pc' := 115) rfl (hb hby at_111) (by decide) (by decide) ?_
    show Steps p.tables e below (T12.setTop (mkF m 115 #[.val (.int p1), .val (.int p2), .val (.int p3), .val (.ref b4), .val (.long ((((0 : Int64) + (1 : Int64)) * (256 : Int64)) + (((0 : Int64) + (p1.toInt64)) * (2 : Int64)))), .second, .val (.int (1 : Int32)), .val (.long (((((0 : Int64) + (1 : Int64)) + (1 : Int64)) * (256 : Int64)) + ((((0 : Int64) + (p1.toInt64)) + (p2.toInt64)) * (2 : Int64)))), .second, .val (.int (1 : Int32)), .val (.long ((((0 : Int64) + (1 : Int64)) * (256 : Int64)) + (((0 : Int64) + (p3.toInt64)) * (2 : Int64)))), .second, .unset] [(.int (1 : Int32))])) _
    refine XS.istore X12.here hx rfl (hb hby at_115) rfl (l' := #[.val (.int p1), .val (.int p2), .val (.int p3), .val (.ref b4), .val (.long ((((0 : Int64) + (1 : Int64)) * (256 : Int64)) + (((0 : Int64) + (p1.toInt64)) * (2 : Int64)))), .second, .val (.int (1 : Int32)), .val (.long (((((0 : Int64) + (1 : Int64)) + (1 : Int64)) * (256 : Int64)) + ((((0 : Int64) + (p1.toInt64)) + (p2.toInt64)) * (2 : Int64)))), .second, .val (.int (1 : Int32)), .val (.long ((((0 : Int64) + (1 : Int64)) * (256 : Int64)) + (((0 : Int64) + (p3.toInt64)) * (2 : Int64)))), .second, .val (.int (1 : Int32))]) rfl ?_
    show Steps p.tables e below (T12.setTop (mkF m 117 #[.val (.int p1), .val (.int p2), .val (.int p3), .val (.ref b4), .val (.long ((((0 : Int64) + (1 : Int64)) * (256 : Int64)) + (((0 : Int64) + (p1.toInt64)) * (2 : Int64)))), .second, .val (.int (1 : Int32)), .val (.long (((((0 : Int64) + (1 : Int64)) + (1 : Int64)) * (256 : Int64)) + ((((0 : Int64) + (p1.toInt64)) + (p2.toInt64)) * (2 : Int64)))), .second, .val (.int (1 : Int32)), .val (.long ((((0 : Int64) + (1 : Int64)) * (256 : Int64)) + (((0 : Int64) + (p3.toInt64)) * (2 : Int64)))), .second, .val (.int (1 : Int32))] [])) _
    refine XS.iload X12.here hx rfl (hb hby at_117) rfl ?_
    show Steps p.tables e below (T12.setTop (mkF m 119 #[.val (.int p1), .val (.int p2), .val (.int p3), .val (.ref b4), .val (.long ((((0 : Int64) + (1 : Int64)) * (256 : Int64)) + (((0 : Int64) + (p1.toInt64)) * (2 : Int64)))), .second, .val (.int (1 : Int32)), .val (.long (((((0 : Int64) + (1 : Int64)) + (1 : Int64)) * (256 : Int64)) + ((((0 : Int64) + (p1.toInt64)) + (p2.toInt64)) * (2 : Int64)))), .second, .val (.int (1 : Int32)), .val (.long ((((0 : Int64) + (1 : Int64)) * (256 : Int64)) + (((0 : Int64) + (p3.toInt64)) * (2 : Int64)))), .second, .val (.int (1 : Int32))] [(.int (1 : Int32))])) _
    refine XS.ifNo X12.here hx rfl (hb hby at_119) rfl ((if0 _ _).trans (feq hc119).1) ?_
    show Steps p.tables e below (T12.setTop (mkF m 122 #[.val (.int p1), .val (.int p2), .val (.int p3), .val (.ref b4), .val (.long ((((0 : Int64) + (1 : Int64)) * (256 : Int64)) + (((0 : Int64) + (p1.toInt64)) * (2 : Int64)))), .second, .val (.int (1 : Int32)), .val (.long (((((0 : Int64) + (1 : Int64)) + (1 : Int64)) * (256 : Int64)) + ((((0 : Int64) + (p1.toInt64)) + (p2.toInt64)) * (2 : Int64)))), .second, .val (.int (1 : Int32)), .val (.long ((((0 : Int64) + (1 : Int64)) * (256 : Int64)) + (((0 : Int64) + (p3.toInt64)) * (2 : Int64)))), .second, .val (.int (1 : Int32))] [])) _
    refine XS.iload X12.here hx rfl (hb hby at_122) rfl ?_
    show Steps p.tables e below (T12.setTop (mkF m 124 #[.val (.int p1), .val (.int p2), .val (.int p3), .val (.ref b4), .val (.long ((((0 : Int64) + (1 : Int64)) * (256 : Int64)) + (((0 : Int64) + (p1.toInt64)) * (2 : Int64)))), .second, .val (.int (1 : Int32)), .val (.long (((((0 : Int64) + (1 : Int64)) + (1 : Int64)) * (256 : Int64)) + ((((0 : Int64) + (p1.toInt64)) + (p2.toInt64)) * (2 : Int64)))), .second, .val (.int (1 : Int32)), .val (.long ((((0 : Int64) + (1 : Int64)) * (256 : Int64)) + (((0 : Int64) + (p3.toInt64)) * (2 : Int64)))), .second, .val (.int (1 : Int32))] [(.int (1 : Int32))])) _
    refine XS.ifNo X12.here hx rfl (hb hby at_124) rfl ((if0 _ _).trans (feq hc124).1) ?_
    show Steps p.tables e below (T12.setTop (mkF m 127 #[.val (.int p1), .val (.int p2), .val (.int p3), .val (.ref b4), .val (.long ((((0 : Int64) + (1 : Int64)) * (256 : Int64)) + (((0 : Int64) + (p1.toInt64)) * (2 : Int64)))), .second, .val (.int (1 : Int32)), .val (.long (((((0 : Int64) + (1 : Int64)) + (1 : Int64)) * (256 : Int64)) + ((((0 : Int64) + (p1.toInt64)) + (p2.toInt64)) * (2 : Int64)))), .second, .val (.int (1 : Int32)), .val (.long ((((0 : Int64) + (1 : Int64)) * (256 : Int64)) + (((0 : Int64) + (p3.toInt64)) * (2 : Int64)))), .second, .val (.int (1 : Int32))] [])) _
    refine XS.iload X12.here hx rfl (hb hby at_127) rfl ?_
    show Steps p.tables e below (T12.setTop (mkF m 129 #[.val (.int p1), .val (.int p2), .val (.int p3), .val (.ref b4), .val (.long ((((0 : Int64) + (1 : Int64)) * (256 : Int64)) + (((0 : Int64) + (p1.toInt64)) * (2 : Int64)))), .second, .val (.int (1 : Int32)), .val (.long (((((0 : Int64) + (1 : Int64)) + (1 : Int64)) * (256 : Int64)) + ((((0 : Int64) + (p1.toInt64)) + (p2.toInt64)) * (2 : Int64)))), .second, .val (.int (1 : Int32)), .val (.long ((((0 : Int64) + (1 : Int64)) * (256 : Int64)) + (((0 : Int64) + (p3.toInt64)) * (2 : Int64)))), .second, .val (.int (1 : Int32))] [(.int (1 : Int32))])) _
    refine XS.ifNo X12.here hx rfl (hb hby at_129) rfl ((if0 _ _).trans (feq hc129).1) ?_
    show Steps p.tables e below (T12.setTop (mkF m 132 #[.val (.int p1), .val (.int p2), .val (.int p3), .val (.ref b4), .val (.long ((((0 : Int64) + (1 : Int64)) * (256 : Int64)) + (((0 : Int64) + (p1.toInt64)) * (2 : Int64)))), .second, .val (.int (1 : Int32)), .val (.long (((((0 : Int64) + (1 : Int64)) + (1 : Int64)) * (256 : Int64)) + ((((0 : Int64) + (p1.toInt64)) + (p2.toInt64)) * (2 : Int64)))), .second, .val (.int (1 : Int32)), .val (.long ((((0 : Int64) + (1 : Int64)) * (256 : Int64)) + (((0 : Int64) + (p3.toInt64)) * (2 : Int64)))), .second, .val (.int (1 : Int32))] [])) _
    refine XS.iconst X12.here hx rfl (hb hby at_132) ?_
    show Steps p.tables e below (T12.setTop (mkF m 133 #[.val (.int p1), .val (.int p2), .val (.int p3), .val (.ref b4), .val (.long ((((0 : Int64) + (1 : Int64)) * (256 : Int64)) + (((0 : Int64) + (p1.toInt64)) * (2 : Int64)))), .second, .val (.int (1 : Int32)), .val (.long (((((0 : Int64) + (1 : Int64)) + (1 : Int64)) * (256 : Int64)) + ((((0 : Int64) + (p1.toInt64)) + (p2.toInt64)) * (2 : Int64)))), .second, .val (.int (1 : Int32)), .val (.long ((((0 : Int64) + (1 : Int64)) * (256 : Int64)) + (((0 : Int64) + (p3.toInt64)) * (2 : Int64)))), .second, .val (.int (1 : Int32))] [(.int (1 : Int32))])) _
    refine XS.goto X12.here hx rfl (pc0 := 133) (pc' := 137) rfl (hb hby at_133) (by decide) (by decide) ?_
    show Steps p.tables e below (T12.setTop (mkF m 137 #[.val (.int p1), .val (.int p2), .val (.int p3), .val (.ref b4), .val (.long ((((0 : Int64) + (1 : Int64)) * (256 : Int64)) + (((0 : Int64) + (p1.toInt64)) * (2 : Int64)))), .second, .val (.int (1 : Int32)), .val (.long (((((0 : Int64) + (1 : Int64)) + (1 : Int64)) * (256 : Int64)) + ((((0 : Int64) + (p1.toInt64)) + (p2.toInt64)) * (2 : Int64)))), .second, .val (.int (1 : Int32)), .val (.long ((((0 : Int64) + (1 : Int64)) * (256 : Int64)) + (((0 : Int64) + (p3.toInt64)) * (2 : Int64)))), .second, .val (.int (1 : Int32))] [(.int (1 : Int32))])) _
    exact retN X12 hx (t := .boolean) Bd.returns (by simp) (hb hby at_137) hr
  · show Q0 Z p1 p2 p3 h0 n0 _ T12.heap _
    exact ⟨rfl, N12⟩
set_option maxRecDepth 65536 in
set_option maxHeartbeats 40000000 in
theorem comes_1 {Post : Tables → Env → Array Value → State → Outcome → State → Prop} (hpost : ∀ tb e args s v u, (limb_1_1.after args s (.returned v) u = true ∧ limb_1_2.after args s (.returned v) u = true ∧ True) → FrameEnd s (.returned v) u (Jvm.fieldLocs frame_1_writes args s ++ Jvm.arrayLocs frame_1_arrays args s ++ Jvm.staticLocs frame_1_statics s) 16 128 → Post tb e args s (.returned v) u) :
    ArmFor flags0 classFile x code maxLocals ret World_1 tables_1 room_1 Calls_1 rest_1 Pre_1 Post := by
  intro l hfl _ _ p e ha hc hk s m args below hf hA hF happ hP
  obtain ⟨hcalls, hrest, hpre⟩ := hP
  obtain ⟨-, -, -, hnamed, -, -, -, hat⟩ := (Spec.applies_iff hf).mp happ
  obtain ⟨hg, hn⟩ := and_e (Cond.before_iff.mp (show (Jvm.Cond.and given_1 narrow_1).before args s = true from hpre))
  obtain ⟨g13, g14⟩ := and_e hg
  obtain ⟨g15, g16⟩ := and_e g14
  obtain ⟨g17, g18⟩ := and_e g16
  obtain ⟨w0, w1, w2, rfl⟩ : ∃ w0 w1 w2 : Value, args = #[w0, w1, w2] := by
    have hs : args.size = 3 := by simpa [Cond.value, given_1] using g13
    obtain ⟨L⟩ := args
    match L, hs with
    | [w0, w1, w2], _ => exact ⟨w0, w1, w2, rfl⟩
  have hw := fun d (hd : d ∈ tables_1) => atoms_spec (ws := Jvm.Cond.code x code maxLocals ret :: tables_1) hat d (List.mem_cons_of_mem _ hd)
  have hfit : Fit s := fun {y c} hc i hi => by
    obtain ⟨ha, rfl⟩ := Array.getElem?_eq_some_iff.mp hc
    have q := List.all_eq_true.mp ((Array.all_eq_true_iff_forall_mem.mp hF) _ (Array.getElem_mem ha)) i (List.mem_range.mpr hi)
    simpa [Array.getElem?_eq_getElem hi] using q
  obtain ⟨i0, ei0⟩ := is_v g15
  obtain rfl : w0 = (.int i0) := Option.some.inj ei0
  obtain ⟨i1, ei1⟩ := is_v g17
  obtain rfl : w1 = (.int i1) := Option.some.inj ei1
  obtain ⟨i2, ei2⟩ := is_v g18
  obtain rfl : w2 = (.int i2) := Option.some.inj ei2
  obtain ⟨n, o, h1, h2, h3, _, L, rfl, ⟨rfl, N⟩, hq⟩ := rm0 l s _ hw tables_1 i0 i1 i2 s.heap s.heap.size (Nat.le_refl _) (by decide) (by decide) (by decide) p e ha hc hk s m _ below hf ((Spec.applies_iff_loose hf).mp happ).1 ⟨rfl, State.Warmed39.refl s, rfl⟩ trivial
  refine ⟨n, _, h1, h2, h3, hpost _ _ _ _ _ _ ⟨Cond.after_iff.mpr rfl, Cond.after_iff.mpr (eq_i res_at (Term.int_eval (1)) rfl), trivial⟩ ⟨hq.1, hq.2.1, (hq.2.2.sift fun y hy => Or.inr (N y hy)).mono (by decide) (by decide)⟩⟩
theorem main_1_1 : Claimed_1_1 := comes_1 fun _ _ _ _ _ _ h hF => ⟨h.1, hF⟩
theorem main_1_2 : Claimed_1_2 := comes_1 fun _ _ _ _ _ _ h hF => ⟨h.2.1, hF⟩
end Jvm.Pilot.@@N@@
namespace Jvm.Pilot.@@N@@
open Jvm Jvm.ClassFile Sem Op Lib Jvm.Free Jvm.Stand Jvm.Pilot.@@N@@.Jvm.D
/-! MADE BY PROGRAM (witnessworld.py) out of the Statement's table words and the real class files: 10 classes; the members and pool entries that the words name. The judged class is class 1, her method 1. -/
namespace start1
open Jvm.ClassFile
def u (s : String) : CpInfo := .utf8 (stringToUtf16 s)
/-- a pool by its gaps: so many unusable entries, then the entry; so many at the end -/
def gap : Nat → List CpInfo → List CpInfo
  | 0, r => r
  | n + 1, r => .unusable :: gap n r
def poolList (es : List (Nat × CpInfo)) (last : Nat) : List CpInfo := es.foldr (fun e r => gap e.1 (e.2 :: r)) (gap last [])
def pool (es : List (Nat × CpInfo)) (last : Nat) : Array CpInfo := ⟨poolList es last⟩
def fileOf (pool : Array CpInfo) (this : Nat) (attrs : Array Attribute := #[]) (ms : Array MethodInfo := #[]) (fl : Nat := 33) (sup : Nat := 0) (ifs : Array Nat := #[]) (fds : Array FieldInfo := #[]) : ClassFile where
  minorVersion := 0
  majorVersion := 65
  constantPool := pool
  accessFlags := fl
  thisClass := this
  superClass := sup
  interfaces := ifs
  fields := fds
  methods := ms
  attributes := attrs
def plain (name : String) (sup : Option ClassId) : Class where
  name := name
  kind := .ordinary
  loader := none
  accessFlags := 33
  super := sup
  interfaces := #[]
  cf := none
  fields := #[]
  methods := #[]
  instanceTypes := #[]
  staticTypes := #[]
  resolved := #[]
  callSites := []
  init := .initialized
  statics := none
  mirror := none

def pool0 : Array CpInfo := pool [(5, u "<init>"), (0, u "()V"), (1, .class_ 10), (1, u "java/lang/Object")] 113

def k0c0 : Code := { maxStack := 0, maxLocals := 1, code := object_method_1_code, exceptionTable := #[], attributes := #[] }
def k0m0 : Method := { name := "<init>", desc := "()V", sig := { parameters := [], returnType := none }, accessFlags := 1, code := some k0c0 }
/-- java/lang/Object -/
def k0 : Class := { plain "java/lang/Object" none with
  accessFlags := 33
  interfaces := #[]
  cf := some (fileOf pool0 8 #[] #[{ accessFlags := 1, nameIndex := 5, descriptorIndex := 6, attributes := #[] }] 33 0 #[] #[])
  fields := #[]
  methods := #[k0m0]
  instanceTypes := #[]
  staticTypes := #[]
  resolved := Array.replicate 124 none
  statics := none }

def pool1 : Array CpInfo := pool [(2, .class_ 4), (0, .nameAndType 5 6), (0, u "java/lang/Object"), (0, u "<init>"), (0, u "()V"), (0, .class_ 8), (0, u "com/example/levies_on_invoices/leviesoninvoices/io/NameTally"), (0, .methodref 7 3), (0, .methodref 7 11), (0, .nameAndType 12 13), (0, u "keep"), (0, u "(I)V"), (0, .methodref 7 15), (0, .nameAndType 16 17), (0, u "held"), (0, u "()J"), (0, .long 256), (1, .long 2), (1, .long 512), (1, .methodref 7 25), (0, .nameAndType 26 6), (0, u "clear"), (0, .class_ 28), (0, u "com/example/levies_on_invoices/leviesoninvoices/io/NameTallyKeepPinLaw"), (2, u "law"), (0, u "(III)Z")] 3

def k1m0 : Method := { name := "<init>", desc := "()V", sig := { parameters := [], returnType := none }, accessFlags := 1, code := none }
def k1c1 : Code := { maxStack := 10, maxLocals := 13, code := code, exceptionTable := #[], attributes := #[] }
def k1m1 : Method := { name := "law", desc := "(III)Z", sig := { parameters := [.int, .int, .int], returnType := some .boolean }, accessFlags := 9, code := some k1c1 }
/-- com/example/levies_on_invoices/leviesoninvoices/io/NameTallyKeepPinLaw -/
def k1 : Class := { plain "com/example/levies_on_invoices/leviesoninvoices/io/NameTallyKeepPinLaw" (some 0) with
  accessFlags := 49
  interfaces := #[]
  cf := some (fileOf pool1 27 #[] #[{ accessFlags := 1, nameIndex := 5, descriptorIndex := 6, attributes := #[] }, { accessFlags := 9, nameIndex := 31, descriptorIndex := 32, attributes := #[] }] 49 2 #[] #[])
  fields := #[]
  methods := #[k1m0, k1m1]
  instanceTypes := #[]
  staticTypes := #[]
  resolved := Array.replicate 36 none
  statics := none }

def pool2 : Array CpInfo := pool [(1, .class_ 2), (0, u "com/example/levies_on_invoices/leviesoninvoices/io/NameKeeper"), (0, .class_ 4), (0, u "java/lang/Object")] 7

/-- com/example/levies_on_invoices/leviesoninvoices/io/NameKeeper -/
def k2 : Class := { plain "com/example/levies_on_invoices/leviesoninvoices/io/NameKeeper" (some 0) with
  accessFlags := 1536
  interfaces := #[]
  cf := some (fileOf pool2 1 #[] #[] 1536 3 #[] #[])
  fields := #[]
  methods := #[]
  instanceTypes := #[]
  staticTypes := #[]
  resolved := Array.replicate 12 none
  statics := none }

def pool3 : Array CpInfo := pool [(1, .methodref 2 3), (0, .class_ 4), (0, .nameAndType 5 6), (0, u "java/lang/Object"), (0, u "<init>"), (0, u "()V"), (0, .fieldref 8 9), (0, .class_ 10), (0, .nameAndType 11 12), (0, u "com/example/levies_on_invoices/leviesoninvoices/io/NameTally"), (0, u "names"), (0, u "J"), (0, .fieldref 8 14), (0, .nameAndType 15 12), (0, u "bytes"), (0, .long 256), (1, .long 2), (1, .class_ 21), (0, u "com/example/levies_on_invoices/leviesoninvoices/io/NameKeeper"), (0, u "KEPT_NAME_BYTES_PER_BYTE"), (1, u "KEPT_NAME_BYTES"), (2, u "keep"), (0, u "(I)V"), (0, u "held"), (0, u "()J"), (0, u "clear")] 2

def k3c0 : Code := { maxStack := 1, maxLocals := 1, code := prog_23_method_1_code, exceptionTable := #[], attributes := #[] }
def k3m0 : Method := { name := "<init>", desc := "()V", sig := { parameters := [], returnType := none }, accessFlags := 0, code := some k3c0 }
def k3c1 : Code := { maxStack := 5, maxLocals := 2, code := prog_23_method_2_code, exceptionTable := #[], attributes := #[] }
def k3m1 : Method := { name := "keep", desc := "(I)V", sig := { parameters := [.int], returnType := none }, accessFlags := 1, code := some k3c1 }
def k3c2 : Code := { maxStack := 6, maxLocals := 1, code := prog_23_method_3_code, exceptionTable := #[], attributes := #[] }
def k3m2 : Method := { name := "held", desc := "()J", sig := { parameters := [], returnType := some .long }, accessFlags := 0, code := some k3c2 }
def k3c3 : Code := { maxStack := 3, maxLocals := 1, code := prog_23_method_4_code, exceptionTable := #[], attributes := #[] }
def k3m3 : Method := { name := "clear", desc := "()V", sig := { parameters := [], returnType := none }, accessFlags := 0, code := some k3c3 }
/-- com/example/levies_on_invoices/leviesoninvoices/io/NameTally -/
def k3 : Class := { plain "com/example/levies_on_invoices/leviesoninvoices/io/NameTally" (some 0) with
  accessFlags := 32
  interfaces := #[2]
  cf := some (fileOf pool3 8 #[] #[{ accessFlags := 0, nameIndex := 5, descriptorIndex := 6, attributes := #[] }, { accessFlags := 1, nameIndex := 27, descriptorIndex := 28, attributes := #[] }, { accessFlags := 0, nameIndex := 29, descriptorIndex := 30, attributes := #[] }, { accessFlags := 0, nameIndex := 31, descriptorIndex := 6, attributes := #[] }] 32 2 #[20] #[{ accessFlags := 24, nameIndex := 22, descriptorIndex := 12, attributes := #[] }, { accessFlags := 24, nameIndex := 24, descriptorIndex := 12, attributes := #[] }, { accessFlags := 2, nameIndex := 11, descriptorIndex := 12, attributes := #[] }, { accessFlags := 2, nameIndex := 15, descriptorIndex := 12, attributes := #[] }])
  fields := #[{ name := "KEPT_NAME_BYTES_PER_BYTE", type := .long, accessFlags := 24, slot := 0, constantValue := 0 }, { name := "KEPT_NAME_BYTES", type := .long, accessFlags := 24, slot := 1, constantValue := 0 }, { name := "names", type := .long, accessFlags := 2, slot := 0, constantValue := 0 }, { name := "bytes", type := .long, accessFlags := 2, slot := 1, constantValue := 0 }]
  methods := #[k3m0, k3m1, k3m2, k3m3]
  instanceTypes := #[.long, .long]
  staticTypes := #[.long, .long]
  resolved := Array.replicate 34 none
  statics := none }

def pool4 : Array CpInfo := pool [(1, u "java/lang/Cloneable"), (0, .class_ 1), (0, u "java/lang/Object"), (0, .class_ 3)] 3

/-- java/lang/Cloneable -/
def k4 : Class := { plain "java/lang/Cloneable" (some 0) with
  accessFlags := 1537
  interfaces := #[]
  cf := some (fileOf pool4 2 #[] #[] 1537 4 #[] #[])
  fields := #[]
  methods := #[]
  instanceTypes := #[]
  staticTypes := #[]
  resolved := Array.replicate 8 none
  statics := none }

def pool5 : Array CpInfo := pool [(1, u "java/io/Serializable"), (0, .class_ 1), (0, u "java/lang/Object"), (0, .class_ 3)] 3

/-- java/io/Serializable -/
def k5 : Class := { plain "java/io/Serializable" (some 0) with
  accessFlags := 1537
  interfaces := #[]
  cf := some (fileOf pool5 2 #[] #[] 1537 4 #[] #[])
  fields := #[]
  methods := #[]
  instanceTypes := #[]
  staticTypes := #[]
  resolved := Array.replicate 8 none
  statics := none }

/-- the primitive byte -/
def k6 : Class := { plain "byte" none with kind := .primitive 'B', accessFlags := 0x411 }
/-- [B -/
def k7 : Class := { plain "[B" (some 0) with kind := .array 6 .byte, interfaces := #[4, 5], accessFlags := 1041 }

/-- the primitive int -/
def k8 : Class := { plain "int" none with kind := .primitive 'I', accessFlags := 0x411 }
/-- [I -/
def k9 : Class := { plain "[I" (some 0) with kind := .array 8 .int, interfaces := #[4, 5], accessFlags := 1041 }

def heap : Heap := #[]
def classes : Array Class := #[k0, k1, k2, k3, k4, k5, k6, k7, k8, k9]
def interned : List (Array UInt16 × Addr) := []
def slotsUsed : Nat := 0
def theMethod : MethodId := ⟨1, 1⟩
def args0 : Array Value := #[.int 5, .int 300, .int 7]
def aboutOver (below : List Frame) : State where
  vm := { classes := classes, interned := interned.toArray }
  heap := heap
  slotsUsed := slotsUsed
  threads := #[{ frames := .invoking theMethod args0 :: below }]
def below0 : List Frame := [.native { method := ⟨0, 0⟩, args := #[] }]
def about1 : State := aboutOver below0
def p0 : Program := .bare "" "" ""
def e0 : Env := launch0.env 0 0 0
theorem w_frames : about1.frames = Frame.invoking theMethod args0 :: below0 := rfl
set_option maxRecDepth 65536 in
theorem w_args : argsFit about1.vm theMethod args0 = true := by decide +kernel
set_option maxRecDepth 65536 in
theorem w_heap : heapFits about1 = true := by decide +kernel
set_option maxRecDepth 65536 in
theorem w_runnable : about1.curStatus? = some .runnable := by decide +kernel
set_option maxRecDepth 65536 in
theorem w_alone : about1.alone = true := by decide +kernel
set_option maxRecDepth 65536 in
theorem w_named : about1.methodNamed? x = some theMethod := by decide +kernel
set_option maxRecDepth 65536 in
theorem w_hears : about1.hears theMethod below0 = true := by decide +kernel
set_option maxRecDepth 65536 in
theorem w_ripe : about1.ripe theMethod args0 below0 = true := by decide +kernel
theorem w_running : about1.status = .running := rfl
set_option maxRecDepth 65536 in
theorem w_room : about1.hasRoom e0.platform room_1 = true :=
  launch0.hasRoom_least _ room_1 (by decide +kernel) (by decide +kernel) (by decide +kernel) (by decide +kernel) (by decide +kernel) (by decide +kernel)
theorem allAtoms_all (ts : List Jvm.Cond) (a : Array Jvm.Value) (st : Jvm.State) : (allAtoms ts).before a st = ts.all (fun c => c.before a st) := by
  induction ts with
  | nil => rfl
  | cons c t ih =>
    show (Jvm.Cond.and c (allAtoms t)).before a st = _
    rw [Jvm.Cond.before_and, ih, List.all_cons]
def words1 : List Jvm.Cond := Jvm.Cond.code x code maxLocals ret :: tables_1
/-- a 'code' word, met by the world's own term for the bytes: nothing is compared byte by byte -/
theorem code_word {y : MethodName} {bytes : ByteArray} {mx : Nat} {rt : Option FieldType} {a : Array Value} {s : State} {m : MethodId} {meth : Method} {c : Code} (h1 : s.methodNamed? y = some m) (h2 : s.vm.method? m = some meth) (h3 : meth.code = some c) (h4 : c.code = bytes)
    (h5 : (c.maxLocals == mx && c.exceptionTable.isEmpty && decide (c.maxStack ≤ mostOperands) && decide (meth.sig.returnType = rt) && !meth.locks && decide (parseMethodDescriptor y.desc = some meth.sig)) = true) : (Jvm.Cond.code y bytes mx rt).before a s = true := by
  simp only [Bool.and_eq_true, beq_iff_eq, Bool.not_eq_true', decide_eq_true_eq] at h5
  obtain ⟨⟨⟨⟨⟨g1, g2⟩, g3⟩, g4⟩, g5⟩, g6⟩ := h5
  simp [Cond.before, Cond.holds, Cond.value, h1, h2, h3, h4, g1, g2, g3, g4, g5, g6]
def isCode : Jvm.Cond → Bool
  | .code _ _ _ _ => true
  | _ => false
theorem all_split {L : List Jvm.Cond} {P : Jvm.Cond → Bool} (h1 : L.all (fun c => isCode c || P c) = true) (h2 : ∀ c ∈ L.filter isCode, P c = true) : L.all P = true := by
  refine List.all_eq_true.mpr fun c hc => ?_
  have h := List.all_eq_true.mp h1 c hc
  rcases Bool.eq_false_or_eq_true (isCode c) with hi | hi
  · exact h2 c (List.mem_filter.mpr ⟨hc, hi⟩)
  · simpa [hi] using h
set_option maxRecDepth 65536 in
theorem w_c0 : (Jvm.Cond.code x code maxLocals ret).before args0 about1 = true := code_word (m := ⟨1, 1⟩) (meth := k1m1) (c := k1c1) (by decide +kernel) rfl rfl rfl (by decide +kernel)
set_option maxRecDepth 65536 in
theorem w_c1 : (Jvm.Cond.code ({ cls := "com/example/levies_on_invoices/leviesoninvoices/io/NameTally", name := "<init>", desc := "()V" } : Jvm.MethodName) prog_23_method_1_code (1 : Nat) (Option.none : Option Jvm.ClassFile.FieldType)).before args0 about1 = true := code_word (m := ⟨3, 0⟩) (meth := k3m0) (c := k3c0) (by decide +kernel) rfl rfl rfl (by decide +kernel)
set_option maxRecDepth 65536 in
theorem w_c2 : (Jvm.Cond.code ({ cls := "java/lang/Object", name := "<init>", desc := "()V" } : Jvm.MethodName) object_method_1_code (1 : Nat) (Option.none : Option Jvm.ClassFile.FieldType)).before args0 about1 = true := code_word (m := ⟨0, 0⟩) (meth := k0m0) (c := k0c0) (by decide +kernel) rfl rfl rfl (by decide +kernel)
set_option maxRecDepth 65536 in
theorem w_c3 : (Jvm.Cond.code ({ cls := "com/example/levies_on_invoices/leviesoninvoices/io/NameTally", name := "keep", desc := "(I)V" } : Jvm.MethodName) prog_23_method_2_code (2 : Nat) (Option.none : Option Jvm.ClassFile.FieldType)).before args0 about1 = true := code_word (m := ⟨3, 1⟩) (meth := k3m1) (c := k3c1) (by decide +kernel) rfl rfl rfl (by decide +kernel)
set_option maxRecDepth 65536 in
theorem w_c4 : (Jvm.Cond.code ({ cls := "com/example/levies_on_invoices/leviesoninvoices/io/NameTally", name := "held", desc := "()J" } : Jvm.MethodName) prog_23_method_3_code (1 : Nat) (Option.some Jvm.ClassFile.FieldType.long)).before args0 about1 = true := code_word (m := ⟨3, 2⟩) (meth := k3m2) (c := k3c2) (by decide +kernel) rfl rfl rfl (by decide +kernel)
set_option maxRecDepth 65536 in
theorem w_c5 : (Jvm.Cond.code ({ cls := "com/example/levies_on_invoices/leviesoninvoices/io/NameTally", name := "clear", desc := "()V" } : Jvm.MethodName) prog_23_method_4_code (1 : Nat) (Option.none : Option Jvm.ClassFile.FieldType)).before args0 about1 = true := code_word (m := ⟨3, 3⟩) (meth := k3m3) (c := k3c3) (by decide +kernel) rfl rfl rfl (by decide +kernel)
def codes1 : List Jvm.Cond := [Jvm.Cond.code x code maxLocals ret, Jvm.Cond.code ({ cls := "com/example/levies_on_invoices/leviesoninvoices/io/NameTally", name := "<init>", desc := "()V" } : Jvm.MethodName) prog_23_method_1_code (1 : Nat) (Option.none : Option Jvm.ClassFile.FieldType), Jvm.Cond.code ({ cls := "java/lang/Object", name := "<init>", desc := "()V" } : Jvm.MethodName) object_method_1_code (1 : Nat) (Option.none : Option Jvm.ClassFile.FieldType), Jvm.Cond.code ({ cls := "com/example/levies_on_invoices/leviesoninvoices/io/NameTally", name := "keep", desc := "(I)V" } : Jvm.MethodName) prog_23_method_2_code (2 : Nat) (Option.none : Option Jvm.ClassFile.FieldType), Jvm.Cond.code ({ cls := "com/example/levies_on_invoices/leviesoninvoices/io/NameTally", name := "held", desc := "()J" } : Jvm.MethodName) prog_23_method_3_code (1 : Nat) (Option.some Jvm.ClassFile.FieldType.long), Jvm.Cond.code ({ cls := "com/example/levies_on_invoices/leviesoninvoices/io/NameTally", name := "clear", desc := "()V" } : Jvm.MethodName) prog_23_method_4_code (1 : Nat) (Option.none : Option Jvm.ClassFile.FieldType)]
set_option maxRecDepth 65536 in
theorem codes_eq : words1.filter isCode = codes1 := rfl
theorem w_codes : ∀ c ∈ words1.filter isCode, c.before args0 about1 = true := by
  rw [codes_eq]
  intro c hc
  simp only [codes1, List.mem_cons, List.not_mem_nil, or_false] at hc
  rcases hc with rfl | rfl | rfl | rfl | rfl | rfl
  · exact w_c0
  · exact w_c1
  · exact w_c2
  · exact w_c3
  · exact w_c4
  · exact w_c5
set_option maxRecDepth 65536 in
theorem w_t1 : (words1.take 24).all (fun c => isCode c || c.before args0 about1) = true := by decide +kernel
set_option maxRecDepth 65536 in
theorem w_t2 : (words1.drop 24).all (fun c => isCode c || c.before args0 about1) = true := by decide +kernel
theorem w_tables : (allAtoms (Jvm.Cond.code x code maxLocals ret :: tables_1)).before args0 about1 = true := by
  rw [allAtoms_all]
  show words1.all (fun c => c.before args0 about1) = true
  refine all_split ?_ w_codes
  rw [← List.take_append_drop 24 words1, List.all_append, w_t1, w_t2]
  rfl
set_option maxRecDepth 65536 in
theorem w_case : (Jvm.Cond.and given_1 narrow_1).before args0 about1 = true := by decide +kernel
theorem w_applies : (headSpec (Jvm.Cond.code x code maxLocals ret :: tables_1) room_1).applies x e0.platform about1 = true :=
  (Spec.applies_iff w_frames).mpr ⟨w_running, w_runnable, w_alone, w_named, w_hears, w_ripe, w_room, w_tables⟩
theorem atStart : AtStart classFile x code maxLocals ret World_1 tables_1 room_1 Calls_1 rest_1 Pre_1 launch0 p0 e0 about1 theMethod args0 below0 :=
  ⟨lists_1, trivial, launch0.admits_env _ _ _, launch0.least_env, fairChoices_fair.cas, fairChoices_fair.clock, w_frames, w_args, w_heap, w_applies, trivial, trivial, w_case⟩
end start1
theorem witness_1 : WitnessClaimed_1 := ⟨start1.p0, start1.e0, start1.about1, start1.theMethod, start1.args0, start1.below0, start1.atStart⟩
end Jvm.Pilot.@@N@@
