import JvmDerived
import JvmDerived.Pilot.@@N@@Statement
import JvmDerived.Pilot.@@N@@Code
set_option linter.unusedVariables false
set_option linter.unusedSimpArgs false
namespace Jvm.RoadKit
open Sem ClassFile Op Lib Jvm.Stand Jvm.Free Jvm.LawKit
section New
variable {p : Program} {l : Launch} {e : Env} {R : Room} {s : State} {m : MethodId} {args : Array Value} {below : List Frame} {meth : Method} {c : Code} {T : State} {locs : List Loc} {cells slots : Nat}
theorem retI (X : Stand p l e R s m args below meth c T locs cells slots) (hx : p.tables.exec = Jvm.exec) {pc : Nat} {Ls : Array Slot} {z : Int32} {rest : List Value} (hret : meth.sig.returnType = some .int) (hd : decode c.code pc = .ok (.ireturn, 1)) {fs : List Frame}
    (hl : ∀ (f : JFrame) (acts : List Action), f.method = m → f.locked = none → f.entered = [] → (doReturn e (T.setTop f) acts (some (.int z))).1 = T.setFrames fs) : Steps p.tables e below (T.setTop (mkF m pc Ls (.int z :: rest))) (T.setFrames fs) := by
  have hm' : T.vm.method? m = some meth := X.method'
  have hn : narrow .int (.int z) = .int z := rfl
  show Steps p.tables e below (T.setTop { method := m, pc := pc, locals := Ls, stack := _ :: rest, locked := none }) _
  jvm_step X.here [X.here.top, hx, hd, hm', hret, hn]
  first | (intro acts; rw [hl _ acts rfl rfl rfl]) | rw [hl _ _ rfl rfl rfl]
  exact Steps.refl _
end New
end Jvm.RoadKit
namespace Jvm.Pilot.@@N@@
open Jvm Jvm.ClassFile Sem Op Lib Jvm.Free Jvm.Stand Jvm.LawKit Jvm.RoadKit Bundle Jvm.Pilot.@@N@@.Jvm.D
/-- 1 where the bit is set, else 0 -/
def own_b (x : Int32) : Int32 := if x = 0 then 0 else 1
/-- what pauseMillis returns where the field holds w -/
def own_ms (w : Int32) : Int64 := if w = 0 then 500 else 1000
/-- what a stage (reset where r isn't 0, then pauseMillis) returns -/
def own_p (r w : Int32) : Int64 := if r = 0 then own_ms w else 500
theorem d1_0 : decode prog_1_method_1_code 0 = .ok (.aload_n 0, 1) := by decide +kernel
theorem d1_1 : decode prog_1_method_1_code 1 = .ok (.invokespecial 1, 3) := by decide +kernel
theorem d1_4 : decode prog_1_method_1_code 4 = .ok (.return_, 1) := by decide +kernel
theorem pn_1 : plainName "com/example/lease/lease/client/Backoff" = true := by first | (simp [plainName, overriddenIn]; done) | decide +kernel
theorem ef_1 (m : MethodId) (x0 : Addr) : entryFrame m #[(.ref x0)] 1 = mkF m 0 #[.val (.ref x0)] [] := by first | (simp [entryFrame, mkF, argsToLocals, Value.category]; done) | rfl
def Q1 (Z : State) (a1 : Addr) (h0 : Heap) (n0 : Nat) (v : Option Value) (h : Heap) (L : List Loc) : Prop := v = none ∧ Fr n0 L ∧ h = h0
set_option maxRecDepth 65536 in
set_option maxHeartbeats 40000000 in
theorem rm1 (l : Launch) (Z : State) (a0 : Array Value) (hw : ∀ d ∈ tables_1, d.before a0 Z = true) (ws : List Jvm.Cond) (a1 : Addr) (h0 : Heap) (n0 : Nat) (Z0 : n0 ≤ h0.size) :
    MetFree l (⟨"com/example/lease/lease/client/Backoff", "<init>", "()V"⟩ : MethodName) (head1 (Jvm.Cond.code (⟨"com/example/lease/lease/client/Backoff", "<init>", "()V"⟩ : MethodName) prog_1_method_1_code 1 none :: ws) ({ frames := 1, cells := 0, slots := 0, locals := 12 } : Room)) (fun a U => a = #[(.ref a1)] ∧ Z.Warmed39 U.vm ∧ U.heap = h0) (fun _ _ _ _ _ => True) (fun _ U o U' => ∃ v L, o = .returned v ∧ Q1 Z a1 h0 n0 v U'.heap L ∧ FrameEnd U o U' L ({ frames := 1, cells := 0, slots := 0, locals := 12 } : Room).cells ({ frames := 1, cells := 0, slots := 0, locals := 12 } : Room).slots) := by
  refine MetFree.of_bodySF (plainFor_of_name pn_1) hisR ?_
  intro p e s m args below meth c s₁ Bd hml0 hP hK
  obtain ⟨rfl, hZ, hh⟩ := hP
  have hx := Bd.exec
  have hby := Bd.bytes
  have hml : c.maxLocals = 1 := hml0
  have hown : s.vm.findClass "com/example/lease/lease/client/Backoff" = some m.cls := findClass_of_methodNamed Bd.named
  have hnm := (name_of_methodNamed Bd.named Bd.method).1
  have X0 : Stand p l e ({ frames := 1, cells := 0, slots := 0, locals := 12 } : Room) s m #[(.ref a1)] below meth c s₁ [] 0 0 := Stand.of_body Bd
  have e0 : s₁.heap = h0 := by rw [← hh, Bd.state]; rfl
  have N0 := Fr.nil n0
  have pre0 : ∀ t, Steps p.tables e below (s₁.setTop (mkF m 0 #[.val (.ref a1)] [])) t → Steps p.tables e below (s₁.setTop (entryFrame m #[(.ref a1)] 1)) t := fun t k => castTop (ef_1 m a1) k
  obtain ⟨T2, X2, e2, st2⟩ := initO X0 hx hZ hown (hw _ (List.mem_of_getElem? (i := 6) rfl)) (hw _ (List.mem_of_getElem? (i := 7) rfl)) (hw _ (List.mem_of_getElem? (i := 8) rfl)) e0 (g := (mkF m 1 #[.val (.ref a1)] [(.ref a1)])) rfl (by rw [hml]; rfl) rfl (hb hby d1_1) (by decide) (W := 0) (by show 2 * 0 + _ ≤ _; exact Nat.le_of_eq rfl) (by decide)
  obtain ⟨fs, hr, hrun, hended, hW, hsame⟩ := X2.leave (v := none) (fun _ => rfl)
  refine ⟨_, _, pre0 _ ?_, hrun, hended, _, _, rfl, ?_, ⟨_, rfl⟩, hW, hsame.mono (by decide) (by decide)⟩
  · show Steps p.tables e below (s₁.setTop (mkF m 0 #[.val (.ref a1)] [])) _
    refine XS.aloadN X0.here hx rfl (hb hby d1_0) rfl rfl ?_
    show Steps p.tables e below (s₁.setTop (mkF m 1 #[.val (.ref a1)] [(.ref a1)])) _
    refine st2 _ ?_
    show Steps p.tables e below (T2.setTop (mkF m 4 #[.val (.ref a1)] [])) _
    exact X2.returnOut hx Bd.returns (hb hby d1_4) hr
  · show Q1 Z a1 h0 n0 _ T2.heap _
    rw [e2]
    exact ⟨rfl, N0, rfl⟩
theorem d3_0 : decode prog_1_method_2_code 0 = .ok (.aload_n 0, 1) := by decide +kernel
theorem d3_1 : decode prog_1_method_2_code 1 = .ok (.getfield 7, 3) := by decide +kernel
theorem d3_4 : decode prog_1_method_2_code 4 = .ok (.ifCond .eq 9, 3) := by decide +kernel
theorem d3_7 : decode prog_1_method_2_code 7 = .ok (.ldc2_w 13, 3) := by decide +kernel
theorem d3_10 : decode prog_1_method_2_code 10 = .ok (.goto 6, 3) := by decide +kernel
theorem d3_16 : decode prog_1_method_2_code 16 = .ok (.lstore_n 1, 1) := by decide +kernel
theorem d3_17 : decode prog_1_method_2_code 17 = .ok (.aload_n 0, 1) := by decide +kernel
theorem d3_18 : decode prog_1_method_2_code 18 = .ok (.iconst 1, 1) := by decide +kernel
theorem d3_19 : decode prog_1_method_2_code 19 = .ok (.putfield 7, 3) := by decide +kernel
theorem d3_22 : decode prog_1_method_2_code 22 = .ok (.lload_n 1, 1) := by decide +kernel
theorem d3_23 : decode prog_1_method_2_code 23 = .ok (.lreturn, 1) := by decide +kernel
theorem pn_3 : plainName "com/example/lease/lease/client/Backoff" = true := by first | (simp [plainName, overriddenIn]; done) | decide +kernel
theorem ef_3 (m : MethodId) (x0 : Addr) : entryFrame m #[(.ref x0)] 3 = mkF m 0 #[.val (.ref x0), .unset, .unset] [] := by first | (simp [entryFrame, mkF, argsToLocals, Value.category]; done) | rfl
def Q3 (Z : State) (a1 : Addr) (w2 : Int32) (h0 : Heap) (n0 : Nat) (v : Option Value) (h : Heap) (L : List Loc) : Prop := v = some (.long (own_ms w2)) ∧ Fr n0 L ∧ Keep h0 h [a1] ∧ Exa Z h a1 "com/example/lease/lease/client/Backoff" ∧ Fld Z h a1 "com/example/lease/lease/client/Backoff" "failing" "Z" (.int (1 : Int32))
set_option maxRecDepth 65536 in
set_option maxHeartbeats 40000000 in
theorem rm3f (l : Launch) (Z : State) (a0 : Array Value) (hw : ∀ d ∈ tables_1, d.before a0 Z = true) (ws : List Jvm.Cond) (a1 : Addr) (w2 : Int32) (h0 : Heap) (n0 : Nat) (Z0 : n0 ≤ h0.size) (F_failing_a1 : Fld Z h0 a1 "com/example/lease/lease/client/Backoff" "failing" "Z" (.int w2)) (E_a1 : Exa Z h0 a1 "com/example/lease/lease/client/Backoff") (g_a1 : n0 ≤ a1) (hc4 : ¬ (w2 = (0 : Int32))) :
    MetFree l (⟨"com/example/lease/lease/client/Backoff", "pauseMillis", "()J"⟩ : MethodName) (head1 (Jvm.Cond.code (⟨"com/example/lease/lease/client/Backoff", "pauseMillis", "()J"⟩ : MethodName) prog_1_method_2_code 3 (some .long) :: ws) ({ frames := 0, cells := 0, slots := 0, locals := 0 } : Room)) (fun a U => a = #[(.ref a1)] ∧ Z.Warmed39 U.vm ∧ U.heap = h0) (fun _ _ _ _ _ => True) (fun _ U o U' => ∃ v L, o = .returned v ∧ Q3 Z a1 w2 h0 n0 v U'.heap L ∧ FrameEnd U o U' L ({ frames := 0, cells := 0, slots := 0, locals := 0 } : Room).cells ({ frames := 0, cells := 0, slots := 0, locals := 0 } : Room).slots) := by
  refine MetFree.of_bodySF (plainFor_of_name pn_3) hisR ?_
  intro p e s m args below meth c s₁ Bd hml0 hP hK
  obtain ⟨rfl, hZ, hh⟩ := hP
  have hx := Bd.exec
  have hby := Bd.bytes
  have hml : c.maxLocals = 3 := hml0
  have hown : s.vm.findClass "com/example/lease/lease/client/Backoff" = some m.cls := findClass_of_methodNamed Bd.named
  have hnm := (name_of_methodNamed Bd.named Bd.method).1
  have X0 : Stand p l e ({ frames := 0, cells := 0, slots := 0, locals := 0 } : Room) s m #[(.ref a1)] below meth c s₁ [] 0 0 := Stand.of_body Bd
  have e0 : s₁.heap = h0 := by rw [← hh, Bd.state]; rfl
  have N0 := Fr.nil n0
  have pre0 : ∀ t, Steps p.tables e below (s₁.setTop (mkF m 0 #[.val (.ref a1), .unset, .unset] [])) t → Steps p.tables e below (s₁.setTop (entryFrame m #[(.ref a1)] 3)) t := fun t k => castTop (ef_3 m a1) k
  obtain ⟨T3, X3, e3, st3⟩ := getF X0 hx hZ hown (host := "") (Or.inl (hw _ (List.mem_of_getElem? (i := 14) rfl))) Via.refl e0 F_failing_a1 (g := (mkF m 1 #[.val (.ref a1), .unset, .unset] [(.ref a1)])) rfl rfl (hb hby d3_1)
  obtain ⟨T4, h4, X4, e4, W4, st4⟩ := putFN X3 hx hZ hown (hw _ (List.mem_of_getElem? (i := 14) rfl)) Via.refl e3 F_failing_a1 E_a1 (Or.inl (hw _ (List.mem_of_getElem? (i := 15) rfl))) (hw _ (List.mem_of_getElem? (i := 1) rfl)) (ty := .boolean) (v' := (.int (1 : Int32))) (by decide) (by decide) (by decide) (g := (mkF m 19 #[.val (.ref a1), .val (.long (1000 : Int64)), .second] [(.int (1 : Int32)), (.ref a1)])) rfl rfl (hb hby d3_19)
  have Fw4 := F_failing_a1.same W4
  have K4 : Keep h0 h4 [a1] := (Keep.refl h0 [a1]).wr W4 (Or.inl (List.mem_of_getElem? (i := 0) rfl))
  have N4 := Fr.snoc X4 N0 g_a1
  obtain ⟨fs, hr, hrun, hended, hW, hsame⟩ := X4.leave (v := some (.long (1000 : Int64))) (fun h => by rw [Bd.returns] at h; cases h)
  refine ⟨_, _, pre0 _ ?_, hrun, hended, _, _, rfl, ?_, ⟨_, rfl⟩, hW, hsame.mono (by decide) (by decide)⟩
  · show Steps p.tables e below (s₁.setTop (mkF m 0 #[.val (.ref a1), .unset, .unset] [])) _
    refine XS.aloadN X0.here hx rfl (hb hby d3_0) rfl rfl ?_
    show Steps p.tables e below (s₁.setTop (mkF m 1 #[.val (.ref a1), .unset, .unset] [(.ref a1)])) _
    refine st3 _ ?_
    show Steps p.tables e below (T3.setTop (mkF m 4 #[.val (.ref a1), .unset, .unset] [(.int w2)])) _
    refine XS.ifNo X3.here hx rfl (hb hby d3_4) rfl ((if0 _ _).trans (feq hc4).1) ?_
    show Steps p.tables e below (T3.setTop (mkF m 7 #[.val (.ref a1), .unset, .unset] [])) _
    refine X3.ldc2Long hx hown (mvT hZ (hw _ (List.mem_of_getElem? (i := 17) rfl))) (g := (mkF m 7 #[.val (.ref a1), .unset, .unset] [])) rfl (hb hby d3_7) _ ?_
    show Steps p.tables e below (T3.setTop (mkF m 10 #[.val (.ref a1), .unset, .unset] [(.long (1000 : Int64))])) _
    refine XS.goto X3.here hx rfl (pc0 := 10) (pc' := 16) rfl (hb hby d3_10) (by decide) (by decide) ?_
    show Steps p.tables e below (T3.setTop (mkF m 16 #[.val (.ref a1), .unset, .unset] [(.long (1000 : Int64))])) _
    refine XS.lstoreN X3.here hx rfl (hb hby d3_16) rfl (l' := #[.val (.ref a1), .val (.long (1000 : Int64)), .second]) rfl ?_
    show Steps p.tables e below (T3.setTop (mkF m 17 #[.val (.ref a1), .val (.long (1000 : Int64)), .second] [])) _
    refine XS.aloadN X3.here hx rfl (hb hby d3_17) rfl rfl ?_
    show Steps p.tables e below (T3.setTop (mkF m 18 #[.val (.ref a1), .val (.long (1000 : Int64)), .second] [(.ref a1)])) _
    refine XS.iconst X3.here hx rfl (hb hby d3_18) ?_
    show Steps p.tables e below (T3.setTop (mkF m 19 #[.val (.ref a1), .val (.long (1000 : Int64)), .second] [(.int (1 : Int32)), (.ref a1)])) _
    refine st4 _ ?_
    show Steps p.tables e below (T4.setTop (mkF m 22 #[.val (.ref a1), .val (.long (1000 : Int64)), .second] [])) _
    refine XS.lloadN X4.here hx rfl (hb hby d3_22) rfl ?_
    show Steps p.tables e below (T4.setTop (mkF m 23 #[.val (.ref a1), .val (.long (1000 : Int64)), .second] [(.long (1000 : Int64))])) _
    jvm_step X4.here [X4.here.top, hx, (hb hby d3_23), X4.method', Bd.returns, narrow]
    first | (intro acts; rw [hr _ acts rfl rfl rfl]) | rw [hr _ _ rfl rfl rfl]
    exact Steps.refl _
  · show Q3 Z a1 w2 h0 n0 _ T4.heap _
    rw [e4]
    exact ⟨by rw [own_ms, if_neg hc4], N4, K4, (E_a1.wr W4), Fw4⟩
theorem d3_13 : decode prog_1_method_2_code 13 = .ok (.ldc2_w 15, 3) := by decide +kernel
set_option maxRecDepth 65536 in
set_option maxHeartbeats 40000000 in
theorem rm3t (l : Launch) (Z : State) (a0 : Array Value) (hw : ∀ d ∈ tables_1, d.before a0 Z = true) (ws : List Jvm.Cond) (a1 : Addr) (w2 : Int32) (h0 : Heap) (n0 : Nat) (Z0 : n0 ≤ h0.size) (F_failing_a1 : Fld Z h0 a1 "com/example/lease/lease/client/Backoff" "failing" "Z" (.int w2)) (E_a1 : Exa Z h0 a1 "com/example/lease/lease/client/Backoff") (g_a1 : n0 ≤ a1) (hc4 : w2 = (0 : Int32)) :
    MetFree l (⟨"com/example/lease/lease/client/Backoff", "pauseMillis", "()J"⟩ : MethodName) (head1 (Jvm.Cond.code (⟨"com/example/lease/lease/client/Backoff", "pauseMillis", "()J"⟩ : MethodName) prog_1_method_2_code 3 (some .long) :: ws) ({ frames := 0, cells := 0, slots := 0, locals := 0 } : Room)) (fun a U => a = #[(.ref a1)] ∧ Z.Warmed39 U.vm ∧ U.heap = h0) (fun _ _ _ _ _ => True) (fun _ U o U' => ∃ v L, o = .returned v ∧ Q3 Z a1 w2 h0 n0 v U'.heap L ∧ FrameEnd U o U' L ({ frames := 0, cells := 0, slots := 0, locals := 0 } : Room).cells ({ frames := 0, cells := 0, slots := 0, locals := 0 } : Room).slots) := by
  refine MetFree.of_bodySF (plainFor_of_name pn_3) hisR ?_
  intro p e s m args below meth c s₁ Bd hml0 hP hK
  obtain ⟨rfl, hZ, hh⟩ := hP
  have hx := Bd.exec
  have hby := Bd.bytes
  have hml : c.maxLocals = 3 := hml0
  have hown : s.vm.findClass "com/example/lease/lease/client/Backoff" = some m.cls := findClass_of_methodNamed Bd.named
  have hnm := (name_of_methodNamed Bd.named Bd.method).1
  have X0 : Stand p l e ({ frames := 0, cells := 0, slots := 0, locals := 0 } : Room) s m #[(.ref a1)] below meth c s₁ [] 0 0 := Stand.of_body Bd
  have e0 : s₁.heap = h0 := by rw [← hh, Bd.state]; rfl
  have N0 := Fr.nil n0
  have pre0 : ∀ t, Steps p.tables e below (s₁.setTop (mkF m 0 #[.val (.ref a1), .unset, .unset] [])) t → Steps p.tables e below (s₁.setTop (entryFrame m #[(.ref a1)] 3)) t := fun t k => castTop (ef_3 m a1) k
  obtain ⟨T3, X3, e3, st3⟩ := getF X0 hx hZ hown (host := "") (Or.inl (hw _ (List.mem_of_getElem? (i := 14) rfl))) Via.refl e0 F_failing_a1 (g := (mkF m 1 #[.val (.ref a1), .unset, .unset] [(.ref a1)])) rfl rfl (hb hby d3_1)
  obtain ⟨T4, h4, X4, e4, W4, st4⟩ := putFN X3 hx hZ hown (hw _ (List.mem_of_getElem? (i := 14) rfl)) Via.refl e3 F_failing_a1 E_a1 (Or.inl (hw _ (List.mem_of_getElem? (i := 15) rfl))) (hw _ (List.mem_of_getElem? (i := 1) rfl)) (ty := .boolean) (v' := (.int (1 : Int32))) (by decide) (by decide) (by decide) (g := (mkF m 19 #[.val (.ref a1), .val (.long (500 : Int64)), .second] [(.int (1 : Int32)), (.ref a1)])) rfl rfl (hb hby d3_19)
  have Fw4 := F_failing_a1.same W4
  have K4 : Keep h0 h4 [a1] := (Keep.refl h0 [a1]).wr W4 (Or.inl (List.mem_of_getElem? (i := 0) rfl))
  have N4 := Fr.snoc X4 N0 g_a1
  obtain ⟨fs, hr, hrun, hended, hW, hsame⟩ := X4.leave (v := some (.long (500 : Int64))) (fun h => by rw [Bd.returns] at h; cases h)
  refine ⟨_, _, pre0 _ ?_, hrun, hended, _, _, rfl, ?_, ⟨_, rfl⟩, hW, hsame.mono (by decide) (by decide)⟩
  · show Steps p.tables e below (s₁.setTop (mkF m 0 #[.val (.ref a1), .unset, .unset] [])) _
    refine XS.aloadN X0.here hx rfl (hb hby d3_0) rfl rfl ?_
    show Steps p.tables e below (s₁.setTop (mkF m 1 #[.val (.ref a1), .unset, .unset] [(.ref a1)])) _
    refine st3 _ ?_
    show Steps p.tables e below (T3.setTop (mkF m 4 #[.val (.ref a1), .unset, .unset] [(.int w2)])) _
    refine XS.ifYes X3.here hx rfl (pc0 := 4) (pc' := 13) rfl (hb hby d3_4) rfl ((if0 _ _).trans (teq hc4).1) (by decide) (by decide) ?_
    show Steps p.tables e below (T3.setTop (mkF m 13 #[.val (.ref a1), .unset, .unset] [])) _
    refine X3.ldc2Long hx hown (mvT hZ (hw _ (List.mem_of_getElem? (i := 16) rfl))) (g := (mkF m 13 #[.val (.ref a1), .unset, .unset] [])) rfl (hb hby d3_13) _ ?_
    show Steps p.tables e below (T3.setTop (mkF m 16 #[.val (.ref a1), .unset, .unset] [(.long (500 : Int64))])) _
    refine XS.lstoreN X3.here hx rfl (hb hby d3_16) rfl (l' := #[.val (.ref a1), .val (.long (500 : Int64)), .second]) rfl ?_
    show Steps p.tables e below (T3.setTop (mkF m 17 #[.val (.ref a1), .val (.long (500 : Int64)), .second] [])) _
    refine XS.aloadN X3.here hx rfl (hb hby d3_17) rfl rfl ?_
    show Steps p.tables e below (T3.setTop (mkF m 18 #[.val (.ref a1), .val (.long (500 : Int64)), .second] [(.ref a1)])) _
    refine XS.iconst X3.here hx rfl (hb hby d3_18) ?_
    show Steps p.tables e below (T3.setTop (mkF m 19 #[.val (.ref a1), .val (.long (500 : Int64)), .second] [(.int (1 : Int32)), (.ref a1)])) _
    refine st4 _ ?_
    show Steps p.tables e below (T4.setTop (mkF m 22 #[.val (.ref a1), .val (.long (500 : Int64)), .second] [])) _
    refine XS.lloadN X4.here hx rfl (hb hby d3_22) rfl ?_
    show Steps p.tables e below (T4.setTop (mkF m 23 #[.val (.ref a1), .val (.long (500 : Int64)), .second] [(.long (500 : Int64))])) _
    jvm_step X4.here [X4.here.top, hx, (hb hby d3_23), X4.method', Bd.returns, narrow]
    first | (intro acts; rw [hr _ acts rfl rfl rfl]) | rw [hr _ _ rfl rfl rfl]
    exact Steps.refl _
  · show Q3 Z a1 w2 h0 n0 _ T4.heap _
    rw [e4]
    exact ⟨by rw [own_ms, if_pos hc4], N4, K4, (E_a1.wr W4), Fw4⟩
theorem rm3 (l : Launch) (Z : State) (a0 : Array Value) (hw : ∀ d ∈ tables_1, d.before a0 Z = true) (ws : List Jvm.Cond) (a1 : Addr) (w2 : Int32) (h0 : Heap) (n0 : Nat) (Z0 : n0 ≤ h0.size) (F_failing_a1 : Fld Z h0 a1 "com/example/lease/lease/client/Backoff" "failing" "Z" (.int w2)) (E_a1 : Exa Z h0 a1 "com/example/lease/lease/client/Backoff") (g_a1 : n0 ≤ a1) :
    MetFree l (⟨"com/example/lease/lease/client/Backoff", "pauseMillis", "()J"⟩ : MethodName) (head1 (Jvm.Cond.code (⟨"com/example/lease/lease/client/Backoff", "pauseMillis", "()J"⟩ : MethodName) prog_1_method_2_code 3 (some .long) :: ws) ({ frames := 0, cells := 0, slots := 0, locals := 0 } : Room)) (fun a U => a = #[(.ref a1)] ∧ Z.Warmed39 U.vm ∧ U.heap = h0) (fun _ _ _ _ _ => True) (fun _ U o U' => ∃ v L, o = .returned v ∧ Q3 Z a1 w2 h0 n0 v U'.heap L ∧ FrameEnd U o U' L ({ frames := 0, cells := 0, slots := 0, locals := 0 } : Room).cells ({ frames := 0, cells := 0, slots := 0, locals := 0 } : Room).slots) := by
  by_cases hc : w2 = (0 : Int32)
  · exact rm3t l Z a0 hw ws a1 w2 h0 n0 Z0 F_failing_a1 E_a1 g_a1 hc
  · exact rm3f l Z a0 hw ws a1 w2 h0 n0 Z0 F_failing_a1 E_a1 g_a1 hc
theorem d4_0 : decode prog_1_method_3_code 0 = .ok (.aload_n 0, 1) := by decide +kernel
theorem d4_1 : decode prog_1_method_3_code 1 = .ok (.iconst 0, 1) := by decide +kernel
theorem d4_2 : decode prog_1_method_3_code 2 = .ok (.putfield 7, 3) := by decide +kernel
theorem d4_5 : decode prog_1_method_3_code 5 = .ok (.return_, 1) := by decide +kernel
theorem pn_4 : plainName "com/example/lease/lease/client/Backoff" = true := by first | (simp [plainName, overriddenIn]; done) | decide +kernel
theorem ef_4 (m : MethodId) (x0 : Addr) : entryFrame m #[(.ref x0)] 1 = mkF m 0 #[.val (.ref x0)] [] := by first | (simp [entryFrame, mkF, argsToLocals, Value.category]; done) | rfl
def Q4 (Z : State) (a1 : Addr) (u_failing_a1 : Value) (h0 : Heap) (n0 : Nat) (v : Option Value) (h : Heap) (L : List Loc) : Prop := v = none ∧ Fr n0 L ∧ Keep h0 h [a1] ∧ Exa Z h a1 "com/example/lease/lease/client/Backoff" ∧ Fld Z h a1 "com/example/lease/lease/client/Backoff" "failing" "Z" (.int (0 : Int32))
set_option maxRecDepth 65536 in
set_option maxHeartbeats 40000000 in
theorem rm4 (l : Launch) (Z : State) (a0 : Array Value) (hw : ∀ d ∈ tables_1, d.before a0 Z = true) (ws : List Jvm.Cond) (a1 : Addr) (u_failing_a1 : Value) (h0 : Heap) (n0 : Nat) (Z0 : n0 ≤ h0.size) (E_a1 : Exa Z h0 a1 "com/example/lease/lease/client/Backoff") (F_failing_a1 : Fld Z h0 a1 "com/example/lease/lease/client/Backoff" "failing" "Z" u_failing_a1) (g_a1 : n0 ≤ a1) :
    MetFree l (⟨"com/example/lease/lease/client/Backoff", "reset", "()V"⟩ : MethodName) (head1 (Jvm.Cond.code (⟨"com/example/lease/lease/client/Backoff", "reset", "()V"⟩ : MethodName) prog_1_method_3_code 1 none :: ws) ({ frames := 0, cells := 0, slots := 0, locals := 0 } : Room)) (fun a U => a = #[(.ref a1)] ∧ Z.Warmed39 U.vm ∧ U.heap = h0) (fun _ _ _ _ _ => True) (fun _ U o U' => ∃ v L, o = .returned v ∧ Q4 Z a1 u_failing_a1 h0 n0 v U'.heap L ∧ FrameEnd U o U' L ({ frames := 0, cells := 0, slots := 0, locals := 0 } : Room).cells ({ frames := 0, cells := 0, slots := 0, locals := 0 } : Room).slots) := by
  refine MetFree.of_bodySF (plainFor_of_name pn_4) hisR ?_
  intro p e s m args below meth c s₁ Bd hml0 hP hK
  obtain ⟨rfl, hZ, hh⟩ := hP
  have hx := Bd.exec
  have hby := Bd.bytes
  have hml : c.maxLocals = 1 := hml0
  have hown : s.vm.findClass "com/example/lease/lease/client/Backoff" = some m.cls := findClass_of_methodNamed Bd.named
  have hnm := (name_of_methodNamed Bd.named Bd.method).1
  have X0 : Stand p l e ({ frames := 0, cells := 0, slots := 0, locals := 0 } : Room) s m #[(.ref a1)] below meth c s₁ [] 0 0 := Stand.of_body Bd
  have e0 : s₁.heap = h0 := by rw [← hh, Bd.state]; rfl
  have N0 := Fr.nil n0
  have pre0 : ∀ t, Steps p.tables e below (s₁.setTop (mkF m 0 #[.val (.ref a1)] [])) t → Steps p.tables e below (s₁.setTop (entryFrame m #[(.ref a1)] 1)) t := fun t k => castTop (ef_4 m a1) k
  obtain ⟨T2, h2, X2, e2, W2, st2⟩ := putFN X0 hx hZ hown (hw _ (List.mem_of_getElem? (i := 14) rfl)) Via.refl e0 F_failing_a1 E_a1 (Or.inl (hw _ (List.mem_of_getElem? (i := 15) rfl))) (hw _ (List.mem_of_getElem? (i := 1) rfl)) (ty := .boolean) (v' := (.int (0 : Int32))) (by decide) (by decide) (by decide) (g := (mkF m 2 #[.val (.ref a1)] [(.int (0 : Int32)), (.ref a1)])) rfl rfl (hb hby d4_2)
  have Fw2 := F_failing_a1.same W2
  have K2 : Keep h0 h2 [a1] := (Keep.refl h0 [a1]).wr W2 (Or.inl (List.mem_of_getElem? (i := 0) rfl))
  have N2 := Fr.snoc X2 N0 g_a1
  obtain ⟨fs, hr, hrun, hended, hW, hsame⟩ := X2.leave (v := none) (fun _ => rfl)
  refine ⟨_, _, pre0 _ ?_, hrun, hended, _, _, rfl, ?_, ⟨_, rfl⟩, hW, hsame.mono (by decide) (by decide)⟩
  · show Steps p.tables e below (s₁.setTop (mkF m 0 #[.val (.ref a1)] [])) _
    refine XS.aloadN X0.here hx rfl (hb hby d4_0) rfl rfl ?_
    show Steps p.tables e below (s₁.setTop (mkF m 1 #[.val (.ref a1)] [(.ref a1)])) _
    refine XS.iconst X0.here hx rfl (hb hby d4_1) ?_
    show Steps p.tables e below (s₁.setTop (mkF m 2 #[.val (.ref a1)] [(.int (0 : Int32)), (.ref a1)])) _
    refine st2 _ ?_
    show Steps p.tables e below (T2.setTop (mkF m 5 #[.val (.ref a1)] [])) _
    exact X2.returnOut hx Bd.returns (hb hby d4_5) hr
  · show Q4 Z a1 u_failing_a1 h0 n0 _ T2.heap _
    rw [e2]
    exact ⟨rfl, N2, K2, (E_a1.wr W2), Fw2⟩
theorem os0_11 {z0 : Value} {s1 : Slot} {s2 : Slot} {s3 : Slot} {s4 : Slot} {s5 : Slot} {s6 : Slot} {s7 : Slot} {s8 : Slot} {s9 : Slot} {s10 : Slot} {s11 : Slot} {s12 : Slot} {s13 : Slot} {s14 : Slot} {s15 : Slot} {s16 : Slot} {s17 : Slot} {v : Int32} (h : One s1) : storeLocals #[.val z0, s1, s2, s3, s4, s5, s6, s7, s8, s9, s10, s11, s12, s13, s14, s15, s16, s17] 1 (.int v) = some #[.val z0, .val (.int v), s2, s3, s4, s5, s6, s7, s8, s9, s10, s11, s12, s13, s14, s15, s16, s17] := by
  rcases h with rfl | ⟨w, rfl, hw⟩
  · rfl
  · cases w <;> first | rfl | (simp [Value.category] at hw)
set_option maxRecDepth 65536 in
set_option maxHeartbeats 40000000 in
theorem tn0_0_12_t {p : Program} {l : Launch} {e : Env} {R : Room} {s : State} {m : MethodId} {args : Array Value} {below : List Frame} {meth : Method} {c : Code} {T0 : State} {locs : List Loc} {cells slots : Nat} {Z : State} {a0 : Array Value} {h0 : Heap} (i0 : Int32) (s1 : Slot) (s2 : Slot) (s3 : Slot) (s4 : Slot) (s5 : Slot) (s6 : Slot) (s7 : Slot) (s8 : Slot) (s9 : Slot) (s10 : Slot) (s11 : Slot) (s12 : Slot) (s13 : Slot) (s14 : Slot) (s15 : Slot) (s16 : Slot) (s17 : Slot)
    (X0 : Stand p l e R s m args below meth c T0 locs cells slots) (hx : p.tables.exec = Jvm.exec) (hZ : Z.Warmed39 s.vm) (hw : ∀ d ∈ tables_1, d.before a0 Z = true) (hby : c.code = code) (hml : c.maxLocals = 18) (hown : s.vm.findClass "com/example/lease/lease/client/BackoffPauseMillisPinLaw" = some m.cls) (e0 : T0.heap = h0) (hs1 : One s1) (hc3 : (i0 &&& (1 : Int32)) = (0 : Int32)) :
    ∃ (T' : State), Stand p l e R s m args below meth c T' locs cells slots ∧ T'.heap = h0 ∧
      ∀ target, Steps p.tables e below (T'.setTop (mkF m 12 #[.val (.int i0), .val (.int (0 : Int32)), s2, s3, s4, s5, s6, s7, s8, s9, s10, s11, s12, s13, s14, s15, s16, s17] [])) target → Steps p.tables e below (T0.setTop (mkF m 0 #[.val (.int i0), s1, s2, s3, s4, s5, s6, s7, s8, s9, s10, s11, s12, s13, s14, s15, s16, s17] [])) target := by
  refine ⟨T0, X0, e0, fun target kt => ?_⟩
  show Steps p.tables e below (T0.setTop (mkF m 0 #[.val (.int i0), s1, s2, s3, s4, s5, s6, s7, s8, s9, s10, s11, s12, s13, s14, s15, s16, s17] [])) _
  refine XS.iloadN X0.here hx rfl (hb hby at_0) rfl ?_
  show Steps p.tables e below (T0.setTop (mkF m 1 #[.val (.int i0), s1, s2, s3, s4, s5, s6, s7, s8, s9, s10, s11, s12, s13, s14, s15, s16, s17] [(.int i0)])) _
  refine XS.iconst X0.here hx rfl (hb hby at_1) ?_
  show Steps p.tables e below (T0.setTop (mkF m 2 #[.val (.int i0), s1, s2, s3, s4, s5, s6, s7, s8, s9, s10, s11, s12, s13, s14, s15, s16, s17] [(.int (1 : Int32)), (.int i0)])) _
  refine XS.iand X0.here hx rfl (hb hby at_2) rfl ?_
  show Steps p.tables e below (T0.setTop (mkF m 3 #[.val (.int i0), s1, s2, s3, s4, s5, s6, s7, s8, s9, s10, s11, s12, s13, s14, s15, s16, s17] [(.int (i0 &&& (1 : Int32)))])) _
  refine XS.ifYes X0.here hx rfl (pc0 := 3) (pc' := 10) rfl (hb hby at_3) rfl ((if0 _ _).trans (teq hc3).1) (by decide) (by decide) ?_
  show Steps p.tables e below (T0.setTop (mkF m 10 #[.val (.int i0), s1, s2, s3, s4, s5, s6, s7, s8, s9, s10, s11, s12, s13, s14, s15, s16, s17] [])) _
  refine XS.iconst X0.here hx rfl (hb hby at_10) ?_
  show Steps p.tables e below (T0.setTop (mkF m 11 #[.val (.int i0), s1, s2, s3, s4, s5, s6, s7, s8, s9, s10, s11, s12, s13, s14, s15, s16, s17] [(.int (0 : Int32))])) _
  refine XS.istoreN X0.here hx rfl (hb hby at_11) rfl (l' := #[.val (.int i0), .val (.int (0 : Int32)), s2, s3, s4, s5, s6, s7, s8, s9, s10, s11, s12, s13, s14, s15, s16, s17]) (os0_11 hs1) ?_
  exact kt
set_option maxRecDepth 65536 in
set_option maxHeartbeats 40000000 in
theorem tn0_0_12_f {p : Program} {l : Launch} {e : Env} {R : Room} {s : State} {m : MethodId} {args : Array Value} {below : List Frame} {meth : Method} {c : Code} {T0 : State} {locs : List Loc} {cells slots : Nat} {Z : State} {a0 : Array Value} {h0 : Heap} (i0 : Int32) (s1 : Slot) (s2 : Slot) (s3 : Slot) (s4 : Slot) (s5 : Slot) (s6 : Slot) (s7 : Slot) (s8 : Slot) (s9 : Slot) (s10 : Slot) (s11 : Slot) (s12 : Slot) (s13 : Slot) (s14 : Slot) (s15 : Slot) (s16 : Slot) (s17 : Slot)
    (X0 : Stand p l e R s m args below meth c T0 locs cells slots) (hx : p.tables.exec = Jvm.exec) (hZ : Z.Warmed39 s.vm) (hw : ∀ d ∈ tables_1, d.before a0 Z = true) (hby : c.code = code) (hml : c.maxLocals = 18) (hown : s.vm.findClass "com/example/lease/lease/client/BackoffPauseMillisPinLaw" = some m.cls) (e0 : T0.heap = h0) (hs1 : One s1) (hc3 : ¬ ((i0 &&& (1 : Int32)) = (0 : Int32))) :
    ∃ (T' : State), Stand p l e R s m args below meth c T' locs cells slots ∧ T'.heap = h0 ∧
      ∀ target, Steps p.tables e below (T'.setTop (mkF m 12 #[.val (.int i0), .val (.int (1 : Int32)), s2, s3, s4, s5, s6, s7, s8, s9, s10, s11, s12, s13, s14, s15, s16, s17] [])) target → Steps p.tables e below (T0.setTop (mkF m 0 #[.val (.int i0), s1, s2, s3, s4, s5, s6, s7, s8, s9, s10, s11, s12, s13, s14, s15, s16, s17] [])) target := by
  refine ⟨T0, X0, e0, fun target kt => ?_⟩
  show Steps p.tables e below (T0.setTop (mkF m 0 #[.val (.int i0), s1, s2, s3, s4, s5, s6, s7, s8, s9, s10, s11, s12, s13, s14, s15, s16, s17] [])) _
  refine XS.iloadN X0.here hx rfl (hb hby at_0) rfl ?_
  show Steps p.tables e below (T0.setTop (mkF m 1 #[.val (.int i0), s1, s2, s3, s4, s5, s6, s7, s8, s9, s10, s11, s12, s13, s14, s15, s16, s17] [(.int i0)])) _
  refine XS.iconst X0.here hx rfl (hb hby at_1) ?_
  show Steps p.tables e below (T0.setTop (mkF m 2 #[.val (.int i0), s1, s2, s3, s4, s5, s6, s7, s8, s9, s10, s11, s12, s13, s14, s15, s16, s17] [(.int (1 : Int32)), (.int i0)])) _
  refine XS.iand X0.here hx rfl (hb hby at_2) rfl ?_
  show Steps p.tables e below (T0.setTop (mkF m 3 #[.val (.int i0), s1, s2, s3, s4, s5, s6, s7, s8, s9, s10, s11, s12, s13, s14, s15, s16, s17] [(.int (i0 &&& (1 : Int32)))])) _
  refine XS.ifNo X0.here hx rfl (hb hby at_3) rfl ((if0 _ _).trans (feq hc3).1) ?_
  show Steps p.tables e below (T0.setTop (mkF m 6 #[.val (.int i0), s1, s2, s3, s4, s5, s6, s7, s8, s9, s10, s11, s12, s13, s14, s15, s16, s17] [])) _
  refine XS.iconst X0.here hx rfl (hb hby at_6) ?_
  show Steps p.tables e below (T0.setTop (mkF m 7 #[.val (.int i0), s1, s2, s3, s4, s5, s6, s7, s8, s9, s10, s11, s12, s13, s14, s15, s16, s17] [(.int (1 : Int32))])) _
  refine XS.goto X0.here hx rfl (pc0 := 7) (pc' := 11) rfl (hb hby at_7) (by decide) (by decide) ?_
  show Steps p.tables e below (T0.setTop (mkF m 11 #[.val (.int i0), s1, s2, s3, s4, s5, s6, s7, s8, s9, s10, s11, s12, s13, s14, s15, s16, s17] [(.int (1 : Int32))])) _
  refine XS.istoreN X0.here hx rfl (hb hby at_11) rfl (l' := #[.val (.int i0), .val (.int (1 : Int32)), s2, s3, s4, s5, s6, s7, s8, s9, s10, s11, s12, s13, s14, s15, s16, s17]) (os0_11 hs1) ?_
  exact kt
theorem sg1 {p : Program} {l : Launch} {e : Env} {R : Room} {s : State} {m : MethodId} {args : Array Value} {below : List Frame} {meth : Method} {c : Code} {T0 : State} {locs : List Loc} {cells slots : Nat} {Z : State} {a0 : Array Value} {h0 : Heap} (i0 : Int32) (s1 : Slot) (s2 : Slot) (s3 : Slot) (s4 : Slot) (s5 : Slot) (s6 : Slot) (s7 : Slot) (s8 : Slot) (s9 : Slot) (s10 : Slot) (s11 : Slot) (s12 : Slot) (s13 : Slot) (s14 : Slot) (s15 : Slot) (s16 : Slot) (s17 : Slot)
    (X0 : Stand p l e R s m args below meth c T0 locs cells slots) (hx : p.tables.exec = Jvm.exec) (hZ : Z.Warmed39 s.vm) (hw : ∀ d ∈ tables_1, d.before a0 Z = true) (hby : c.code = code) (hml : c.maxLocals = 18) (hown : s.vm.findClass "com/example/lease/lease/client/BackoffPauseMillisPinLaw" = some m.cls) (e0 : T0.heap = h0) (hs1 : One s1) :
    ∃ (T' : State), Stand p l e R s m args below meth c T' locs cells slots ∧ T'.heap = h0 ∧
      ∀ target, Steps p.tables e below (T'.setTop (mkF m 12 #[.val (.int i0), .val (.int (own_b (i0 &&& (1 : Int32)))), s2, s3, s4, s5, s6, s7, s8, s9, s10, s11, s12, s13, s14, s15, s16, s17] [])) target → Steps p.tables e below (T0.setTop (mkF m 0 #[.val (.int i0), s1, s2, s3, s4, s5, s6, s7, s8, s9, s10, s11, s12, s13, s14, s15, s16, s17] [])) target := by
  by_cases hc : (i0 &&& (1 : Int32)) = (0 : Int32)
  · rw [show own_b (i0 &&& (1 : Int32)) = 0 from if_pos hc]; exact tn0_0_12_t i0 s1 s2 s3 s4 s5 s6 s7 s8 s9 s10 s11 s12 s13 s14 s15 s16 s17 X0 hx hZ hw hby hml hown e0 hs1 hc
  · rw [show own_b (i0 &&& (1 : Int32)) = 1 from if_neg hc]; exact tn0_0_12_f i0 s1 s2 s3 s4 s5 s6 s7 s8 s9 s10 s11 s12 s13 s14 s15 s16 s17 X0 hx hZ hw hby hml hown e0 hs1 hc
theorem os0_23 {z0 : Value} {s1 : Slot} {s2 : Slot} {s3 : Slot} {s4 : Slot} {s5 : Slot} {s6 : Slot} {s7 : Slot} {s8 : Slot} {s9 : Slot} {s10 : Slot} {s11 : Slot} {s12 : Slot} {s13 : Slot} {s14 : Slot} {s15 : Slot} {s16 : Slot} {s17 : Slot} {v : Int32} (h : One s2) : storeLocals #[.val z0, s1, s2, s3, s4, s5, s6, s7, s8, s9, s10, s11, s12, s13, s14, s15, s16, s17] 2 (.int v) = some #[.val z0, s1, .val (.int v), s3, s4, s5, s6, s7, s8, s9, s10, s11, s12, s13, s14, s15, s16, s17] := by
  rcases h with rfl | ⟨w, rfl, hw⟩
  · rfl
  · cases w <;> first | rfl | (simp [Value.category] at hw)
set_option maxRecDepth 65536 in
set_option maxHeartbeats 40000000 in
theorem tn0_12_24_t {p : Program} {l : Launch} {e : Env} {R : Room} {s : State} {m : MethodId} {args : Array Value} {below : List Frame} {meth : Method} {c : Code} {T0 : State} {locs : List Loc} {cells slots : Nat} {Z : State} {a0 : Array Value} {h0 : Heap} (i0 : Int32) (s1 : Slot) (s2 : Slot) (s3 : Slot) (s4 : Slot) (s5 : Slot) (s6 : Slot) (s7 : Slot) (s8 : Slot) (s9 : Slot) (s10 : Slot) (s11 : Slot) (s12 : Slot) (s13 : Slot) (s14 : Slot) (s15 : Slot) (s16 : Slot) (s17 : Slot)
    (X0 : Stand p l e R s m args below meth c T0 locs cells slots) (hx : p.tables.exec = Jvm.exec) (hZ : Z.Warmed39 s.vm) (hw : ∀ d ∈ tables_1, d.before a0 Z = true) (hby : c.code = code) (hml : c.maxLocals = 18) (hown : s.vm.findClass "com/example/lease/lease/client/BackoffPauseMillisPinLaw" = some m.cls) (e0 : T0.heap = h0) (hs2 : One s2) (hc15 : (i0 &&& (2 : Int32)) = (0 : Int32)) :
    ∃ (T' : State), Stand p l e R s m args below meth c T' locs cells slots ∧ T'.heap = h0 ∧
      ∀ target, Steps p.tables e below (T'.setTop (mkF m 24 #[.val (.int i0), s1, .val (.int (0 : Int32)), s3, s4, s5, s6, s7, s8, s9, s10, s11, s12, s13, s14, s15, s16, s17] [])) target → Steps p.tables e below (T0.setTop (mkF m 12 #[.val (.int i0), s1, s2, s3, s4, s5, s6, s7, s8, s9, s10, s11, s12, s13, s14, s15, s16, s17] [])) target := by
  refine ⟨T0, X0, e0, fun target kt => ?_⟩
  show Steps p.tables e below (T0.setTop (mkF m 12 #[.val (.int i0), s1, s2, s3, s4, s5, s6, s7, s8, s9, s10, s11, s12, s13, s14, s15, s16, s17] [])) _
  refine XS.iloadN X0.here hx rfl (hb hby at_12) rfl ?_
  show Steps p.tables e below (T0.setTop (mkF m 13 #[.val (.int i0), s1, s2, s3, s4, s5, s6, s7, s8, s9, s10, s11, s12, s13, s14, s15, s16, s17] [(.int i0)])) _
  refine XS.iconst X0.here hx rfl (hb hby at_13) ?_
  show Steps p.tables e below (T0.setTop (mkF m 14 #[.val (.int i0), s1, s2, s3, s4, s5, s6, s7, s8, s9, s10, s11, s12, s13, s14, s15, s16, s17] [(.int (2 : Int32)), (.int i0)])) _
  refine XS.iand X0.here hx rfl (hb hby at_14) rfl ?_
  show Steps p.tables e below (T0.setTop (mkF m 15 #[.val (.int i0), s1, s2, s3, s4, s5, s6, s7, s8, s9, s10, s11, s12, s13, s14, s15, s16, s17] [(.int (i0 &&& (2 : Int32)))])) _
  refine XS.ifYes X0.here hx rfl (pc0 := 15) (pc' := 22) rfl (hb hby at_15) rfl ((if0 _ _).trans (teq hc15).1) (by decide) (by decide) ?_
  show Steps p.tables e below (T0.setTop (mkF m 22 #[.val (.int i0), s1, s2, s3, s4, s5, s6, s7, s8, s9, s10, s11, s12, s13, s14, s15, s16, s17] [])) _
  refine XS.iconst X0.here hx rfl (hb hby at_22) ?_
  show Steps p.tables e below (T0.setTop (mkF m 23 #[.val (.int i0), s1, s2, s3, s4, s5, s6, s7, s8, s9, s10, s11, s12, s13, s14, s15, s16, s17] [(.int (0 : Int32))])) _
  refine XS.istoreN X0.here hx rfl (hb hby at_23) rfl (l' := #[.val (.int i0), s1, .val (.int (0 : Int32)), s3, s4, s5, s6, s7, s8, s9, s10, s11, s12, s13, s14, s15, s16, s17]) (os0_23 hs2) ?_
  exact kt
set_option maxRecDepth 65536 in
set_option maxHeartbeats 40000000 in
theorem tn0_12_24_f {p : Program} {l : Launch} {e : Env} {R : Room} {s : State} {m : MethodId} {args : Array Value} {below : List Frame} {meth : Method} {c : Code} {T0 : State} {locs : List Loc} {cells slots : Nat} {Z : State} {a0 : Array Value} {h0 : Heap} (i0 : Int32) (s1 : Slot) (s2 : Slot) (s3 : Slot) (s4 : Slot) (s5 : Slot) (s6 : Slot) (s7 : Slot) (s8 : Slot) (s9 : Slot) (s10 : Slot) (s11 : Slot) (s12 : Slot) (s13 : Slot) (s14 : Slot) (s15 : Slot) (s16 : Slot) (s17 : Slot)
    (X0 : Stand p l e R s m args below meth c T0 locs cells slots) (hx : p.tables.exec = Jvm.exec) (hZ : Z.Warmed39 s.vm) (hw : ∀ d ∈ tables_1, d.before a0 Z = true) (hby : c.code = code) (hml : c.maxLocals = 18) (hown : s.vm.findClass "com/example/lease/lease/client/BackoffPauseMillisPinLaw" = some m.cls) (e0 : T0.heap = h0) (hs2 : One s2) (hc15 : ¬ ((i0 &&& (2 : Int32)) = (0 : Int32))) :
    ∃ (T' : State), Stand p l e R s m args below meth c T' locs cells slots ∧ T'.heap = h0 ∧
      ∀ target, Steps p.tables e below (T'.setTop (mkF m 24 #[.val (.int i0), s1, .val (.int (1 : Int32)), s3, s4, s5, s6, s7, s8, s9, s10, s11, s12, s13, s14, s15, s16, s17] [])) target → Steps p.tables e below (T0.setTop (mkF m 12 #[.val (.int i0), s1, s2, s3, s4, s5, s6, s7, s8, s9, s10, s11, s12, s13, s14, s15, s16, s17] [])) target := by
  refine ⟨T0, X0, e0, fun target kt => ?_⟩
  show Steps p.tables e below (T0.setTop (mkF m 12 #[.val (.int i0), s1, s2, s3, s4, s5, s6, s7, s8, s9, s10, s11, s12, s13, s14, s15, s16, s17] [])) _
  refine XS.iloadN X0.here hx rfl (hb hby at_12) rfl ?_
  show Steps p.tables e below (T0.setTop (mkF m 13 #[.val (.int i0), s1, s2, s3, s4, s5, s6, s7, s8, s9, s10, s11, s12, s13, s14, s15, s16, s17] [(.int i0)])) _
  refine XS.iconst X0.here hx rfl (hb hby at_13) ?_
  show Steps p.tables e below (T0.setTop (mkF m 14 #[.val (.int i0), s1, s2, s3, s4, s5, s6, s7, s8, s9, s10, s11, s12, s13, s14, s15, s16, s17] [(.int (2 : Int32)), (.int i0)])) _
  refine XS.iand X0.here hx rfl (hb hby at_14) rfl ?_
  show Steps p.tables e below (T0.setTop (mkF m 15 #[.val (.int i0), s1, s2, s3, s4, s5, s6, s7, s8, s9, s10, s11, s12, s13, s14, s15, s16, s17] [(.int (i0 &&& (2 : Int32)))])) _
  refine XS.ifNo X0.here hx rfl (hb hby at_15) rfl ((if0 _ _).trans (feq hc15).1) ?_
  show Steps p.tables e below (T0.setTop (mkF m 18 #[.val (.int i0), s1, s2, s3, s4, s5, s6, s7, s8, s9, s10, s11, s12, s13, s14, s15, s16, s17] [])) _
  refine XS.iconst X0.here hx rfl (hb hby at_18) ?_
  show Steps p.tables e below (T0.setTop (mkF m 19 #[.val (.int i0), s1, s2, s3, s4, s5, s6, s7, s8, s9, s10, s11, s12, s13, s14, s15, s16, s17] [(.int (1 : Int32))])) _
  refine XS.goto X0.here hx rfl (pc0 := 19) (pc' := 23) rfl (hb hby at_19) (by decide) (by decide) ?_
  show Steps p.tables e below (T0.setTop (mkF m 23 #[.val (.int i0), s1, s2, s3, s4, s5, s6, s7, s8, s9, s10, s11, s12, s13, s14, s15, s16, s17] [(.int (1 : Int32))])) _
  refine XS.istoreN X0.here hx rfl (hb hby at_23) rfl (l' := #[.val (.int i0), s1, .val (.int (1 : Int32)), s3, s4, s5, s6, s7, s8, s9, s10, s11, s12, s13, s14, s15, s16, s17]) (os0_23 hs2) ?_
  exact kt
theorem sg2 {p : Program} {l : Launch} {e : Env} {R : Room} {s : State} {m : MethodId} {args : Array Value} {below : List Frame} {meth : Method} {c : Code} {T0 : State} {locs : List Loc} {cells slots : Nat} {Z : State} {a0 : Array Value} {h0 : Heap} (i0 : Int32) (s1 : Slot) (s2 : Slot) (s3 : Slot) (s4 : Slot) (s5 : Slot) (s6 : Slot) (s7 : Slot) (s8 : Slot) (s9 : Slot) (s10 : Slot) (s11 : Slot) (s12 : Slot) (s13 : Slot) (s14 : Slot) (s15 : Slot) (s16 : Slot) (s17 : Slot)
    (X0 : Stand p l e R s m args below meth c T0 locs cells slots) (hx : p.tables.exec = Jvm.exec) (hZ : Z.Warmed39 s.vm) (hw : ∀ d ∈ tables_1, d.before a0 Z = true) (hby : c.code = code) (hml : c.maxLocals = 18) (hown : s.vm.findClass "com/example/lease/lease/client/BackoffPauseMillisPinLaw" = some m.cls) (e0 : T0.heap = h0) (hs2 : One s2) :
    ∃ (T' : State), Stand p l e R s m args below meth c T' locs cells slots ∧ T'.heap = h0 ∧
      ∀ target, Steps p.tables e below (T'.setTop (mkF m 24 #[.val (.int i0), s1, .val (.int (own_b (i0 &&& (2 : Int32)))), s3, s4, s5, s6, s7, s8, s9, s10, s11, s12, s13, s14, s15, s16, s17] [])) target → Steps p.tables e below (T0.setTop (mkF m 12 #[.val (.int i0), s1, s2, s3, s4, s5, s6, s7, s8, s9, s10, s11, s12, s13, s14, s15, s16, s17] [])) target := by
  by_cases hc : (i0 &&& (2 : Int32)) = (0 : Int32)
  · rw [show own_b (i0 &&& (2 : Int32)) = 0 from if_pos hc]; exact tn0_12_24_t i0 s1 s2 s3 s4 s5 s6 s7 s8 s9 s10 s11 s12 s13 s14 s15 s16 s17 X0 hx hZ hw hby hml hown e0 hs2 hc
  · rw [show own_b (i0 &&& (2 : Int32)) = 1 from if_neg hc]; exact tn0_12_24_f i0 s1 s2 s3 s4 s5 s6 s7 s8 s9 s10 s11 s12 s13 s14 s15 s16 s17 X0 hx hZ hw hby hml hown e0 hs2 hc
theorem os0_35 {z0 : Value} {s1 : Slot} {s2 : Slot} {s3 : Slot} {s4 : Slot} {s5 : Slot} {s6 : Slot} {s7 : Slot} {s8 : Slot} {s9 : Slot} {s10 : Slot} {s11 : Slot} {s12 : Slot} {s13 : Slot} {s14 : Slot} {s15 : Slot} {s16 : Slot} {s17 : Slot} {v : Int32} (h : One s3) : storeLocals #[.val z0, s1, s2, s3, s4, s5, s6, s7, s8, s9, s10, s11, s12, s13, s14, s15, s16, s17] 3 (.int v) = some #[.val z0, s1, s2, .val (.int v), s4, s5, s6, s7, s8, s9, s10, s11, s12, s13, s14, s15, s16, s17] := by
  rcases h with rfl | ⟨w, rfl, hw⟩
  · rfl
  · cases w <;> first | rfl | (simp [Value.category] at hw)
set_option maxRecDepth 65536 in
set_option maxHeartbeats 40000000 in
theorem tn0_24_36_t {p : Program} {l : Launch} {e : Env} {R : Room} {s : State} {m : MethodId} {args : Array Value} {below : List Frame} {meth : Method} {c : Code} {T0 : State} {locs : List Loc} {cells slots : Nat} {Z : State} {a0 : Array Value} {h0 : Heap} (i0 : Int32) (s1 : Slot) (s2 : Slot) (s3 : Slot) (s4 : Slot) (s5 : Slot) (s6 : Slot) (s7 : Slot) (s8 : Slot) (s9 : Slot) (s10 : Slot) (s11 : Slot) (s12 : Slot) (s13 : Slot) (s14 : Slot) (s15 : Slot) (s16 : Slot) (s17 : Slot)
    (X0 : Stand p l e R s m args below meth c T0 locs cells slots) (hx : p.tables.exec = Jvm.exec) (hZ : Z.Warmed39 s.vm) (hw : ∀ d ∈ tables_1, d.before a0 Z = true) (hby : c.code = code) (hml : c.maxLocals = 18) (hown : s.vm.findClass "com/example/lease/lease/client/BackoffPauseMillisPinLaw" = some m.cls) (e0 : T0.heap = h0) (hs3 : One s3) (hc27 : (i0 &&& (4 : Int32)) = (0 : Int32)) :
    ∃ (T' : State), Stand p l e R s m args below meth c T' locs cells slots ∧ T'.heap = h0 ∧
      ∀ target, Steps p.tables e below (T'.setTop (mkF m 36 #[.val (.int i0), s1, s2, .val (.int (0 : Int32)), s4, s5, s6, s7, s8, s9, s10, s11, s12, s13, s14, s15, s16, s17] [])) target → Steps p.tables e below (T0.setTop (mkF m 24 #[.val (.int i0), s1, s2, s3, s4, s5, s6, s7, s8, s9, s10, s11, s12, s13, s14, s15, s16, s17] [])) target := by
  refine ⟨T0, X0, e0, fun target kt => ?_⟩
  show Steps p.tables e below (T0.setTop (mkF m 24 #[.val (.int i0), s1, s2, s3, s4, s5, s6, s7, s8, s9, s10, s11, s12, s13, s14, s15, s16, s17] [])) _
  refine XS.iloadN X0.here hx rfl (hb hby at_24) rfl ?_
  show Steps p.tables e below (T0.setTop (mkF m 25 #[.val (.int i0), s1, s2, s3, s4, s5, s6, s7, s8, s9, s10, s11, s12, s13, s14, s15, s16, s17] [(.int i0)])) _
  refine XS.iconst X0.here hx rfl (hb hby at_25) ?_
  show Steps p.tables e below (T0.setTop (mkF m 26 #[.val (.int i0), s1, s2, s3, s4, s5, s6, s7, s8, s9, s10, s11, s12, s13, s14, s15, s16, s17] [(.int (4 : Int32)), (.int i0)])) _
  refine XS.iand X0.here hx rfl (hb hby at_26) rfl ?_
  show Steps p.tables e below (T0.setTop (mkF m 27 #[.val (.int i0), s1, s2, s3, s4, s5, s6, s7, s8, s9, s10, s11, s12, s13, s14, s15, s16, s17] [(.int (i0 &&& (4 : Int32)))])) _
  refine XS.ifYes X0.here hx rfl (pc0 := 27) (pc' := 34) rfl (hb hby at_27) rfl ((if0 _ _).trans (teq hc27).1) (by decide) (by decide) ?_
  show Steps p.tables e below (T0.setTop (mkF m 34 #[.val (.int i0), s1, s2, s3, s4, s5, s6, s7, s8, s9, s10, s11, s12, s13, s14, s15, s16, s17] [])) _
  refine XS.iconst X0.here hx rfl (hb hby at_34) ?_
  show Steps p.tables e below (T0.setTop (mkF m 35 #[.val (.int i0), s1, s2, s3, s4, s5, s6, s7, s8, s9, s10, s11, s12, s13, s14, s15, s16, s17] [(.int (0 : Int32))])) _
  refine XS.istoreN X0.here hx rfl (hb hby at_35) rfl (l' := #[.val (.int i0), s1, s2, .val (.int (0 : Int32)), s4, s5, s6, s7, s8, s9, s10, s11, s12, s13, s14, s15, s16, s17]) (os0_35 hs3) ?_
  exact kt
set_option maxRecDepth 65536 in
set_option maxHeartbeats 40000000 in
theorem tn0_24_36_f {p : Program} {l : Launch} {e : Env} {R : Room} {s : State} {m : MethodId} {args : Array Value} {below : List Frame} {meth : Method} {c : Code} {T0 : State} {locs : List Loc} {cells slots : Nat} {Z : State} {a0 : Array Value} {h0 : Heap} (i0 : Int32) (s1 : Slot) (s2 : Slot) (s3 : Slot) (s4 : Slot) (s5 : Slot) (s6 : Slot) (s7 : Slot) (s8 : Slot) (s9 : Slot) (s10 : Slot) (s11 : Slot) (s12 : Slot) (s13 : Slot) (s14 : Slot) (s15 : Slot) (s16 : Slot) (s17 : Slot)
    (X0 : Stand p l e R s m args below meth c T0 locs cells slots) (hx : p.tables.exec = Jvm.exec) (hZ : Z.Warmed39 s.vm) (hw : ∀ d ∈ tables_1, d.before a0 Z = true) (hby : c.code = code) (hml : c.maxLocals = 18) (hown : s.vm.findClass "com/example/lease/lease/client/BackoffPauseMillisPinLaw" = some m.cls) (e0 : T0.heap = h0) (hs3 : One s3) (hc27 : ¬ ((i0 &&& (4 : Int32)) = (0 : Int32))) :
    ∃ (T' : State), Stand p l e R s m args below meth c T' locs cells slots ∧ T'.heap = h0 ∧
      ∀ target, Steps p.tables e below (T'.setTop (mkF m 36 #[.val (.int i0), s1, s2, .val (.int (1 : Int32)), s4, s5, s6, s7, s8, s9, s10, s11, s12, s13, s14, s15, s16, s17] [])) target → Steps p.tables e below (T0.setTop (mkF m 24 #[.val (.int i0), s1, s2, s3, s4, s5, s6, s7, s8, s9, s10, s11, s12, s13, s14, s15, s16, s17] [])) target := by
  refine ⟨T0, X0, e0, fun target kt => ?_⟩
  show Steps p.tables e below (T0.setTop (mkF m 24 #[.val (.int i0), s1, s2, s3, s4, s5, s6, s7, s8, s9, s10, s11, s12, s13, s14, s15, s16, s17] [])) _
  refine XS.iloadN X0.here hx rfl (hb hby at_24) rfl ?_
  show Steps p.tables e below (T0.setTop (mkF m 25 #[.val (.int i0), s1, s2, s3, s4, s5, s6, s7, s8, s9, s10, s11, s12, s13, s14, s15, s16, s17] [(.int i0)])) _
  refine XS.iconst X0.here hx rfl (hb hby at_25) ?_
  show Steps p.tables e below (T0.setTop (mkF m 26 #[.val (.int i0), s1, s2, s3, s4, s5, s6, s7, s8, s9, s10, s11, s12, s13, s14, s15, s16, s17] [(.int (4 : Int32)), (.int i0)])) _
  refine XS.iand X0.here hx rfl (hb hby at_26) rfl ?_
  show Steps p.tables e below (T0.setTop (mkF m 27 #[.val (.int i0), s1, s2, s3, s4, s5, s6, s7, s8, s9, s10, s11, s12, s13, s14, s15, s16, s17] [(.int (i0 &&& (4 : Int32)))])) _
  refine XS.ifNo X0.here hx rfl (hb hby at_27) rfl ((if0 _ _).trans (feq hc27).1) ?_
  show Steps p.tables e below (T0.setTop (mkF m 30 #[.val (.int i0), s1, s2, s3, s4, s5, s6, s7, s8, s9, s10, s11, s12, s13, s14, s15, s16, s17] [])) _
  refine XS.iconst X0.here hx rfl (hb hby at_30) ?_
  show Steps p.tables e below (T0.setTop (mkF m 31 #[.val (.int i0), s1, s2, s3, s4, s5, s6, s7, s8, s9, s10, s11, s12, s13, s14, s15, s16, s17] [(.int (1 : Int32))])) _
  refine XS.goto X0.here hx rfl (pc0 := 31) (pc' := 35) rfl (hb hby at_31) (by decide) (by decide) ?_
  show Steps p.tables e below (T0.setTop (mkF m 35 #[.val (.int i0), s1, s2, s3, s4, s5, s6, s7, s8, s9, s10, s11, s12, s13, s14, s15, s16, s17] [(.int (1 : Int32))])) _
  refine XS.istoreN X0.here hx rfl (hb hby at_35) rfl (l' := #[.val (.int i0), s1, s2, .val (.int (1 : Int32)), s4, s5, s6, s7, s8, s9, s10, s11, s12, s13, s14, s15, s16, s17]) (os0_35 hs3) ?_
  exact kt
theorem sg3 {p : Program} {l : Launch} {e : Env} {R : Room} {s : State} {m : MethodId} {args : Array Value} {below : List Frame} {meth : Method} {c : Code} {T0 : State} {locs : List Loc} {cells slots : Nat} {Z : State} {a0 : Array Value} {h0 : Heap} (i0 : Int32) (s1 : Slot) (s2 : Slot) (s3 : Slot) (s4 : Slot) (s5 : Slot) (s6 : Slot) (s7 : Slot) (s8 : Slot) (s9 : Slot) (s10 : Slot) (s11 : Slot) (s12 : Slot) (s13 : Slot) (s14 : Slot) (s15 : Slot) (s16 : Slot) (s17 : Slot)
    (X0 : Stand p l e R s m args below meth c T0 locs cells slots) (hx : p.tables.exec = Jvm.exec) (hZ : Z.Warmed39 s.vm) (hw : ∀ d ∈ tables_1, d.before a0 Z = true) (hby : c.code = code) (hml : c.maxLocals = 18) (hown : s.vm.findClass "com/example/lease/lease/client/BackoffPauseMillisPinLaw" = some m.cls) (e0 : T0.heap = h0) (hs3 : One s3) :
    ∃ (T' : State), Stand p l e R s m args below meth c T' locs cells slots ∧ T'.heap = h0 ∧
      ∀ target, Steps p.tables e below (T'.setTop (mkF m 36 #[.val (.int i0), s1, s2, .val (.int (own_b (i0 &&& (4 : Int32)))), s4, s5, s6, s7, s8, s9, s10, s11, s12, s13, s14, s15, s16, s17] [])) target → Steps p.tables e below (T0.setTop (mkF m 24 #[.val (.int i0), s1, s2, s3, s4, s5, s6, s7, s8, s9, s10, s11, s12, s13, s14, s15, s16, s17] [])) target := by
  by_cases hc : (i0 &&& (4 : Int32)) = (0 : Int32)
  · rw [show own_b (i0 &&& (4 : Int32)) = 0 from if_pos hc]; exact tn0_24_36_t i0 s1 s2 s3 s4 s5 s6 s7 s8 s9 s10 s11 s12 s13 s14 s15 s16 s17 X0 hx hZ hw hby hml hown e0 hs3 hc
  · rw [show own_b (i0 &&& (4 : Int32)) = 1 from if_neg hc]; exact tn0_24_36_f i0 s1 s2 s3 s4 s5 s6 s7 s8 s9 s10 s11 s12 s13 s14 s15 s16 s17 X0 hx hZ hw hby hml hown e0 hs3 hc
theorem os0_48 {z0 : Value} {s1 : Slot} {s2 : Slot} {s3 : Slot} {s4 : Slot} {s5 : Slot} {s6 : Slot} {s7 : Slot} {s8 : Slot} {s9 : Slot} {s10 : Slot} {s11 : Slot} {s12 : Slot} {s13 : Slot} {s14 : Slot} {s15 : Slot} {s16 : Slot} {s17 : Slot} {v : Int32} (h : One s4) : storeLocals #[.val z0, s1, s2, s3, s4, s5, s6, s7, s8, s9, s10, s11, s12, s13, s14, s15, s16, s17] 4 (.int v) = some #[.val z0, s1, s2, s3, .val (.int v), s5, s6, s7, s8, s9, s10, s11, s12, s13, s14, s15, s16, s17] := by
  rcases h with rfl | ⟨w, rfl, hw⟩
  · rfl
  · cases w <;> first | rfl | (simp [Value.category] at hw)
set_option maxRecDepth 65536 in
set_option maxHeartbeats 40000000 in
theorem tn0_36_50_t {p : Program} {l : Launch} {e : Env} {R : Room} {s : State} {m : MethodId} {args : Array Value} {below : List Frame} {meth : Method} {c : Code} {T0 : State} {locs : List Loc} {cells slots : Nat} {Z : State} {a0 : Array Value} {h0 : Heap} (i0 : Int32) (s1 : Slot) (s2 : Slot) (s3 : Slot) (s4 : Slot) (s5 : Slot) (s6 : Slot) (s7 : Slot) (s8 : Slot) (s9 : Slot) (s10 : Slot) (s11 : Slot) (s12 : Slot) (s13 : Slot) (s14 : Slot) (s15 : Slot) (s16 : Slot) (s17 : Slot)
    (X0 : Stand p l e R s m args below meth c T0 locs cells slots) (hx : p.tables.exec = Jvm.exec) (hZ : Z.Warmed39 s.vm) (hw : ∀ d ∈ tables_1, d.before a0 Z = true) (hby : c.code = code) (hml : c.maxLocals = 18) (hown : s.vm.findClass "com/example/lease/lease/client/BackoffPauseMillisPinLaw" = some m.cls) (e0 : T0.heap = h0) (hs4 : One s4) (hc40 : (i0 &&& (8 : Int32)) = (0 : Int32)) :
    ∃ (T' : State), Stand p l e R s m args below meth c T' locs cells slots ∧ T'.heap = h0 ∧
      ∀ target, Steps p.tables e below (T'.setTop (mkF m 50 #[.val (.int i0), s1, s2, s3, .val (.int (0 : Int32)), s5, s6, s7, s8, s9, s10, s11, s12, s13, s14, s15, s16, s17] [])) target → Steps p.tables e below (T0.setTop (mkF m 36 #[.val (.int i0), s1, s2, s3, s4, s5, s6, s7, s8, s9, s10, s11, s12, s13, s14, s15, s16, s17] [])) target := by
  refine ⟨T0, X0, e0, fun target kt => ?_⟩
  show Steps p.tables e below (T0.setTop (mkF m 36 #[.val (.int i0), s1, s2, s3, s4, s5, s6, s7, s8, s9, s10, s11, s12, s13, s14, s15, s16, s17] [])) _
  refine XS.iloadN X0.here hx rfl (hb hby at_36) rfl ?_
  show Steps p.tables e below (T0.setTop (mkF m 37 #[.val (.int i0), s1, s2, s3, s4, s5, s6, s7, s8, s9, s10, s11, s12, s13, s14, s15, s16, s17] [(.int i0)])) _
  refine XS.bipush X0.here hx rfl (hb hby at_37) ?_
  show Steps p.tables e below (T0.setTop (mkF m 39 #[.val (.int i0), s1, s2, s3, s4, s5, s6, s7, s8, s9, s10, s11, s12, s13, s14, s15, s16, s17] [(.int (8 : Int32)), (.int i0)])) _
  refine XS.iand X0.here hx rfl (hb hby at_39) rfl ?_
  show Steps p.tables e below (T0.setTop (mkF m 40 #[.val (.int i0), s1, s2, s3, s4, s5, s6, s7, s8, s9, s10, s11, s12, s13, s14, s15, s16, s17] [(.int (i0 &&& (8 : Int32)))])) _
  refine XS.ifYes X0.here hx rfl (pc0 := 40) (pc' := 47) rfl (hb hby at_40) rfl ((if0 _ _).trans (teq hc40).1) (by decide) (by decide) ?_
  show Steps p.tables e below (T0.setTop (mkF m 47 #[.val (.int i0), s1, s2, s3, s4, s5, s6, s7, s8, s9, s10, s11, s12, s13, s14, s15, s16, s17] [])) _
  refine XS.iconst X0.here hx rfl (hb hby at_47) ?_
  show Steps p.tables e below (T0.setTop (mkF m 48 #[.val (.int i0), s1, s2, s3, s4, s5, s6, s7, s8, s9, s10, s11, s12, s13, s14, s15, s16, s17] [(.int (0 : Int32))])) _
  refine XS.istore X0.here hx rfl (hb hby at_48) rfl (l' := #[.val (.int i0), s1, s2, s3, .val (.int (0 : Int32)), s5, s6, s7, s8, s9, s10, s11, s12, s13, s14, s15, s16, s17]) (os0_48 hs4) ?_
  exact kt
set_option maxRecDepth 65536 in
set_option maxHeartbeats 40000000 in
theorem tn0_36_50_f {p : Program} {l : Launch} {e : Env} {R : Room} {s : State} {m : MethodId} {args : Array Value} {below : List Frame} {meth : Method} {c : Code} {T0 : State} {locs : List Loc} {cells slots : Nat} {Z : State} {a0 : Array Value} {h0 : Heap} (i0 : Int32) (s1 : Slot) (s2 : Slot) (s3 : Slot) (s4 : Slot) (s5 : Slot) (s6 : Slot) (s7 : Slot) (s8 : Slot) (s9 : Slot) (s10 : Slot) (s11 : Slot) (s12 : Slot) (s13 : Slot) (s14 : Slot) (s15 : Slot) (s16 : Slot) (s17 : Slot)
    (X0 : Stand p l e R s m args below meth c T0 locs cells slots) (hx : p.tables.exec = Jvm.exec) (hZ : Z.Warmed39 s.vm) (hw : ∀ d ∈ tables_1, d.before a0 Z = true) (hby : c.code = code) (hml : c.maxLocals = 18) (hown : s.vm.findClass "com/example/lease/lease/client/BackoffPauseMillisPinLaw" = some m.cls) (e0 : T0.heap = h0) (hs4 : One s4) (hc40 : ¬ ((i0 &&& (8 : Int32)) = (0 : Int32))) :
    ∃ (T' : State), Stand p l e R s m args below meth c T' locs cells slots ∧ T'.heap = h0 ∧
      ∀ target, Steps p.tables e below (T'.setTop (mkF m 50 #[.val (.int i0), s1, s2, s3, .val (.int (1 : Int32)), s5, s6, s7, s8, s9, s10, s11, s12, s13, s14, s15, s16, s17] [])) target → Steps p.tables e below (T0.setTop (mkF m 36 #[.val (.int i0), s1, s2, s3, s4, s5, s6, s7, s8, s9, s10, s11, s12, s13, s14, s15, s16, s17] [])) target := by
  refine ⟨T0, X0, e0, fun target kt => ?_⟩
  show Steps p.tables e below (T0.setTop (mkF m 36 #[.val (.int i0), s1, s2, s3, s4, s5, s6, s7, s8, s9, s10, s11, s12, s13, s14, s15, s16, s17] [])) _
  refine XS.iloadN X0.here hx rfl (hb hby at_36) rfl ?_
  show Steps p.tables e below (T0.setTop (mkF m 37 #[.val (.int i0), s1, s2, s3, s4, s5, s6, s7, s8, s9, s10, s11, s12, s13, s14, s15, s16, s17] [(.int i0)])) _
  refine XS.bipush X0.here hx rfl (hb hby at_37) ?_
  show Steps p.tables e below (T0.setTop (mkF m 39 #[.val (.int i0), s1, s2, s3, s4, s5, s6, s7, s8, s9, s10, s11, s12, s13, s14, s15, s16, s17] [(.int (8 : Int32)), (.int i0)])) _
  refine XS.iand X0.here hx rfl (hb hby at_39) rfl ?_
  show Steps p.tables e below (T0.setTop (mkF m 40 #[.val (.int i0), s1, s2, s3, s4, s5, s6, s7, s8, s9, s10, s11, s12, s13, s14, s15, s16, s17] [(.int (i0 &&& (8 : Int32)))])) _
  refine XS.ifNo X0.here hx rfl (hb hby at_40) rfl ((if0 _ _).trans (feq hc40).1) ?_
  show Steps p.tables e below (T0.setTop (mkF m 43 #[.val (.int i0), s1, s2, s3, s4, s5, s6, s7, s8, s9, s10, s11, s12, s13, s14, s15, s16, s17] [])) _
  refine XS.iconst X0.here hx rfl (hb hby at_43) ?_
  show Steps p.tables e below (T0.setTop (mkF m 44 #[.val (.int i0), s1, s2, s3, s4, s5, s6, s7, s8, s9, s10, s11, s12, s13, s14, s15, s16, s17] [(.int (1 : Int32))])) _
  refine XS.goto X0.here hx rfl (pc0 := 44) (pc' := 48) rfl (hb hby at_44) (by decide) (by decide) ?_
  show Steps p.tables e below (T0.setTop (mkF m 48 #[.val (.int i0), s1, s2, s3, s4, s5, s6, s7, s8, s9, s10, s11, s12, s13, s14, s15, s16, s17] [(.int (1 : Int32))])) _
  refine XS.istore X0.here hx rfl (hb hby at_48) rfl (l' := #[.val (.int i0), s1, s2, s3, .val (.int (1 : Int32)), s5, s6, s7, s8, s9, s10, s11, s12, s13, s14, s15, s16, s17]) (os0_48 hs4) ?_
  exact kt
theorem sg4 {p : Program} {l : Launch} {e : Env} {R : Room} {s : State} {m : MethodId} {args : Array Value} {below : List Frame} {meth : Method} {c : Code} {T0 : State} {locs : List Loc} {cells slots : Nat} {Z : State} {a0 : Array Value} {h0 : Heap} (i0 : Int32) (s1 : Slot) (s2 : Slot) (s3 : Slot) (s4 : Slot) (s5 : Slot) (s6 : Slot) (s7 : Slot) (s8 : Slot) (s9 : Slot) (s10 : Slot) (s11 : Slot) (s12 : Slot) (s13 : Slot) (s14 : Slot) (s15 : Slot) (s16 : Slot) (s17 : Slot)
    (X0 : Stand p l e R s m args below meth c T0 locs cells slots) (hx : p.tables.exec = Jvm.exec) (hZ : Z.Warmed39 s.vm) (hw : ∀ d ∈ tables_1, d.before a0 Z = true) (hby : c.code = code) (hml : c.maxLocals = 18) (hown : s.vm.findClass "com/example/lease/lease/client/BackoffPauseMillisPinLaw" = some m.cls) (e0 : T0.heap = h0) (hs4 : One s4) :
    ∃ (T' : State), Stand p l e R s m args below meth c T' locs cells slots ∧ T'.heap = h0 ∧
      ∀ target, Steps p.tables e below (T'.setTop (mkF m 50 #[.val (.int i0), s1, s2, s3, .val (.int (own_b (i0 &&& (8 : Int32)))), s5, s6, s7, s8, s9, s10, s11, s12, s13, s14, s15, s16, s17] [])) target → Steps p.tables e below (T0.setTop (mkF m 36 #[.val (.int i0), s1, s2, s3, s4, s5, s6, s7, s8, s9, s10, s11, s12, s13, s14, s15, s16, s17] [])) target := by
  by_cases hc : (i0 &&& (8 : Int32)) = (0 : Int32)
  · rw [show own_b (i0 &&& (8 : Int32)) = 0 from if_pos hc]; exact tn0_36_50_t i0 s1 s2 s3 s4 s5 s6 s7 s8 s9 s10 s11 s12 s13 s14 s15 s16 s17 X0 hx hZ hw hby hml hown e0 hs4 hc
  · rw [show own_b (i0 &&& (8 : Int32)) = 1 from if_neg hc]; exact tn0_36_50_f i0 s1 s2 s3 s4 s5 s6 s7 s8 s9 s10 s11 s12 s13 s14 s15 s16 s17 X0 hx hZ hw hby hml hown e0 hs4 hc
theorem pd_0_1 : parseMethodDescriptor "()J" = some ⟨[], some .long⟩ := by decide +kernel
set_option maxRecDepth 65536 in
set_option maxHeartbeats 40000000 in
theorem tn0_59_75_t {p : Program} {l : Launch} {e : Env} {s : State} {m : MethodId} {args : Array Value} {below : List Frame} {meth : Method} {c : Code} {T0 : State} {locs : List Loc} {Z : State} {a0 : Array Value} {h0 : Heap} {n0 : Nat} (w : Int32) (s0 : Slot) (i1 : Int32) (s2 : Slot) (s3 : Slot) (s4 : Slot) (o5 : Addr) (s8 : Slot) (s9 : Slot) (s10 : Slot) (s11 : Slot) (s12 : Slot) (s13 : Slot) (s14 : Slot) (s15 : Slot) (s16 : Slot) (s17 : Slot)
    (X0 : Stand p l e room_1 s m args below meth c T0 locs 1 1) (hx : p.tables.exec = Jvm.exec) (hZ : Z.Warmed39 s.vm) (hw : ∀ d ∈ tables_1, d.before a0 Z = true) (hby : c.code = code) (hml : c.maxLocals = 18) (hown : s.vm.findClass "com/example/lease/lease/client/BackoffPauseMillisPinLaw" = some m.cls) (e0 : T0.heap = h0) (E_o5 : Exa Z h0 o5 "com/example/lease/lease/client/Backoff") (N0 : Fr n0 locs) (Z0 : n0 ≤ h0.size) (g_o5 : n0 ≤ o5) (F_o5 : Fld Z h0 o5 "com/example/lease/lease/client/Backoff" "failing" "Z" (.int w)) (hc60 : i1 = (0 : Int32)) :
    ∃ (T' : State) (h' : Heap) (locs' : List Loc), Stand p l e room_1 s m args below meth c T' locs' 1 1 ∧ T'.heap = h' ∧ Fr n0 locs' ∧ n0 ≤ h'.size ∧ Exa Z h' o5 "com/example/lease/lease/client/Backoff" ∧ Fld Z h' o5 "com/example/lease/lease/client/Backoff" "failing" "Z" (.int 1) ∧
      ∀ target, Steps p.tables e below (T'.setTop (mkF m 75 #[s0, .val (.int i1), s2, s3, s4, .val (.ref o5), .val (.long (own_ms w)), .second, s8, s9, s10, s11, s12, s13, s14, s15, s16, s17] [])) target → Steps p.tables e below (T0.setTop (mkF m 59 #[s0, .val (.int i1), s2, s3, s4, .val (.ref o5), .unset, .unset, s8, s9, s10, s11, s12, s13, s14, s15, s16, s17] [])) target := by
  obtain ⟨cq2, kq2, q2a, q2b, q2c⟩ := isOf hZ e0 E_o5
  obtain ⟨_, _, ⟨T2, L2, k2, n2⟩, -, X2, ⟨Lc2, hQ2, l2, y2, z2⟩, st2⟩ := X0.virtualBack hx (y := (⟨"com/example/lease/lease/client/Backoff", "pauseMillis", "()J"⟩ : MethodName)) (z := (⟨"com/example/lease/lease/client/Backoff", "pauseMillis", "()J"⟩ : MethodName)) hown (mvT hZ (hw _ (List.mem_of_getElem? (i := 9) rfl))) (mvT hZ (hw _ (List.mem_of_getElem? (i := 10) rfl))) (notFace_of_selects (args := #[]) (mvT hZ (hw _ (List.mem_of_getElem? (i := 12) rfl)))) (mvT hZ (hw _ (List.mem_of_getElem? (i := 12) rfl))) (mvT hZ (hw _ (List.mem_of_getElem? (i := 11) rfl))) (by decide) (backOf (W := 0) (rm3 l Z a0 hw [] o5 w h0 n0 Z0 F_o5 E_o5 g_o5) hZ (hw _ (List.mem_of_getElem? (i := 13) rfl)) (hw _ (List.mem_of_getElem? (i := 2) rfl)) (by decide) (by decide)) q2a q2c (g := (mkF m 70 #[s0, .val (.int i1), s2, s3, s4, .val (.ref o5), .unset, .unset, s8, s9, s10, s11, s12, s13, s14, s15, s16, s17] [(.ref o5)])) rfl (by rw [hml]; rfl) (Steps.refl _) (argsL := []) (rest := []) (lenOf pd_0_1 rfl) rfl (by show 2 * 0 + _ ≤ _; exact Nat.le_of_eq rfl) (hb hby at_70) (fun _ _ => ⟨rfl, e0, (by decide : 1 + 0 ≤ _), (by decide : 1 + 0 ≤ _)⟩)
  dsimp only [Pt.U, Pt.locs, Pt.cells, Pt.slots] at X2 l2 y2 z2 st2 hQ2
  subst l2 y2 z2
  obtain ⟨rfl, N2q, K2, E2, F2⟩ := hQ2
  have N2 := Fr.app N0 N2q
  have Z2 : n0 ≤ T2.heap.size := Nat.le_trans Z0 K2.1
  refine ⟨T2, _, _, X2, rfl, N2, Z2, E2, F2, fun target kt => ?_⟩
  show Steps p.tables e below (T0.setTop (mkF m 59 #[s0, .val (.int i1), s2, s3, s4, .val (.ref o5), .unset, .unset, s8, s9, s10, s11, s12, s13, s14, s15, s16, s17] [])) _
  refine XS.iloadN X0.here hx rfl (hb hby at_59) rfl ?_
  show Steps p.tables e below (T0.setTop (mkF m 60 #[s0, .val (.int i1), s2, s3, s4, .val (.ref o5), .unset, .unset, s8, s9, s10, s11, s12, s13, s14, s15, s16, s17] [(.int i1)])) _
  refine XS.ifYes X0.here hx rfl (pc0 := 60) (pc' := 68) rfl (hb hby at_60) rfl ((if0 _ _).trans (teq hc60).1) (by decide) (by decide) ?_
  show Steps p.tables e below (T0.setTop (mkF m 68 #[s0, .val (.int i1), s2, s3, s4, .val (.ref o5), .unset, .unset, s8, s9, s10, s11, s12, s13, s14, s15, s16, s17] [])) _
  refine XS.aload X0.here hx rfl (hb hby at_68) rfl rfl ?_
  show Steps p.tables e below (T0.setTop (mkF m 70 #[s0, .val (.int i1), s2, s3, s4, .val (.ref o5), .unset, .unset, s8, s9, s10, s11, s12, s13, s14, s15, s16, s17] [(.ref o5)])) _
  refine st2.trans ?_
  show Steps p.tables e below (T2.setTop (mkF m 73 #[s0, .val (.int i1), s2, s3, s4, .val (.ref o5), .unset, .unset, s8, s9, s10, s11, s12, s13, s14, s15, s16, s17] [(.long (own_ms w))])) _
  refine XS.lstore X2.here hx rfl (hb hby at_73) rfl (l' := #[s0, .val (.int i1), s2, s3, s4, .val (.ref o5), .val (.long (own_ms w)), .second, s8, s9, s10, s11, s12, s13, s14, s15, s16, s17]) rfl ?_
  exact kt
theorem pd_0_0 : parseMethodDescriptor "()V" = some ⟨[], none⟩ := by decide +kernel
set_option maxRecDepth 65536 in
set_option maxHeartbeats 40000000 in
theorem tn0_59_75_f {p : Program} {l : Launch} {e : Env} {s : State} {m : MethodId} {args : Array Value} {below : List Frame} {meth : Method} {c : Code} {T0 : State} {locs : List Loc} {Z : State} {a0 : Array Value} {h0 : Heap} {n0 : Nat} (w : Int32) (s0 : Slot) (i1 : Int32) (s2 : Slot) (s3 : Slot) (s4 : Slot) (o5 : Addr) (s8 : Slot) (s9 : Slot) (s10 : Slot) (s11 : Slot) (s12 : Slot) (s13 : Slot) (s14 : Slot) (s15 : Slot) (s16 : Slot) (s17 : Slot)
    (X0 : Stand p l e room_1 s m args below meth c T0 locs 1 1) (hx : p.tables.exec = Jvm.exec) (hZ : Z.Warmed39 s.vm) (hw : ∀ d ∈ tables_1, d.before a0 Z = true) (hby : c.code = code) (hml : c.maxLocals = 18) (hown : s.vm.findClass "com/example/lease/lease/client/BackoffPauseMillisPinLaw" = some m.cls) (e0 : T0.heap = h0) (E_o5 : Exa Z h0 o5 "com/example/lease/lease/client/Backoff") (N0 : Fr n0 locs) (Z0 : n0 ≤ h0.size) (g_o5 : n0 ≤ o5) (F_o5 : Fld Z h0 o5 "com/example/lease/lease/client/Backoff" "failing" "Z" (.int w)) (hc60 : ¬ (i1 = (0 : Int32))) :
    ∃ (T' : State) (h' : Heap) (locs' : List Loc), Stand p l e room_1 s m args below meth c T' locs' 1 1 ∧ T'.heap = h' ∧ Fr n0 locs' ∧ n0 ≤ h'.size ∧ Exa Z h' o5 "com/example/lease/lease/client/Backoff" ∧ Fld Z h' o5 "com/example/lease/lease/client/Backoff" "failing" "Z" (.int 1) ∧
      ∀ target, Steps p.tables e below (T'.setTop (mkF m 75 #[s0, .val (.int i1), s2, s3, s4, .val (.ref o5), .val (.long (own_ms (0 : Int32))), .second, s8, s9, s10, s11, s12, s13, s14, s15, s16, s17] [])) target → Steps p.tables e below (T0.setTop (mkF m 59 #[s0, .val (.int i1), s2, s3, s4, .val (.ref o5), .unset, .unset, s8, s9, s10, s11, s12, s13, s14, s15, s16, s17] [])) target := by
  obtain ⟨cq2, kq2, q2a, q2b, q2c⟩ := isOf hZ e0 E_o5
  obtain ⟨_, _, ⟨T2, L2, k2, n2⟩, -, X2, ⟨Lc2, hQ2, l2, y2, z2⟩, st2⟩ := X0.virtualBack hx (y := (⟨"com/example/lease/lease/client/Backoff", "reset", "()V"⟩ : MethodName)) (z := (⟨"com/example/lease/lease/client/Backoff", "reset", "()V"⟩ : MethodName)) hown (mvT hZ (hw _ (List.mem_of_getElem? (i := 20) rfl))) (mvT hZ (hw _ (List.mem_of_getElem? (i := 21) rfl))) (notFace_of_selects (args := #[]) (mvT hZ (hw _ (List.mem_of_getElem? (i := 23) rfl)))) (mvT hZ (hw _ (List.mem_of_getElem? (i := 23) rfl))) (mvT hZ (hw _ (List.mem_of_getElem? (i := 22) rfl))) (by decide) (backOf (W := 0) (rm4 l Z a0 hw [] o5 _ h0 n0 Z0 E_o5 F_o5 g_o5) hZ (hw _ (List.mem_of_getElem? (i := 24) rfl)) (hw _ (List.mem_of_getElem? (i := 2) rfl)) (by decide) (by decide)) q2a q2c (g := (mkF m 65 #[s0, .val (.int i1), s2, s3, s4, .val (.ref o5), .unset, .unset, s8, s9, s10, s11, s12, s13, s14, s15, s16, s17] [(.ref o5)])) rfl (by rw [hml]; rfl) (Steps.refl _) (argsL := []) (rest := []) (lenOf pd_0_0 rfl) rfl (by show 2 * 0 + _ ≤ _; exact Nat.le_of_eq rfl) (hb hby at_65) (fun _ _ => ⟨rfl, e0, (by decide : 1 + 0 ≤ _), (by decide : 1 + 0 ≤ _)⟩)
  dsimp only [Pt.U, Pt.locs, Pt.cells, Pt.slots] at X2 l2 y2 z2 st2 hQ2
  subst l2 y2 z2
  obtain ⟨rfl, N2q, K2, E2, F2⟩ := hQ2
  have N2 := Fr.app N0 N2q
  have Z2 : n0 ≤ T2.heap.size := Nat.le_trans Z0 K2.1
  obtain ⟨cq3, kq3, q3a, q3b, q3c⟩ := isOf hZ rfl E2
  obtain ⟨_, _, ⟨T3, L3, k3, n3⟩, -, X3, ⟨Lc3, hQ3, l3, y3, z3⟩, st3⟩ := X2.virtualBack hx (y := (⟨"com/example/lease/lease/client/Backoff", "pauseMillis", "()J"⟩ : MethodName)) (z := (⟨"com/example/lease/lease/client/Backoff", "pauseMillis", "()J"⟩ : MethodName)) hown (mvT hZ (hw _ (List.mem_of_getElem? (i := 9) rfl))) (mvT hZ (hw _ (List.mem_of_getElem? (i := 10) rfl))) (notFace_of_selects (args := #[]) (mvT hZ (hw _ (List.mem_of_getElem? (i := 12) rfl)))) (mvT hZ (hw _ (List.mem_of_getElem? (i := 12) rfl))) (mvT hZ (hw _ (List.mem_of_getElem? (i := 11) rfl))) (by decide) (backOf (W := 0) (rm3 l Z a0 hw [] o5 (0 : Int32) T2.heap n0 Z2 F2 E2 g_o5) hZ (hw _ (List.mem_of_getElem? (i := 13) rfl)) (hw _ (List.mem_of_getElem? (i := 2) rfl)) (by decide) (by decide)) q3a q3c (g := (mkF m 70 #[s0, .val (.int i1), s2, s3, s4, .val (.ref o5), .unset, .unset, s8, s9, s10, s11, s12, s13, s14, s15, s16, s17] [(.ref o5)])) rfl (by rw [hml]; rfl) (Steps.refl _) (argsL := []) (rest := []) (lenOf pd_0_1 rfl) rfl (by show 2 * 0 + _ ≤ _; exact Nat.le_of_eq rfl) (hb hby at_70) (fun _ _ => ⟨rfl, rfl, (by decide : 1 + 0 ≤ _), (by decide : 1 + 0 ≤ _)⟩)
  dsimp only [Pt.U, Pt.locs, Pt.cells, Pt.slots] at X3 l3 y3 z3 st3 hQ3
  subst l3 y3 z3
  obtain ⟨rfl, N3q, K3, E3, F3⟩ := hQ3
  have N3 := Fr.app N2 N3q
  have Z3 : n0 ≤ T3.heap.size := Nat.le_trans Z2 K3.1
  refine ⟨T3, _, _, X3, rfl, N3, Z3, E3, F3, fun target kt => ?_⟩
  show Steps p.tables e below (T0.setTop (mkF m 59 #[s0, .val (.int i1), s2, s3, s4, .val (.ref o5), .unset, .unset, s8, s9, s10, s11, s12, s13, s14, s15, s16, s17] [])) _
  refine XS.iloadN X0.here hx rfl (hb hby at_59) rfl ?_
  show Steps p.tables e below (T0.setTop (mkF m 60 #[s0, .val (.int i1), s2, s3, s4, .val (.ref o5), .unset, .unset, s8, s9, s10, s11, s12, s13, s14, s15, s16, s17] [(.int i1)])) _
  refine XS.ifNo X0.here hx rfl (hb hby at_60) rfl ((if0 _ _).trans (feq hc60).1) ?_
  show Steps p.tables e below (T0.setTop (mkF m 63 #[s0, .val (.int i1), s2, s3, s4, .val (.ref o5), .unset, .unset, s8, s9, s10, s11, s12, s13, s14, s15, s16, s17] [])) _
  refine XS.aload X0.here hx rfl (hb hby at_63) rfl rfl ?_
  show Steps p.tables e below (T0.setTop (mkF m 65 #[s0, .val (.int i1), s2, s3, s4, .val (.ref o5), .unset, .unset, s8, s9, s10, s11, s12, s13, s14, s15, s16, s17] [(.ref o5)])) _
  refine st2.trans ?_
  show Steps p.tables e below (T2.setTop (mkF m 68 #[s0, .val (.int i1), s2, s3, s4, .val (.ref o5), .unset, .unset, s8, s9, s10, s11, s12, s13, s14, s15, s16, s17] [])) _
  refine XS.aload X2.here hx rfl (hb hby at_68) rfl rfl ?_
  show Steps p.tables e below (T2.setTop (mkF m 70 #[s0, .val (.int i1), s2, s3, s4, .val (.ref o5), .unset, .unset, s8, s9, s10, s11, s12, s13, s14, s15, s16, s17] [(.ref o5)])) _
  refine st3.trans ?_
  show Steps p.tables e below (T3.setTop (mkF m 73 #[s0, .val (.int i1), s2, s3, s4, .val (.ref o5), .unset, .unset, s8, s9, s10, s11, s12, s13, s14, s15, s16, s17] [(.long (own_ms (0 : Int32)))])) _
  refine XS.lstore X3.here hx rfl (hb hby at_73) rfl (l' := #[s0, .val (.int i1), s2, s3, s4, .val (.ref o5), .val (.long (own_ms (0 : Int32))), .second, s8, s9, s10, s11, s12, s13, s14, s15, s16, s17]) rfl ?_
  exact kt
theorem stg1 {p : Program} {l : Launch} {e : Env} {s : State} {m : MethodId} {args : Array Value} {below : List Frame} {meth : Method} {c : Code} {T0 : State} {locs : List Loc} {Z : State} {a0 : Array Value} {h0 : Heap} {n0 : Nat} (w : Int32) (s0 : Slot) (i1 : Int32) (s2 : Slot) (s3 : Slot) (s4 : Slot) (o5 : Addr) (s8 : Slot) (s9 : Slot) (s10 : Slot) (s11 : Slot) (s12 : Slot) (s13 : Slot) (s14 : Slot) (s15 : Slot) (s16 : Slot) (s17 : Slot)
    (X0 : Stand p l e room_1 s m args below meth c T0 locs 1 1) (hx : p.tables.exec = Jvm.exec) (hZ : Z.Warmed39 s.vm) (hw : ∀ d ∈ tables_1, d.before a0 Z = true) (hby : c.code = code) (hml : c.maxLocals = 18) (hown : s.vm.findClass "com/example/lease/lease/client/BackoffPauseMillisPinLaw" = some m.cls) (e0 : T0.heap = h0) (E_o5 : Exa Z h0 o5 "com/example/lease/lease/client/Backoff") (N0 : Fr n0 locs) (Z0 : n0 ≤ h0.size) (g_o5 : n0 ≤ o5) (F_o5 : Fld Z h0 o5 "com/example/lease/lease/client/Backoff" "failing" "Z" (.int w)) :
    ∃ (T' : State) (h' : Heap) (locs' : List Loc), Stand p l e room_1 s m args below meth c T' locs' 1 1 ∧ T'.heap = h' ∧ Fr n0 locs' ∧ n0 ≤ h'.size ∧ Exa Z h' o5 "com/example/lease/lease/client/Backoff" ∧ Fld Z h' o5 "com/example/lease/lease/client/Backoff" "failing" "Z" (.int 1) ∧
      ∀ target, Steps p.tables e below (T'.setTop (mkF m 75 #[s0, .val (.int i1), s2, s3, s4, .val (.ref o5), .val (.long (own_p i1 w)), .second, s8, s9, s10, s11, s12, s13, s14, s15, s16, s17] [])) target → Steps p.tables e below (T0.setTop (mkF m 59 #[s0, .val (.int i1), s2, s3, s4, .val (.ref o5), .unset, .unset, s8, s9, s10, s11, s12, s13, s14, s15, s16, s17] [])) target := by
  by_cases hc : i1 = (0 : Int32)
  · rw [show own_p i1 w = own_ms w from if_pos hc]; exact tn0_59_75_t w s0 i1 s2 s3 s4 o5 s8 s9 s10 s11 s12 s13 s14 s15 s16 s17 X0 hx hZ hw hby hml hown e0 E_o5 N0 Z0 g_o5 F_o5 hc
  · rw [show own_p i1 w = own_ms 0 from if_neg hc]; exact tn0_59_75_f w s0 i1 s2 s3 s4 o5 s8 s9 s10 s11 s12 s13 s14 s15 s16 s17 X0 hx hZ hw hby hml hown e0 E_o5 N0 Z0 g_o5 F_o5 hc
set_option maxRecDepth 65536 in
set_option maxHeartbeats 40000000 in
theorem tn0_75_91_t {p : Program} {l : Launch} {e : Env} {s : State} {m : MethodId} {args : Array Value} {below : List Frame} {meth : Method} {c : Code} {T0 : State} {locs : List Loc} {Z : State} {a0 : Array Value} {h0 : Heap} {n0 : Nat} (w : Int32) (s0 : Slot) (s1 : Slot) (i2 : Int32) (s3 : Slot) (s4 : Slot) (o5 : Addr) (s6 : Slot) (s7 : Slot) (s10 : Slot) (s11 : Slot) (s12 : Slot) (s13 : Slot) (s14 : Slot) (s15 : Slot) (s16 : Slot) (s17 : Slot)
    (X0 : Stand p l e room_1 s m args below meth c T0 locs 1 1) (hx : p.tables.exec = Jvm.exec) (hZ : Z.Warmed39 s.vm) (hw : ∀ d ∈ tables_1, d.before a0 Z = true) (hby : c.code = code) (hml : c.maxLocals = 18) (hown : s.vm.findClass "com/example/lease/lease/client/BackoffPauseMillisPinLaw" = some m.cls) (e0 : T0.heap = h0) (E_o5 : Exa Z h0 o5 "com/example/lease/lease/client/Backoff") (N0 : Fr n0 locs) (Z0 : n0 ≤ h0.size) (g_o5 : n0 ≤ o5) (F_o5 : Fld Z h0 o5 "com/example/lease/lease/client/Backoff" "failing" "Z" (.int w)) (hc76 : i2 = (0 : Int32)) :
    ∃ (T' : State) (h' : Heap) (locs' : List Loc), Stand p l e room_1 s m args below meth c T' locs' 1 1 ∧ T'.heap = h' ∧ Fr n0 locs' ∧ n0 ≤ h'.size ∧ Exa Z h' o5 "com/example/lease/lease/client/Backoff" ∧ Fld Z h' o5 "com/example/lease/lease/client/Backoff" "failing" "Z" (.int 1) ∧
      ∀ target, Steps p.tables e below (T'.setTop (mkF m 91 #[s0, s1, .val (.int i2), s3, s4, .val (.ref o5), s6, s7, .val (.long (own_ms w)), .second, s10, s11, s12, s13, s14, s15, s16, s17] [])) target → Steps p.tables e below (T0.setTop (mkF m 75 #[s0, s1, .val (.int i2), s3, s4, .val (.ref o5), s6, s7, .unset, .unset, s10, s11, s12, s13, s14, s15, s16, s17] [])) target := by
  obtain ⟨cq2, kq2, q2a, q2b, q2c⟩ := isOf hZ e0 E_o5
  obtain ⟨_, _, ⟨T2, L2, k2, n2⟩, -, X2, ⟨Lc2, hQ2, l2, y2, z2⟩, st2⟩ := X0.virtualBack hx (y := (⟨"com/example/lease/lease/client/Backoff", "pauseMillis", "()J"⟩ : MethodName)) (z := (⟨"com/example/lease/lease/client/Backoff", "pauseMillis", "()J"⟩ : MethodName)) hown (mvT hZ (hw _ (List.mem_of_getElem? (i := 9) rfl))) (mvT hZ (hw _ (List.mem_of_getElem? (i := 10) rfl))) (notFace_of_selects (args := #[]) (mvT hZ (hw _ (List.mem_of_getElem? (i := 12) rfl)))) (mvT hZ (hw _ (List.mem_of_getElem? (i := 12) rfl))) (mvT hZ (hw _ (List.mem_of_getElem? (i := 11) rfl))) (by decide) (backOf (W := 0) (rm3 l Z a0 hw [] o5 w h0 n0 Z0 F_o5 E_o5 g_o5) hZ (hw _ (List.mem_of_getElem? (i := 13) rfl)) (hw _ (List.mem_of_getElem? (i := 2) rfl)) (by decide) (by decide)) q2a q2c (g := (mkF m 86 #[s0, s1, .val (.int i2), s3, s4, .val (.ref o5), s6, s7, .unset, .unset, s10, s11, s12, s13, s14, s15, s16, s17] [(.ref o5)])) rfl (by rw [hml]; rfl) (Steps.refl _) (argsL := []) (rest := []) (lenOf pd_0_1 rfl) rfl (by show 2 * 0 + _ ≤ _; exact Nat.le_of_eq rfl) (hb hby at_86) (fun _ _ => ⟨rfl, e0, (by decide : 1 + 0 ≤ _), (by decide : 1 + 0 ≤ _)⟩)
  dsimp only [Pt.U, Pt.locs, Pt.cells, Pt.slots] at X2 l2 y2 z2 st2 hQ2
  subst l2 y2 z2
  obtain ⟨rfl, N2q, K2, E2, F2⟩ := hQ2
  have N2 := Fr.app N0 N2q
  have Z2 : n0 ≤ T2.heap.size := Nat.le_trans Z0 K2.1
  refine ⟨T2, _, _, X2, rfl, N2, Z2, E2, F2, fun target kt => ?_⟩
  show Steps p.tables e below (T0.setTop (mkF m 75 #[s0, s1, .val (.int i2), s3, s4, .val (.ref o5), s6, s7, .unset, .unset, s10, s11, s12, s13, s14, s15, s16, s17] [])) _
  refine XS.iloadN X0.here hx rfl (hb hby at_75) rfl ?_
  show Steps p.tables e below (T0.setTop (mkF m 76 #[s0, s1, .val (.int i2), s3, s4, .val (.ref o5), s6, s7, .unset, .unset, s10, s11, s12, s13, s14, s15, s16, s17] [(.int i2)])) _
  refine XS.ifYes X0.here hx rfl (pc0 := 76) (pc' := 84) rfl (hb hby at_76) rfl ((if0 _ _).trans (teq hc76).1) (by decide) (by decide) ?_
  show Steps p.tables e below (T0.setTop (mkF m 84 #[s0, s1, .val (.int i2), s3, s4, .val (.ref o5), s6, s7, .unset, .unset, s10, s11, s12, s13, s14, s15, s16, s17] [])) _
  refine XS.aload X0.here hx rfl (hb hby at_84) rfl rfl ?_
  show Steps p.tables e below (T0.setTop (mkF m 86 #[s0, s1, .val (.int i2), s3, s4, .val (.ref o5), s6, s7, .unset, .unset, s10, s11, s12, s13, s14, s15, s16, s17] [(.ref o5)])) _
  refine st2.trans ?_
  show Steps p.tables e below (T2.setTop (mkF m 89 #[s0, s1, .val (.int i2), s3, s4, .val (.ref o5), s6, s7, .unset, .unset, s10, s11, s12, s13, s14, s15, s16, s17] [(.long (own_ms w))])) _
  refine XS.lstore X2.here hx rfl (hb hby at_89) rfl (l' := #[s0, s1, .val (.int i2), s3, s4, .val (.ref o5), s6, s7, .val (.long (own_ms w)), .second, s10, s11, s12, s13, s14, s15, s16, s17]) rfl ?_
  exact kt
set_option maxRecDepth 65536 in
set_option maxHeartbeats 40000000 in
theorem tn0_75_91_f {p : Program} {l : Launch} {e : Env} {s : State} {m : MethodId} {args : Array Value} {below : List Frame} {meth : Method} {c : Code} {T0 : State} {locs : List Loc} {Z : State} {a0 : Array Value} {h0 : Heap} {n0 : Nat} (w : Int32) (s0 : Slot) (s1 : Slot) (i2 : Int32) (s3 : Slot) (s4 : Slot) (o5 : Addr) (s6 : Slot) (s7 : Slot) (s10 : Slot) (s11 : Slot) (s12 : Slot) (s13 : Slot) (s14 : Slot) (s15 : Slot) (s16 : Slot) (s17 : Slot)
    (X0 : Stand p l e room_1 s m args below meth c T0 locs 1 1) (hx : p.tables.exec = Jvm.exec) (hZ : Z.Warmed39 s.vm) (hw : ∀ d ∈ tables_1, d.before a0 Z = true) (hby : c.code = code) (hml : c.maxLocals = 18) (hown : s.vm.findClass "com/example/lease/lease/client/BackoffPauseMillisPinLaw" = some m.cls) (e0 : T0.heap = h0) (E_o5 : Exa Z h0 o5 "com/example/lease/lease/client/Backoff") (N0 : Fr n0 locs) (Z0 : n0 ≤ h0.size) (g_o5 : n0 ≤ o5) (F_o5 : Fld Z h0 o5 "com/example/lease/lease/client/Backoff" "failing" "Z" (.int w)) (hc76 : ¬ (i2 = (0 : Int32))) :
    ∃ (T' : State) (h' : Heap) (locs' : List Loc), Stand p l e room_1 s m args below meth c T' locs' 1 1 ∧ T'.heap = h' ∧ Fr n0 locs' ∧ n0 ≤ h'.size ∧ Exa Z h' o5 "com/example/lease/lease/client/Backoff" ∧ Fld Z h' o5 "com/example/lease/lease/client/Backoff" "failing" "Z" (.int 1) ∧
      ∀ target, Steps p.tables e below (T'.setTop (mkF m 91 #[s0, s1, .val (.int i2), s3, s4, .val (.ref o5), s6, s7, .val (.long (own_ms (0 : Int32))), .second, s10, s11, s12, s13, s14, s15, s16, s17] [])) target → Steps p.tables e below (T0.setTop (mkF m 75 #[s0, s1, .val (.int i2), s3, s4, .val (.ref o5), s6, s7, .unset, .unset, s10, s11, s12, s13, s14, s15, s16, s17] [])) target := by
  obtain ⟨cq2, kq2, q2a, q2b, q2c⟩ := isOf hZ e0 E_o5
  obtain ⟨_, _, ⟨T2, L2, k2, n2⟩, -, X2, ⟨Lc2, hQ2, l2, y2, z2⟩, st2⟩ := X0.virtualBack hx (y := (⟨"com/example/lease/lease/client/Backoff", "reset", "()V"⟩ : MethodName)) (z := (⟨"com/example/lease/lease/client/Backoff", "reset", "()V"⟩ : MethodName)) hown (mvT hZ (hw _ (List.mem_of_getElem? (i := 20) rfl))) (mvT hZ (hw _ (List.mem_of_getElem? (i := 21) rfl))) (notFace_of_selects (args := #[]) (mvT hZ (hw _ (List.mem_of_getElem? (i := 23) rfl)))) (mvT hZ (hw _ (List.mem_of_getElem? (i := 23) rfl))) (mvT hZ (hw _ (List.mem_of_getElem? (i := 22) rfl))) (by decide) (backOf (W := 0) (rm4 l Z a0 hw [] o5 _ h0 n0 Z0 E_o5 F_o5 g_o5) hZ (hw _ (List.mem_of_getElem? (i := 24) rfl)) (hw _ (List.mem_of_getElem? (i := 2) rfl)) (by decide) (by decide)) q2a q2c (g := (mkF m 81 #[s0, s1, .val (.int i2), s3, s4, .val (.ref o5), s6, s7, .unset, .unset, s10, s11, s12, s13, s14, s15, s16, s17] [(.ref o5)])) rfl (by rw [hml]; rfl) (Steps.refl _) (argsL := []) (rest := []) (lenOf pd_0_0 rfl) rfl (by show 2 * 0 + _ ≤ _; exact Nat.le_of_eq rfl) (hb hby at_81) (fun _ _ => ⟨rfl, e0, (by decide : 1 + 0 ≤ _), (by decide : 1 + 0 ≤ _)⟩)
  dsimp only [Pt.U, Pt.locs, Pt.cells, Pt.slots] at X2 l2 y2 z2 st2 hQ2
  subst l2 y2 z2
  obtain ⟨rfl, N2q, K2, E2, F2⟩ := hQ2
  have N2 := Fr.app N0 N2q
  have Z2 : n0 ≤ T2.heap.size := Nat.le_trans Z0 K2.1
  obtain ⟨cq3, kq3, q3a, q3b, q3c⟩ := isOf hZ rfl E2
  obtain ⟨_, _, ⟨T3, L3, k3, n3⟩, -, X3, ⟨Lc3, hQ3, l3, y3, z3⟩, st3⟩ := X2.virtualBack hx (y := (⟨"com/example/lease/lease/client/Backoff", "pauseMillis", "()J"⟩ : MethodName)) (z := (⟨"com/example/lease/lease/client/Backoff", "pauseMillis", "()J"⟩ : MethodName)) hown (mvT hZ (hw _ (List.mem_of_getElem? (i := 9) rfl))) (mvT hZ (hw _ (List.mem_of_getElem? (i := 10) rfl))) (notFace_of_selects (args := #[]) (mvT hZ (hw _ (List.mem_of_getElem? (i := 12) rfl)))) (mvT hZ (hw _ (List.mem_of_getElem? (i := 12) rfl))) (mvT hZ (hw _ (List.mem_of_getElem? (i := 11) rfl))) (by decide) (backOf (W := 0) (rm3 l Z a0 hw [] o5 (0 : Int32) T2.heap n0 Z2 F2 E2 g_o5) hZ (hw _ (List.mem_of_getElem? (i := 13) rfl)) (hw _ (List.mem_of_getElem? (i := 2) rfl)) (by decide) (by decide)) q3a q3c (g := (mkF m 86 #[s0, s1, .val (.int i2), s3, s4, .val (.ref o5), s6, s7, .unset, .unset, s10, s11, s12, s13, s14, s15, s16, s17] [(.ref o5)])) rfl (by rw [hml]; rfl) (Steps.refl _) (argsL := []) (rest := []) (lenOf pd_0_1 rfl) rfl (by show 2 * 0 + _ ≤ _; exact Nat.le_of_eq rfl) (hb hby at_86) (fun _ _ => ⟨rfl, rfl, (by decide : 1 + 0 ≤ _), (by decide : 1 + 0 ≤ _)⟩)
  dsimp only [Pt.U, Pt.locs, Pt.cells, Pt.slots] at X3 l3 y3 z3 st3 hQ3
  subst l3 y3 z3
  obtain ⟨rfl, N3q, K3, E3, F3⟩ := hQ3
  have N3 := Fr.app N2 N3q
  have Z3 : n0 ≤ T3.heap.size := Nat.le_trans Z2 K3.1
  refine ⟨T3, _, _, X3, rfl, N3, Z3, E3, F3, fun target kt => ?_⟩
  show Steps p.tables e below (T0.setTop (mkF m 75 #[s0, s1, .val (.int i2), s3, s4, .val (.ref o5), s6, s7, .unset, .unset, s10, s11, s12, s13, s14, s15, s16, s17] [])) _
  refine XS.iloadN X0.here hx rfl (hb hby at_75) rfl ?_
  show Steps p.tables e below (T0.setTop (mkF m 76 #[s0, s1, .val (.int i2), s3, s4, .val (.ref o5), s6, s7, .unset, .unset, s10, s11, s12, s13, s14, s15, s16, s17] [(.int i2)])) _
  refine XS.ifNo X0.here hx rfl (hb hby at_76) rfl ((if0 _ _).trans (feq hc76).1) ?_
  show Steps p.tables e below (T0.setTop (mkF m 79 #[s0, s1, .val (.int i2), s3, s4, .val (.ref o5), s6, s7, .unset, .unset, s10, s11, s12, s13, s14, s15, s16, s17] [])) _
  refine XS.aload X0.here hx rfl (hb hby at_79) rfl rfl ?_
  show Steps p.tables e below (T0.setTop (mkF m 81 #[s0, s1, .val (.int i2), s3, s4, .val (.ref o5), s6, s7, .unset, .unset, s10, s11, s12, s13, s14, s15, s16, s17] [(.ref o5)])) _
  refine st2.trans ?_
  show Steps p.tables e below (T2.setTop (mkF m 84 #[s0, s1, .val (.int i2), s3, s4, .val (.ref o5), s6, s7, .unset, .unset, s10, s11, s12, s13, s14, s15, s16, s17] [])) _
  refine XS.aload X2.here hx rfl (hb hby at_84) rfl rfl ?_
  show Steps p.tables e below (T2.setTop (mkF m 86 #[s0, s1, .val (.int i2), s3, s4, .val (.ref o5), s6, s7, .unset, .unset, s10, s11, s12, s13, s14, s15, s16, s17] [(.ref o5)])) _
  refine st3.trans ?_
  show Steps p.tables e below (T3.setTop (mkF m 89 #[s0, s1, .val (.int i2), s3, s4, .val (.ref o5), s6, s7, .unset, .unset, s10, s11, s12, s13, s14, s15, s16, s17] [(.long (own_ms (0 : Int32)))])) _
  refine XS.lstore X3.here hx rfl (hb hby at_89) rfl (l' := #[s0, s1, .val (.int i2), s3, s4, .val (.ref o5), s6, s7, .val (.long (own_ms (0 : Int32))), .second, s10, s11, s12, s13, s14, s15, s16, s17]) rfl ?_
  exact kt
theorem stg2 {p : Program} {l : Launch} {e : Env} {s : State} {m : MethodId} {args : Array Value} {below : List Frame} {meth : Method} {c : Code} {T0 : State} {locs : List Loc} {Z : State} {a0 : Array Value} {h0 : Heap} {n0 : Nat} (w : Int32) (s0 : Slot) (s1 : Slot) (i2 : Int32) (s3 : Slot) (s4 : Slot) (o5 : Addr) (s6 : Slot) (s7 : Slot) (s10 : Slot) (s11 : Slot) (s12 : Slot) (s13 : Slot) (s14 : Slot) (s15 : Slot) (s16 : Slot) (s17 : Slot)
    (X0 : Stand p l e room_1 s m args below meth c T0 locs 1 1) (hx : p.tables.exec = Jvm.exec) (hZ : Z.Warmed39 s.vm) (hw : ∀ d ∈ tables_1, d.before a0 Z = true) (hby : c.code = code) (hml : c.maxLocals = 18) (hown : s.vm.findClass "com/example/lease/lease/client/BackoffPauseMillisPinLaw" = some m.cls) (e0 : T0.heap = h0) (E_o5 : Exa Z h0 o5 "com/example/lease/lease/client/Backoff") (N0 : Fr n0 locs) (Z0 : n0 ≤ h0.size) (g_o5 : n0 ≤ o5) (F_o5 : Fld Z h0 o5 "com/example/lease/lease/client/Backoff" "failing" "Z" (.int w)) :
    ∃ (T' : State) (h' : Heap) (locs' : List Loc), Stand p l e room_1 s m args below meth c T' locs' 1 1 ∧ T'.heap = h' ∧ Fr n0 locs' ∧ n0 ≤ h'.size ∧ Exa Z h' o5 "com/example/lease/lease/client/Backoff" ∧ Fld Z h' o5 "com/example/lease/lease/client/Backoff" "failing" "Z" (.int 1) ∧
      ∀ target, Steps p.tables e below (T'.setTop (mkF m 91 #[s0, s1, .val (.int i2), s3, s4, .val (.ref o5), s6, s7, .val (.long (own_p i2 w)), .second, s10, s11, s12, s13, s14, s15, s16, s17] [])) target → Steps p.tables e below (T0.setTop (mkF m 75 #[s0, s1, .val (.int i2), s3, s4, .val (.ref o5), s6, s7, .unset, .unset, s10, s11, s12, s13, s14, s15, s16, s17] [])) target := by
  by_cases hc : i2 = (0 : Int32)
  · rw [show own_p i2 w = own_ms w from if_pos hc]; exact tn0_75_91_t w s0 s1 i2 s3 s4 o5 s6 s7 s10 s11 s12 s13 s14 s15 s16 s17 X0 hx hZ hw hby hml hown e0 E_o5 N0 Z0 g_o5 F_o5 hc
  · rw [show own_p i2 w = own_ms 0 from if_neg hc]; exact tn0_75_91_f w s0 s1 i2 s3 s4 o5 s6 s7 s10 s11 s12 s13 s14 s15 s16 s17 X0 hx hZ hw hby hml hown e0 E_o5 N0 Z0 g_o5 F_o5 hc
set_option maxRecDepth 65536 in
set_option maxHeartbeats 40000000 in
theorem tn0_91_107_t {p : Program} {l : Launch} {e : Env} {s : State} {m : MethodId} {args : Array Value} {below : List Frame} {meth : Method} {c : Code} {T0 : State} {locs : List Loc} {Z : State} {a0 : Array Value} {h0 : Heap} {n0 : Nat} (w : Int32) (s0 : Slot) (s1 : Slot) (s2 : Slot) (i3 : Int32) (s4 : Slot) (o5 : Addr) (s6 : Slot) (s7 : Slot) (s8 : Slot) (s9 : Slot) (s12 : Slot) (s13 : Slot) (s14 : Slot) (s15 : Slot) (s16 : Slot) (s17 : Slot)
    (X0 : Stand p l e room_1 s m args below meth c T0 locs 1 1) (hx : p.tables.exec = Jvm.exec) (hZ : Z.Warmed39 s.vm) (hw : ∀ d ∈ tables_1, d.before a0 Z = true) (hby : c.code = code) (hml : c.maxLocals = 18) (hown : s.vm.findClass "com/example/lease/lease/client/BackoffPauseMillisPinLaw" = some m.cls) (e0 : T0.heap = h0) (E_o5 : Exa Z h0 o5 "com/example/lease/lease/client/Backoff") (N0 : Fr n0 locs) (Z0 : n0 ≤ h0.size) (g_o5 : n0 ≤ o5) (F_o5 : Fld Z h0 o5 "com/example/lease/lease/client/Backoff" "failing" "Z" (.int w)) (hc92 : i3 = (0 : Int32)) :
    ∃ (T' : State) (h' : Heap) (locs' : List Loc), Stand p l e room_1 s m args below meth c T' locs' 1 1 ∧ T'.heap = h' ∧ Fr n0 locs' ∧ n0 ≤ h'.size ∧ Exa Z h' o5 "com/example/lease/lease/client/Backoff" ∧ Fld Z h' o5 "com/example/lease/lease/client/Backoff" "failing" "Z" (.int 1) ∧
      ∀ target, Steps p.tables e below (T'.setTop (mkF m 107 #[s0, s1, s2, .val (.int i3), s4, .val (.ref o5), s6, s7, s8, s9, .val (.long (own_ms w)), .second, s12, s13, s14, s15, s16, s17] [])) target → Steps p.tables e below (T0.setTop (mkF m 91 #[s0, s1, s2, .val (.int i3), s4, .val (.ref o5), s6, s7, s8, s9, .unset, .unset, s12, s13, s14, s15, s16, s17] [])) target := by
  obtain ⟨cq2, kq2, q2a, q2b, q2c⟩ := isOf hZ e0 E_o5
  obtain ⟨_, _, ⟨T2, L2, k2, n2⟩, -, X2, ⟨Lc2, hQ2, l2, y2, z2⟩, st2⟩ := X0.virtualBack hx (y := (⟨"com/example/lease/lease/client/Backoff", "pauseMillis", "()J"⟩ : MethodName)) (z := (⟨"com/example/lease/lease/client/Backoff", "pauseMillis", "()J"⟩ : MethodName)) hown (mvT hZ (hw _ (List.mem_of_getElem? (i := 9) rfl))) (mvT hZ (hw _ (List.mem_of_getElem? (i := 10) rfl))) (notFace_of_selects (args := #[]) (mvT hZ (hw _ (List.mem_of_getElem? (i := 12) rfl)))) (mvT hZ (hw _ (List.mem_of_getElem? (i := 12) rfl))) (mvT hZ (hw _ (List.mem_of_getElem? (i := 11) rfl))) (by decide) (backOf (W := 0) (rm3 l Z a0 hw [] o5 w h0 n0 Z0 F_o5 E_o5 g_o5) hZ (hw _ (List.mem_of_getElem? (i := 13) rfl)) (hw _ (List.mem_of_getElem? (i := 2) rfl)) (by decide) (by decide)) q2a q2c (g := (mkF m 102 #[s0, s1, s2, .val (.int i3), s4, .val (.ref o5), s6, s7, s8, s9, .unset, .unset, s12, s13, s14, s15, s16, s17] [(.ref o5)])) rfl (by rw [hml]; rfl) (Steps.refl _) (argsL := []) (rest := []) (lenOf pd_0_1 rfl) rfl (by show 2 * 0 + _ ≤ _; exact Nat.le_of_eq rfl) (hb hby at_102) (fun _ _ => ⟨rfl, e0, (by decide : 1 + 0 ≤ _), (by decide : 1 + 0 ≤ _)⟩)
  dsimp only [Pt.U, Pt.locs, Pt.cells, Pt.slots] at X2 l2 y2 z2 st2 hQ2
  subst l2 y2 z2
  obtain ⟨rfl, N2q, K2, E2, F2⟩ := hQ2
  have N2 := Fr.app N0 N2q
  have Z2 : n0 ≤ T2.heap.size := Nat.le_trans Z0 K2.1
  refine ⟨T2, _, _, X2, rfl, N2, Z2, E2, F2, fun target kt => ?_⟩
  show Steps p.tables e below (T0.setTop (mkF m 91 #[s0, s1, s2, .val (.int i3), s4, .val (.ref o5), s6, s7, s8, s9, .unset, .unset, s12, s13, s14, s15, s16, s17] [])) _
  refine XS.iloadN X0.here hx rfl (hb hby at_91) rfl ?_
  show Steps p.tables e below (T0.setTop (mkF m 92 #[s0, s1, s2, .val (.int i3), s4, .val (.ref o5), s6, s7, s8, s9, .unset, .unset, s12, s13, s14, s15, s16, s17] [(.int i3)])) _
  refine XS.ifYes X0.here hx rfl (pc0 := 92) (pc' := 100) rfl (hb hby at_92) rfl ((if0 _ _).trans (teq hc92).1) (by decide) (by decide) ?_
  show Steps p.tables e below (T0.setTop (mkF m 100 #[s0, s1, s2, .val (.int i3), s4, .val (.ref o5), s6, s7, s8, s9, .unset, .unset, s12, s13, s14, s15, s16, s17] [])) _
  refine XS.aload X0.here hx rfl (hb hby at_100) rfl rfl ?_
  show Steps p.tables e below (T0.setTop (mkF m 102 #[s0, s1, s2, .val (.int i3), s4, .val (.ref o5), s6, s7, s8, s9, .unset, .unset, s12, s13, s14, s15, s16, s17] [(.ref o5)])) _
  refine st2.trans ?_
  show Steps p.tables e below (T2.setTop (mkF m 105 #[s0, s1, s2, .val (.int i3), s4, .val (.ref o5), s6, s7, s8, s9, .unset, .unset, s12, s13, s14, s15, s16, s17] [(.long (own_ms w))])) _
  refine XS.lstore X2.here hx rfl (hb hby at_105) rfl (l' := #[s0, s1, s2, .val (.int i3), s4, .val (.ref o5), s6, s7, s8, s9, .val (.long (own_ms w)), .second, s12, s13, s14, s15, s16, s17]) rfl ?_
  exact kt
set_option maxRecDepth 65536 in
set_option maxHeartbeats 40000000 in
theorem tn0_91_107_f {p : Program} {l : Launch} {e : Env} {s : State} {m : MethodId} {args : Array Value} {below : List Frame} {meth : Method} {c : Code} {T0 : State} {locs : List Loc} {Z : State} {a0 : Array Value} {h0 : Heap} {n0 : Nat} (w : Int32) (s0 : Slot) (s1 : Slot) (s2 : Slot) (i3 : Int32) (s4 : Slot) (o5 : Addr) (s6 : Slot) (s7 : Slot) (s8 : Slot) (s9 : Slot) (s12 : Slot) (s13 : Slot) (s14 : Slot) (s15 : Slot) (s16 : Slot) (s17 : Slot)
    (X0 : Stand p l e room_1 s m args below meth c T0 locs 1 1) (hx : p.tables.exec = Jvm.exec) (hZ : Z.Warmed39 s.vm) (hw : ∀ d ∈ tables_1, d.before a0 Z = true) (hby : c.code = code) (hml : c.maxLocals = 18) (hown : s.vm.findClass "com/example/lease/lease/client/BackoffPauseMillisPinLaw" = some m.cls) (e0 : T0.heap = h0) (E_o5 : Exa Z h0 o5 "com/example/lease/lease/client/Backoff") (N0 : Fr n0 locs) (Z0 : n0 ≤ h0.size) (g_o5 : n0 ≤ o5) (F_o5 : Fld Z h0 o5 "com/example/lease/lease/client/Backoff" "failing" "Z" (.int w)) (hc92 : ¬ (i3 = (0 : Int32))) :
    ∃ (T' : State) (h' : Heap) (locs' : List Loc), Stand p l e room_1 s m args below meth c T' locs' 1 1 ∧ T'.heap = h' ∧ Fr n0 locs' ∧ n0 ≤ h'.size ∧ Exa Z h' o5 "com/example/lease/lease/client/Backoff" ∧ Fld Z h' o5 "com/example/lease/lease/client/Backoff" "failing" "Z" (.int 1) ∧
      ∀ target, Steps p.tables e below (T'.setTop (mkF m 107 #[s0, s1, s2, .val (.int i3), s4, .val (.ref o5), s6, s7, s8, s9, .val (.long (own_ms (0 : Int32))), .second, s12, s13, s14, s15, s16, s17] [])) target → Steps p.tables e below (T0.setTop (mkF m 91 #[s0, s1, s2, .val (.int i3), s4, .val (.ref o5), s6, s7, s8, s9, .unset, .unset, s12, s13, s14, s15, s16, s17] [])) target := by
  obtain ⟨cq2, kq2, q2a, q2b, q2c⟩ := isOf hZ e0 E_o5
  obtain ⟨_, _, ⟨T2, L2, k2, n2⟩, -, X2, ⟨Lc2, hQ2, l2, y2, z2⟩, st2⟩ := X0.virtualBack hx (y := (⟨"com/example/lease/lease/client/Backoff", "reset", "()V"⟩ : MethodName)) (z := (⟨"com/example/lease/lease/client/Backoff", "reset", "()V"⟩ : MethodName)) hown (mvT hZ (hw _ (List.mem_of_getElem? (i := 20) rfl))) (mvT hZ (hw _ (List.mem_of_getElem? (i := 21) rfl))) (notFace_of_selects (args := #[]) (mvT hZ (hw _ (List.mem_of_getElem? (i := 23) rfl)))) (mvT hZ (hw _ (List.mem_of_getElem? (i := 23) rfl))) (mvT hZ (hw _ (List.mem_of_getElem? (i := 22) rfl))) (by decide) (backOf (W := 0) (rm4 l Z a0 hw [] o5 _ h0 n0 Z0 E_o5 F_o5 g_o5) hZ (hw _ (List.mem_of_getElem? (i := 24) rfl)) (hw _ (List.mem_of_getElem? (i := 2) rfl)) (by decide) (by decide)) q2a q2c (g := (mkF m 97 #[s0, s1, s2, .val (.int i3), s4, .val (.ref o5), s6, s7, s8, s9, .unset, .unset, s12, s13, s14, s15, s16, s17] [(.ref o5)])) rfl (by rw [hml]; rfl) (Steps.refl _) (argsL := []) (rest := []) (lenOf pd_0_0 rfl) rfl (by show 2 * 0 + _ ≤ _; exact Nat.le_of_eq rfl) (hb hby at_97) (fun _ _ => ⟨rfl, e0, (by decide : 1 + 0 ≤ _), (by decide : 1 + 0 ≤ _)⟩)
  dsimp only [Pt.U, Pt.locs, Pt.cells, Pt.slots] at X2 l2 y2 z2 st2 hQ2
  subst l2 y2 z2
  obtain ⟨rfl, N2q, K2, E2, F2⟩ := hQ2
  have N2 := Fr.app N0 N2q
  have Z2 : n0 ≤ T2.heap.size := Nat.le_trans Z0 K2.1
  obtain ⟨cq3, kq3, q3a, q3b, q3c⟩ := isOf hZ rfl E2
  obtain ⟨_, _, ⟨T3, L3, k3, n3⟩, -, X3, ⟨Lc3, hQ3, l3, y3, z3⟩, st3⟩ := X2.virtualBack hx (y := (⟨"com/example/lease/lease/client/Backoff", "pauseMillis", "()J"⟩ : MethodName)) (z := (⟨"com/example/lease/lease/client/Backoff", "pauseMillis", "()J"⟩ : MethodName)) hown (mvT hZ (hw _ (List.mem_of_getElem? (i := 9) rfl))) (mvT hZ (hw _ (List.mem_of_getElem? (i := 10) rfl))) (notFace_of_selects (args := #[]) (mvT hZ (hw _ (List.mem_of_getElem? (i := 12) rfl)))) (mvT hZ (hw _ (List.mem_of_getElem? (i := 12) rfl))) (mvT hZ (hw _ (List.mem_of_getElem? (i := 11) rfl))) (by decide) (backOf (W := 0) (rm3 l Z a0 hw [] o5 (0 : Int32) T2.heap n0 Z2 F2 E2 g_o5) hZ (hw _ (List.mem_of_getElem? (i := 13) rfl)) (hw _ (List.mem_of_getElem? (i := 2) rfl)) (by decide) (by decide)) q3a q3c (g := (mkF m 102 #[s0, s1, s2, .val (.int i3), s4, .val (.ref o5), s6, s7, s8, s9, .unset, .unset, s12, s13, s14, s15, s16, s17] [(.ref o5)])) rfl (by rw [hml]; rfl) (Steps.refl _) (argsL := []) (rest := []) (lenOf pd_0_1 rfl) rfl (by show 2 * 0 + _ ≤ _; exact Nat.le_of_eq rfl) (hb hby at_102) (fun _ _ => ⟨rfl, rfl, (by decide : 1 + 0 ≤ _), (by decide : 1 + 0 ≤ _)⟩)
  dsimp only [Pt.U, Pt.locs, Pt.cells, Pt.slots] at X3 l3 y3 z3 st3 hQ3
  subst l3 y3 z3
  obtain ⟨rfl, N3q, K3, E3, F3⟩ := hQ3
  have N3 := Fr.app N2 N3q
  have Z3 : n0 ≤ T3.heap.size := Nat.le_trans Z2 K3.1
  refine ⟨T3, _, _, X3, rfl, N3, Z3, E3, F3, fun target kt => ?_⟩
  show Steps p.tables e below (T0.setTop (mkF m 91 #[s0, s1, s2, .val (.int i3), s4, .val (.ref o5), s6, s7, s8, s9, .unset, .unset, s12, s13, s14, s15, s16, s17] [])) _
  refine XS.iloadN X0.here hx rfl (hb hby at_91) rfl ?_
  show Steps p.tables e below (T0.setTop (mkF m 92 #[s0, s1, s2, .val (.int i3), s4, .val (.ref o5), s6, s7, s8, s9, .unset, .unset, s12, s13, s14, s15, s16, s17] [(.int i3)])) _
  refine XS.ifNo X0.here hx rfl (hb hby at_92) rfl ((if0 _ _).trans (feq hc92).1) ?_
  show Steps p.tables e below (T0.setTop (mkF m 95 #[s0, s1, s2, .val (.int i3), s4, .val (.ref o5), s6, s7, s8, s9, .unset, .unset, s12, s13, s14, s15, s16, s17] [])) _
  refine XS.aload X0.here hx rfl (hb hby at_95) rfl rfl ?_
  show Steps p.tables e below (T0.setTop (mkF m 97 #[s0, s1, s2, .val (.int i3), s4, .val (.ref o5), s6, s7, s8, s9, .unset, .unset, s12, s13, s14, s15, s16, s17] [(.ref o5)])) _
  refine st2.trans ?_
  show Steps p.tables e below (T2.setTop (mkF m 100 #[s0, s1, s2, .val (.int i3), s4, .val (.ref o5), s6, s7, s8, s9, .unset, .unset, s12, s13, s14, s15, s16, s17] [])) _
  refine XS.aload X2.here hx rfl (hb hby at_100) rfl rfl ?_
  show Steps p.tables e below (T2.setTop (mkF m 102 #[s0, s1, s2, .val (.int i3), s4, .val (.ref o5), s6, s7, s8, s9, .unset, .unset, s12, s13, s14, s15, s16, s17] [(.ref o5)])) _
  refine st3.trans ?_
  show Steps p.tables e below (T3.setTop (mkF m 105 #[s0, s1, s2, .val (.int i3), s4, .val (.ref o5), s6, s7, s8, s9, .unset, .unset, s12, s13, s14, s15, s16, s17] [(.long (own_ms (0 : Int32)))])) _
  refine XS.lstore X3.here hx rfl (hb hby at_105) rfl (l' := #[s0, s1, s2, .val (.int i3), s4, .val (.ref o5), s6, s7, s8, s9, .val (.long (own_ms (0 : Int32))), .second, s12, s13, s14, s15, s16, s17]) rfl ?_
  exact kt
theorem stg3 {p : Program} {l : Launch} {e : Env} {s : State} {m : MethodId} {args : Array Value} {below : List Frame} {meth : Method} {c : Code} {T0 : State} {locs : List Loc} {Z : State} {a0 : Array Value} {h0 : Heap} {n0 : Nat} (w : Int32) (s0 : Slot) (s1 : Slot) (s2 : Slot) (i3 : Int32) (s4 : Slot) (o5 : Addr) (s6 : Slot) (s7 : Slot) (s8 : Slot) (s9 : Slot) (s12 : Slot) (s13 : Slot) (s14 : Slot) (s15 : Slot) (s16 : Slot) (s17 : Slot)
    (X0 : Stand p l e room_1 s m args below meth c T0 locs 1 1) (hx : p.tables.exec = Jvm.exec) (hZ : Z.Warmed39 s.vm) (hw : ∀ d ∈ tables_1, d.before a0 Z = true) (hby : c.code = code) (hml : c.maxLocals = 18) (hown : s.vm.findClass "com/example/lease/lease/client/BackoffPauseMillisPinLaw" = some m.cls) (e0 : T0.heap = h0) (E_o5 : Exa Z h0 o5 "com/example/lease/lease/client/Backoff") (N0 : Fr n0 locs) (Z0 : n0 ≤ h0.size) (g_o5 : n0 ≤ o5) (F_o5 : Fld Z h0 o5 "com/example/lease/lease/client/Backoff" "failing" "Z" (.int w)) :
    ∃ (T' : State) (h' : Heap) (locs' : List Loc), Stand p l e room_1 s m args below meth c T' locs' 1 1 ∧ T'.heap = h' ∧ Fr n0 locs' ∧ n0 ≤ h'.size ∧ Exa Z h' o5 "com/example/lease/lease/client/Backoff" ∧ Fld Z h' o5 "com/example/lease/lease/client/Backoff" "failing" "Z" (.int 1) ∧
      ∀ target, Steps p.tables e below (T'.setTop (mkF m 107 #[s0, s1, s2, .val (.int i3), s4, .val (.ref o5), s6, s7, s8, s9, .val (.long (own_p i3 w)), .second, s12, s13, s14, s15, s16, s17] [])) target → Steps p.tables e below (T0.setTop (mkF m 91 #[s0, s1, s2, .val (.int i3), s4, .val (.ref o5), s6, s7, s8, s9, .unset, .unset, s12, s13, s14, s15, s16, s17] [])) target := by
  by_cases hc : i3 = (0 : Int32)
  · rw [show own_p i3 w = own_ms w from if_pos hc]; exact tn0_91_107_t w s0 s1 s2 i3 s4 o5 s6 s7 s8 s9 s12 s13 s14 s15 s16 s17 X0 hx hZ hw hby hml hown e0 E_o5 N0 Z0 g_o5 F_o5 hc
  · rw [show own_p i3 w = own_ms 0 from if_neg hc]; exact tn0_91_107_f w s0 s1 s2 i3 s4 o5 s6 s7 s8 s9 s12 s13 s14 s15 s16 s17 X0 hx hZ hw hby hml hown e0 E_o5 N0 Z0 g_o5 F_o5 hc
set_option maxRecDepth 65536 in
set_option maxHeartbeats 40000000 in
theorem tn0_107_124_t {p : Program} {l : Launch} {e : Env} {s : State} {m : MethodId} {args : Array Value} {below : List Frame} {meth : Method} {c : Code} {T0 : State} {locs : List Loc} {Z : State} {a0 : Array Value} {h0 : Heap} {n0 : Nat} (w : Int32) (s0 : Slot) (s1 : Slot) (s2 : Slot) (s3 : Slot) (i4 : Int32) (o5 : Addr) (s6 : Slot) (s7 : Slot) (s8 : Slot) (s9 : Slot) (s10 : Slot) (s11 : Slot) (s14 : Slot) (s15 : Slot) (s16 : Slot) (s17 : Slot)
    (X0 : Stand p l e room_1 s m args below meth c T0 locs 1 1) (hx : p.tables.exec = Jvm.exec) (hZ : Z.Warmed39 s.vm) (hw : ∀ d ∈ tables_1, d.before a0 Z = true) (hby : c.code = code) (hml : c.maxLocals = 18) (hown : s.vm.findClass "com/example/lease/lease/client/BackoffPauseMillisPinLaw" = some m.cls) (e0 : T0.heap = h0) (E_o5 : Exa Z h0 o5 "com/example/lease/lease/client/Backoff") (N0 : Fr n0 locs) (Z0 : n0 ≤ h0.size) (g_o5 : n0 ≤ o5) (F_o5 : Fld Z h0 o5 "com/example/lease/lease/client/Backoff" "failing" "Z" (.int w)) (hc109 : i4 = (0 : Int32)) :
    ∃ (T' : State) (h' : Heap) (locs' : List Loc), Stand p l e room_1 s m args below meth c T' locs' 1 1 ∧ T'.heap = h' ∧ Fr n0 locs' ∧ n0 ≤ h'.size ∧ Exa Z h' o5 "com/example/lease/lease/client/Backoff" ∧ Fld Z h' o5 "com/example/lease/lease/client/Backoff" "failing" "Z" (.int 1) ∧
      ∀ target, Steps p.tables e below (T'.setTop (mkF m 124 #[s0, s1, s2, s3, .val (.int i4), .val (.ref o5), s6, s7, s8, s9, s10, s11, .val (.long (own_ms w)), .second, s14, s15, s16, s17] [])) target → Steps p.tables e below (T0.setTop (mkF m 107 #[s0, s1, s2, s3, .val (.int i4), .val (.ref o5), s6, s7, s8, s9, s10, s11, .unset, .unset, s14, s15, s16, s17] [])) target := by
  obtain ⟨cq2, kq2, q2a, q2b, q2c⟩ := isOf hZ e0 E_o5
  obtain ⟨_, _, ⟨T2, L2, k2, n2⟩, -, X2, ⟨Lc2, hQ2, l2, y2, z2⟩, st2⟩ := X0.virtualBack hx (y := (⟨"com/example/lease/lease/client/Backoff", "pauseMillis", "()J"⟩ : MethodName)) (z := (⟨"com/example/lease/lease/client/Backoff", "pauseMillis", "()J"⟩ : MethodName)) hown (mvT hZ (hw _ (List.mem_of_getElem? (i := 9) rfl))) (mvT hZ (hw _ (List.mem_of_getElem? (i := 10) rfl))) (notFace_of_selects (args := #[]) (mvT hZ (hw _ (List.mem_of_getElem? (i := 12) rfl)))) (mvT hZ (hw _ (List.mem_of_getElem? (i := 12) rfl))) (mvT hZ (hw _ (List.mem_of_getElem? (i := 11) rfl))) (by decide) (backOf (W := 0) (rm3 l Z a0 hw [] o5 w h0 n0 Z0 F_o5 E_o5 g_o5) hZ (hw _ (List.mem_of_getElem? (i := 13) rfl)) (hw _ (List.mem_of_getElem? (i := 2) rfl)) (by decide) (by decide)) q2a q2c (g := (mkF m 119 #[s0, s1, s2, s3, .val (.int i4), .val (.ref o5), s6, s7, s8, s9, s10, s11, .unset, .unset, s14, s15, s16, s17] [(.ref o5)])) rfl (by rw [hml]; rfl) (Steps.refl _) (argsL := []) (rest := []) (lenOf pd_0_1 rfl) rfl (by show 2 * 0 + _ ≤ _; exact Nat.le_of_eq rfl) (hb hby at_119) (fun _ _ => ⟨rfl, e0, (by decide : 1 + 0 ≤ _), (by decide : 1 + 0 ≤ _)⟩)
  dsimp only [Pt.U, Pt.locs, Pt.cells, Pt.slots] at X2 l2 y2 z2 st2 hQ2
  subst l2 y2 z2
  obtain ⟨rfl, N2q, K2, E2, F2⟩ := hQ2
  have N2 := Fr.app N0 N2q
  have Z2 : n0 ≤ T2.heap.size := Nat.le_trans Z0 K2.1
  refine ⟨T2, _, _, X2, rfl, N2, Z2, E2, F2, fun target kt => ?_⟩
  show Steps p.tables e below (T0.setTop (mkF m 107 #[s0, s1, s2, s3, .val (.int i4), .val (.ref o5), s6, s7, s8, s9, s10, s11, .unset, .unset, s14, s15, s16, s17] [])) _
  refine XS.iload X0.here hx rfl (hb hby at_107) rfl ?_
  show Steps p.tables e below (T0.setTop (mkF m 109 #[s0, s1, s2, s3, .val (.int i4), .val (.ref o5), s6, s7, s8, s9, s10, s11, .unset, .unset, s14, s15, s16, s17] [(.int i4)])) _
  refine XS.ifYes X0.here hx rfl (pc0 := 109) (pc' := 117) rfl (hb hby at_109) rfl ((if0 _ _).trans (teq hc109).1) (by decide) (by decide) ?_
  show Steps p.tables e below (T0.setTop (mkF m 117 #[s0, s1, s2, s3, .val (.int i4), .val (.ref o5), s6, s7, s8, s9, s10, s11, .unset, .unset, s14, s15, s16, s17] [])) _
  refine XS.aload X0.here hx rfl (hb hby at_117) rfl rfl ?_
  show Steps p.tables e below (T0.setTop (mkF m 119 #[s0, s1, s2, s3, .val (.int i4), .val (.ref o5), s6, s7, s8, s9, s10, s11, .unset, .unset, s14, s15, s16, s17] [(.ref o5)])) _
  refine st2.trans ?_
  show Steps p.tables e below (T2.setTop (mkF m 122 #[s0, s1, s2, s3, .val (.int i4), .val (.ref o5), s6, s7, s8, s9, s10, s11, .unset, .unset, s14, s15, s16, s17] [(.long (own_ms w))])) _
  refine XS.lstore X2.here hx rfl (hb hby at_122) rfl (l' := #[s0, s1, s2, s3, .val (.int i4), .val (.ref o5), s6, s7, s8, s9, s10, s11, .val (.long (own_ms w)), .second, s14, s15, s16, s17]) rfl ?_
  exact kt
set_option maxRecDepth 65536 in
set_option maxHeartbeats 40000000 in
theorem tn0_107_124_f {p : Program} {l : Launch} {e : Env} {s : State} {m : MethodId} {args : Array Value} {below : List Frame} {meth : Method} {c : Code} {T0 : State} {locs : List Loc} {Z : State} {a0 : Array Value} {h0 : Heap} {n0 : Nat} (w : Int32) (s0 : Slot) (s1 : Slot) (s2 : Slot) (s3 : Slot) (i4 : Int32) (o5 : Addr) (s6 : Slot) (s7 : Slot) (s8 : Slot) (s9 : Slot) (s10 : Slot) (s11 : Slot) (s14 : Slot) (s15 : Slot) (s16 : Slot) (s17 : Slot)
    (X0 : Stand p l e room_1 s m args below meth c T0 locs 1 1) (hx : p.tables.exec = Jvm.exec) (hZ : Z.Warmed39 s.vm) (hw : ∀ d ∈ tables_1, d.before a0 Z = true) (hby : c.code = code) (hml : c.maxLocals = 18) (hown : s.vm.findClass "com/example/lease/lease/client/BackoffPauseMillisPinLaw" = some m.cls) (e0 : T0.heap = h0) (E_o5 : Exa Z h0 o5 "com/example/lease/lease/client/Backoff") (N0 : Fr n0 locs) (Z0 : n0 ≤ h0.size) (g_o5 : n0 ≤ o5) (F_o5 : Fld Z h0 o5 "com/example/lease/lease/client/Backoff" "failing" "Z" (.int w)) (hc109 : ¬ (i4 = (0 : Int32))) :
    ∃ (T' : State) (h' : Heap) (locs' : List Loc), Stand p l e room_1 s m args below meth c T' locs' 1 1 ∧ T'.heap = h' ∧ Fr n0 locs' ∧ n0 ≤ h'.size ∧ Exa Z h' o5 "com/example/lease/lease/client/Backoff" ∧ Fld Z h' o5 "com/example/lease/lease/client/Backoff" "failing" "Z" (.int 1) ∧
      ∀ target, Steps p.tables e below (T'.setTop (mkF m 124 #[s0, s1, s2, s3, .val (.int i4), .val (.ref o5), s6, s7, s8, s9, s10, s11, .val (.long (own_ms (0 : Int32))), .second, s14, s15, s16, s17] [])) target → Steps p.tables e below (T0.setTop (mkF m 107 #[s0, s1, s2, s3, .val (.int i4), .val (.ref o5), s6, s7, s8, s9, s10, s11, .unset, .unset, s14, s15, s16, s17] [])) target := by
  obtain ⟨cq2, kq2, q2a, q2b, q2c⟩ := isOf hZ e0 E_o5
  obtain ⟨_, _, ⟨T2, L2, k2, n2⟩, -, X2, ⟨Lc2, hQ2, l2, y2, z2⟩, st2⟩ := X0.virtualBack hx (y := (⟨"com/example/lease/lease/client/Backoff", "reset", "()V"⟩ : MethodName)) (z := (⟨"com/example/lease/lease/client/Backoff", "reset", "()V"⟩ : MethodName)) hown (mvT hZ (hw _ (List.mem_of_getElem? (i := 20) rfl))) (mvT hZ (hw _ (List.mem_of_getElem? (i := 21) rfl))) (notFace_of_selects (args := #[]) (mvT hZ (hw _ (List.mem_of_getElem? (i := 23) rfl)))) (mvT hZ (hw _ (List.mem_of_getElem? (i := 23) rfl))) (mvT hZ (hw _ (List.mem_of_getElem? (i := 22) rfl))) (by decide) (backOf (W := 0) (rm4 l Z a0 hw [] o5 _ h0 n0 Z0 E_o5 F_o5 g_o5) hZ (hw _ (List.mem_of_getElem? (i := 24) rfl)) (hw _ (List.mem_of_getElem? (i := 2) rfl)) (by decide) (by decide)) q2a q2c (g := (mkF m 114 #[s0, s1, s2, s3, .val (.int i4), .val (.ref o5), s6, s7, s8, s9, s10, s11, .unset, .unset, s14, s15, s16, s17] [(.ref o5)])) rfl (by rw [hml]; rfl) (Steps.refl _) (argsL := []) (rest := []) (lenOf pd_0_0 rfl) rfl (by show 2 * 0 + _ ≤ _; exact Nat.le_of_eq rfl) (hb hby at_114) (fun _ _ => ⟨rfl, e0, (by decide : 1 + 0 ≤ _), (by decide : 1 + 0 ≤ _)⟩)
  dsimp only [Pt.U, Pt.locs, Pt.cells, Pt.slots] at X2 l2 y2 z2 st2 hQ2
  subst l2 y2 z2
  obtain ⟨rfl, N2q, K2, E2, F2⟩ := hQ2
  have N2 := Fr.app N0 N2q
  have Z2 : n0 ≤ T2.heap.size := Nat.le_trans Z0 K2.1
  obtain ⟨cq3, kq3, q3a, q3b, q3c⟩ := isOf hZ rfl E2
  obtain ⟨_, _, ⟨T3, L3, k3, n3⟩, -, X3, ⟨Lc3, hQ3, l3, y3, z3⟩, st3⟩ := X2.virtualBack hx (y := (⟨"com/example/lease/lease/client/Backoff", "pauseMillis", "()J"⟩ : MethodName)) (z := (⟨"com/example/lease/lease/client/Backoff", "pauseMillis", "()J"⟩ : MethodName)) hown (mvT hZ (hw _ (List.mem_of_getElem? (i := 9) rfl))) (mvT hZ (hw _ (List.mem_of_getElem? (i := 10) rfl))) (notFace_of_selects (args := #[]) (mvT hZ (hw _ (List.mem_of_getElem? (i := 12) rfl)))) (mvT hZ (hw _ (List.mem_of_getElem? (i := 12) rfl))) (mvT hZ (hw _ (List.mem_of_getElem? (i := 11) rfl))) (by decide) (backOf (W := 0) (rm3 l Z a0 hw [] o5 (0 : Int32) T2.heap n0 Z2 F2 E2 g_o5) hZ (hw _ (List.mem_of_getElem? (i := 13) rfl)) (hw _ (List.mem_of_getElem? (i := 2) rfl)) (by decide) (by decide)) q3a q3c (g := (mkF m 119 #[s0, s1, s2, s3, .val (.int i4), .val (.ref o5), s6, s7, s8, s9, s10, s11, .unset, .unset, s14, s15, s16, s17] [(.ref o5)])) rfl (by rw [hml]; rfl) (Steps.refl _) (argsL := []) (rest := []) (lenOf pd_0_1 rfl) rfl (by show 2 * 0 + _ ≤ _; exact Nat.le_of_eq rfl) (hb hby at_119) (fun _ _ => ⟨rfl, rfl, (by decide : 1 + 0 ≤ _), (by decide : 1 + 0 ≤ _)⟩)
  dsimp only [Pt.U, Pt.locs, Pt.cells, Pt.slots] at X3 l3 y3 z3 st3 hQ3
  subst l3 y3 z3
  obtain ⟨rfl, N3q, K3, E3, F3⟩ := hQ3
  have N3 := Fr.app N2 N3q
  have Z3 : n0 ≤ T3.heap.size := Nat.le_trans Z2 K3.1
  refine ⟨T3, _, _, X3, rfl, N3, Z3, E3, F3, fun target kt => ?_⟩
  show Steps p.tables e below (T0.setTop (mkF m 107 #[s0, s1, s2, s3, .val (.int i4), .val (.ref o5), s6, s7, s8, s9, s10, s11, .unset, .unset, s14, s15, s16, s17] [])) _
  refine XS.iload X0.here hx rfl (hb hby at_107) rfl ?_
  show Steps p.tables e below (T0.setTop (mkF m 109 #[s0, s1, s2, s3, .val (.int i4), .val (.ref o5), s6, s7, s8, s9, s10, s11, .unset, .unset, s14, s15, s16, s17] [(.int i4)])) _
  refine XS.ifNo X0.here hx rfl (hb hby at_109) rfl ((if0 _ _).trans (feq hc109).1) ?_
  show Steps p.tables e below (T0.setTop (mkF m 112 #[s0, s1, s2, s3, .val (.int i4), .val (.ref o5), s6, s7, s8, s9, s10, s11, .unset, .unset, s14, s15, s16, s17] [])) _
  refine XS.aload X0.here hx rfl (hb hby at_112) rfl rfl ?_
  show Steps p.tables e below (T0.setTop (mkF m 114 #[s0, s1, s2, s3, .val (.int i4), .val (.ref o5), s6, s7, s8, s9, s10, s11, .unset, .unset, s14, s15, s16, s17] [(.ref o5)])) _
  refine st2.trans ?_
  show Steps p.tables e below (T2.setTop (mkF m 117 #[s0, s1, s2, s3, .val (.int i4), .val (.ref o5), s6, s7, s8, s9, s10, s11, .unset, .unset, s14, s15, s16, s17] [])) _
  refine XS.aload X2.here hx rfl (hb hby at_117) rfl rfl ?_
  show Steps p.tables e below (T2.setTop (mkF m 119 #[s0, s1, s2, s3, .val (.int i4), .val (.ref o5), s6, s7, s8, s9, s10, s11, .unset, .unset, s14, s15, s16, s17] [(.ref o5)])) _
  refine st3.trans ?_
  show Steps p.tables e below (T3.setTop (mkF m 122 #[s0, s1, s2, s3, .val (.int i4), .val (.ref o5), s6, s7, s8, s9, s10, s11, .unset, .unset, s14, s15, s16, s17] [(.long (own_ms (0 : Int32)))])) _
  refine XS.lstore X3.here hx rfl (hb hby at_122) rfl (l' := #[s0, s1, s2, s3, .val (.int i4), .val (.ref o5), s6, s7, s8, s9, s10, s11, .val (.long (own_ms (0 : Int32))), .second, s14, s15, s16, s17]) rfl ?_
  exact kt
theorem stg4 {p : Program} {l : Launch} {e : Env} {s : State} {m : MethodId} {args : Array Value} {below : List Frame} {meth : Method} {c : Code} {T0 : State} {locs : List Loc} {Z : State} {a0 : Array Value} {h0 : Heap} {n0 : Nat} (w : Int32) (s0 : Slot) (s1 : Slot) (s2 : Slot) (s3 : Slot) (i4 : Int32) (o5 : Addr) (s6 : Slot) (s7 : Slot) (s8 : Slot) (s9 : Slot) (s10 : Slot) (s11 : Slot) (s14 : Slot) (s15 : Slot) (s16 : Slot) (s17 : Slot)
    (X0 : Stand p l e room_1 s m args below meth c T0 locs 1 1) (hx : p.tables.exec = Jvm.exec) (hZ : Z.Warmed39 s.vm) (hw : ∀ d ∈ tables_1, d.before a0 Z = true) (hby : c.code = code) (hml : c.maxLocals = 18) (hown : s.vm.findClass "com/example/lease/lease/client/BackoffPauseMillisPinLaw" = some m.cls) (e0 : T0.heap = h0) (E_o5 : Exa Z h0 o5 "com/example/lease/lease/client/Backoff") (N0 : Fr n0 locs) (Z0 : n0 ≤ h0.size) (g_o5 : n0 ≤ o5) (F_o5 : Fld Z h0 o5 "com/example/lease/lease/client/Backoff" "failing" "Z" (.int w)) :
    ∃ (T' : State) (h' : Heap) (locs' : List Loc), Stand p l e room_1 s m args below meth c T' locs' 1 1 ∧ T'.heap = h' ∧ Fr n0 locs' ∧ n0 ≤ h'.size ∧ Exa Z h' o5 "com/example/lease/lease/client/Backoff" ∧ Fld Z h' o5 "com/example/lease/lease/client/Backoff" "failing" "Z" (.int 1) ∧
      ∀ target, Steps p.tables e below (T'.setTop (mkF m 124 #[s0, s1, s2, s3, .val (.int i4), .val (.ref o5), s6, s7, s8, s9, s10, s11, .val (.long (own_p i4 w)), .second, s14, s15, s16, s17] [])) target → Steps p.tables e below (T0.setTop (mkF m 107 #[s0, s1, s2, s3, .val (.int i4), .val (.ref o5), s6, s7, s8, s9, s10, s11, .unset, .unset, s14, s15, s16, s17] [])) target := by
  by_cases hc : i4 = (0 : Int32)
  · rw [show own_p i4 w = own_ms w from if_pos hc]; exact tn0_107_124_t w s0 s1 s2 s3 i4 o5 s6 s7 s8 s9 s10 s11 s14 s15 s16 s17 X0 hx hZ hw hby hml hown e0 E_o5 N0 Z0 g_o5 F_o5 hc
  · rw [show own_p i4 w = own_ms 0 from if_neg hc]; exact tn0_107_124_f w s0 s1 s2 s3 i4 o5 s6 s7 s8 s9 s10 s11 s14 s15 s16 s17 X0 hx hZ hw hby hml hown e0 E_o5 N0 Z0 g_o5 F_o5 hc
theorem os0_138 {s0 : Slot} {s1 : Slot} {s2 : Slot} {s3 : Slot} {s4 : Slot} {s5 : Slot} {z6 : Value} {s8 : Slot} {s9 : Slot} {s10 : Slot} {s11 : Slot} {s12 : Slot} {s13 : Slot} {s14 : Slot} {s15 : Slot} {s16 : Slot} {s17 : Slot} {v : Int32} (h : One s14) : storeLocals #[s0, s1, s2, s3, s4, s5, .val z6, .second, s8, s9, s10, s11, s12, s13, s14, s15, s16, s17] 14 (.int v) = some #[s0, s1, s2, s3, s4, s5, .val z6, .second, s8, s9, s10, s11, s12, s13, .val (.int v), s15, s16, s17] := by
  rcases h with rfl | ⟨w, rfl, hw⟩
  · rfl
  · cases w <;> first | rfl | (simp [Value.category] at hw)
set_option maxRecDepth 65536 in
set_option maxHeartbeats 40000000 in
theorem tn0_124_140 {p : Program} {l : Launch} {e : Env} {R : Room} {s : State} {m : MethodId} {args : Array Value} {below : List Frame} {meth : Method} {c : Code} {T0 : State} {locs : List Loc} {cells slots : Nat} {Z : State} {a0 : Array Value} {h0 : Heap} (s0 : Slot) (s1 : Slot) (s2 : Slot) (s3 : Slot) (s4 : Slot) (s5 : Slot) (j6 : Int64) (s8 : Slot) (s9 : Slot) (s10 : Slot) (s11 : Slot) (s12 : Slot) (s13 : Slot) (s14 : Slot) (s15 : Slot) (s16 : Slot) (s17 : Slot)
    (X0 : Stand p l e R s m args below meth c T0 locs cells slots) (hx : p.tables.exec = Jvm.exec) (hZ : Z.Warmed39 s.vm) (hw : ∀ d ∈ tables_1, d.before a0 Z = true) (hby : c.code = code) (hml : c.maxLocals = 18) (hown : s.vm.findClass "com/example/lease/lease/client/BackoffPauseMillisPinLaw" = some m.cls) (e0 : T0.heap = h0) (hs14 : One s14) (hc130 : (lcmpW j6 (500 : Int64)) = (0 : Int32)) :
    ∃ (T' : State), Stand p l e R s m args below meth c T' locs cells slots ∧ T'.heap = h0 ∧
      ∀ target, Steps p.tables e below (T'.setTop (mkF m 140 #[s0, s1, s2, s3, s4, s5, .val (.long j6), .second, s8, s9, s10, s11, s12, s13, .val (.int (1 : Int32)), s15, s16, s17] [])) target → Steps p.tables e below (T0.setTop (mkF m 124 #[s0, s1, s2, s3, s4, s5, .val (.long j6), .second, s8, s9, s10, s11, s12, s13, s14, s15, s16, s17] [])) target := by
  refine ⟨T0, X0, e0, fun target kt => ?_⟩
  show Steps p.tables e below (T0.setTop (mkF m 124 #[s0, s1, s2, s3, s4, s5, .val (.long j6), .second, s8, s9, s10, s11, s12, s13, s14, s15, s16, s17] [])) _
  refine XS.lload X0.here hx rfl (hb hby at_124) rfl ?_
  show Steps p.tables e below (T0.setTop (mkF m 126 #[s0, s1, s2, s3, s4, s5, .val (.long j6), .second, s8, s9, s10, s11, s12, s13, s14, s15, s16, s17] [(.long j6)])) _
  refine X0.ldc2Long hx hown (mvT hZ (hw _ (List.mem_of_getElem? (i := 18) rfl))) (g := (mkF m 126 #[s0, s1, s2, s3, s4, s5, .val (.long j6), .second, s8, s9, s10, s11, s12, s13, s14, s15, s16, s17] [(.long j6)])) rfl (hb hby at_126) _ ?_
  show Steps p.tables e below (T0.setTop (mkF m 129 #[s0, s1, s2, s3, s4, s5, .val (.long j6), .second, s8, s9, s10, s11, s12, s13, s14, s15, s16, s17] [(.long (500 : Int64)), (.long j6)])) _
  refine XS.lcmp X0.here hx rfl (hb hby at_129) rfl ?_
  show Steps p.tables e below (T0.setTop (mkF m 130 #[s0, s1, s2, s3, s4, s5, .val (.long j6), .second, s8, s9, s10, s11, s12, s13, s14, s15, s16, s17] [(.int (lcmpW j6 (500 : Int64)))])) _
  refine XS.ifNo X0.here hx rfl (hb hby at_130) rfl ((if0 _ _).trans (teq hc130).2) ?_
  show Steps p.tables e below (T0.setTop (mkF m 133 #[s0, s1, s2, s3, s4, s5, .val (.long j6), .second, s8, s9, s10, s11, s12, s13, s14, s15, s16, s17] [])) _
  refine XS.iconst X0.here hx rfl (hb hby at_133) ?_
  show Steps p.tables e below (T0.setTop (mkF m 134 #[s0, s1, s2, s3, s4, s5, .val (.long j6), .second, s8, s9, s10, s11, s12, s13, s14, s15, s16, s17] [(.int (1 : Int32))])) _
  refine XS.goto X0.here hx rfl (pc0 := 134) (pc' := 138) rfl (hb hby at_134) (by decide) (by decide) ?_
  show Steps p.tables e below (T0.setTop (mkF m 138 #[s0, s1, s2, s3, s4, s5, .val (.long j6), .second, s8, s9, s10, s11, s12, s13, s14, s15, s16, s17] [(.int (1 : Int32))])) _
  refine XS.istore X0.here hx rfl (hb hby at_138) rfl (l' := #[s0, s1, s2, s3, s4, s5, .val (.long j6), .second, s8, s9, s10, s11, s12, s13, .val (.int (1 : Int32)), s15, s16, s17]) (os0_138 hs14) ?_
  exact kt
theorem os0_164 {s0 : Slot} {s1 : Slot} {z2 : Value} {s3 : Slot} {s4 : Slot} {s5 : Slot} {s6 : Slot} {s7 : Slot} {z8 : Value} {s10 : Slot} {s11 : Slot} {s12 : Slot} {s13 : Slot} {s14 : Slot} {s15 : Slot} {s16 : Slot} {s17 : Slot} {v : Int32} (h : One s15) : storeLocals #[s0, s1, .val z2, s3, s4, s5, s6, s7, .val z8, .second, s10, s11, s12, s13, s14, s15, s16, s17] 15 (.int v) = some #[s0, s1, .val z2, s3, s4, s5, s6, s7, .val z8, .second, s10, s11, s12, s13, s14, .val (.int v), s16, s17] := by
  rcases h with rfl | ⟨w, rfl, hw⟩
  · rfl
  · cases w <;> first | rfl | (simp [Value.category] at hw)
set_option maxRecDepth 65536 in
set_option maxHeartbeats 40000000 in
theorem tn0_140_166_t {p : Program} {l : Launch} {e : Env} {R : Room} {s : State} {m : MethodId} {args : Array Value} {below : List Frame} {meth : Method} {c : Code} {T0 : State} {locs : List Loc} {cells slots : Nat} {Z : State} {a0 : Array Value} {h0 : Heap} (s0 : Slot) (s1 : Slot) (i2 : Int32) (s3 : Slot) (s4 : Slot) (s5 : Slot) (s6 : Slot) (s7 : Slot) (j8 : Int64) (s10 : Slot) (s11 : Slot) (s12 : Slot) (s13 : Slot) (s14 : Slot) (s15 : Slot) (s16 : Slot) (s17 : Slot)
    (X0 : Stand p l e R s m args below meth c T0 locs cells slots) (hx : p.tables.exec = Jvm.exec) (hZ : Z.Warmed39 s.vm) (hw : ∀ d ∈ tables_1, d.before a0 Z = true) (hby : c.code = code) (hml : c.maxLocals = 18) (hown : s.vm.findClass "com/example/lease/lease/client/BackoffPauseMillisPinLaw" = some m.cls) (e0 : T0.heap = h0) (hs15 : One s15) (hc143 : i2 = (0 : Int32)) (hc156 : (lcmpW j8 (1000 : Int64)) = (0 : Int32)) :
    ∃ (T' : State), Stand p l e R s m args below meth c T' locs cells slots ∧ T'.heap = h0 ∧
      ∀ target, Steps p.tables e below (T'.setTop (mkF m 166 #[s0, s1, .val (.int i2), s3, s4, s5, s6, s7, .val (.long j8), .second, s10, s11, s12, s13, s14, .val (.int (1 : Int32)), s16, s17] [])) target → Steps p.tables e below (T0.setTop (mkF m 140 #[s0, s1, .val (.int i2), s3, s4, s5, s6, s7, .val (.long j8), .second, s10, s11, s12, s13, s14, s15, s16, s17] [])) target := by
  refine ⟨T0, X0, e0, fun target kt => ?_⟩
  show Steps p.tables e below (T0.setTop (mkF m 140 #[s0, s1, .val (.int i2), s3, s4, s5, s6, s7, .val (.long j8), .second, s10, s11, s12, s13, s14, s15, s16, s17] [])) _
  refine XS.lload X0.here hx rfl (hb hby at_140) rfl ?_
  show Steps p.tables e below (T0.setTop (mkF m 142 #[s0, s1, .val (.int i2), s3, s4, s5, s6, s7, .val (.long j8), .second, s10, s11, s12, s13, s14, s15, s16, s17] [(.long j8)])) _
  refine XS.iloadN X0.here hx rfl (hb hby at_142) rfl ?_
  show Steps p.tables e below (T0.setTop (mkF m 143 #[s0, s1, .val (.int i2), s3, s4, s5, s6, s7, .val (.long j8), .second, s10, s11, s12, s13, s14, s15, s16, s17] [(.int i2), (.long j8)])) _
  refine XS.ifYes X0.here hx rfl (pc0 := 143) (pc' := 152) rfl (hb hby at_143) rfl ((if0 _ _).trans (teq hc143).1) (by decide) (by decide) ?_
  show Steps p.tables e below (T0.setTop (mkF m 152 #[s0, s1, .val (.int i2), s3, s4, s5, s6, s7, .val (.long j8), .second, s10, s11, s12, s13, s14, s15, s16, s17] [(.long j8)])) _
  refine X0.ldc2Long hx hown (mvT hZ (hw _ (List.mem_of_getElem? (i := 19) rfl))) (g := (mkF m 152 #[s0, s1, .val (.int i2), s3, s4, s5, s6, s7, .val (.long j8), .second, s10, s11, s12, s13, s14, s15, s16, s17] [(.long j8)])) rfl (hb hby at_152) _ ?_
  show Steps p.tables e below (T0.setTop (mkF m 155 #[s0, s1, .val (.int i2), s3, s4, s5, s6, s7, .val (.long j8), .second, s10, s11, s12, s13, s14, s15, s16, s17] [(.long (1000 : Int64)), (.long j8)])) _
  refine XS.lcmp X0.here hx rfl (hb hby at_155) rfl ?_
  show Steps p.tables e below (T0.setTop (mkF m 156 #[s0, s1, .val (.int i2), s3, s4, s5, s6, s7, .val (.long j8), .second, s10, s11, s12, s13, s14, s15, s16, s17] [(.int (lcmpW j8 (1000 : Int64)))])) _
  refine XS.ifNo X0.here hx rfl (hb hby at_156) rfl ((if0 _ _).trans (teq hc156).2) ?_
  show Steps p.tables e below (T0.setTop (mkF m 159 #[s0, s1, .val (.int i2), s3, s4, s5, s6, s7, .val (.long j8), .second, s10, s11, s12, s13, s14, s15, s16, s17] [])) _
  refine XS.iconst X0.here hx rfl (hb hby at_159) ?_
  show Steps p.tables e below (T0.setTop (mkF m 160 #[s0, s1, .val (.int i2), s3, s4, s5, s6, s7, .val (.long j8), .second, s10, s11, s12, s13, s14, s15, s16, s17] [(.int (1 : Int32))])) _
  refine XS.goto X0.here hx rfl (pc0 := 160) (pc' := 164) rfl (hb hby at_160) (by decide) (by decide) ?_
  show Steps p.tables e below (T0.setTop (mkF m 164 #[s0, s1, .val (.int i2), s3, s4, s5, s6, s7, .val (.long j8), .second, s10, s11, s12, s13, s14, s15, s16, s17] [(.int (1 : Int32))])) _
  refine XS.istore X0.here hx rfl (hb hby at_164) rfl (l' := #[s0, s1, .val (.int i2), s3, s4, s5, s6, s7, .val (.long j8), .second, s10, s11, s12, s13, s14, .val (.int (1 : Int32)), s16, s17]) (os0_164 hs15) ?_
  exact kt
set_option maxRecDepth 65536 in
set_option maxHeartbeats 40000000 in
theorem tn0_140_166_f {p : Program} {l : Launch} {e : Env} {R : Room} {s : State} {m : MethodId} {args : Array Value} {below : List Frame} {meth : Method} {c : Code} {T0 : State} {locs : List Loc} {cells slots : Nat} {Z : State} {a0 : Array Value} {h0 : Heap} (s0 : Slot) (s1 : Slot) (i2 : Int32) (s3 : Slot) (s4 : Slot) (s5 : Slot) (s6 : Slot) (s7 : Slot) (j8 : Int64) (s10 : Slot) (s11 : Slot) (s12 : Slot) (s13 : Slot) (s14 : Slot) (s15 : Slot) (s16 : Slot) (s17 : Slot)
    (X0 : Stand p l e R s m args below meth c T0 locs cells slots) (hx : p.tables.exec = Jvm.exec) (hZ : Z.Warmed39 s.vm) (hw : ∀ d ∈ tables_1, d.before a0 Z = true) (hby : c.code = code) (hml : c.maxLocals = 18) (hown : s.vm.findClass "com/example/lease/lease/client/BackoffPauseMillisPinLaw" = some m.cls) (e0 : T0.heap = h0) (hs15 : One s15) (hc143 : ¬ (i2 = (0 : Int32))) (hc156 : (lcmpW j8 (500 : Int64)) = (0 : Int32)) :
    ∃ (T' : State), Stand p l e R s m args below meth c T' locs cells slots ∧ T'.heap = h0 ∧
      ∀ target, Steps p.tables e below (T'.setTop (mkF m 166 #[s0, s1, .val (.int i2), s3, s4, s5, s6, s7, .val (.long j8), .second, s10, s11, s12, s13, s14, .val (.int (1 : Int32)), s16, s17] [])) target → Steps p.tables e below (T0.setTop (mkF m 140 #[s0, s1, .val (.int i2), s3, s4, s5, s6, s7, .val (.long j8), .second, s10, s11, s12, s13, s14, s15, s16, s17] [])) target := by
  refine ⟨T0, X0, e0, fun target kt => ?_⟩
  show Steps p.tables e below (T0.setTop (mkF m 140 #[s0, s1, .val (.int i2), s3, s4, s5, s6, s7, .val (.long j8), .second, s10, s11, s12, s13, s14, s15, s16, s17] [])) _
  refine XS.lload X0.here hx rfl (hb hby at_140) rfl ?_
  show Steps p.tables e below (T0.setTop (mkF m 142 #[s0, s1, .val (.int i2), s3, s4, s5, s6, s7, .val (.long j8), .second, s10, s11, s12, s13, s14, s15, s16, s17] [(.long j8)])) _
  refine XS.iloadN X0.here hx rfl (hb hby at_142) rfl ?_
  show Steps p.tables e below (T0.setTop (mkF m 143 #[s0, s1, .val (.int i2), s3, s4, s5, s6, s7, .val (.long j8), .second, s10, s11, s12, s13, s14, s15, s16, s17] [(.int i2), (.long j8)])) _
  refine XS.ifNo X0.here hx rfl (hb hby at_143) rfl ((if0 _ _).trans (feq hc143).1) ?_
  show Steps p.tables e below (T0.setTop (mkF m 146 #[s0, s1, .val (.int i2), s3, s4, s5, s6, s7, .val (.long j8), .second, s10, s11, s12, s13, s14, s15, s16, s17] [(.long j8)])) _
  refine X0.ldc2Long hx hown (mvT hZ (hw _ (List.mem_of_getElem? (i := 18) rfl))) (g := (mkF m 146 #[s0, s1, .val (.int i2), s3, s4, s5, s6, s7, .val (.long j8), .second, s10, s11, s12, s13, s14, s15, s16, s17] [(.long j8)])) rfl (hb hby at_146) _ ?_
  show Steps p.tables e below (T0.setTop (mkF m 149 #[s0, s1, .val (.int i2), s3, s4, s5, s6, s7, .val (.long j8), .second, s10, s11, s12, s13, s14, s15, s16, s17] [(.long (500 : Int64)), (.long j8)])) _
  refine XS.goto X0.here hx rfl (pc0 := 149) (pc' := 155) rfl (hb hby at_149) (by decide) (by decide) ?_
  show Steps p.tables e below (T0.setTop (mkF m 155 #[s0, s1, .val (.int i2), s3, s4, s5, s6, s7, .val (.long j8), .second, s10, s11, s12, s13, s14, s15, s16, s17] [(.long (500 : Int64)), (.long j8)])) _
  refine XS.lcmp X0.here hx rfl (hb hby at_155) rfl ?_
  show Steps p.tables e below (T0.setTop (mkF m 156 #[s0, s1, .val (.int i2), s3, s4, s5, s6, s7, .val (.long j8), .second, s10, s11, s12, s13, s14, s15, s16, s17] [(.int (lcmpW j8 (500 : Int64)))])) _
  refine XS.ifNo X0.here hx rfl (hb hby at_156) rfl ((if0 _ _).trans (teq hc156).2) ?_
  show Steps p.tables e below (T0.setTop (mkF m 159 #[s0, s1, .val (.int i2), s3, s4, s5, s6, s7, .val (.long j8), .second, s10, s11, s12, s13, s14, s15, s16, s17] [])) _
  refine XS.iconst X0.here hx rfl (hb hby at_159) ?_
  show Steps p.tables e below (T0.setTop (mkF m 160 #[s0, s1, .val (.int i2), s3, s4, s5, s6, s7, .val (.long j8), .second, s10, s11, s12, s13, s14, s15, s16, s17] [(.int (1 : Int32))])) _
  refine XS.goto X0.here hx rfl (pc0 := 160) (pc' := 164) rfl (hb hby at_160) (by decide) (by decide) ?_
  show Steps p.tables e below (T0.setTop (mkF m 164 #[s0, s1, .val (.int i2), s3, s4, s5, s6, s7, .val (.long j8), .second, s10, s11, s12, s13, s14, s15, s16, s17] [(.int (1 : Int32))])) _
  refine XS.istore X0.here hx rfl (hb hby at_164) rfl (l' := #[s0, s1, .val (.int i2), s3, s4, s5, s6, s7, .val (.long j8), .second, s10, s11, s12, s13, s14, .val (.int (1 : Int32)), s16, s17]) (os0_164 hs15) ?_
  exact kt
theorem cm2 {p : Program} {l : Launch} {e : Env} {R : Room} {s : State} {m : MethodId} {args : Array Value} {below : List Frame} {meth : Method} {c : Code} {T0 : State} {locs : List Loc} {cells slots : Nat} {Z : State} {a0 : Array Value} {h0 : Heap} (s0 : Slot) (s1 : Slot) (i2 : Int32) (s3 : Slot) (s4 : Slot) (s5 : Slot) (s6 : Slot) (s7 : Slot) (j8 : Int64) (s10 : Slot) (s11 : Slot) (s12 : Slot) (s13 : Slot) (s14 : Slot) (s15 : Slot) (s16 : Slot) (s17 : Slot)
    (X0 : Stand p l e R s m args below meth c T0 locs cells slots) (hx : p.tables.exec = Jvm.exec) (hZ : Z.Warmed39 s.vm) (hw : ∀ d ∈ tables_1, d.before a0 Z = true) (hby : c.code = code) (hml : c.maxLocals = 18) (hown : s.vm.findClass "com/example/lease/lease/client/BackoffPauseMillisPinLaw" = some m.cls) (e0 : T0.heap = h0) (hs15 : One s15) (hj : j8 = own_p i2 1) :
    ∃ (T' : State), Stand p l e R s m args below meth c T' locs cells slots ∧ T'.heap = h0 ∧
      ∀ target, Steps p.tables e below (T'.setTop (mkF m 166 #[s0, s1, .val (.int i2), s3, s4, s5, s6, s7, .val (.long j8), .second, s10, s11, s12, s13, s14, .val (.int (1 : Int32)), s16, s17] [])) target → Steps p.tables e below (T0.setTop (mkF m 140 #[s0, s1, .val (.int i2), s3, s4, s5, s6, s7, .val (.long j8), .second, s10, s11, s12, s13, s14, s15, s16, s17] [])) target := by
  by_cases hc : i2 = (0 : Int32)
  · exact tn0_140_166_t s0 s1 i2 s3 s4 s5 s6 s7 j8 s10 s11 s12 s13 s14 s15 s16 s17 X0 hx hZ hw hby hml hown e0 hs15 hc ((lw_eq _ _).mpr (by rw [hj, own_p, if_pos hc]; rfl))
  · exact tn0_140_166_f s0 s1 i2 s3 s4 s5 s6 s7 j8 s10 s11 s12 s13 s14 s15 s16 s17 X0 hx hZ hw hby hml hown e0 hs15 hc ((lw_eq _ _).mpr (by rw [hj, own_p, if_neg hc]))
theorem os0_190 {s0 : Slot} {s1 : Slot} {s2 : Slot} {z3 : Value} {s4 : Slot} {s5 : Slot} {s6 : Slot} {s7 : Slot} {s8 : Slot} {s9 : Slot} {z10 : Value} {s12 : Slot} {s13 : Slot} {s14 : Slot} {s15 : Slot} {s16 : Slot} {s17 : Slot} {v : Int32} (h : One s16) : storeLocals #[s0, s1, s2, .val z3, s4, s5, s6, s7, s8, s9, .val z10, .second, s12, s13, s14, s15, s16, s17] 16 (.int v) = some #[s0, s1, s2, .val z3, s4, s5, s6, s7, s8, s9, .val z10, .second, s12, s13, s14, s15, .val (.int v), s17] := by
  rcases h with rfl | ⟨w, rfl, hw⟩
  · rfl
  · cases w <;> first | rfl | (simp [Value.category] at hw)
set_option maxRecDepth 65536 in
set_option maxHeartbeats 40000000 in
theorem tn0_166_192_t {p : Program} {l : Launch} {e : Env} {R : Room} {s : State} {m : MethodId} {args : Array Value} {below : List Frame} {meth : Method} {c : Code} {T0 : State} {locs : List Loc} {cells slots : Nat} {Z : State} {a0 : Array Value} {h0 : Heap} (s0 : Slot) (s1 : Slot) (s2 : Slot) (i3 : Int32) (s4 : Slot) (s5 : Slot) (s6 : Slot) (s7 : Slot) (s8 : Slot) (s9 : Slot) (j10 : Int64) (s12 : Slot) (s13 : Slot) (s14 : Slot) (s15 : Slot) (s16 : Slot) (s17 : Slot)
    (X0 : Stand p l e R s m args below meth c T0 locs cells slots) (hx : p.tables.exec = Jvm.exec) (hZ : Z.Warmed39 s.vm) (hw : ∀ d ∈ tables_1, d.before a0 Z = true) (hby : c.code = code) (hml : c.maxLocals = 18) (hown : s.vm.findClass "com/example/lease/lease/client/BackoffPauseMillisPinLaw" = some m.cls) (e0 : T0.heap = h0) (hs16 : One s16) (hc169 : i3 = (0 : Int32)) (hc182 : (lcmpW j10 (1000 : Int64)) = (0 : Int32)) :
    ∃ (T' : State), Stand p l e R s m args below meth c T' locs cells slots ∧ T'.heap = h0 ∧
      ∀ target, Steps p.tables e below (T'.setTop (mkF m 192 #[s0, s1, s2, .val (.int i3), s4, s5, s6, s7, s8, s9, .val (.long j10), .second, s12, s13, s14, s15, .val (.int (1 : Int32)), s17] [])) target → Steps p.tables e below (T0.setTop (mkF m 166 #[s0, s1, s2, .val (.int i3), s4, s5, s6, s7, s8, s9, .val (.long j10), .second, s12, s13, s14, s15, s16, s17] [])) target := by
  refine ⟨T0, X0, e0, fun target kt => ?_⟩
  show Steps p.tables e below (T0.setTop (mkF m 166 #[s0, s1, s2, .val (.int i3), s4, s5, s6, s7, s8, s9, .val (.long j10), .second, s12, s13, s14, s15, s16, s17] [])) _
  refine XS.lload X0.here hx rfl (hb hby at_166) rfl ?_
  show Steps p.tables e below (T0.setTop (mkF m 168 #[s0, s1, s2, .val (.int i3), s4, s5, s6, s7, s8, s9, .val (.long j10), .second, s12, s13, s14, s15, s16, s17] [(.long j10)])) _
  refine XS.iloadN X0.here hx rfl (hb hby at_168) rfl ?_
  show Steps p.tables e below (T0.setTop (mkF m 169 #[s0, s1, s2, .val (.int i3), s4, s5, s6, s7, s8, s9, .val (.long j10), .second, s12, s13, s14, s15, s16, s17] [(.int i3), (.long j10)])) _
  refine XS.ifYes X0.here hx rfl (pc0 := 169) (pc' := 178) rfl (hb hby at_169) rfl ((if0 _ _).trans (teq hc169).1) (by decide) (by decide) ?_
  show Steps p.tables e below (T0.setTop (mkF m 178 #[s0, s1, s2, .val (.int i3), s4, s5, s6, s7, s8, s9, .val (.long j10), .second, s12, s13, s14, s15, s16, s17] [(.long j10)])) _
  refine X0.ldc2Long hx hown (mvT hZ (hw _ (List.mem_of_getElem? (i := 19) rfl))) (g := (mkF m 178 #[s0, s1, s2, .val (.int i3), s4, s5, s6, s7, s8, s9, .val (.long j10), .second, s12, s13, s14, s15, s16, s17] [(.long j10)])) rfl (hb hby at_178) _ ?_
  show Steps p.tables e below (T0.setTop (mkF m 181 #[s0, s1, s2, .val (.int i3), s4, s5, s6, s7, s8, s9, .val (.long j10), .second, s12, s13, s14, s15, s16, s17] [(.long (1000 : Int64)), (.long j10)])) _
  refine XS.lcmp X0.here hx rfl (hb hby at_181) rfl ?_
  show Steps p.tables e below (T0.setTop (mkF m 182 #[s0, s1, s2, .val (.int i3), s4, s5, s6, s7, s8, s9, .val (.long j10), .second, s12, s13, s14, s15, s16, s17] [(.int (lcmpW j10 (1000 : Int64)))])) _
  refine XS.ifNo X0.here hx rfl (hb hby at_182) rfl ((if0 _ _).trans (teq hc182).2) ?_
  show Steps p.tables e below (T0.setTop (mkF m 185 #[s0, s1, s2, .val (.int i3), s4, s5, s6, s7, s8, s9, .val (.long j10), .second, s12, s13, s14, s15, s16, s17] [])) _
  refine XS.iconst X0.here hx rfl (hb hby at_185) ?_
  show Steps p.tables e below (T0.setTop (mkF m 186 #[s0, s1, s2, .val (.int i3), s4, s5, s6, s7, s8, s9, .val (.long j10), .second, s12, s13, s14, s15, s16, s17] [(.int (1 : Int32))])) _
  refine XS.goto X0.here hx rfl (pc0 := 186) (pc' := 190) rfl (hb hby at_186) (by decide) (by decide) ?_
  show Steps p.tables e below (T0.setTop (mkF m 190 #[s0, s1, s2, .val (.int i3), s4, s5, s6, s7, s8, s9, .val (.long j10), .second, s12, s13, s14, s15, s16, s17] [(.int (1 : Int32))])) _
  refine XS.istore X0.here hx rfl (hb hby at_190) rfl (l' := #[s0, s1, s2, .val (.int i3), s4, s5, s6, s7, s8, s9, .val (.long j10), .second, s12, s13, s14, s15, .val (.int (1 : Int32)), s17]) (os0_190 hs16) ?_
  exact kt
set_option maxRecDepth 65536 in
set_option maxHeartbeats 40000000 in
theorem tn0_166_192_f {p : Program} {l : Launch} {e : Env} {R : Room} {s : State} {m : MethodId} {args : Array Value} {below : List Frame} {meth : Method} {c : Code} {T0 : State} {locs : List Loc} {cells slots : Nat} {Z : State} {a0 : Array Value} {h0 : Heap} (s0 : Slot) (s1 : Slot) (s2 : Slot) (i3 : Int32) (s4 : Slot) (s5 : Slot) (s6 : Slot) (s7 : Slot) (s8 : Slot) (s9 : Slot) (j10 : Int64) (s12 : Slot) (s13 : Slot) (s14 : Slot) (s15 : Slot) (s16 : Slot) (s17 : Slot)
    (X0 : Stand p l e R s m args below meth c T0 locs cells slots) (hx : p.tables.exec = Jvm.exec) (hZ : Z.Warmed39 s.vm) (hw : ∀ d ∈ tables_1, d.before a0 Z = true) (hby : c.code = code) (hml : c.maxLocals = 18) (hown : s.vm.findClass "com/example/lease/lease/client/BackoffPauseMillisPinLaw" = some m.cls) (e0 : T0.heap = h0) (hs16 : One s16) (hc169 : ¬ (i3 = (0 : Int32))) (hc182 : (lcmpW j10 (500 : Int64)) = (0 : Int32)) :
    ∃ (T' : State), Stand p l e R s m args below meth c T' locs cells slots ∧ T'.heap = h0 ∧
      ∀ target, Steps p.tables e below (T'.setTop (mkF m 192 #[s0, s1, s2, .val (.int i3), s4, s5, s6, s7, s8, s9, .val (.long j10), .second, s12, s13, s14, s15, .val (.int (1 : Int32)), s17] [])) target → Steps p.tables e below (T0.setTop (mkF m 166 #[s0, s1, s2, .val (.int i3), s4, s5, s6, s7, s8, s9, .val (.long j10), .second, s12, s13, s14, s15, s16, s17] [])) target := by
  refine ⟨T0, X0, e0, fun target kt => ?_⟩
  show Steps p.tables e below (T0.setTop (mkF m 166 #[s0, s1, s2, .val (.int i3), s4, s5, s6, s7, s8, s9, .val (.long j10), .second, s12, s13, s14, s15, s16, s17] [])) _
  refine XS.lload X0.here hx rfl (hb hby at_166) rfl ?_
  show Steps p.tables e below (T0.setTop (mkF m 168 #[s0, s1, s2, .val (.int i3), s4, s5, s6, s7, s8, s9, .val (.long j10), .second, s12, s13, s14, s15, s16, s17] [(.long j10)])) _
  refine XS.iloadN X0.here hx rfl (hb hby at_168) rfl ?_
  show Steps p.tables e below (T0.setTop (mkF m 169 #[s0, s1, s2, .val (.int i3), s4, s5, s6, s7, s8, s9, .val (.long j10), .second, s12, s13, s14, s15, s16, s17] [(.int i3), (.long j10)])) _
  refine XS.ifNo X0.here hx rfl (hb hby at_169) rfl ((if0 _ _).trans (feq hc169).1) ?_
  show Steps p.tables e below (T0.setTop (mkF m 172 #[s0, s1, s2, .val (.int i3), s4, s5, s6, s7, s8, s9, .val (.long j10), .second, s12, s13, s14, s15, s16, s17] [(.long j10)])) _
  refine X0.ldc2Long hx hown (mvT hZ (hw _ (List.mem_of_getElem? (i := 18) rfl))) (g := (mkF m 172 #[s0, s1, s2, .val (.int i3), s4, s5, s6, s7, s8, s9, .val (.long j10), .second, s12, s13, s14, s15, s16, s17] [(.long j10)])) rfl (hb hby at_172) _ ?_
  show Steps p.tables e below (T0.setTop (mkF m 175 #[s0, s1, s2, .val (.int i3), s4, s5, s6, s7, s8, s9, .val (.long j10), .second, s12, s13, s14, s15, s16, s17] [(.long (500 : Int64)), (.long j10)])) _
  refine XS.goto X0.here hx rfl (pc0 := 175) (pc' := 181) rfl (hb hby at_175) (by decide) (by decide) ?_
  show Steps p.tables e below (T0.setTop (mkF m 181 #[s0, s1, s2, .val (.int i3), s4, s5, s6, s7, s8, s9, .val (.long j10), .second, s12, s13, s14, s15, s16, s17] [(.long (500 : Int64)), (.long j10)])) _
  refine XS.lcmp X0.here hx rfl (hb hby at_181) rfl ?_
  show Steps p.tables e below (T0.setTop (mkF m 182 #[s0, s1, s2, .val (.int i3), s4, s5, s6, s7, s8, s9, .val (.long j10), .second, s12, s13, s14, s15, s16, s17] [(.int (lcmpW j10 (500 : Int64)))])) _
  refine XS.ifNo X0.here hx rfl (hb hby at_182) rfl ((if0 _ _).trans (teq hc182).2) ?_
  show Steps p.tables e below (T0.setTop (mkF m 185 #[s0, s1, s2, .val (.int i3), s4, s5, s6, s7, s8, s9, .val (.long j10), .second, s12, s13, s14, s15, s16, s17] [])) _
  refine XS.iconst X0.here hx rfl (hb hby at_185) ?_
  show Steps p.tables e below (T0.setTop (mkF m 186 #[s0, s1, s2, .val (.int i3), s4, s5, s6, s7, s8, s9, .val (.long j10), .second, s12, s13, s14, s15, s16, s17] [(.int (1 : Int32))])) _
  refine XS.goto X0.here hx rfl (pc0 := 186) (pc' := 190) rfl (hb hby at_186) (by decide) (by decide) ?_
  show Steps p.tables e below (T0.setTop (mkF m 190 #[s0, s1, s2, .val (.int i3), s4, s5, s6, s7, s8, s9, .val (.long j10), .second, s12, s13, s14, s15, s16, s17] [(.int (1 : Int32))])) _
  refine XS.istore X0.here hx rfl (hb hby at_190) rfl (l' := #[s0, s1, s2, .val (.int i3), s4, s5, s6, s7, s8, s9, .val (.long j10), .second, s12, s13, s14, s15, .val (.int (1 : Int32)), s17]) (os0_190 hs16) ?_
  exact kt
theorem cm3 {p : Program} {l : Launch} {e : Env} {R : Room} {s : State} {m : MethodId} {args : Array Value} {below : List Frame} {meth : Method} {c : Code} {T0 : State} {locs : List Loc} {cells slots : Nat} {Z : State} {a0 : Array Value} {h0 : Heap} (s0 : Slot) (s1 : Slot) (s2 : Slot) (i3 : Int32) (s4 : Slot) (s5 : Slot) (s6 : Slot) (s7 : Slot) (s8 : Slot) (s9 : Slot) (j10 : Int64) (s12 : Slot) (s13 : Slot) (s14 : Slot) (s15 : Slot) (s16 : Slot) (s17 : Slot)
    (X0 : Stand p l e R s m args below meth c T0 locs cells slots) (hx : p.tables.exec = Jvm.exec) (hZ : Z.Warmed39 s.vm) (hw : ∀ d ∈ tables_1, d.before a0 Z = true) (hby : c.code = code) (hml : c.maxLocals = 18) (hown : s.vm.findClass "com/example/lease/lease/client/BackoffPauseMillisPinLaw" = some m.cls) (e0 : T0.heap = h0) (hs16 : One s16) (hj : j10 = own_p i3 1) :
    ∃ (T' : State), Stand p l e R s m args below meth c T' locs cells slots ∧ T'.heap = h0 ∧
      ∀ target, Steps p.tables e below (T'.setTop (mkF m 192 #[s0, s1, s2, .val (.int i3), s4, s5, s6, s7, s8, s9, .val (.long j10), .second, s12, s13, s14, s15, .val (.int (1 : Int32)), s17] [])) target → Steps p.tables e below (T0.setTop (mkF m 166 #[s0, s1, s2, .val (.int i3), s4, s5, s6, s7, s8, s9, .val (.long j10), .second, s12, s13, s14, s15, s16, s17] [])) target := by
  by_cases hc : i3 = (0 : Int32)
  · exact tn0_166_192_t s0 s1 s2 i3 s4 s5 s6 s7 s8 s9 j10 s12 s13 s14 s15 s16 s17 X0 hx hZ hw hby hml hown e0 hs16 hc ((lw_eq _ _).mpr (by rw [hj, own_p, if_pos hc]; rfl))
  · exact tn0_166_192_f s0 s1 s2 i3 s4 s5 s6 s7 s8 s9 j10 s12 s13 s14 s15 s16 s17 X0 hx hZ hw hby hml hown e0 hs16 hc ((lw_eq _ _).mpr (by rw [hj, own_p, if_neg hc]))
theorem os0_217 {s0 : Slot} {s1 : Slot} {s2 : Slot} {s3 : Slot} {z4 : Value} {s5 : Slot} {s6 : Slot} {s7 : Slot} {s8 : Slot} {s9 : Slot} {s10 : Slot} {s11 : Slot} {z12 : Value} {s14 : Slot} {s15 : Slot} {s16 : Slot} {s17 : Slot} {v : Int32} (h : One s17) : storeLocals #[s0, s1, s2, s3, .val z4, s5, s6, s7, s8, s9, s10, s11, .val z12, .second, s14, s15, s16, s17] 17 (.int v) = some #[s0, s1, s2, s3, .val z4, s5, s6, s7, s8, s9, s10, s11, .val z12, .second, s14, s15, s16, .val (.int v)] := by
  rcases h with rfl | ⟨w, rfl, hw⟩
  · rfl
  · cases w <;> first | rfl | (simp [Value.category] at hw)
set_option maxRecDepth 65536 in
set_option maxHeartbeats 40000000 in
theorem tn0_192_219_t {p : Program} {l : Launch} {e : Env} {R : Room} {s : State} {m : MethodId} {args : Array Value} {below : List Frame} {meth : Method} {c : Code} {T0 : State} {locs : List Loc} {cells slots : Nat} {Z : State} {a0 : Array Value} {h0 : Heap} (s0 : Slot) (s1 : Slot) (s2 : Slot) (s3 : Slot) (i4 : Int32) (s5 : Slot) (s6 : Slot) (s7 : Slot) (s8 : Slot) (s9 : Slot) (s10 : Slot) (s11 : Slot) (j12 : Int64) (s14 : Slot) (s15 : Slot) (s16 : Slot) (s17 : Slot)
    (X0 : Stand p l e R s m args below meth c T0 locs cells slots) (hx : p.tables.exec = Jvm.exec) (hZ : Z.Warmed39 s.vm) (hw : ∀ d ∈ tables_1, d.before a0 Z = true) (hby : c.code = code) (hml : c.maxLocals = 18) (hown : s.vm.findClass "com/example/lease/lease/client/BackoffPauseMillisPinLaw" = some m.cls) (e0 : T0.heap = h0) (hs17 : One s17) (hc196 : i4 = (0 : Int32)) (hc209 : (lcmpW j12 (1000 : Int64)) = (0 : Int32)) :
    ∃ (T' : State), Stand p l e R s m args below meth c T' locs cells slots ∧ T'.heap = h0 ∧
      ∀ target, Steps p.tables e below (T'.setTop (mkF m 219 #[s0, s1, s2, s3, .val (.int i4), s5, s6, s7, s8, s9, s10, s11, .val (.long j12), .second, s14, s15, s16, .val (.int (1 : Int32))] [])) target → Steps p.tables e below (T0.setTop (mkF m 192 #[s0, s1, s2, s3, .val (.int i4), s5, s6, s7, s8, s9, s10, s11, .val (.long j12), .second, s14, s15, s16, s17] [])) target := by
  refine ⟨T0, X0, e0, fun target kt => ?_⟩
  show Steps p.tables e below (T0.setTop (mkF m 192 #[s0, s1, s2, s3, .val (.int i4), s5, s6, s7, s8, s9, s10, s11, .val (.long j12), .second, s14, s15, s16, s17] [])) _
  refine XS.lload X0.here hx rfl (hb hby at_192) rfl ?_
  show Steps p.tables e below (T0.setTop (mkF m 194 #[s0, s1, s2, s3, .val (.int i4), s5, s6, s7, s8, s9, s10, s11, .val (.long j12), .second, s14, s15, s16, s17] [(.long j12)])) _
  refine XS.iload X0.here hx rfl (hb hby at_194) rfl ?_
  show Steps p.tables e below (T0.setTop (mkF m 196 #[s0, s1, s2, s3, .val (.int i4), s5, s6, s7, s8, s9, s10, s11, .val (.long j12), .second, s14, s15, s16, s17] [(.int i4), (.long j12)])) _
  refine XS.ifYes X0.here hx rfl (pc0 := 196) (pc' := 205) rfl (hb hby at_196) rfl ((if0 _ _).trans (teq hc196).1) (by decide) (by decide) ?_
  show Steps p.tables e below (T0.setTop (mkF m 205 #[s0, s1, s2, s3, .val (.int i4), s5, s6, s7, s8, s9, s10, s11, .val (.long j12), .second, s14, s15, s16, s17] [(.long j12)])) _
  refine X0.ldc2Long hx hown (mvT hZ (hw _ (List.mem_of_getElem? (i := 19) rfl))) (g := (mkF m 205 #[s0, s1, s2, s3, .val (.int i4), s5, s6, s7, s8, s9, s10, s11, .val (.long j12), .second, s14, s15, s16, s17] [(.long j12)])) rfl (hb hby at_205) _ ?_
  show Steps p.tables e below (T0.setTop (mkF m 208 #[s0, s1, s2, s3, .val (.int i4), s5, s6, s7, s8, s9, s10, s11, .val (.long j12), .second, s14, s15, s16, s17] [(.long (1000 : Int64)), (.long j12)])) _
  refine XS.lcmp X0.here hx rfl (hb hby at_208) rfl ?_
  show Steps p.tables e below (T0.setTop (mkF m 209 #[s0, s1, s2, s3, .val (.int i4), s5, s6, s7, s8, s9, s10, s11, .val (.long j12), .second, s14, s15, s16, s17] [(.int (lcmpW j12 (1000 : Int64)))])) _
  refine XS.ifNo X0.here hx rfl (hb hby at_209) rfl ((if0 _ _).trans (teq hc209).2) ?_
  show Steps p.tables e below (T0.setTop (mkF m 212 #[s0, s1, s2, s3, .val (.int i4), s5, s6, s7, s8, s9, s10, s11, .val (.long j12), .second, s14, s15, s16, s17] [])) _
  refine XS.iconst X0.here hx rfl (hb hby at_212) ?_
  show Steps p.tables e below (T0.setTop (mkF m 213 #[s0, s1, s2, s3, .val (.int i4), s5, s6, s7, s8, s9, s10, s11, .val (.long j12), .second, s14, s15, s16, s17] [(.int (1 : Int32))])) _
  refine XS.goto X0.here hx rfl (pc0 := 213) (pc' := 217) rfl (hb hby at_213) (by decide) (by decide) ?_
  show Steps p.tables e below (T0.setTop (mkF m 217 #[s0, s1, s2, s3, .val (.int i4), s5, s6, s7, s8, s9, s10, s11, .val (.long j12), .second, s14, s15, s16, s17] [(.int (1 : Int32))])) _
  refine XS.istore X0.here hx rfl (hb hby at_217) rfl (l' := #[s0, s1, s2, s3, .val (.int i4), s5, s6, s7, s8, s9, s10, s11, .val (.long j12), .second, s14, s15, s16, .val (.int (1 : Int32))]) (os0_217 hs17) ?_
  exact kt
set_option maxRecDepth 65536 in
set_option maxHeartbeats 40000000 in
theorem tn0_192_219_f {p : Program} {l : Launch} {e : Env} {R : Room} {s : State} {m : MethodId} {args : Array Value} {below : List Frame} {meth : Method} {c : Code} {T0 : State} {locs : List Loc} {cells slots : Nat} {Z : State} {a0 : Array Value} {h0 : Heap} (s0 : Slot) (s1 : Slot) (s2 : Slot) (s3 : Slot) (i4 : Int32) (s5 : Slot) (s6 : Slot) (s7 : Slot) (s8 : Slot) (s9 : Slot) (s10 : Slot) (s11 : Slot) (j12 : Int64) (s14 : Slot) (s15 : Slot) (s16 : Slot) (s17 : Slot)
    (X0 : Stand p l e R s m args below meth c T0 locs cells slots) (hx : p.tables.exec = Jvm.exec) (hZ : Z.Warmed39 s.vm) (hw : ∀ d ∈ tables_1, d.before a0 Z = true) (hby : c.code = code) (hml : c.maxLocals = 18) (hown : s.vm.findClass "com/example/lease/lease/client/BackoffPauseMillisPinLaw" = some m.cls) (e0 : T0.heap = h0) (hs17 : One s17) (hc196 : ¬ (i4 = (0 : Int32))) (hc209 : (lcmpW j12 (500 : Int64)) = (0 : Int32)) :
    ∃ (T' : State), Stand p l e R s m args below meth c T' locs cells slots ∧ T'.heap = h0 ∧
      ∀ target, Steps p.tables e below (T'.setTop (mkF m 219 #[s0, s1, s2, s3, .val (.int i4), s5, s6, s7, s8, s9, s10, s11, .val (.long j12), .second, s14, s15, s16, .val (.int (1 : Int32))] [])) target → Steps p.tables e below (T0.setTop (mkF m 192 #[s0, s1, s2, s3, .val (.int i4), s5, s6, s7, s8, s9, s10, s11, .val (.long j12), .second, s14, s15, s16, s17] [])) target := by
  refine ⟨T0, X0, e0, fun target kt => ?_⟩
  show Steps p.tables e below (T0.setTop (mkF m 192 #[s0, s1, s2, s3, .val (.int i4), s5, s6, s7, s8, s9, s10, s11, .val (.long j12), .second, s14, s15, s16, s17] [])) _
  refine XS.lload X0.here hx rfl (hb hby at_192) rfl ?_
  show Steps p.tables e below (T0.setTop (mkF m 194 #[s0, s1, s2, s3, .val (.int i4), s5, s6, s7, s8, s9, s10, s11, .val (.long j12), .second, s14, s15, s16, s17] [(.long j12)])) _
  refine XS.iload X0.here hx rfl (hb hby at_194) rfl ?_
  show Steps p.tables e below (T0.setTop (mkF m 196 #[s0, s1, s2, s3, .val (.int i4), s5, s6, s7, s8, s9, s10, s11, .val (.long j12), .second, s14, s15, s16, s17] [(.int i4), (.long j12)])) _
  refine XS.ifNo X0.here hx rfl (hb hby at_196) rfl ((if0 _ _).trans (feq hc196).1) ?_
  show Steps p.tables e below (T0.setTop (mkF m 199 #[s0, s1, s2, s3, .val (.int i4), s5, s6, s7, s8, s9, s10, s11, .val (.long j12), .second, s14, s15, s16, s17] [(.long j12)])) _
  refine X0.ldc2Long hx hown (mvT hZ (hw _ (List.mem_of_getElem? (i := 18) rfl))) (g := (mkF m 199 #[s0, s1, s2, s3, .val (.int i4), s5, s6, s7, s8, s9, s10, s11, .val (.long j12), .second, s14, s15, s16, s17] [(.long j12)])) rfl (hb hby at_199) _ ?_
  show Steps p.tables e below (T0.setTop (mkF m 202 #[s0, s1, s2, s3, .val (.int i4), s5, s6, s7, s8, s9, s10, s11, .val (.long j12), .second, s14, s15, s16, s17] [(.long (500 : Int64)), (.long j12)])) _
  refine XS.goto X0.here hx rfl (pc0 := 202) (pc' := 208) rfl (hb hby at_202) (by decide) (by decide) ?_
  show Steps p.tables e below (T0.setTop (mkF m 208 #[s0, s1, s2, s3, .val (.int i4), s5, s6, s7, s8, s9, s10, s11, .val (.long j12), .second, s14, s15, s16, s17] [(.long (500 : Int64)), (.long j12)])) _
  refine XS.lcmp X0.here hx rfl (hb hby at_208) rfl ?_
  show Steps p.tables e below (T0.setTop (mkF m 209 #[s0, s1, s2, s3, .val (.int i4), s5, s6, s7, s8, s9, s10, s11, .val (.long j12), .second, s14, s15, s16, s17] [(.int (lcmpW j12 (500 : Int64)))])) _
  refine XS.ifNo X0.here hx rfl (hb hby at_209) rfl ((if0 _ _).trans (teq hc209).2) ?_
  show Steps p.tables e below (T0.setTop (mkF m 212 #[s0, s1, s2, s3, .val (.int i4), s5, s6, s7, s8, s9, s10, s11, .val (.long j12), .second, s14, s15, s16, s17] [])) _
  refine XS.iconst X0.here hx rfl (hb hby at_212) ?_
  show Steps p.tables e below (T0.setTop (mkF m 213 #[s0, s1, s2, s3, .val (.int i4), s5, s6, s7, s8, s9, s10, s11, .val (.long j12), .second, s14, s15, s16, s17] [(.int (1 : Int32))])) _
  refine XS.goto X0.here hx rfl (pc0 := 213) (pc' := 217) rfl (hb hby at_213) (by decide) (by decide) ?_
  show Steps p.tables e below (T0.setTop (mkF m 217 #[s0, s1, s2, s3, .val (.int i4), s5, s6, s7, s8, s9, s10, s11, .val (.long j12), .second, s14, s15, s16, s17] [(.int (1 : Int32))])) _
  refine XS.istore X0.here hx rfl (hb hby at_217) rfl (l' := #[s0, s1, s2, s3, .val (.int i4), s5, s6, s7, s8, s9, s10, s11, .val (.long j12), .second, s14, s15, s16, .val (.int (1 : Int32))]) (os0_217 hs17) ?_
  exact kt
theorem cm4 {p : Program} {l : Launch} {e : Env} {R : Room} {s : State} {m : MethodId} {args : Array Value} {below : List Frame} {meth : Method} {c : Code} {T0 : State} {locs : List Loc} {cells slots : Nat} {Z : State} {a0 : Array Value} {h0 : Heap} (s0 : Slot) (s1 : Slot) (s2 : Slot) (s3 : Slot) (i4 : Int32) (s5 : Slot) (s6 : Slot) (s7 : Slot) (s8 : Slot) (s9 : Slot) (s10 : Slot) (s11 : Slot) (j12 : Int64) (s14 : Slot) (s15 : Slot) (s16 : Slot) (s17 : Slot)
    (X0 : Stand p l e R s m args below meth c T0 locs cells slots) (hx : p.tables.exec = Jvm.exec) (hZ : Z.Warmed39 s.vm) (hw : ∀ d ∈ tables_1, d.before a0 Z = true) (hby : c.code = code) (hml : c.maxLocals = 18) (hown : s.vm.findClass "com/example/lease/lease/client/BackoffPauseMillisPinLaw" = some m.cls) (e0 : T0.heap = h0) (hs17 : One s17) (hj : j12 = own_p i4 1) :
    ∃ (T' : State), Stand p l e R s m args below meth c T' locs cells slots ∧ T'.heap = h0 ∧
      ∀ target, Steps p.tables e below (T'.setTop (mkF m 219 #[s0, s1, s2, s3, .val (.int i4), s5, s6, s7, s8, s9, s10, s11, .val (.long j12), .second, s14, s15, s16, .val (.int (1 : Int32))] [])) target → Steps p.tables e below (T0.setTop (mkF m 192 #[s0, s1, s2, s3, .val (.int i4), s5, s6, s7, s8, s9, s10, s11, .val (.long j12), .second, s14, s15, s16, s17] [])) target := by
  by_cases hc : i4 = (0 : Int32)
  · exact tn0_192_219_t s0 s1 s2 s3 i4 s5 s6 s7 s8 s9 s10 s11 j12 s14 s15 s16 s17 X0 hx hZ hw hby hml hown e0 hs17 hc ((lw_eq _ _).mpr (by rw [hj, own_p, if_pos hc]; rfl))
  · exact tn0_192_219_f s0 s1 s2 s3 i4 s5 s6 s7 s8 s9 s10 s11 j12 s14 s15 s16 s17 X0 hx hZ hw hby hml hown e0 hs17 hc ((lw_eq _ _).mpr (by rw [hj, own_p, if_neg hc]))
theorem os0_57 {s0 : Slot} {s1 : Slot} {s2 : Slot} {s3 : Slot} {s4 : Slot} {s5 : Slot} {s6 : Slot} {s7 : Slot} {s8 : Slot} {s9 : Slot} {s10 : Slot} {s11 : Slot} {s12 : Slot} {s13 : Slot} {s14 : Slot} {s15 : Slot} {s16 : Slot} {s17 : Slot} {v : Addr} (h : One s5) : storeLocals #[s0, s1, s2, s3, s4, s5, s6, s7, s8, s9, s10, s11, s12, s13, s14, s15, s16, s17] 5 (.ref v) = some #[s0, s1, s2, s3, s4, .val (.ref v), s6, s7, s8, s9, s10, s11, s12, s13, s14, s15, s16, s17] := by
  rcases h with rfl | ⟨w, rfl, hw⟩
  · rfl
  · cases w <;> first | rfl | (simp [Value.category] at hw)
theorem own_p0 (r : Int32) : own_p r (0 : Int32) = 500 := by
  by_cases h : r = 0
  · rw [own_p, if_pos h]; rfl
  · rw [own_p, if_neg h]
theorem pn_0 : plainName "com/example/lease/lease/client/BackoffPauseMillisPinLaw" = true := by first | (simp [plainName, overriddenIn]; done) | decide +kernel
theorem ef_0 (m : MethodId) (x0 : Int32) : entryFrame m #[(.int x0)] maxLocals = mkF m 0 #[.val (.int x0), .unset, .unset, .unset, .unset, .unset, .unset, .unset, .unset, .unset, .unset, .unset, .unset, .unset, .unset, .unset, .unset, .unset] [] := by first | (simp [entryFrame, mkF, argsToLocals, Value.category, maxLocals]; done) | rfl
def Q0 (Z : State) (p1 : Int32) (h0 : Heap) (n0 : Nat) (v : Option Value) (h : Heap) (L : List Loc) : Prop := v = some (.int (1 : Int32)) ∧ Fr n0 L
set_option maxRecDepth 65536 in
set_option maxHeartbeats 40000000 in
theorem rm0 (l : Launch) (Z : State) (a0 : Array Value) (hw : ∀ d ∈ tables_1, d.before a0 Z = true) (ws : List Jvm.Cond) (p1 : Int32) (h0 : Heap) (n0 : Nat) (Z0 : n0 ≤ h0.size) :
    MetFree l x (head1 (Jvm.Cond.code x code maxLocals ret :: ws) room_1) (fun a U => a = #[(.int p1)] ∧ Z.Warmed39 U.vm ∧ U.heap = h0) (fun _ _ _ _ _ => True) (fun _ U o U' => ∃ v L, o = .returned v ∧ Q0 Z p1 h0 n0 v U'.heap L ∧ FrameEnd U o U' L room_1.cells room_1.slots) := by
  refine MetFree.of_bodySF (plainFor_of_name pn_0) hisR ?_
  intro p e s m args below meth c s₁ Bd hml0 hP hK
  obtain ⟨rfl, hZ, hh⟩ := hP
  have hx := Bd.exec
  have hby := Bd.bytes
  have hml : c.maxLocals = 18 := hml0
  have hown : s.vm.findClass "com/example/lease/lease/client/BackoffPauseMillisPinLaw" = some m.cls := findClass_of_methodNamed Bd.named
  have hnm := (name_of_methodNamed Bd.named Bd.method).1
  have X0 : Stand p l e room_1 s m #[(.int p1)] below meth c s₁ [] 0 0 := Stand.of_body Bd
  have e0 : s₁.heap = h0 := by rw [← hh, Bd.state]; rfl
  have N0 := Fr.nil n0
  have pre0 : ∀ t, Steps p.tables e below (s₁.setTop (mkF m 0 #[.val (.int p1), .unset, .unset, .unset, .unset, .unset, .unset, .unset, .unset, .unset, .unset, .unset, .unset, .unset, .unset, .unset, .unset, .unset] [])) t → Steps p.tables e below (s₁.setTop (entryFrame m #[(.int p1)] maxLocals)) t := fun t k => castTop (ef_0 m p1) k
  obtain ⟨Ta0, Xa0, ea0, sa0⟩ := sg1 p1 .unset .unset .unset .unset .unset .unset .unset .unset .unset .unset .unset .unset .unset .unset .unset .unset .unset X0 hx hZ hw hby hml hown e0 One.u
  obtain ⟨Ta1, Xa1, ea1, sa1⟩ := sg2 p1 (.val (.int (own_b (p1 &&& (1 : Int32))))) .unset .unset .unset .unset .unset .unset .unset .unset .unset .unset .unset .unset .unset .unset .unset .unset Xa0 hx hZ hw hby hml hown ea0 One.u
  obtain ⟨Ta2, Xa2, ea2, sa2⟩ := sg3 p1 (.val (.int (own_b (p1 &&& (1 : Int32))))) (.val (.int (own_b (p1 &&& (2 : Int32))))) .unset .unset .unset .unset .unset .unset .unset .unset .unset .unset .unset .unset .unset .unset .unset Xa1 hx hZ hw hby hml hown ea1 One.u
  obtain ⟨Ta3, Xa3, ea3, sa3⟩ := sg4 p1 (.val (.int (own_b (p1 &&& (1 : Int32))))) (.val (.int (own_b (p1 &&& (2 : Int32))))) (.val (.int (own_b (p1 &&& (4 : Int32))))) .unset .unset .unset .unset .unset .unset .unset .unset .unset .unset .unset .unset .unset .unset Xa2 hx hZ hw hby hml hown ea2 One.u
  obtain ⟨T2, h2, X2, e2, E2, A2, D2, -, st2⟩ := newO Xa3 hx hZ hown (hw _ (List.mem_of_getElem? (i := 0) rfl)) (hw _ (List.mem_of_getElem? (i := 1) rfl)) (hw _ (List.mem_of_getElem? (i := 2) rfl)) ea3 (g := (mkF m 50 #[.val (.int p1), .val (.int (own_b (p1 &&& (1 : Int32)))), .val (.int (own_b (p1 &&& (2 : Int32)))), .val (.int (own_b (p1 &&& (4 : Int32)))), .val (.int (own_b (p1 &&& (8 : Int32)))), .unset, .unset, .unset, .unset, .unset, .unset, .unset, .unset, .unset, .unset, .unset, .unset, .unset] [])) rfl (hb hby at_50) (by decide) (by decide)
  obtain ⟨b2, g2⟩ : ∃ z, z = h0.size := ⟨_, rfl⟩
  rw [← g2] at A2 D2 st2
  have F_failing_b2 : Fld Z h2 b2 "com/example/lease/lease/client/Backoff" "failing" "Z" (.int (0 : Int32)) := D2 (Or.inl (hw _ (List.mem_of_getElem? (i := 15) rfl))) (ty := .boolean) (by decide)
  have Z2 : n0 ≤ h2.size := Nat.le_trans Z0 E2.1
  have g_b2 : n0 ≤ b2 := Nat.le_trans Z0 (Nat.le_of_eq g2.symm)
  have sz_b2 : h0.size ≤ b2 := (Nat.le_trans (Keep.refl h0 []).1 (Nat.le_of_eq g2.symm))
  have K2 : Keep h0 h2 [] := (Keep.refl h0 []).ext E2
  obtain ⟨_, _, ⟨T3, L3, k3, n3⟩, -, X3, ⟨Lc3, hQ3, l3, y3, z3⟩, st3⟩ := X2.specialBack hx (y := (⟨"com/example/lease/lease/client/Backoff", "<init>", "()V"⟩ : MethodName)) rfl hown (mvT hZ (hw _ (List.mem_of_getElem? (i := 3) rfl))) (mvT hZ (hw _ (List.mem_of_getElem? (i := 4) rfl))) (mvT hZ (hw _ (List.mem_of_getElem? (i := 5) rfl))) (by decide) (backOf (W := 1) (rm1 l Z a0 hw [] b2 h2 n0 Z2) hZ (hw _ (List.mem_of_getElem? (i := 5) rfl)) (hw _ (List.mem_of_getElem? (i := 2) rfl)) (by decide) (by decide)) (g := (mkF m 54 #[.val (.int p1), .val (.int (own_b (p1 &&& (1 : Int32)))), .val (.int (own_b (p1 &&& (2 : Int32)))), .val (.int (own_b (p1 &&& (4 : Int32)))), .val (.int (own_b (p1 &&& (8 : Int32)))), .unset, .unset, .unset, .unset, .unset, .unset, .unset, .unset, .unset, .unset, .unset, .unset, .unset] [(.ref b2), (.ref b2)])) rfl (by rw [hml]; rfl) (Steps.refl _) (a := b2) (argsL := []) (rest := [(.ref b2)]) (lenOf pd_0_0 rfl) rfl (by show 2 * 0 + _ ≤ _; exact Nat.le_of_eq rfl) (hb hby at_54) (fun _ _ => ⟨rfl, e2, (by decide : 1 + 0 ≤ _), (by decide : 1 + 0 ≤ _)⟩)
  dsimp only [Pt.U, Pt.locs, Pt.cells, Pt.slots] at X3 l3 y3 z3 st3 hQ3
  subst l3 y3 z3
  obtain ⟨rfl, N3q, q3⟩ := hQ3
  have N3 := Fr.app N0 N3q
  have Z3 : n0 ≤ T3.heap.size := by rw [q3]; exact Z2
  have E3 : Exa Z T3.heap b2 "com/example/lease/lease/client/Backoff" := by rw [q3]; exact A2
  have F3 : Fld Z T3.heap b2 "com/example/lease/lease/client/Backoff" "failing" "Z" (.int (0 : Int32)) := by rw [q3]; exact F_failing_b2
  obtain ⟨Tb0, hb0, Lb0, Xb0, eb0, Nb0, Zb0, Eb0, Fb0, sb0⟩ := stg1 (0 : Int32) (.val (.int p1)) (own_b (p1 &&& (1 : Int32))) (.val (.int (own_b (p1 &&& (2 : Int32))))) (.val (.int (own_b (p1 &&& (4 : Int32))))) (.val (.int (own_b (p1 &&& (8 : Int32))))) b2 .unset .unset .unset .unset .unset .unset .unset .unset .unset .unset X3 hx hZ hw hby hml hown rfl E3 N3 Z3 g_b2 F3
  obtain ⟨Tb1, hb1, Lb1, Xb1, eb1, Nb1, Zb1, Eb1, Fb1, sb1⟩ := stg2 (1 : Int32) (.val (.int p1)) (.val (.int (own_b (p1 &&& (1 : Int32))))) (own_b (p1 &&& (2 : Int32))) (.val (.int (own_b (p1 &&& (4 : Int32))))) (.val (.int (own_b (p1 &&& (8 : Int32))))) b2 (.val (.long (own_p (own_b (p1 &&& (1 : Int32))) (0 : Int32)))) .second .unset .unset .unset .unset .unset .unset .unset .unset Xb0 hx hZ hw hby hml hown eb0 Eb0 Nb0 Zb0 g_b2 Fb0
  obtain ⟨Tb2, hb2, Lb2, Xb2, eb2, Nb2, Zb2, Eb2, Fb2, sb2⟩ := stg3 (1 : Int32) (.val (.int p1)) (.val (.int (own_b (p1 &&& (1 : Int32))))) (.val (.int (own_b (p1 &&& (2 : Int32))))) (own_b (p1 &&& (4 : Int32))) (.val (.int (own_b (p1 &&& (8 : Int32))))) b2 (.val (.long (own_p (own_b (p1 &&& (1 : Int32))) (0 : Int32)))) .second (.val (.long (own_p (own_b (p1 &&& (2 : Int32))) (1 : Int32)))) .second .unset .unset .unset .unset .unset .unset Xb1 hx hZ hw hby hml hown eb1 Eb1 Nb1 Zb1 g_b2 Fb1
  obtain ⟨Tb3, hb3, Lb3, Xb3, eb3, Nb3, Zb3, Eb3, Fb3, sb3⟩ := stg4 (1 : Int32) (.val (.int p1)) (.val (.int (own_b (p1 &&& (1 : Int32))))) (.val (.int (own_b (p1 &&& (2 : Int32))))) (.val (.int (own_b (p1 &&& (4 : Int32))))) (own_b (p1 &&& (8 : Int32))) b2 (.val (.long (own_p (own_b (p1 &&& (1 : Int32))) (0 : Int32)))) .second (.val (.long (own_p (own_b (p1 &&& (2 : Int32))) (1 : Int32)))) .second (.val (.long (own_p (own_b (p1 &&& (4 : Int32))) (1 : Int32)))) .second .unset .unset .unset .unset Xb2 hx hZ hw hby hml hown eb2 Eb2 Nb2 Zb2 g_b2 Fb2
  obtain ⟨Tc0, Xc0, ec0, sc0⟩ := tn0_124_140 (.val (.int p1)) (.val (.int (own_b (p1 &&& (1 : Int32))))) (.val (.int (own_b (p1 &&& (2 : Int32))))) (.val (.int (own_b (p1 &&& (4 : Int32))))) (.val (.int (own_b (p1 &&& (8 : Int32))))) (.val (.ref b2)) (own_p (own_b (p1 &&& (1 : Int32))) (0 : Int32)) (.val (.long (own_p (own_b (p1 &&& (2 : Int32))) (1 : Int32)))) .second (.val (.long (own_p (own_b (p1 &&& (4 : Int32))) (1 : Int32)))) .second (.val (.long (own_p (own_b (p1 &&& (8 : Int32))) (1 : Int32)))) .second .unset .unset .unset .unset Xb3 hx hZ hw hby hml hown eb3 One.u ((lw_eq _ _).mpr (own_p0 _))
  obtain ⟨Tc1, Xc1, ec1, sc1⟩ := cm2 (.val (.int p1)) (.val (.int (own_b (p1 &&& (1 : Int32))))) (own_b (p1 &&& (2 : Int32))) (.val (.int (own_b (p1 &&& (4 : Int32))))) (.val (.int (own_b (p1 &&& (8 : Int32))))) (.val (.ref b2)) (.val (.long (own_p (own_b (p1 &&& (1 : Int32))) (0 : Int32)))) .second (own_p (own_b (p1 &&& (2 : Int32))) (1 : Int32)) (.val (.long (own_p (own_b (p1 &&& (4 : Int32))) (1 : Int32)))) .second (.val (.long (own_p (own_b (p1 &&& (8 : Int32))) (1 : Int32)))) .second (.val (.int (1 : Int32))) .unset .unset .unset Xc0 hx hZ hw hby hml hown ec0 One.u rfl
  obtain ⟨Tc2, Xc2, ec2, sc2⟩ := cm3 (.val (.int p1)) (.val (.int (own_b (p1 &&& (1 : Int32))))) (.val (.int (own_b (p1 &&& (2 : Int32))))) (own_b (p1 &&& (4 : Int32))) (.val (.int (own_b (p1 &&& (8 : Int32))))) (.val (.ref b2)) (.val (.long (own_p (own_b (p1 &&& (1 : Int32))) (0 : Int32)))) .second (.val (.long (own_p (own_b (p1 &&& (2 : Int32))) (1 : Int32)))) .second (own_p (own_b (p1 &&& (4 : Int32))) (1 : Int32)) (.val (.long (own_p (own_b (p1 &&& (8 : Int32))) (1 : Int32)))) .second (.val (.int (1 : Int32))) (.val (.int (1 : Int32))) .unset .unset Xc1 hx hZ hw hby hml hown ec1 One.u rfl
  obtain ⟨Tc3, Xc3, ec3, sc3⟩ := cm4 (.val (.int p1)) (.val (.int (own_b (p1 &&& (1 : Int32))))) (.val (.int (own_b (p1 &&& (2 : Int32))))) (.val (.int (own_b (p1 &&& (4 : Int32))))) (own_b (p1 &&& (8 : Int32))) (.val (.ref b2)) (.val (.long (own_p (own_b (p1 &&& (1 : Int32))) (0 : Int32)))) .second (.val (.long (own_p (own_b (p1 &&& (2 : Int32))) (1 : Int32)))) .second (.val (.long (own_p (own_b (p1 &&& (4 : Int32))) (1 : Int32)))) .second (own_p (own_b (p1 &&& (8 : Int32))) (1 : Int32)) (.val (.int (1 : Int32))) (.val (.int (1 : Int32))) (.val (.int (1 : Int32))) .unset Xc2 hx hZ hw hby hml hown ec2 One.u rfl
  obtain ⟨fs, hr, hrun, hended, hW, hsame⟩ := Xc3.leave (v := some (.int (1 : Int32))) (fun h => by rw [Bd.returns] at h; cases h)
  refine ⟨_, _, pre0 _ ?_, hrun, hended, _, _, rfl, ?_, ⟨_, rfl⟩, hW, hsame.mono (by decide) (by decide)⟩
  · show Steps p.tables e below (s₁.setTop (mkF m 0 #[.val (.int p1), .unset, .unset, .unset, .unset, .unset, .unset, .unset, .unset, .unset, .unset, .unset, .unset, .unset, .unset, .unset, .unset, .unset] [])) _
    refine sa0 _ ?_
    refine sa1 _ ?_
    refine sa2 _ ?_
    refine sa3 _ ?_
    show Steps p.tables e below (Ta3.setTop (mkF m 50 #[.val (.int p1), .val (.int (own_b (p1 &&& (1 : Int32)))), .val (.int (own_b (p1 &&& (2 : Int32)))), .val (.int (own_b (p1 &&& (4 : Int32)))), .val (.int (own_b (p1 &&& (8 : Int32)))), .unset, .unset, .unset, .unset, .unset, .unset, .unset, .unset, .unset, .unset, .unset, .unset, .unset] [])) _
    refine st2 _ ?_
    show Steps p.tables e below (T2.setTop (mkF m 53 #[.val (.int p1), .val (.int (own_b (p1 &&& (1 : Int32)))), .val (.int (own_b (p1 &&& (2 : Int32)))), .val (.int (own_b (p1 &&& (4 : Int32)))), .val (.int (own_b (p1 &&& (8 : Int32)))), .unset, .unset, .unset, .unset, .unset, .unset, .unset, .unset, .unset, .unset, .unset, .unset, .unset] [(.ref b2)])) _
    refine XS.dup X2.here hx rfl (hb hby at_53) rfl rfl ?_
    show Steps p.tables e below (T2.setTop (mkF m 54 #[.val (.int p1), .val (.int (own_b (p1 &&& (1 : Int32)))), .val (.int (own_b (p1 &&& (2 : Int32)))), .val (.int (own_b (p1 &&& (4 : Int32)))), .val (.int (own_b (p1 &&& (8 : Int32)))), .unset, .unset, .unset, .unset, .unset, .unset, .unset, .unset, .unset, .unset, .unset, .unset, .unset] [(.ref b2), (.ref b2)])) _
    refine st3.trans ?_
    show Steps p.tables e below (T3.setTop (mkF m 57 #[.val (.int p1), .val (.int (own_b (p1 &&& (1 : Int32)))), .val (.int (own_b (p1 &&& (2 : Int32)))), .val (.int (own_b (p1 &&& (4 : Int32)))), .val (.int (own_b (p1 &&& (8 : Int32)))), .unset, .unset, .unset, .unset, .unset, .unset, .unset, .unset, .unset, .unset, .unset, .unset, .unset] [(.ref b2)])) _
    refine XS.astore X3.here hx rfl (hb hby at_57) rfl rfl (l' := #[.val (.int p1), .val (.int (own_b (p1 &&& (1 : Int32)))), .val (.int (own_b (p1 &&& (2 : Int32)))), .val (.int (own_b (p1 &&& (4 : Int32)))), .val (.int (own_b (p1 &&& (8 : Int32)))), .val (.ref b2), .unset, .unset, .unset, .unset, .unset, .unset, .unset, .unset, .unset, .unset, .unset, .unset]) (os0_57 One.u) ?_
    refine sb0 _ ?_
    refine sb1 _ ?_
    refine sb2 _ ?_
    refine sb3 _ ?_
    refine sc0 _ ?_
    refine sc1 _ ?_
    refine sc2 _ ?_
    refine sc3 _ ?_
    show Steps p.tables e below (Tc3.setTop (mkF m 219 #[.val (.int p1), .val (.int (own_b (p1 &&& (1 : Int32)))), .val (.int (own_b (p1 &&& (2 : Int32)))), .val (.int (own_b (p1 &&& (4 : Int32)))), .val (.int (own_b (p1 &&& (8 : Int32)))), .val (.ref b2), .val (.long (own_p (own_b (p1 &&& (1 : Int32))) (0 : Int32))), .second, .val (.long (own_p (own_b (p1 &&& (2 : Int32))) (1 : Int32))), .second, .val (.long (own_p (own_b (p1 &&& (4 : Int32))) (1 : Int32))), .second, .val (.long (own_p (own_b (p1 &&& (8 : Int32))) (1 : Int32))), .second, .val (.int (1 : Int32)), .val (.int (1 : Int32)), .val (.int (1 : Int32)), .val (.int (1 : Int32))] [])) _
    refine XS.iload Xc3.here hx rfl (hb hby at_219) rfl ?_
    show Steps p.tables e below (Tc3.setTop (mkF m 221 #[.val (.int p1), .val (.int (own_b (p1 &&& (1 : Int32)))), .val (.int (own_b (p1 &&& (2 : Int32)))), .val (.int (own_b (p1 &&& (4 : Int32)))), .val (.int (own_b (p1 &&& (8 : Int32)))), .val (.ref b2), .val (.long (own_p (own_b (p1 &&& (1 : Int32))) (0 : Int32))), .second, .val (.long (own_p (own_b (p1 &&& (2 : Int32))) (1 : Int32))), .second, .val (.long (own_p (own_b (p1 &&& (4 : Int32))) (1 : Int32))), .second, .val (.long (own_p (own_b (p1 &&& (8 : Int32))) (1 : Int32))), .second, .val (.int (1 : Int32)), .val (.int (1 : Int32)), .val (.int (1 : Int32)), .val (.int (1 : Int32))] [(.int (1 : Int32))])) _
    refine XS.ifNo Xc3.here hx rfl (hb hby at_221) rfl ((if0 _ _).trans (feq (by decide)).1) ?_
    show Steps p.tables e below (Tc3.setTop (mkF m 224 #[.val (.int p1), .val (.int (own_b (p1 &&& (1 : Int32)))), .val (.int (own_b (p1 &&& (2 : Int32)))), .val (.int (own_b (p1 &&& (4 : Int32)))), .val (.int (own_b (p1 &&& (8 : Int32)))), .val (.ref b2), .val (.long (own_p (own_b (p1 &&& (1 : Int32))) (0 : Int32))), .second, .val (.long (own_p (own_b (p1 &&& (2 : Int32))) (1 : Int32))), .second, .val (.long (own_p (own_b (p1 &&& (4 : Int32))) (1 : Int32))), .second, .val (.long (own_p (own_b (p1 &&& (8 : Int32))) (1 : Int32))), .second, .val (.int (1 : Int32)), .val (.int (1 : Int32)), .val (.int (1 : Int32)), .val (.int (1 : Int32))] [])) _
    refine XS.iload Xc3.here hx rfl (hb hby at_224) rfl ?_
    show Steps p.tables e below (Tc3.setTop (mkF m 226 #[.val (.int p1), .val (.int (own_b (p1 &&& (1 : Int32)))), .val (.int (own_b (p1 &&& (2 : Int32)))), .val (.int (own_b (p1 &&& (4 : Int32)))), .val (.int (own_b (p1 &&& (8 : Int32)))), .val (.ref b2), .val (.long (own_p (own_b (p1 &&& (1 : Int32))) (0 : Int32))), .second, .val (.long (own_p (own_b (p1 &&& (2 : Int32))) (1 : Int32))), .second, .val (.long (own_p (own_b (p1 &&& (4 : Int32))) (1 : Int32))), .second, .val (.long (own_p (own_b (p1 &&& (8 : Int32))) (1 : Int32))), .second, .val (.int (1 : Int32)), .val (.int (1 : Int32)), .val (.int (1 : Int32)), .val (.int (1 : Int32))] [(.int (1 : Int32))])) _
    refine XS.ifNo Xc3.here hx rfl (hb hby at_226) rfl ((if0 _ _).trans (feq (by decide)).1) ?_
    show Steps p.tables e below (Tc3.setTop (mkF m 229 #[.val (.int p1), .val (.int (own_b (p1 &&& (1 : Int32)))), .val (.int (own_b (p1 &&& (2 : Int32)))), .val (.int (own_b (p1 &&& (4 : Int32)))), .val (.int (own_b (p1 &&& (8 : Int32)))), .val (.ref b2), .val (.long (own_p (own_b (p1 &&& (1 : Int32))) (0 : Int32))), .second, .val (.long (own_p (own_b (p1 &&& (2 : Int32))) (1 : Int32))), .second, .val (.long (own_p (own_b (p1 &&& (4 : Int32))) (1 : Int32))), .second, .val (.long (own_p (own_b (p1 &&& (8 : Int32))) (1 : Int32))), .second, .val (.int (1 : Int32)), .val (.int (1 : Int32)), .val (.int (1 : Int32)), .val (.int (1 : Int32))] [])) _
    refine XS.iload Xc3.here hx rfl (hb hby at_229) rfl ?_
    show Steps p.tables e below (Tc3.setTop (mkF m 231 #[.val (.int p1), .val (.int (own_b (p1 &&& (1 : Int32)))), .val (.int (own_b (p1 &&& (2 : Int32)))), .val (.int (own_b (p1 &&& (4 : Int32)))), .val (.int (own_b (p1 &&& (8 : Int32)))), .val (.ref b2), .val (.long (own_p (own_b (p1 &&& (1 : Int32))) (0 : Int32))), .second, .val (.long (own_p (own_b (p1 &&& (2 : Int32))) (1 : Int32))), .second, .val (.long (own_p (own_b (p1 &&& (4 : Int32))) (1 : Int32))), .second, .val (.long (own_p (own_b (p1 &&& (8 : Int32))) (1 : Int32))), .second, .val (.int (1 : Int32)), .val (.int (1 : Int32)), .val (.int (1 : Int32)), .val (.int (1 : Int32))] [(.int (1 : Int32))])) _
    refine XS.ifNo Xc3.here hx rfl (hb hby at_231) rfl ((if0 _ _).trans (feq (by decide)).1) ?_
    show Steps p.tables e below (Tc3.setTop (mkF m 234 #[.val (.int p1), .val (.int (own_b (p1 &&& (1 : Int32)))), .val (.int (own_b (p1 &&& (2 : Int32)))), .val (.int (own_b (p1 &&& (4 : Int32)))), .val (.int (own_b (p1 &&& (8 : Int32)))), .val (.ref b2), .val (.long (own_p (own_b (p1 &&& (1 : Int32))) (0 : Int32))), .second, .val (.long (own_p (own_b (p1 &&& (2 : Int32))) (1 : Int32))), .second, .val (.long (own_p (own_b (p1 &&& (4 : Int32))) (1 : Int32))), .second, .val (.long (own_p (own_b (p1 &&& (8 : Int32))) (1 : Int32))), .second, .val (.int (1 : Int32)), .val (.int (1 : Int32)), .val (.int (1 : Int32)), .val (.int (1 : Int32))] [])) _
    refine XS.iload Xc3.here hx rfl (hb hby at_234) rfl ?_
    show Steps p.tables e below (Tc3.setTop (mkF m 236 #[.val (.int p1), .val (.int (own_b (p1 &&& (1 : Int32)))), .val (.int (own_b (p1 &&& (2 : Int32)))), .val (.int (own_b (p1 &&& (4 : Int32)))), .val (.int (own_b (p1 &&& (8 : Int32)))), .val (.ref b2), .val (.long (own_p (own_b (p1 &&& (1 : Int32))) (0 : Int32))), .second, .val (.long (own_p (own_b (p1 &&& (2 : Int32))) (1 : Int32))), .second, .val (.long (own_p (own_b (p1 &&& (4 : Int32))) (1 : Int32))), .second, .val (.long (own_p (own_b (p1 &&& (8 : Int32))) (1 : Int32))), .second, .val (.int (1 : Int32)), .val (.int (1 : Int32)), .val (.int (1 : Int32)), .val (.int (1 : Int32))] [(.int (1 : Int32))])) _
    refine XS.ifNo Xc3.here hx rfl (hb hby at_236) rfl ((if0 _ _).trans (feq (by decide)).1) ?_
    show Steps p.tables e below (Tc3.setTop (mkF m 239 #[.val (.int p1), .val (.int (own_b (p1 &&& (1 : Int32)))), .val (.int (own_b (p1 &&& (2 : Int32)))), .val (.int (own_b (p1 &&& (4 : Int32)))), .val (.int (own_b (p1 &&& (8 : Int32)))), .val (.ref b2), .val (.long (own_p (own_b (p1 &&& (1 : Int32))) (0 : Int32))), .second, .val (.long (own_p (own_b (p1 &&& (2 : Int32))) (1 : Int32))), .second, .val (.long (own_p (own_b (p1 &&& (4 : Int32))) (1 : Int32))), .second, .val (.long (own_p (own_b (p1 &&& (8 : Int32))) (1 : Int32))), .second, .val (.int (1 : Int32)), .val (.int (1 : Int32)), .val (.int (1 : Int32)), .val (.int (1 : Int32))] [])) _
    refine XS.iconst Xc3.here hx rfl (hb hby at_239) ?_
    show Steps p.tables e below (Tc3.setTop (mkF m 240 #[.val (.int p1), .val (.int (own_b (p1 &&& (1 : Int32)))), .val (.int (own_b (p1 &&& (2 : Int32)))), .val (.int (own_b (p1 &&& (4 : Int32)))), .val (.int (own_b (p1 &&& (8 : Int32)))), .val (.ref b2), .val (.long (own_p (own_b (p1 &&& (1 : Int32))) (0 : Int32))), .second, .val (.long (own_p (own_b (p1 &&& (2 : Int32))) (1 : Int32))), .second, .val (.long (own_p (own_b (p1 &&& (4 : Int32))) (1 : Int32))), .second, .val (.long (own_p (own_b (p1 &&& (8 : Int32))) (1 : Int32))), .second, .val (.int (1 : Int32)), .val (.int (1 : Int32)), .val (.int (1 : Int32)), .val (.int (1 : Int32))] [(.int (1 : Int32))])) _
    refine XS.goto Xc3.here hx rfl (pc0 := 240) (pc' := 244) rfl (hb hby at_240) (by decide) (by decide) ?_
    show Steps p.tables e below (Tc3.setTop (mkF m 244 #[.val (.int p1), .val (.int (own_b (p1 &&& (1 : Int32)))), .val (.int (own_b (p1 &&& (2 : Int32)))), .val (.int (own_b (p1 &&& (4 : Int32)))), .val (.int (own_b (p1 &&& (8 : Int32)))), .val (.ref b2), .val (.long (own_p (own_b (p1 &&& (1 : Int32))) (0 : Int32))), .second, .val (.long (own_p (own_b (p1 &&& (2 : Int32))) (1 : Int32))), .second, .val (.long (own_p (own_b (p1 &&& (4 : Int32))) (1 : Int32))), .second, .val (.long (own_p (own_b (p1 &&& (8 : Int32))) (1 : Int32))), .second, .val (.int (1 : Int32)), .val (.int (1 : Int32)), .val (.int (1 : Int32)), .val (.int (1 : Int32))] [(.int (1 : Int32))])) _
    exact retN Xc3 hx (t := .boolean) Bd.returns (by simp) (hb hby at_244) hr
  · show Q0 Z p1 h0 n0 _ Tc3.heap _
    exact ⟨rfl, Nb3⟩
set_option maxRecDepth 65536 in
set_option maxHeartbeats 40000000 in
theorem comes_1 {Post : Tables → Env → Array Value → State → Outcome → State → Prop} (hpost : ∀ tb e args s v u, (limb_1_1.after args s (.returned v) u = true ∧ limb_1_2.after args s (.returned v) u = true ∧ True) → FrameEnd s (.returned v) u (Jvm.fieldLocs frame_1_writes args s ++ Jvm.arrayLocs frame_1_arrays args s ++ Jvm.staticLocs frame_1_statics s) 16 128 → Post tb e args s (.returned v) u) :
    ArmFor flags0 classFile x code maxLocals ret World_1 tables_1 room_1 Calls_1 rest_1 Pre_1 Post := by
  intro l hfl _ _ p e ha hc hk s m args below hf hA hF happ hP
  obtain ⟨hcalls, hrest, hpre⟩ := hP
  obtain ⟨-, -, -, hnamed, -, -, -, hat⟩ := (Spec.applies_iff hf).mp happ
  obtain ⟨hg, hn⟩ := and_e (Cond.before_iff.mp (show (Jvm.Cond.and given_1 narrow_1).before args s = true from hpre))
  obtain ⟨g8, g9⟩ := and_e hg
  obtain ⟨w0, rfl⟩ : ∃ w0 : Value, args = #[w0] := by
    have hs : args.size = 1 := by simpa [Cond.value, given_1] using g8
    obtain ⟨L⟩ := args
    match L, hs with
    | [w0], _ => exact ⟨w0, rfl⟩
  have hw := fun d (hd : d ∈ tables_1) => atoms_spec (ws := Jvm.Cond.code x code maxLocals ret :: tables_1) hat d (List.mem_cons_of_mem _ hd)
  have hfit : Fit s := fun {y c} hc i hi => by
    obtain ⟨ha, rfl⟩ := Array.getElem?_eq_some_iff.mp hc
    have q := List.all_eq_true.mp ((Array.all_eq_true_iff_forall_mem.mp hF) _ (Array.getElem_mem ha)) i (List.mem_range.mpr hi)
    simpa [Array.getElem?_eq_getElem hi] using q
  obtain ⟨i0, ei0⟩ := is_v g9
  obtain rfl : w0 = (.int i0) := Option.some.inj ei0
  obtain ⟨n, o, h1, h2, h3, _, L, rfl, ⟨rfl, N⟩, hq⟩ := rm0 l s _ hw tables_1 i0 s.heap s.heap.size (Nat.le_refl _) p e ha hc hk s m _ below hf ((Spec.applies_iff_loose hf).mp happ).1 ⟨rfl, State.Warmed39.refl s, rfl⟩ trivial
  refine ⟨n, _, h1, h2, h3, hpost _ _ _ _ _ _ ⟨Cond.after_iff.mpr rfl, Cond.after_iff.mpr (eq_i res_at (Term.int_eval (1)) rfl), trivial⟩ ⟨hq.1, hq.2.1, (hq.2.2.sift fun y hy => Or.inr (N y hy)).mono (by decide) (by decide)⟩⟩
theorem main_1_1 : Claimed_1_1 := comes_1 fun _ _ _ _ _ _ h hF => ⟨h.1, hF⟩
theorem main_1_2 : Claimed_1_2 := comes_1 fun _ _ _ _ _ _ h hF => ⟨h.2.1, hF⟩
end Jvm.Pilot.@@N@@
namespace Jvm.Pilot.@@N@@
open Jvm Jvm.ClassFile Sem Op Lib Jvm.Free Jvm.Stand Jvm.Pilot.@@N@@.Jvm.D
/-! MADE BY PROGRAM (witnessworld.py) out of the Statement's table words and the real class files: 9 classes; the members and pool entries that the words name. The judged class is class 1, her method 1. -/
namespace start1
open Jvm.ClassFile
def u (s : String) : CpInfo := .utf8 (stringToUtf16 s)
/-- a pool by its gaps: so many unusable entries, then the entry; so many at the end -/
def gap : Nat → List CpInfo → List CpInfo
  | 0, r => r
  | n + 1, r => .unusable :: gap n r
def poolList (es : List (Nat × CpInfo)) (last : Nat) : List CpInfo := es.foldr (fun e r => gap e.1 (e.2 :: r)) (gap last [])
def pool (es : List (Nat × CpInfo)) (last : Nat) : Array CpInfo := ⟨poolList es last⟩
def fileOf (pool : Array CpInfo) (this : Nat) (attrs : Array Attribute := #[]) (ms : Array MethodInfo := #[]) (fl : Nat := 33) (sup : Nat := 0) (ifs : Array Nat := #[]) (fds : Array FieldInfo := #[]) : ClassFile where
  minorVersion := 0
  majorVersion := 65
  constantPool := pool
  accessFlags := fl
  thisClass := this
  superClass := sup
  interfaces := ifs
  fields := fds
  methods := ms
  attributes := attrs
def plain (name : String) (sup : Option ClassId) : Class where
  name := name
  kind := .ordinary
  loader := none
  accessFlags := 33
  super := sup
  interfaces := #[]
  cf := none
  fields := #[]
  methods := #[]
  instanceTypes := #[]
  staticTypes := #[]
  resolved := #[]
  callSites := []
  init := .initialized
  statics := none
  mirror := none

def pool0 : Array CpInfo := pool [(5, u "<init>"), (0, u "()V"), (1, .class_ 10), (1, u "java/lang/Object")] 113

def k0c0 : Code := { maxStack := 0, maxLocals := 1, code := object_method_1_code, exceptionTable := #[], attributes := #[] }
def k0m0 : Method := { name := "<init>", desc := "()V", sig := { parameters := [], returnType := none }, accessFlags := 1, code := some k0c0 }
/-- java/lang/Object -/
def k0 : Class := { plain "java/lang/Object" none with
  accessFlags := 33
  interfaces := #[]
  cf := some (fileOf pool0 8 #[] #[{ accessFlags := 1, nameIndex := 5, descriptorIndex := 6, attributes := #[] }] 33 0 #[] #[])
  fields := #[]
  methods := #[k0m0]
  instanceTypes := #[]
  staticTypes := #[]
  resolved := Array.replicate 124 none
  statics := none }

def pool1 : Array CpInfo := pool [(2, .class_ 4), (0, .nameAndType 5 6), (0, u "java/lang/Object"), (0, u "<init>"), (0, u "()V"), (0, .class_ 8), (0, u "com/example/lease/lease/client/Backoff"), (0, .methodref 7 3), (0, .methodref 7 11), (0, .nameAndType 12 6), (0, u "reset"), (0, .methodref 7 14), (0, .nameAndType 15 16), (0, u "pauseMillis"), (0, u "()J"), (0, .long 500), (1, .long 1000), (1, .class_ 22), (0, u "com/example/lease/lease/client/BackoffPauseMillisPinLaw"), (2, u "law"), (0, u "(I)Z")] 3

def k1m0 : Method := { name := "<init>", desc := "()V", sig := { parameters := [], returnType := none }, accessFlags := 1, code := none }
def k1c1 : Code := { maxStack := 4, maxLocals := 18, code := code, exceptionTable := #[], attributes := #[] }
def k1m1 : Method := { name := "law", desc := "(I)Z", sig := { parameters := [.int], returnType := some .boolean }, accessFlags := 9, code := some k1c1 }
/-- com/example/lease/lease/client/BackoffPauseMillisPinLaw -/
def k1 : Class := { plain "com/example/lease/lease/client/BackoffPauseMillisPinLaw" (some 0) with
  accessFlags := 49
  interfaces := #[]
  cf := some (fileOf pool1 21 #[] #[{ accessFlags := 1, nameIndex := 5, descriptorIndex := 6, attributes := #[] }, { accessFlags := 9, nameIndex := 25, descriptorIndex := 26, attributes := #[] }] 49 2 #[] #[])
  fields := #[]
  methods := #[k1m0, k1m1]
  instanceTypes := #[]
  staticTypes := #[]
  resolved := Array.replicate 30 none
  statics := none }

def pool2 : Array CpInfo := pool [(1, .methodref 2 3), (0, .class_ 4), (0, .nameAndType 5 6), (0, u "java/lang/Object"), (0, u "<init>"), (0, u "()V"), (0, .fieldref 8 9), (0, .class_ 10), (0, .nameAndType 11 12), (0, u "com/example/lease/lease/client/Backoff"), (0, u "failing"), (0, u "Z"), (0, .long 1000), (1, .long 500), (1, u "FIRST_MILLIS"), (0, u "J"), (1, u "LATER_MILLIS"), (2, u "pauseMillis"), (0, u "()J"), (1, u "reset")] 2

def k2c0 : Code := { maxStack := 1, maxLocals := 1, code := prog_1_method_1_code, exceptionTable := #[], attributes := #[] }
def k2m0 : Method := { name := "<init>", desc := "()V", sig := { parameters := [], returnType := none }, accessFlags := 0, code := some k2c0 }
def k2c1 : Code := { maxStack := 2, maxLocals := 3, code := prog_1_method_2_code, exceptionTable := #[], attributes := #[] }
def k2m1 : Method := { name := "pauseMillis", desc := "()J", sig := { parameters := [], returnType := some .long }, accessFlags := 0, code := some k2c1 }
def k2c2 : Code := { maxStack := 2, maxLocals := 1, code := prog_1_method_3_code, exceptionTable := #[], attributes := #[] }
def k2m2 : Method := { name := "reset", desc := "()V", sig := { parameters := [], returnType := none }, accessFlags := 0, code := some k2c2 }
/-- com/example/lease/lease/client/Backoff -/
def k2 : Class := { plain "com/example/lease/lease/client/Backoff" (some 0) with
  accessFlags := 48
  interfaces := #[]
  cf := some (fileOf pool2 8 #[] #[{ accessFlags := 0, nameIndex := 5, descriptorIndex := 6, attributes := #[] }, { accessFlags := 0, nameIndex := 23, descriptorIndex := 24, attributes := #[] }, { accessFlags := 0, nameIndex := 26, descriptorIndex := 6, attributes := #[] }] 48 2 #[] #[{ accessFlags := 26, nameIndex := 17, descriptorIndex := 18, attributes := #[] }, { accessFlags := 26, nameIndex := 20, descriptorIndex := 18, attributes := #[] }, { accessFlags := 2, nameIndex := 11, descriptorIndex := 12, attributes := #[] }])
  fields := #[{ name := "FIRST_MILLIS", type := .long, accessFlags := 26, slot := 0, constantValue := 0 }, { name := "LATER_MILLIS", type := .long, accessFlags := 26, slot := 1, constantValue := 0 }, { name := "failing", type := .boolean, accessFlags := 2, slot := 0, constantValue := 0 }]
  methods := #[k2m0, k2m1, k2m2]
  instanceTypes := #[.boolean]
  staticTypes := #[.long, .long]
  resolved := Array.replicate 29 none
  statics := none }

def pool3 : Array CpInfo := pool [(1, u "java/lang/Cloneable"), (0, .class_ 1), (0, u "java/lang/Object"), (0, .class_ 3)] 3

/-- java/lang/Cloneable -/
def k3 : Class := { plain "java/lang/Cloneable" (some 0) with
  accessFlags := 1537
  interfaces := #[]
  cf := some (fileOf pool3 2 #[] #[] 1537 4 #[] #[])
  fields := #[]
  methods := #[]
  instanceTypes := #[]
  staticTypes := #[]
  resolved := Array.replicate 8 none
  statics := none }

def pool4 : Array CpInfo := pool [(1, u "java/io/Serializable"), (0, .class_ 1), (0, u "java/lang/Object"), (0, .class_ 3)] 3

/-- java/io/Serializable -/
def k4 : Class := { plain "java/io/Serializable" (some 0) with
  accessFlags := 1537
  interfaces := #[]
  cf := some (fileOf pool4 2 #[] #[] 1537 4 #[] #[])
  fields := #[]
  methods := #[]
  instanceTypes := #[]
  staticTypes := #[]
  resolved := Array.replicate 8 none
  statics := none }

/-- the primitive byte -/
def k5 : Class := { plain "byte" none with kind := .primitive 'B', accessFlags := 0x411 }
/-- [B -/
def k6 : Class := { plain "[B" (some 0) with kind := .array 5 .byte, interfaces := #[3, 4], accessFlags := 1041 }

/-- the primitive int -/
def k7 : Class := { plain "int" none with kind := .primitive 'I', accessFlags := 0x411 }
/-- [I -/
def k8 : Class := { plain "[I" (some 0) with kind := .array 7 .int, interfaces := #[3, 4], accessFlags := 1041 }

def heap : Heap := #[]
def classes : Array Class := #[k0, k1, k2, k3, k4, k5, k6, k7, k8]
def interned : List (Array UInt16 × Addr) := []
def slotsUsed : Nat := 0
def theMethod : MethodId := ⟨1, 1⟩
def args0 : Array Value := #[.int 5]
def aboutOver (below : List Frame) : State where
  vm := { classes := classes, interned := interned.toArray }
  heap := heap
  slotsUsed := slotsUsed
  threads := #[{ frames := .invoking theMethod args0 :: below }]
def below0 : List Frame := [.native { method := ⟨0, 0⟩, args := #[] }]
def about1 : State := aboutOver below0
def p0 : Program := .bare "" "" ""
def e0 : Env := launch0.env 0 0 0
theorem w_frames : about1.frames = Frame.invoking theMethod args0 :: below0 := rfl
set_option maxRecDepth 65536 in
theorem w_args : argsFit about1.vm theMethod args0 = true := by decide +kernel
set_option maxRecDepth 65536 in
theorem w_heap : heapFits about1 = true := by decide +kernel
set_option maxRecDepth 65536 in
theorem w_runnable : about1.curStatus? = some .runnable := by decide +kernel
set_option maxRecDepth 65536 in
theorem w_alone : about1.alone = true := by decide +kernel
set_option maxRecDepth 65536 in
theorem w_named : about1.methodNamed? x = some theMethod := by decide +kernel
set_option maxRecDepth 65536 in
theorem w_hears : about1.hears theMethod below0 = true := by decide +kernel
set_option maxRecDepth 65536 in
theorem w_ripe : about1.ripe theMethod args0 below0 = true := by decide +kernel
theorem w_running : about1.status = .running := rfl
set_option maxRecDepth 65536 in
theorem w_room : about1.hasRoom e0.platform room_1 = true :=
  launch0.hasRoom_least _ room_1 (by decide +kernel) (by decide +kernel) (by decide +kernel) (by decide +kernel) (by decide +kernel) (by decide +kernel)
theorem allAtoms_all (ts : List Jvm.Cond) (a : Array Jvm.Value) (st : Jvm.State) : (allAtoms ts).before a st = ts.all (fun c => c.before a st) := by
  induction ts with
  | nil => rfl
  | cons c t ih =>
    show (Jvm.Cond.and c (allAtoms t)).before a st = _
    rw [Jvm.Cond.before_and, ih, List.all_cons]
def words1 : List Jvm.Cond := Jvm.Cond.code x code maxLocals ret :: tables_1
/-- a 'code' word, met by the world's own term for the bytes: nothing is compared byte by byte -/
theorem code_word {y : MethodName} {bytes : ByteArray} {mx : Nat} {rt : Option FieldType} {a : Array Value} {s : State} {m : MethodId} {meth : Method} {c : Code} (h1 : s.methodNamed? y = some m) (h2 : s.vm.method? m = some meth) (h3 : meth.code = some c) (h4 : c.code = bytes)
    (h5 : (c.maxLocals == mx && c.exceptionTable.isEmpty && decide (c.maxStack ≤ mostOperands) && decide (meth.sig.returnType = rt) && !meth.locks && decide (parseMethodDescriptor y.desc = some meth.sig)) = true) : (Jvm.Cond.code y bytes mx rt).before a s = true := by
  simp only [Bool.and_eq_true, beq_iff_eq, Bool.not_eq_true', decide_eq_true_eq] at h5
  obtain ⟨⟨⟨⟨⟨g1, g2⟩, g3⟩, g4⟩, g5⟩, g6⟩ := h5
  simp [Cond.before, Cond.holds, Cond.value, h1, h2, h3, h4, g1, g2, g3, g4, g5, g6]
def isCode : Jvm.Cond → Bool
  | .code _ _ _ _ => true
  | _ => false
theorem all_split {L : List Jvm.Cond} {P : Jvm.Cond → Bool} (h1 : L.all (fun c => isCode c || P c) = true) (h2 : ∀ c ∈ L.filter isCode, P c = true) : L.all P = true := by
  refine List.all_eq_true.mpr fun c hc => ?_
  have h := List.all_eq_true.mp h1 c hc
  rcases Bool.eq_false_or_eq_true (isCode c) with hi | hi
  · exact h2 c (List.mem_filter.mpr ⟨hc, hi⟩)
  · simpa [hi] using h
set_option maxRecDepth 65536 in
theorem w_c0 : (Jvm.Cond.code x code maxLocals ret).before args0 about1 = true := code_word (m := ⟨1, 1⟩) (meth := k1m1) (c := k1c1) (by decide +kernel) rfl rfl rfl (by decide +kernel)
set_option maxRecDepth 65536 in
theorem w_c1 : (Jvm.Cond.code ({ cls := "com/example/lease/lease/client/Backoff", name := "<init>", desc := "()V" } : Jvm.MethodName) prog_1_method_1_code (1 : Nat) (Option.none : Option Jvm.ClassFile.FieldType)).before args0 about1 = true := code_word (m := ⟨2, 0⟩) (meth := k2m0) (c := k2c0) (by decide +kernel) rfl rfl rfl (by decide +kernel)
set_option maxRecDepth 65536 in
theorem w_c2 : (Jvm.Cond.code ({ cls := "java/lang/Object", name := "<init>", desc := "()V" } : Jvm.MethodName) object_method_1_code (1 : Nat) (Option.none : Option Jvm.ClassFile.FieldType)).before args0 about1 = true := code_word (m := ⟨0, 0⟩) (meth := k0m0) (c := k0c0) (by decide +kernel) rfl rfl rfl (by decide +kernel)
set_option maxRecDepth 65536 in
theorem w_c3 : (Jvm.Cond.code ({ cls := "com/example/lease/lease/client/Backoff", name := "pauseMillis", desc := "()J" } : Jvm.MethodName) prog_1_method_2_code (3 : Nat) (Option.some Jvm.ClassFile.FieldType.long)).before args0 about1 = true := code_word (m := ⟨2, 1⟩) (meth := k2m1) (c := k2c1) (by decide +kernel) rfl rfl rfl (by decide +kernel)
set_option maxRecDepth 65536 in
theorem w_c4 : (Jvm.Cond.code ({ cls := "com/example/lease/lease/client/Backoff", name := "reset", desc := "()V" } : Jvm.MethodName) prog_1_method_3_code (1 : Nat) (Option.none : Option Jvm.ClassFile.FieldType)).before args0 about1 = true := code_word (m := ⟨2, 2⟩) (meth := k2m2) (c := k2c2) (by decide +kernel) rfl rfl rfl (by decide +kernel)
def codes1 : List Jvm.Cond := [Jvm.Cond.code x code maxLocals ret, Jvm.Cond.code ({ cls := "com/example/lease/lease/client/Backoff", name := "<init>", desc := "()V" } : Jvm.MethodName) prog_1_method_1_code (1 : Nat) (Option.none : Option Jvm.ClassFile.FieldType), Jvm.Cond.code ({ cls := "java/lang/Object", name := "<init>", desc := "()V" } : Jvm.MethodName) object_method_1_code (1 : Nat) (Option.none : Option Jvm.ClassFile.FieldType), Jvm.Cond.code ({ cls := "com/example/lease/lease/client/Backoff", name := "pauseMillis", desc := "()J" } : Jvm.MethodName) prog_1_method_2_code (3 : Nat) (Option.some Jvm.ClassFile.FieldType.long), Jvm.Cond.code ({ cls := "com/example/lease/lease/client/Backoff", name := "reset", desc := "()V" } : Jvm.MethodName) prog_1_method_3_code (1 : Nat) (Option.none : Option Jvm.ClassFile.FieldType)]
set_option maxRecDepth 65536 in
theorem codes_eq : words1.filter isCode = codes1 := rfl
theorem w_codes : ∀ c ∈ words1.filter isCode, c.before args0 about1 = true := by
  rw [codes_eq]
  intro c hc
  simp only [codes1, List.mem_cons, List.not_mem_nil, or_false] at hc
  rcases hc with rfl | rfl | rfl | rfl | rfl
  · exact w_c0
  · exact w_c1
  · exact w_c2
  · exact w_c3
  · exact w_c4
set_option maxRecDepth 65536 in
theorem w_t1 : (words1.take 24).all (fun c => isCode c || c.before args0 about1) = true := by decide +kernel
set_option maxRecDepth 65536 in
theorem w_t2 : (words1.drop 24).all (fun c => isCode c || c.before args0 about1) = true := by decide +kernel
theorem w_tables : (allAtoms (Jvm.Cond.code x code maxLocals ret :: tables_1)).before args0 about1 = true := by
  rw [allAtoms_all]
  show words1.all (fun c => c.before args0 about1) = true
  refine all_split ?_ w_codes
  rw [← List.take_append_drop 24 words1, List.all_append, w_t1, w_t2]
  rfl
set_option maxRecDepth 65536 in
theorem w_case : (Jvm.Cond.and given_1 narrow_1).before args0 about1 = true := by decide +kernel
theorem w_applies : (headSpec (Jvm.Cond.code x code maxLocals ret :: tables_1) room_1).applies x e0.platform about1 = true :=
  (Spec.applies_iff w_frames).mpr ⟨w_running, w_runnable, w_alone, w_named, w_hears, w_ripe, w_room, w_tables⟩
theorem atStart : AtStart classFile x code maxLocals ret World_1 tables_1 room_1 Calls_1 rest_1 Pre_1 launch0 p0 e0 about1 theMethod args0 below0 :=
  ⟨lists_1, trivial, launch0.admits_env _ _ _, launch0.least_env, fairChoices_fair.cas, fairChoices_fair.clock, w_frames, w_args, w_heap, w_applies, trivial, trivial, w_case⟩
end start1
theorem witness_1 : WitnessClaimed_1 := ⟨start1.p0, start1.e0, start1.about1, start1.theMethod, start1.args0, start1.below0, start1.atStart⟩
end Jvm.Pilot.@@N@@
