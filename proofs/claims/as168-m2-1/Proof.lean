import JvmDerived
import JvmDerived.Pilot.@@N@@Statement
import JvmDerived.Pilot.@@N@@Code
set_option linter.unusedVariables false
set_option linter.unusedSimpArgs false
namespace Jvm.RoadKit
open Sem ClassFile Op Lib Jvm.Stand Jvm.Free Jvm.LawKit
section OwnRets
variable {p : Program} {l : Launch} {e : Env} {R : Room} {s : State} {m : MethodId} {args : Array Value} {below : List Frame} {meth : Method} {c : Code} {T : State} {locs : List Loc} {cells slots : Nat}
theorem own_retI (X : Stand p l e R s m args below meth c T locs cells slots) (hx : p.tables.exec = Jvm.exec) {pc : Nat} {Ls : Array Slot} {z z' : Int32} {rest : List Value} (hret : meth.sig.returnType = some .int) (hd : decode c.code pc = .ok (.ireturn, 1)) (hz : z' = z) {fs : List Frame}
    (hl : ∀ (f : JFrame) (acts : List Action), f.method = m → f.locked = none → f.entered = [] → (doReturn e (T.setTop f) acts (some (.int z'))).1 = T.setFrames fs) : Steps p.tables e below (T.setTop (mkF m pc Ls (.int z :: rest))) (T.setFrames fs) := by
  subst hz
  have hm' : T.vm.method? m = some meth := X.method'
  have hn : narrow .int (.int z') = .int z' := rfl
  show Steps p.tables e below (T.setTop { method := m, pc := pc, locals := Ls, stack := _ :: rest, locked := none }) _
  jvm_step X.here [X.here.top, hx, hd, hm', hret, hn]
  first | (intro acts; rw [hl _ acts rfl rfl rfl]) | rw [hl _ _ rfl rfl rfl]
  exact Steps.refl _
theorem own_retZ (X : Stand p l e R s m args below meth c T locs cells slots) (hx : p.tables.exec = Jvm.exec) {pc : Nat} {Ls : Array Slot} {z z' : Int32} {rest : List Value} (hret : meth.sig.returnType = some .boolean) (hd : decode c.code pc = .ok (.ireturn, 1)) (hz : z' = z) (hn : nar .boolean z = z) {fs : List Frame}
    (hl : ∀ (f : JFrame) (acts : List Action), f.method = m → f.locked = none → f.entered = [] → (doReturn e (T.setTop f) acts (some (.int z'))).1 = T.setFrames fs) : Steps p.tables e below (T.setTop (mkF m pc Ls (.int z :: rest))) (T.setFrames fs) := by
  subst hz
  refine retN X hx (t := .boolean) hret (by simp) hd ?_
  rw [hn]; exact hl
theorem own_retJ (X : Stand p l e R s m args below meth c T locs cells slots) (hx : p.tables.exec = Jvm.exec) {pc : Nat} {Ls : Array Slot} {z z' : Int64} (hret : meth.sig.returnType = some .long) (hd : decode c.code pc = .ok (.lreturn, 1)) (hz : z' = z) {fs : List Frame}
    (hl : ∀ (f : JFrame) (acts : List Action), f.method = m → f.locked = none → f.entered = [] → (doReturn e (T.setTop f) acts (some (.long z'))).1 = T.setFrames fs) : Steps p.tables e below (T.setTop (mkF m pc Ls [.long z])) (T.setFrames fs) := by
  subst hz
  exact X.lreturnOut hx hret hd hl
end OwnRets
theorem own_lw_eq_t {x y : Int64} (h : x = y) : ifCond.holds .eq (lcmpW x y) = true := (if0 _ _).trans (teq ((lw_eq x y).mpr h)).1
theorem own_lw_eq_f {x y : Int64} (h : ¬ x = y) : ifCond.holds .eq (lcmpW x y) = false := (if0 _ _).trans (feq (mt (lw_eq x y).mp h)).1
theorem own_lw_ne_t {x y : Int64} (h : ¬ x = y) : ifCond.holds .ne (lcmpW x y) = true := (if0 _ _).trans (feq (mt (lw_eq x y).mp h)).2
theorem own_lw_ne_f {x y : Int64} (h : x = y) : ifCond.holds .ne (lcmpW x y) = false := (if0 _ _).trans (teq ((lw_eq x y).mpr h)).2
theorem own_lw_lt_t {x y : Int64} (h : x < y) : ifCond.holds .lt (lcmpW x y) = true := (if0 _ _).trans (tlt ((lw_lt x y).mpr h)).1
theorem own_lw_lt_f {x y : Int64} (h : ¬ x < y) : ifCond.holds .lt (lcmpW x y) = false := (if0 _ _).trans (flt (mt (lw_lt x y).mp h)).1
theorem own_lw_ge_t {x y : Int64} (h : ¬ x < y) : ifCond.holds .ge (lcmpW x y) = true := (if0 _ _).trans (flt (mt (lw_lt x y).mp h)).2.1
theorem own_lw_ge_f {x y : Int64} (h : x < y) : ifCond.holds .ge (lcmpW x y) = false := (if0 _ _).trans (tlt ((lw_lt x y).mpr h)).2.1
end Jvm.RoadKit
namespace Jvm.Pilot.@@N@@
open Jvm Jvm.ClassFile Sem Op Lib Jvm.Free Jvm.Stand Jvm.LawKit Jvm.RoadKit Bundle Jvm.Pilot.@@N@@.Jvm.D
theorem d4_0 : decode prog_26_method_1_code 0 = .ok (.aload_n 0, 1) := by decide +kernel
theorem d4_1 : decode prog_26_method_1_code 1 = .ok (.invokespecial 1, 3) := by decide +kernel
theorem d4_4 : decode prog_26_method_1_code 4 = .ok (.return_, 1) := by decide +kernel
theorem pn_4 : plainName "com/example/pathmeter/pathmeter/MarkovHistogram$Tally" = true := by first | (simp [plainName, overriddenIn]; done) | decide +kernel
theorem ef_4 (m : MethodId) (x0 : Addr) : entryFrame m #[(.ref x0)] 1 = mkF m 0 #[.val (.ref x0)] [] := by first | (simp [entryFrame, mkF, argsToLocals, Value.category]; done) | rfl
def Q4 (Z : State) (a1 : Addr) (h0 : Heap) (n0 : Nat) (v : Option Value) (h : Heap) (L : List Loc) : Prop := v = none ∧ Fr n0 L ∧ h = h0
set_option maxRecDepth 65536 in
set_option maxHeartbeats 40000000 in
theorem rm4 (l : Launch) (Z : State) (a0 : Array Value) (hw : ∀ d ∈ tables_1, d.before a0 Z = true) (ws : List Jvm.Cond) (a1 : Addr) (h0 : Heap) (n0 : Nat) (Z0 : n0 ≤ h0.size)  :
    MetFree l (⟨"com/example/pathmeter/pathmeter/MarkovHistogram$Tally", "<init>", "()V"⟩ : MethodName) (head1 (Jvm.Cond.code (⟨"com/example/pathmeter/pathmeter/MarkovHistogram$Tally", "<init>", "()V"⟩ : MethodName) prog_26_method_1_code 1 none :: ws) ({ frames := 1, cells := 0, slots := 0, locals := 12 } : Room)) (fun a U => a = #[(.ref a1)] ∧ Z.Warmed39 U.vm ∧ U.heap = h0) (fun _ _ _ _ _ => True) (fun _ U o U' => ∃ v L, o = .returned v ∧ Q4 Z a1 h0 n0 v U'.heap L ∧ FrameEnd U o U' L ({ frames := 1, cells := 0, slots := 0, locals := 12 } : Room).cells ({ frames := 1, cells := 0, slots := 0, locals := 12 } : Room).slots) := by
  refine MetFree.of_bodySF (plainFor_of_name pn_4) hisR ?_
  intro p e s m args below meth c s₁ Bd hml0 hP hK
  obtain ⟨rfl, hZ, hh⟩ := hP
  have w10_ := hw _ (List.mem_of_getElem? (i := 10) rfl)
  have w11_ := hw _ (List.mem_of_getElem? (i := 11) rfl)
  have w18_ := hw _ (List.mem_of_getElem? (i := 18) rfl)
  have hx := Bd.exec
  have hby := Bd.bytes
  have hml : c.maxLocals = 1 := hml0
  have hown : s.vm.findClass "com/example/pathmeter/pathmeter/MarkovHistogram$Tally" = some m.cls := findClass_of_methodNamed Bd.named
  have hnm := (name_of_methodNamed Bd.named Bd.method).1
  have X0 : Stand p l e ({ frames := 1, cells := 0, slots := 0, locals := 12 } : Room) s m #[(.ref a1)] below meth c s₁ [] 0 0 := Stand.of_body Bd
  have e0 : s₁.heap = h0 := by rw [← hh, Bd.state]; rfl
  have N0 := Fr.nil n0
  have pre0 : ∀ t, Steps p.tables e below (s₁.setTop (mkF m 0 #[.val (.ref a1)] [])) t → Steps p.tables e below (s₁.setTop (entryFrame m #[(.ref a1)] 1)) t := fun t k => castTop (ef_4 m a1) k
  obtain ⟨T1, X1, e1, st1⟩ := initO X0 hx hZ hown w18_ w10_ w11_ e0 (g := (mkF m 1 #[.val (.ref a1)] [(.ref a1)])) rfl (by rw [hml]; rfl) rfl (hb hby d4_1) (by decide) (W := 0) (by show 2 * 0 + _ ≤ _; exact Nat.le_of_eq rfl) (by decide)
  obtain ⟨fs, hr, hrun, hended, hW, hsame⟩ := X1.leave (v := none) (fun _ => rfl)
  refine ⟨_, _, pre0 _ ?_, hrun, hended, _, _, rfl, ?_, ⟨_, rfl⟩, hW, hsame.mono (by decide) (by decide)⟩
  · show Steps p.tables e below (s₁.setTop (mkF m 0 #[.val (.ref a1)] [])) _
    refine XS.aloadN X0.here hx rfl (hb hby d4_0) rfl rfl ?_
    show Steps p.tables e below (s₁.setTop (mkF m 1 #[.val (.ref a1)] [(.ref a1)])) _
    refine st1 _ ?_
    show Steps p.tables e below (T1.setTop (mkF m 4 #[.val (.ref a1)] [])) _
    exact X1.returnOut hx Bd.returns (hb hby d4_4) hr
  · show Q4 Z a1 h0 n0 _ T1.heap _
    rw [e1]
    exact ⟨rfl, N0, rfl⟩
theorem d11_0 : decode jdk_71_method_1_code 0 = .ok (.aload_n 0, 1) := by decide +kernel
theorem d11_1 : decode jdk_71_method_1_code 1 = .ok (.invokespecial 1, 3) := by decide +kernel
theorem d11_4 : decode jdk_71_method_1_code 4 = .ok (.return_, 1) := by decide +kernel
theorem pn_11 : plainName "java/util/AbstractMap" = true := by first | (simp [plainName, overriddenIn]; done) | decide +kernel
theorem ef_11 (m : MethodId) (x0 : Addr) : entryFrame m #[(.ref x0)] 1 = mkF m 0 #[.val (.ref x0)] [] := by first | (simp [entryFrame, mkF, argsToLocals, Value.category]; done) | rfl
def Q11 (Z : State) (a1 : Addr) (h0 : Heap) (n0 : Nat) (v : Option Value) (h : Heap) (L : List Loc) : Prop := v = none ∧ Fr n0 L ∧ h = h0
set_option maxRecDepth 65536 in
set_option maxHeartbeats 40000000 in
theorem rm11 (l : Launch) (Z : State) (a0 : Array Value) (hw : ∀ d ∈ tables_1, d.before a0 Z = true) (ws : List Jvm.Cond) (a1 : Addr) (h0 : Heap) (n0 : Nat) (Z0 : n0 ≤ h0.size)  :
    MetFree l (⟨"java/util/AbstractMap", "<init>", "()V"⟩ : MethodName) (head1 (Jvm.Cond.code (⟨"java/util/AbstractMap", "<init>", "()V"⟩ : MethodName) jdk_71_method_1_code 1 none :: ws) ({ frames := 1, cells := 0, slots := 0, locals := 12 } : Room)) (fun a U => a = #[(.ref a1)] ∧ Z.Warmed39 U.vm ∧ U.heap = h0) (fun _ _ _ _ _ => True) (fun _ U o U' => ∃ v L, o = .returned v ∧ Q11 Z a1 h0 n0 v U'.heap L ∧ FrameEnd U o U' L ({ frames := 1, cells := 0, slots := 0, locals := 12 } : Room).cells ({ frames := 1, cells := 0, slots := 0, locals := 12 } : Room).slots) := by
  refine MetFree.of_bodySF (plainFor_of_name pn_11) hisR ?_
  intro p e s m args below meth c s₁ Bd hml0 hP hK
  obtain ⟨rfl, hZ, hh⟩ := hP
  have w10_ := hw _ (List.mem_of_getElem? (i := 10) rfl)
  have w11_ := hw _ (List.mem_of_getElem? (i := 11) rfl)
  have w62_ := hw _ (List.mem_of_getElem? (i := 62) rfl)
  have hx := Bd.exec
  have hby := Bd.bytes
  have hml : c.maxLocals = 1 := hml0
  have hown : s.vm.findClass "java/util/AbstractMap" = some m.cls := findClass_of_methodNamed Bd.named
  have hnm := (name_of_methodNamed Bd.named Bd.method).1
  have X0 : Stand p l e ({ frames := 1, cells := 0, slots := 0, locals := 12 } : Room) s m #[(.ref a1)] below meth c s₁ [] 0 0 := Stand.of_body Bd
  have e0 : s₁.heap = h0 := by rw [← hh, Bd.state]; rfl
  have N0 := Fr.nil n0
  have pre0 : ∀ t, Steps p.tables e below (s₁.setTop (mkF m 0 #[.val (.ref a1)] [])) t → Steps p.tables e below (s₁.setTop (entryFrame m #[(.ref a1)] 1)) t := fun t k => castTop (ef_11 m a1) k
  obtain ⟨T1, X1, e1, st1⟩ := initO X0 hx hZ hown w62_ w10_ w11_ e0 (g := (mkF m 1 #[.val (.ref a1)] [(.ref a1)])) rfl (by rw [hml]; rfl) rfl (hb hby d11_1) (by decide) (W := 0) (by show 2 * 0 + _ ≤ _; exact Nat.le_of_eq rfl) (by decide)
  obtain ⟨fs, hr, hrun, hended, hW, hsame⟩ := X1.leave (v := none) (fun _ => rfl)
  refine ⟨_, _, pre0 _ ?_, hrun, hended, _, _, rfl, ?_, ⟨_, rfl⟩, hW, hsame.mono (by decide) (by decide)⟩
  · show Steps p.tables e below (s₁.setTop (mkF m 0 #[.val (.ref a1)] [])) _
    refine XS.aloadN X0.here hx rfl (hb hby d11_0) rfl rfl ?_
    show Steps p.tables e below (s₁.setTop (mkF m 1 #[.val (.ref a1)] [(.ref a1)])) _
    refine st1 _ ?_
    show Steps p.tables e below (T1.setTop (mkF m 4 #[.val (.ref a1)] [])) _
    exact X1.returnOut hx Bd.returns (hb hby d11_4) hr
  · show Q11 Z a1 h0 n0 _ T1.heap _
    rw [e1]
    exact ⟨rfl, N0, rfl⟩
def own_max (p1 : Int32) (p2 : Int32) : Int32 := (if p1 < p2 then p2 else p1)
theorem d5_0 : decode jdk_29_method_65_code 0 = .ok (.iload_n 0, 1) := by decide +kernel
theorem d5_1 : decode jdk_29_method_65_code 1 = .ok (.iload_n 1, 1) := by decide +kernel
theorem d5_2 : decode jdk_29_method_65_code 2 = .ok (.if_icmp .lt 7, 3) := by decide +kernel
theorem d5_5 : decode jdk_29_method_65_code 5 = .ok (.iload_n 0, 1) := by decide +kernel
theorem d5_6 : decode jdk_29_method_65_code 6 = .ok (.goto 4, 3) := by decide +kernel
theorem d5_9 : decode jdk_29_method_65_code 9 = .ok (.iload_n 1, 1) := by decide +kernel
theorem d5_10 : decode jdk_29_method_65_code 10 = .ok (.ireturn, 1) := by decide +kernel
theorem ef_5 (m : MethodId) (x0 : Int32) (x1 : Int32) : entryFrame m #[(.int x0), (.int x1)] 2 = mkF m 0 #[.val (.int x0), .val (.int x1)] [] := by first | (simp [entryFrame, mkF, argsToLocals, Value.category]; done) | rfl
def Q5 (Z : State) (p1 : Int32) (p2 : Int32) (h0 : Heap) (n0 : Nat) (v : Option Value) (h : Heap) (L : List Loc) : Prop := v = some (.int (own_max p1 p2)) ∧ Fr n0 L ∧ h = h0
set_option maxRecDepth 65536 in
set_option maxHeartbeats 40000000 in
theorem rm5 (l : Launch) (Z : State) (a0 : Array Value) (hw : ∀ d ∈ tables_1, d.before a0 Z = true) (ws : List Jvm.Cond) (p1 : Int32) (p2 : Int32) (h0 : Heap) (n0 : Nat) (Z0 : n0 ≤ h0.size)  :
    MetFree l (⟨"java/lang/Math", "max", "(II)I"⟩ : MethodName) (head1 (Jvm.Cond.code (⟨"java/lang/Math", "max", "(II)I"⟩ : MethodName) jdk_29_method_65_code 2 (some .int) :: ws) ({ frames := 0, cells := 0, slots := 0, locals := 0 } : Room)) (fun a U => a = #[(.int p1), (.int p2)] ∧ Z.Warmed39 U.vm ∧ U.heap = h0) (fun _ _ _ _ _ => True) (fun _ U o U' => ∃ v L, o = .returned v ∧ Q5 Z p1 p2 h0 n0 v U'.heap L ∧ FrameEnd U o U' L ({ frames := 0, cells := 0, slots := 0, locals := 0 } : Room).cells ({ frames := 0, cells := 0, slots := 0, locals := 0 } : Room).slots) := by
  refine MetFree.of_bodySF (Jvm.Free.JP.mathPlain rfl (by decide +kernel)) hisR ?_
  intro p e s m args below meth c s₁ Bd hml0 hP hK
  obtain ⟨rfl, hZ, hh⟩ := hP
  have hx := Bd.exec
  have hby := Bd.bytes
  have hml : c.maxLocals = 2 := hml0
  have hown : s.vm.findClass "java/lang/Math" = some m.cls := findClass_of_methodNamed Bd.named
  have hnm := (name_of_methodNamed Bd.named Bd.method).1
  have X0 : Stand p l e ({ frames := 0, cells := 0, slots := 0, locals := 0 } : Room) s m #[(.int p1), (.int p2)] below meth c s₁ [] 0 0 := Stand.of_body Bd
  have e0 : s₁.heap = h0 := by rw [← hh, Bd.state]; rfl
  have N0 := Fr.nil n0
  have pre0 : ∀ t, Steps p.tables e below (s₁.setTop (mkF m 0 #[.val (.int p1), .val (.int p2)] [])) t → Steps p.tables e below (s₁.setTop (entryFrame m #[(.int p1), (.int p2)] 2)) t := fun t k => castTop (ef_5 m p1 p2) k
  obtain ⟨fs, hr, hrun, hended, hW, hsame⟩ := X0.leave (v := some (.int (own_max p1 p2))) (fun h => by rw [Bd.returns] at h; cases h)
  refine ⟨_, _, pre0 _ ?_, hrun, hended, _, _, rfl, ?_, ⟨_, rfl⟩, hW, hsame.mono (by decide) (by decide)⟩
  · show Steps p.tables e below (s₁.setTop (mkF m 0 #[.val (.int p1), .val (.int p2)] [])) _
    refine XS.iloadN X0.here hx rfl (hb hby d5_0) rfl ?_
    show Steps p.tables e below (s₁.setTop (mkF m 1 #[.val (.int p1), .val (.int p2)] [(.int p1)])) _
    refine XS.iloadN X0.here hx rfl (hb hby d5_1) rfl ?_
    show Steps p.tables e below (s₁.setTop (mkF m 2 #[.val (.int p1), .val (.int p2)] [(.int p2), (.int p1)])) _
    by_cases hc2 : p1 < p2
    · refine XS.icmpYes X0.here hx rfl (pc0 := 2) (pc' := 9) rfl (hb hby d5_2) rfl (Jvm.Free.XT.ii_lt_t hc2) (by decide) (by decide) ?_
      show Steps p.tables e below (s₁.setTop (mkF m 9 #[.val (.int p1), .val (.int p2)] [])) _
      refine XS.iloadN X0.here hx rfl (hb hby d5_9) rfl ?_
      show Steps p.tables e below (s₁.setTop (mkF m 10 #[.val (.int p1), .val (.int p2)] [(.int p2)])) _
      exact own_retI X0 hx Bd.returns (hb hby d5_10) (by rw [own_max, if_pos hc2]) hr
    · refine XS.icmpNo X0.here hx rfl (hb hby d5_2) rfl (Jvm.Free.XT.ii_lt_f hc2) ?_
      show Steps p.tables e below (s₁.setTop (mkF m 5 #[.val (.int p1), .val (.int p2)] [])) _
      refine XS.iloadN X0.here hx rfl (hb hby d5_5) rfl ?_
      show Steps p.tables e below (s₁.setTop (mkF m 6 #[.val (.int p1), .val (.int p2)] [(.int p1)])) _
      refine XS.goto X0.here hx rfl (pc0 := 6) (pc' := 10) rfl (hb hby d5_6) (by decide) (by decide) ?_
      show Steps p.tables e below (s₁.setTop (mkF m 10 #[.val (.int p1), .val (.int p2)] [(.int p1)])) _
      exact own_retI X0 hx Bd.returns (hb hby d5_10) (by rw [own_max, if_neg hc2]) hr
  · show Q5 Z p1 p2 h0 n0 _ s₁.heap _
    rw [e0]
    exact ⟨rfl, N0, rfl⟩
theorem d7_0 : decode prog_33_method_2_code 0 = .ok (.iload_n 0, 1) := by decide +kernel
theorem d7_1 : decode prog_33_method_2_code 1 = .ok (.iconst 1, 1) := by decide +kernel
theorem d7_2 : decode prog_33_method_2_code 2 = .ok (.if_icmp .ge 17, 3) := by decide +kernel
theorem d7_19 : decode prog_33_method_2_code 19 = .ok (.iload_n 0, 1) := by decide +kernel
theorem d7_20 : decode prog_33_method_2_code 20 = .ok (.ireturn, 1) := by decide +kernel
theorem pn_7 : plainName "com/example/pathmeter/pathmeter/PathStatistics" = true := by first | (simp [plainName, overriddenIn]; done) | decide +kernel
theorem ef_7 (m : MethodId) (x0 : Int32) : entryFrame m #[(.int x0)] 1 = mkF m 0 #[.val (.int x0)] [] := by first | (simp [entryFrame, mkF, argsToLocals, Value.category]; done) | rfl
def Q7 (Z : State) (p1 : Int32) (h0 : Heap) (n0 : Nat) (v : Option Value) (h : Heap) (L : List Loc) : Prop := v = some (.int p1) ∧ Fr n0 L ∧ h = h0
set_option maxRecDepth 65536 in
set_option maxHeartbeats 40000000 in
theorem rm7 (l : Launch) (Z : State) (a0 : Array Value) (hw : ∀ d ∈ tables_1, d.before a0 Z = true) (ws : List Jvm.Cond) (p1 : Int32) (h0 : Heap) (n0 : Nat) (Z0 : n0 ≤ h0.size) (hge : ¬ p1 < (1 : Int32)) :
    MetFree l (⟨"com/example/pathmeter/pathmeter/PathStatistics", "requireOrder", "(I)I"⟩ : MethodName) (head1 (Jvm.Cond.code (⟨"com/example/pathmeter/pathmeter/PathStatistics", "requireOrder", "(I)I"⟩ : MethodName) prog_33_method_2_code 1 (some .int) :: ws) ({ frames := 0, cells := 0, slots := 0, locals := 0 } : Room)) (fun a U => a = #[(.int p1)] ∧ Z.Warmed39 U.vm ∧ U.heap = h0) (fun _ _ _ _ _ => True) (fun _ U o U' => ∃ v L, o = .returned v ∧ Q7 Z p1 h0 n0 v U'.heap L ∧ FrameEnd U o U' L ({ frames := 0, cells := 0, slots := 0, locals := 0 } : Room).cells ({ frames := 0, cells := 0, slots := 0, locals := 0 } : Room).slots) := by
  refine MetFree.of_bodySF (plainFor_of_name pn_7) hisR ?_
  intro p e s m args below meth c s₁ Bd hml0 hP hK
  obtain ⟨rfl, hZ, hh⟩ := hP
  have hx := Bd.exec
  have hby := Bd.bytes
  have hml : c.maxLocals = 1 := hml0
  have hown : s.vm.findClass "com/example/pathmeter/pathmeter/PathStatistics" = some m.cls := findClass_of_methodNamed Bd.named
  have hnm := (name_of_methodNamed Bd.named Bd.method).1
  have X0 : Stand p l e ({ frames := 0, cells := 0, slots := 0, locals := 0 } : Room) s m #[(.int p1)] below meth c s₁ [] 0 0 := Stand.of_body Bd
  have e0 : s₁.heap = h0 := by rw [← hh, Bd.state]; rfl
  have N0 := Fr.nil n0
  have pre0 : ∀ t, Steps p.tables e below (s₁.setTop (mkF m 0 #[.val (.int p1)] [])) t → Steps p.tables e below (s₁.setTop (entryFrame m #[(.int p1)] 1)) t := fun t k => castTop (ef_7 m p1) k
  obtain ⟨fs, hr, hrun, hended, hW, hsame⟩ := X0.leave (v := some (.int p1)) (fun h => by rw [Bd.returns] at h; cases h)
  refine ⟨_, _, pre0 _ ?_, hrun, hended, _, _, rfl, ?_, ⟨_, rfl⟩, hW, hsame.mono (by decide) (by decide)⟩
  · show Steps p.tables e below (s₁.setTop (mkF m 0 #[.val (.int p1)] [])) _
    refine XS.iloadN X0.here hx rfl (hb hby d7_0) rfl ?_
    show Steps p.tables e below (s₁.setTop (mkF m 1 #[.val (.int p1)] [(.int p1)])) _
    refine XS.iconst X0.here hx rfl (hb hby d7_1) ?_
    show Steps p.tables e below (s₁.setTop (mkF m 2 #[.val (.int p1)] [(.int (1 : Int32)), (.int p1)])) _
    refine XS.icmpYes X0.here hx rfl (pc0 := 2) (pc' := 19) rfl (hb hby d7_2) rfl (Jvm.Free.XT.ii_ge_t hge) (by decide) (by decide) ?_
    show Steps p.tables e below (s₁.setTop (mkF m 19 #[.val (.int p1)] [])) _
    refine XS.iloadN X0.here hx rfl (hb hby d7_19) rfl ?_
    show Steps p.tables e below (s₁.setTop (mkF m 20 #[.val (.int p1)] [(.int p1)])) _
    exact own_retI X0 hx Bd.returns (hb hby d7_20) rfl hr
  · show Q7 Z p1 h0 n0 _ s₁.heap _
    rw [e0]
    exact ⟨rfl, N0, rfl⟩
theorem d12_0 : decode prog_48_method_3_code 0 = .ok (.iload_n 0, 1) := by decide +kernel
theorem d12_1 : decode prog_48_method_3_code 1 = .ok (.ifCond .ge 17, 3) := by decide +kernel
theorem d12_18 : decode prog_48_method_3_code 18 = .ok (.iload_n 0, 1) := by decide +kernel
theorem d12_19 : decode prog_48_method_3_code 19 = .ok (.ireturn, 1) := by decide +kernel
theorem pn_12 : plainName "com/example/pathmeter/pathmeter/ValueStatistics" = true := by first | (simp [plainName, overriddenIn]; done) | decide +kernel
theorem ef_12 (m : MethodId) (x0 : Int32) : entryFrame m #[(.int x0)] 1 = mkF m 0 #[.val (.int x0)] [] := by first | (simp [entryFrame, mkF, argsToLocals, Value.category]; done) | rfl
def Q12 (Z : State) (p1 : Int32) (h0 : Heap) (n0 : Nat) (v : Option Value) (h : Heap) (L : List Loc) : Prop := v = some (.int p1) ∧ Fr n0 L ∧ h = h0
set_option maxRecDepth 65536 in
set_option maxHeartbeats 40000000 in
theorem rm12 (l : Launch) (Z : State) (a0 : Array Value) (hw : ∀ d ∈ tables_1, d.before a0 Z = true) (ws : List Jvm.Cond) (p1 : Int32) (h0 : Heap) (n0 : Nat) (Z0 : n0 ≤ h0.size) (hge : ¬ p1 < (0 : Int32)) :
    MetFree l (⟨"com/example/pathmeter/pathmeter/ValueStatistics", "requireTopK", "(I)I"⟩ : MethodName) (head1 (Jvm.Cond.code (⟨"com/example/pathmeter/pathmeter/ValueStatistics", "requireTopK", "(I)I"⟩ : MethodName) prog_48_method_3_code 1 (some .int) :: ws) ({ frames := 0, cells := 0, slots := 0, locals := 0 } : Room)) (fun a U => a = #[(.int p1)] ∧ Z.Warmed39 U.vm ∧ U.heap = h0) (fun _ _ _ _ _ => True) (fun _ U o U' => ∃ v L, o = .returned v ∧ Q12 Z p1 h0 n0 v U'.heap L ∧ FrameEnd U o U' L ({ frames := 0, cells := 0, slots := 0, locals := 0 } : Room).cells ({ frames := 0, cells := 0, slots := 0, locals := 0 } : Room).slots) := by
  refine MetFree.of_bodySF (plainFor_of_name pn_12) hisR ?_
  intro p e s m args below meth c s₁ Bd hml0 hP hK
  obtain ⟨rfl, hZ, hh⟩ := hP
  have hx := Bd.exec
  have hby := Bd.bytes
  have hml : c.maxLocals = 1 := hml0
  have hown : s.vm.findClass "com/example/pathmeter/pathmeter/ValueStatistics" = some m.cls := findClass_of_methodNamed Bd.named
  have hnm := (name_of_methodNamed Bd.named Bd.method).1
  have X0 : Stand p l e ({ frames := 0, cells := 0, slots := 0, locals := 0 } : Room) s m #[(.int p1)] below meth c s₁ [] 0 0 := Stand.of_body Bd
  have e0 : s₁.heap = h0 := by rw [← hh, Bd.state]; rfl
  have N0 := Fr.nil n0
  have pre0 : ∀ t, Steps p.tables e below (s₁.setTop (mkF m 0 #[.val (.int p1)] [])) t → Steps p.tables e below (s₁.setTop (entryFrame m #[(.int p1)] 1)) t := fun t k => castTop (ef_12 m p1) k
  obtain ⟨fs, hr, hrun, hended, hW, hsame⟩ := X0.leave (v := some (.int p1)) (fun h => by rw [Bd.returns] at h; cases h)
  refine ⟨_, _, pre0 _ ?_, hrun, hended, _, _, rfl, ?_, ⟨_, rfl⟩, hW, hsame.mono (by decide) (by decide)⟩
  · show Steps p.tables e below (s₁.setTop (mkF m 0 #[.val (.int p1)] [])) _
    refine XS.iloadN X0.here hx rfl (hb hby d12_0) rfl ?_
    show Steps p.tables e below (s₁.setTop (mkF m 1 #[.val (.int p1)] [(.int p1)])) _
    refine XS.ifYes X0.here hx rfl (pc0 := 1) (pc' := 18) rfl (hb hby d12_1) rfl (Jvm.Free.XT.i0_ge_t hge) (by decide) (by decide) ?_
    show Steps p.tables e below (s₁.setTop (mkF m 18 #[.val (.int p1)] [])) _
    refine XS.iloadN X0.here hx rfl (hb hby d12_18) rfl ?_
    show Steps p.tables e below (s₁.setTop (mkF m 19 #[.val (.int p1)] [(.int p1)])) _
    exact own_retI X0 hx Bd.returns (hb hby d12_19) rfl hr
  · show Q12 Z p1 h0 n0 _ s₁.heap _
    rw [e0]
    exact ⟨rfl, N0, rfl⟩
theorem d10_0 : decode jdk_69_method_7_code 0 = .ok (.aload_n 0, 1) := by decide +kernel
theorem d10_1 : decode jdk_69_method_7_code 1 = .ok (.invokespecial 43, 3) := by decide +kernel
theorem d10_4 : decode jdk_69_method_7_code 4 = .ok (.aload_n 0, 1) := by decide +kernel
theorem d10_5 : decode jdk_69_method_7_code 5 = .ok (.ldc 92, 2) := by decide +kernel
theorem d10_7 : decode jdk_69_method_7_code 7 = .ok (.putfield 81, 3) := by decide +kernel
theorem d10_10 : decode jdk_69_method_7_code 10 = .ok (.return_, 1) := by decide +kernel
theorem pn_10 : plainName "java/util/HashMap" = true := by first | (simp [plainName, overriddenIn]; done) | decide +kernel
theorem ef_10 (m : MethodId) (x0 : Addr) : entryFrame m #[(.ref x0)] 1 = mkF m 0 #[.val (.ref x0)] [] := by first | (simp [entryFrame, mkF, argsToLocals, Value.category]; done) | rfl
theorem pd_10_11 : parseMethodDescriptor "()V" = some ⟨[], none⟩ := by decide +kernel
def Q10 (Z : State) (a1 : Addr) (h0 : Heap) (n0 : Nat) (v : Option Value) (h : Heap) (L : List Loc) : Prop := v = none ∧ Fr n0 L ∧ Keep h0 h [a1] ∧ (Exa Z h a1 "java/util/HashMap")
set_option maxRecDepth 65536 in
set_option maxHeartbeats 40000000 in
theorem rm10 (l : Launch) (Z : State) (a0 : Array Value) (hw : ∀ d ∈ tables_1, d.before a0 Z = true) (ws : List Jvm.Cond) (a1 : Addr) (h0 : Heap) (n0 : Nat) (Z0 : n0 ≤ h0.size) (P0 : Exa Z h0 a1 "java/util/HashMap") (P1 : Fld Z h0 a1 "java/util/HashMap" "loadFactor" "F" (defaultValue .float)) (g_a1 : n0 ≤ a1) :
    MetFree l (⟨"java/util/HashMap", "<init>", "()V"⟩ : MethodName) (head1 (Jvm.Cond.code (⟨"java/util/HashMap", "<init>", "()V"⟩ : MethodName) jdk_69_method_7_code 1 none :: ws) ({ frames := 2, cells := 0, slots := 0, locals := 24 } : Room)) (fun a U => a = #[(.ref a1)] ∧ Z.Warmed39 U.vm ∧ U.heap = h0) (fun _ _ _ _ _ => True) (fun _ U o U' => ∃ v L, o = .returned v ∧ Q10 Z a1 h0 n0 v U'.heap L ∧ FrameEnd U o U' L ({ frames := 2, cells := 0, slots := 0, locals := 24 } : Room).cells ({ frames := 2, cells := 0, slots := 0, locals := 24 } : Room).slots) := by
  refine MetFree.of_bodySF (plainFor_of_name pn_10) hisR ?_
  intro p e s m args below meth c s₁ Bd hml0 hP hK
  obtain ⟨rfl, hZ, hh⟩ := hP
  have w51_ := hw _ (List.mem_of_getElem? (i := 51) rfl)
  have w56_ := hw _ (List.mem_of_getElem? (i := 56) rfl)
  have w57_ := hw _ (List.mem_of_getElem? (i := 57) rfl)
  have w60_ := hw _ (List.mem_of_getElem? (i := 60) rfl)
  have w61_ := hw _ (List.mem_of_getElem? (i := 61) rfl)
  have w63_ := hw _ (List.mem_of_getElem? (i := 63) rfl)
  have w64_ := hw _ (List.mem_of_getElem? (i := 64) rfl)
  have w65_ := hw _ (List.mem_of_getElem? (i := 65) rfl)
  have hx := Bd.exec
  have hby := Bd.bytes
  have hml : c.maxLocals = 1 := hml0
  have hown : s.vm.findClass "java/util/HashMap" = some m.cls := findClass_of_methodNamed Bd.named
  have hnm := (name_of_methodNamed Bd.named Bd.method).1
  have X0 : Stand p l e ({ frames := 2, cells := 0, slots := 0, locals := 24 } : Room) s m #[(.ref a1)] below meth c s₁ [] 0 0 := Stand.of_body Bd
  have e0 : s₁.heap = h0 := by rw [← hh, Bd.state]; rfl
  have N0 := Fr.nil n0
  have pre0 : ∀ t, Steps p.tables e below (s₁.setTop (mkF m 0 #[.val (.ref a1)] [])) t → Steps p.tables e below (s₁.setTop (entryFrame m #[(.ref a1)] 1)) t := fun t k => castTop (ef_10 m a1) k
  obtain ⟨_, _, ⟨T1, L1, k1, n1⟩, -, X1, ⟨Lc1, hQ1, l1, y1, z1⟩, st1⟩ := X0.specialBack hx (y := (⟨"java/util/AbstractMap", "<init>", "()V"⟩ : MethodName)) rfl hown (mvT hZ w56_) (mvT hZ w57_) (mvT hZ w61_) (by decide) (backOf (W := 0) (rm11 l Z a0 hw [] a1 h0 n0 Z0 ) hZ w61_ w60_ (by decide) (by decide)) (g := (mkF m 1 #[.val (.ref a1)] [(.ref a1)])) rfl (by rw [hml]; rfl) (Steps.refl _) (a := a1) (argsL := []) (rest := []) (lenOf pd_10_11 rfl) rfl (by show 2 * 0 + _ ≤ _; exact Nat.le_of_eq rfl) (hb hby d10_1) (fun _ _ => ⟨rfl, e0, (by decide : 0 + 0 ≤ _), (by decide : 0 + 0 ≤ _)⟩)
  dsimp only [Pt.U, Pt.locs, Pt.cells, Pt.slots] at X1 l1 y1 z1 st1 hQ1
  subst l1 y1 z1
  obtain ⟨rfl, N1q, qq1⟩ := hQ1
  have N1 := Fr.app N0 N1q
  have e1 : T1.heap = h0 := qq1
  obtain ⟨T2, h2, X2, e2, W2, st2⟩ := putF X1 hx hZ hown (host := "") (Or.inl w64_) Via.refl e1 P1 P0 (Or.inr ⟨w65_, rfl, hnm⟩) w51_ (ty := .float) (by decide) rfl rfl (g := (mkF m 7 #[.val (.ref a1)] [(.float (1061158912 : UInt32)), (.ref a1)])) rfl rfl (hb hby d10_7)
  have F2_loadFactor_a1 := P1.same W2
  have E2_a1 := P0.wr W2
  have K2 : Keep h0 h2 [a1] := (Keep.refl h0 [a1]).wr W2 (Or.inl (List.mem_of_getElem? (i := 0) rfl))
  have Z2 : n0 ≤ h2.size := Nat.le_trans Z0 (Keep.of_wr W2).1
  have N2 := Fr.snoc X2 N1 g_a1
  obtain ⟨fs, hr, hrun, hended, hW, hsame⟩ := X2.leave (v := none) (fun _ => rfl)
  refine ⟨_, _, pre0 _ ?_, hrun, hended, _, _, rfl, ?_, ⟨_, rfl⟩, hW, hsame.mono (by decide) (by decide)⟩
  · show Steps p.tables e below (s₁.setTop (mkF m 0 #[.val (.ref a1)] [])) _
    refine XS.aloadN X0.here hx rfl (hb hby d10_0) rfl rfl ?_
    show Steps p.tables e below (s₁.setTop (mkF m 1 #[.val (.ref a1)] [(.ref a1)])) _
    refine st1.trans ?_
    show Steps p.tables e below (T1.setTop (mkF m 4 #[.val (.ref a1)] [])) _
    refine XS.aloadN X1.here hx rfl (hb hby d10_4) rfl rfl ?_
    show Steps p.tables e below (T1.setTop (mkF m 5 #[.val (.ref a1)] [(.ref a1)])) _
    refine X1.ldcFloatC hx hown (mvT hZ w63_) (g := (mkF m 5 #[.val (.ref a1)] [(.ref a1)])) rfl (hb hby d10_5) _ ?_
    show Steps p.tables e below (T1.setTop (mkF m 7 #[.val (.ref a1)] [(.float (1061158912 : UInt32)), (.ref a1)])) _
    refine st2 _ ?_
    show Steps p.tables e below (T2.setTop (mkF m 10 #[.val (.ref a1)] [])) _
    exact X2.returnOut hx Bd.returns (hb hby d10_10) hr
  · show Q10 Z a1 h0 n0 _ T2.heap _
    rw [e2]
    exact ⟨rfl, N2, K2, E2_a1⟩
theorem d2n_0 : decode prog_25_method_3_code 0 = .ok (.aload_n 0, 1) := by decide +kernel
theorem d2n_1 : decode prog_25_method_3_code 1 = .ok (.invokespecial 18, 3) := by decide +kernel
theorem d2n_4 : decode prog_25_method_3_code 4 = .ok (.aload_n 0, 1) := by decide +kernel
theorem d2n_5 : decode prog_25_method_3_code 5 = .ok (.new 21, 3) := by decide +kernel
theorem d2n_8 : decode prog_25_method_3_code 8 = .ok (.dup, 1) := by decide +kernel
theorem d2n_9 : decode prog_25_method_3_code 9 = .ok (.invokespecial 23, 3) := by decide +kernel
theorem d2n_12 : decode prog_25_method_3_code 12 = .ok (.putfield 24, 3) := by decide +kernel
theorem d2n_15 : decode prog_25_method_3_code 15 = .ok (.aload_n 0, 1) := by decide +kernel
theorem d2n_16 : decode prog_25_method_3_code 16 = .ok (.iload_n 1, 1) := by decide +kernel
theorem d2n_17 : decode prog_25_method_3_code 17 = .ok (.putfield 28, 3) := by decide +kernel
theorem d2n_20 : decode prog_25_method_3_code 20 = .ok (.aload_n 0, 1) := by decide +kernel
theorem d2n_21 : decode prog_25_method_3_code 21 = .ok (.aload_n 2, 1) := by decide +kernel
theorem d2n_22 : decode prog_25_method_3_code 22 = .ok (.putfield 32, 3) := by decide +kernel
theorem d2n_25 : decode prog_25_method_3_code 25 = .ok (.aload_n 0, 1) := by decide +kernel
theorem d2n_26 : decode prog_25_method_3_code 26 = .ok (.iload_n 3, 1) := by decide +kernel
theorem d2n_27 : decode prog_25_method_3_code 27 = .ok (.putfield 36, 3) := by decide +kernel
theorem d2n_30 : decode prog_25_method_3_code 30 = .ok (.return_, 1) := by decide +kernel
theorem pn_2n : plainName "com/example/pathmeter/pathmeter/MarkovHistogram$Builder" = true := by first | (simp [plainName, overriddenIn]; done) | decide +kernel
theorem ef_2n (m : MethodId) (x0 : Addr) (x1 : Int32) (x3 : Int32) : entryFrame m #[(.ref x0), (.int x1), .null, (.int x3)] 4 = mkF m 0 #[.val (.ref x0), .val (.int x1), .val .null, .val (.int x3)] [] := by first | (simp [entryFrame, mkF, argsToLocals, Value.category]; done) | rfl
theorem pd_2n_4 : parseMethodDescriptor "()V" = some ⟨[], none⟩ := by decide +kernel
def Q2n (Z : State) (a1 : Addr) (p2 : Int32) (p4 : Int32) (h0 : Heap) (n0 : Nat) (v : Option Value) (h : Heap) (L : List Loc) : Prop := v = none ∧ Fr n0 L ∧ Keep h0 h [a1] ∧ (Exa Z h a1 "com/example/pathmeter/pathmeter/MarkovHistogram$Builder") ∧ (Fld Z h a1 "com/example/pathmeter/pathmeter/MarkovHistogram$Builder" "values" "Ljava/util/Map;" .null) ∧ (Fld Z h a1 "com/example/pathmeter/pathmeter/MarkovHistogram$Builder" "topK" "I" (.int p4))
set_option maxRecDepth 65536 in
set_option maxHeartbeats 40000000 in
theorem rm2n (l : Launch) (Z : State) (a0 : Array Value) (hw : ∀ d ∈ tables_1, d.before a0 Z = true) (ws : List Jvm.Cond) (a1 : Addr) (p2 : Int32) (p4 : Int32) (h0 : Heap) (n0 : Nat) (Z0 : n0 ≤ h0.size) (P0 : Exa Z h0 a1 "com/example/pathmeter/pathmeter/MarkovHistogram$Builder") (P1 : Fld Z h0 a1 "com/example/pathmeter/pathmeter/MarkovHistogram$Builder" "paths" "Lcom/example/pathmeter/pathmeter/MarkovHistogram$Tally;" .null) (P2 : Fld Z h0 a1 "com/example/pathmeter/pathmeter/MarkovHistogram$Builder" "order" "I" (.int (0 : Int32))) (P3 : Fld Z h0 a1 "com/example/pathmeter/pathmeter/MarkovHistogram$Builder" "values" "Ljava/util/Map;" .null) (P4 : Fld Z h0 a1 "com/example/pathmeter/pathmeter/MarkovHistogram$Builder" "topK" "I" (.int (0 : Int32))) (g_a1 : n0 ≤ a1) :
    MetFree l (⟨"com/example/pathmeter/pathmeter/MarkovHistogram$Builder", "<init>", "(ILjava/util/Map;I)V"⟩ : MethodName) (head1 (Jvm.Cond.code (⟨"com/example/pathmeter/pathmeter/MarkovHistogram$Builder", "<init>", "(ILjava/util/Map;I)V"⟩ : MethodName) prog_25_method_3_code 4 none :: ws) ({ frames := 2, cells := 1, slots := 2, locals := 26 } : Room)) (fun a U => a = #[(.ref a1), (.int p2), .null, (.int p4)] ∧ Z.Warmed39 U.vm ∧ U.heap = h0) (fun _ _ _ _ _ => True) (fun _ U o U' => ∃ v L, o = .returned v ∧ Q2n Z a1 p2 p4 h0 n0 v U'.heap L ∧ FrameEnd U o U' L ({ frames := 2, cells := 1, slots := 2, locals := 26 } : Room).cells ({ frames := 2, cells := 1, slots := 2, locals := 26 } : Room).slots) := by
  refine MetFree.of_bodySF (plainFor_of_name pn_2n) hisR ?_
  intro p e s m args below meth c s₁ Bd hml0 hP hK
  obtain ⟨rfl, hZ, hh⟩ := hP
  have w1_ := hw _ (List.mem_of_getElem? (i := 1) rfl)
  have w9_ := hw _ (List.mem_of_getElem? (i := 9) rfl)
  have w10_ := hw _ (List.mem_of_getElem? (i := 10) rfl)
  have w11_ := hw _ (List.mem_of_getElem? (i := 11) rfl)
  have w12_ := hw _ (List.mem_of_getElem? (i := 12) rfl)
  have w13_ := hw _ (List.mem_of_getElem? (i := 13) rfl)
  have w14_ := hw _ (List.mem_of_getElem? (i := 14) rfl)
  have w15_ := hw _ (List.mem_of_getElem? (i := 15) rfl)
  have w16_ := hw _ (List.mem_of_getElem? (i := 16) rfl)
  have w17_ := hw _ (List.mem_of_getElem? (i := 17) rfl)
  have w19_ := hw _ (List.mem_of_getElem? (i := 19) rfl)
  have w20_ := hw _ (List.mem_of_getElem? (i := 20) rfl)
  have w21_ := hw _ (List.mem_of_getElem? (i := 21) rfl)
  have w22_ := hw _ (List.mem_of_getElem? (i := 22) rfl)
  have w23_ := hw _ (List.mem_of_getElem? (i := 23) rfl)
  have w24_ := hw _ (List.mem_of_getElem? (i := 24) rfl)
  have w25_ := hw _ (List.mem_of_getElem? (i := 25) rfl)
  have w26_ := hw _ (List.mem_of_getElem? (i := 26) rfl)
  have hx := Bd.exec
  have hby := Bd.bytes
  have hml : c.maxLocals = 4 := hml0
  have hown : s.vm.findClass "com/example/pathmeter/pathmeter/MarkovHistogram$Builder" = some m.cls := findClass_of_methodNamed Bd.named
  have hnm := (name_of_methodNamed Bd.named Bd.method).1
  have X0 : Stand p l e ({ frames := 2, cells := 1, slots := 2, locals := 26 } : Room) s m #[(.ref a1), (.int p2), .null, (.int p4)] below meth c s₁ [] 0 0 := Stand.of_body Bd
  have e0 : s₁.heap = h0 := by rw [← hh, Bd.state]; rfl
  have N0 := Fr.nil n0
  have pre0 : ∀ t, Steps p.tables e below (s₁.setTop (mkF m 0 #[.val (.ref a1), .val (.int p2), .val .null, .val (.int p4)] [])) t → Steps p.tables e below (s₁.setTop (entryFrame m #[(.ref a1), (.int p2), .null, (.int p4)] 4)) t := fun t k => castTop (ef_2n m a1 p2 p4) k
  let Lo1 : Array Slot := #[.val (.ref a1), .val (.int p2), .val .null, .val (.int p4)]
  obtain ⟨T1, X1, e1, st1⟩ := initO X0 hx hZ hown w9_ w10_ w11_ e0 (g := (mkF m 1 Lo1 [(.ref a1)])) rfl (by rw [hml]; rfl) rfl (hb hby d2n_1) (by decide) (W := 0) (by show 2 * 0 + _ ≤ _; exact Nat.le_of_eq rfl) (by decide)
  obtain ⟨T2, h2, X2, e2, E2, A2, D2, -, st2⟩ := newO X1 hx hZ hown w12_ w13_ w14_ e1 (g := (mkF m 5 Lo1 [(.ref a1)])) rfl (hb hby d2n_5) (by decide) (by decide)
  obtain ⟨b2, g2⟩ : ∃ z, z = h0.size := ⟨_, rfl⟩
  rw [← g2] at A2 D2 st2
  have ne_a1_b2 : a1 ≠ b2 := Nat.ne_of_lt (Nat.lt_of_lt_of_le P0.lt (Nat.le_of_eq g2.symm))
  have g_b2 : n0 ≤ b2 := Nat.le_trans Z0 (Nat.le_of_eq g2.symm)
  have sz_b2 : h0.size ≤ b2 := Nat.le_trans (Keep.refl h0 [a1]).1 (Nat.le_of_eq g2.symm)
  have F2_paths_a1 := P1.ext E2
  have F2_order_a1 := P2.ext E2
  have F2_values_a1 := P3.ext E2
  have F2_topK_a1 := P4.ext E2
  have E2_a1 := P0.ext E2
  have K2 : Keep h0 h2 [a1] := (Keep.refl h0 [a1]).ext E2
  have Z2 : n0 ≤ h2.size := Nat.le_trans Z0 E2.1
  obtain ⟨_, _, ⟨T3, L3, k3, n3⟩, -, X3, ⟨Lc3, hQ3, l3, y3, z3⟩, st3⟩ := X2.specialBackNest hx (host := "com/example/pathmeter/pathmeter/MarkovHistogram") (y := (⟨"com/example/pathmeter/pathmeter/MarkovHistogram$Tally", "<init>", "()V"⟩ : MethodName)) rfl hown (Cond.methodLinkNest_wide hZ w15_ :) (mvT hZ w16_) (mvT hZ w17_) (by decide) (backOf (W := 2) (rm4 l Z a0 hw [] b2 h2 n0 Z2 ) hZ w17_ w14_ (by decide) (by decide)) (g := (mkF m 9 Lo1 [(.ref b2), (.ref b2), (.ref a1)])) rfl (by rw [hml]; rfl) (Steps.refl _) (a := b2) (argsL := []) (rest := [(.ref b2), (.ref a1)]) (lenOf pd_2n_4 rfl) rfl (by show 2 * 0 + _ ≤ _; exact Nat.le_of_eq rfl) (hb hby d2n_9) (fun _ _ => ⟨rfl, e2, (by decide : 1 + 0 ≤ _), (by decide : 2 + 0 ≤ _)⟩)
  dsimp only [Pt.U, Pt.locs, Pt.cells, Pt.slots] at X3 l3 y3 z3 st3 hQ3
  subst l3 y3 z3
  obtain ⟨rfl, N3q, qq3⟩ := hQ3
  have N3 := Fr.app N0 N3q
  have e3 : T3.heap = h2 := qq3
  obtain ⟨T4, h4, X4, e4, W4, st4⟩ := putF X3 hx hZ hown (host := "") (Or.inl w19_) Via.refl e3 F2_paths_a1 E2_a1 (Or.inr ⟨w20_, rfl, hnm⟩) w1_ (ty := (.object "com/example/pathmeter/pathmeter/MarkovHistogram$Tally")) (by decide) rfl rfl (g := (mkF m 12 Lo1 [(.ref b2), (.ref a1)])) rfl rfl (hb hby d2n_12)
  have F4_paths_a1 := F2_paths_a1.same W4
  have F4_order_a1 := F2_order_a1.other W4 (Or.inr (slot_ne (Or.inr w22_) (Or.inr w20_) (by decide) (t := .int) (t' := (.object "com/example/pathmeter/pathmeter/MarkovHistogram$Tally")) (by decide) (by decide)))
  have F4_values_a1 := F2_values_a1.other W4 (Or.inr (slot_ne (Or.inr w24_) (Or.inr w20_) (by decide) (t := (.object "java/util/Map")) (t' := (.object "com/example/pathmeter/pathmeter/MarkovHistogram$Tally")) (by decide) (by decide)))
  have F4_topK_a1 := F2_topK_a1.other W4 (Or.inr (slot_ne (Or.inr w26_) (Or.inr w20_) (by decide) (t := .int) (t' := (.object "com/example/pathmeter/pathmeter/MarkovHistogram$Tally")) (by decide) (by decide)))
  have E4_a1 := E2_a1.wr W4
  have E4_b2 := A2.wr W4
  have K4 : Keep h0 h4 [a1] := K2.wr W4 (Or.inl (List.mem_of_getElem? (i := 0) rfl))
  have Z4 : n0 ≤ h4.size := Nat.le_trans Z2 (Keep.of_wr W4).1
  have N4 := Fr.snoc X4 N3 g_a1
  obtain ⟨T5, h5, X5, e5, W5, st5⟩ := putF X4 hx hZ hown (host := "") (Or.inl w21_) Via.refl e4 F4_order_a1 E4_a1 (Or.inr ⟨w22_, rfl, hnm⟩) w1_ (ty := .int) (by decide) rfl rfl (g := (mkF m 17 Lo1 [(.int p2), (.ref a1)])) rfl rfl (hb hby d2n_17)
  have F5_paths_a1 := F4_paths_a1.other W5 (Or.inr (slot_ne (Or.inr w20_) (Or.inr w22_) (by decide) (t := (.object "com/example/pathmeter/pathmeter/MarkovHistogram$Tally")) (t' := .int) (by decide) (by decide)))
  have F5_order_a1 := F4_order_a1.same W5
  have F5_values_a1 := F4_values_a1.other W5 (Or.inr (slot_ne (Or.inr w24_) (Or.inr w22_) (by decide) (t := (.object "java/util/Map")) (t' := .int) (by decide) (by decide)))
  have F5_topK_a1 := F4_topK_a1.other W5 (Or.inr (slot_ne (Or.inr w26_) (Or.inr w22_) (by decide) (t := .int) (t' := .int) (by decide) (by decide)))
  have E5_a1 := E4_a1.wr W5
  have E5_b2 := E4_b2.wr W5
  have K5 : Keep h0 h5 [a1] := K4.wr W5 (Or.inl (List.mem_of_getElem? (i := 0) rfl))
  have Z5 : n0 ≤ h5.size := Nat.le_trans Z4 (Keep.of_wr W5).1
  have N5 := Fr.snoc X5 N4 g_a1
  obtain ⟨T6, h6, X6, e6, W6, st6⟩ := putF X5 hx hZ hown (host := "") (Or.inl w23_) Via.refl e5 F5_values_a1 E5_a1 (Or.inr ⟨w24_, rfl, hnm⟩) w1_ (ty := (.object "java/util/Map")) (by decide) rfl rfl (g := (mkF m 22 Lo1 [.null, (.ref a1)])) rfl rfl (hb hby d2n_22)
  have F6_paths_a1 := F5_paths_a1.other W6 (Or.inr (slot_ne (Or.inr w20_) (Or.inr w24_) (by decide) (t := (.object "com/example/pathmeter/pathmeter/MarkovHistogram$Tally")) (t' := (.object "java/util/Map")) (by decide) (by decide)))
  have F6_order_a1 := F5_order_a1.other W6 (Or.inr (slot_ne (Or.inr w22_) (Or.inr w24_) (by decide) (t := .int) (t' := (.object "java/util/Map")) (by decide) (by decide)))
  have F6_values_a1 := F5_values_a1.same W6
  have F6_topK_a1 := F5_topK_a1.other W6 (Or.inr (slot_ne (Or.inr w26_) (Or.inr w24_) (by decide) (t := .int) (t' := (.object "java/util/Map")) (by decide) (by decide)))
  have E6_a1 := E5_a1.wr W6
  have E6_b2 := E5_b2.wr W6
  have K6 : Keep h0 h6 [a1] := K5.wr W6 (Or.inl (List.mem_of_getElem? (i := 0) rfl))
  have Z6 : n0 ≤ h6.size := Nat.le_trans Z5 (Keep.of_wr W6).1
  have N6 := Fr.snoc X6 N5 g_a1
  obtain ⟨T7, h7, X7, e7, W7, st7⟩ := putF X6 hx hZ hown (host := "") (Or.inl w25_) Via.refl e6 F6_topK_a1 E6_a1 (Or.inr ⟨w26_, rfl, hnm⟩) w1_ (ty := .int) (by decide) rfl rfl (g := (mkF m 27 Lo1 [(.int p4), (.ref a1)])) rfl rfl (hb hby d2n_27)
  have F7_paths_a1 := F6_paths_a1.other W7 (Or.inr (slot_ne (Or.inr w20_) (Or.inr w26_) (by decide) (t := (.object "com/example/pathmeter/pathmeter/MarkovHistogram$Tally")) (t' := .int) (by decide) (by decide)))
  have F7_order_a1 := F6_order_a1.other W7 (Or.inr (slot_ne (Or.inr w22_) (Or.inr w26_) (by decide) (t := .int) (t' := .int) (by decide) (by decide)))
  have F7_values_a1 := F6_values_a1.other W7 (Or.inr (slot_ne (Or.inr w24_) (Or.inr w26_) (by decide) (t := (.object "java/util/Map")) (t' := .int) (by decide) (by decide)))
  have F7_topK_a1 := F6_topK_a1.same W7
  have E7_a1 := E6_a1.wr W7
  have E7_b2 := E6_b2.wr W7
  have K7 : Keep h0 h7 [a1] := K6.wr W7 (Or.inl (List.mem_of_getElem? (i := 0) rfl))
  have Z7 : n0 ≤ h7.size := Nat.le_trans Z6 (Keep.of_wr W7).1
  have N7 := Fr.snoc X7 N6 g_a1
  obtain ⟨fs, hr, hrun, hended, hW, hsame⟩ := X7.leave (v := none) (fun _ => rfl)
  refine ⟨_, _, pre0 _ ?_, hrun, hended, _, _, rfl, ?_, ⟨_, rfl⟩, hW, hsame.mono (by decide) (by decide)⟩
  · show Steps p.tables e below (s₁.setTop (mkF m 0 Lo1 [])) _
    refine XS.aloadN X0.here hx rfl (hb hby d2n_0) rfl rfl ?_
    show Steps p.tables e below (s₁.setTop (mkF m 1 Lo1 [(.ref a1)])) _
    refine st1 _ ?_
    show Steps p.tables e below (T1.setTop (mkF m 4 Lo1 [])) _
    refine XS.aloadN X1.here hx rfl (hb hby d2n_4) rfl rfl ?_
    show Steps p.tables e below (T1.setTop (mkF m 5 Lo1 [(.ref a1)])) _
    refine st2 _ ?_
    show Steps p.tables e below (T2.setTop (mkF m 8 Lo1 [(.ref b2), (.ref a1)])) _
    refine XS.dup X2.here hx rfl (hb hby d2n_8) rfl rfl ?_
    show Steps p.tables e below (T2.setTop (mkF m 9 Lo1 [(.ref b2), (.ref b2), (.ref a1)])) _
    refine st3.trans ?_
    show Steps p.tables e below (T3.setTop (mkF m 12 Lo1 [(.ref b2), (.ref a1)])) _
    refine st4 _ ?_
    show Steps p.tables e below (T4.setTop (mkF m 15 Lo1 [])) _
    refine XS.aloadN X4.here hx rfl (hb hby d2n_15) rfl rfl ?_
    show Steps p.tables e below (T4.setTop (mkF m 16 Lo1 [(.ref a1)])) _
    refine XS.iloadN X4.here hx rfl (hb hby d2n_16) rfl ?_
    show Steps p.tables e below (T4.setTop (mkF m 17 Lo1 [(.int p2), (.ref a1)])) _
    refine st5 _ ?_
    show Steps p.tables e below (T5.setTop (mkF m 20 Lo1 [])) _
    refine XS.aloadN X5.here hx rfl (hb hby d2n_20) rfl rfl ?_
    show Steps p.tables e below (T5.setTop (mkF m 21 Lo1 [(.ref a1)])) _
    refine XS.aloadN X5.here hx rfl (hb hby d2n_21) rfl rfl ?_
    show Steps p.tables e below (T5.setTop (mkF m 22 Lo1 [.null, (.ref a1)])) _
    refine st6 _ ?_
    show Steps p.tables e below (T6.setTop (mkF m 25 Lo1 [])) _
    refine XS.aloadN X6.here hx rfl (hb hby d2n_25) rfl rfl ?_
    show Steps p.tables e below (T6.setTop (mkF m 26 Lo1 [(.ref a1)])) _
    refine XS.iloadN X6.here hx rfl (hb hby d2n_26) rfl ?_
    show Steps p.tables e below (T6.setTop (mkF m 27 Lo1 [(.int p4), (.ref a1)])) _
    refine st7 _ ?_
    show Steps p.tables e below (T7.setTop (mkF m 30 Lo1 [])) _
    exact X7.returnOut hx Bd.returns (hb hby d2n_30) hr
  · show Q2n Z a1 p2 p4 h0 n0 _ T7.heap _
    rw [e7]
    exact ⟨rfl, N7, K7, E7_a1, F7_values_a1, F7_topK_a1⟩
theorem d2r_0 : decode prog_25_method_3_code 0 = .ok (.aload_n 0, 1) := by decide +kernel
theorem d2r_1 : decode prog_25_method_3_code 1 = .ok (.invokespecial 18, 3) := by decide +kernel
theorem d2r_4 : decode prog_25_method_3_code 4 = .ok (.aload_n 0, 1) := by decide +kernel
theorem d2r_5 : decode prog_25_method_3_code 5 = .ok (.new 21, 3) := by decide +kernel
theorem d2r_8 : decode prog_25_method_3_code 8 = .ok (.dup, 1) := by decide +kernel
theorem d2r_9 : decode prog_25_method_3_code 9 = .ok (.invokespecial 23, 3) := by decide +kernel
theorem d2r_12 : decode prog_25_method_3_code 12 = .ok (.putfield 24, 3) := by decide +kernel
theorem d2r_15 : decode prog_25_method_3_code 15 = .ok (.aload_n 0, 1) := by decide +kernel
theorem d2r_16 : decode prog_25_method_3_code 16 = .ok (.iload_n 1, 1) := by decide +kernel
theorem d2r_17 : decode prog_25_method_3_code 17 = .ok (.putfield 28, 3) := by decide +kernel
theorem d2r_20 : decode prog_25_method_3_code 20 = .ok (.aload_n 0, 1) := by decide +kernel
theorem d2r_21 : decode prog_25_method_3_code 21 = .ok (.aload_n 2, 1) := by decide +kernel
theorem d2r_22 : decode prog_25_method_3_code 22 = .ok (.putfield 32, 3) := by decide +kernel
theorem d2r_25 : decode prog_25_method_3_code 25 = .ok (.aload_n 0, 1) := by decide +kernel
theorem d2r_26 : decode prog_25_method_3_code 26 = .ok (.iload_n 3, 1) := by decide +kernel
theorem d2r_27 : decode prog_25_method_3_code 27 = .ok (.putfield 36, 3) := by decide +kernel
theorem d2r_30 : decode prog_25_method_3_code 30 = .ok (.return_, 1) := by decide +kernel
theorem pn_2r : plainName "com/example/pathmeter/pathmeter/MarkovHistogram$Builder" = true := by first | (simp [plainName, overriddenIn]; done) | decide +kernel
theorem ef_2r (m : MethodId) (x0 : Addr) (x1 : Int32) (x2 : Addr) (x3 : Int32) : entryFrame m #[(.ref x0), (.int x1), (.ref x2), (.int x3)] 4 = mkF m 0 #[.val (.ref x0), .val (.int x1), .val (.ref x2), .val (.int x3)] [] := by first | (simp [entryFrame, mkF, argsToLocals, Value.category]; done) | rfl
theorem pd_2r_4 : parseMethodDescriptor "()V" = some ⟨[], none⟩ := by decide +kernel
def Q2r (Z : State) (a1 : Addr) (p2 : Int32) (a3 : Addr) (p4 : Int32) (h0 : Heap) (n0 : Nat) (v : Option Value) (h : Heap) (L : List Loc) : Prop := v = none ∧ Fr n0 L ∧ Keep h0 h [a1] ∧ (Exa Z h a1 "com/example/pathmeter/pathmeter/MarkovHistogram$Builder") ∧ (Fld Z h a1 "com/example/pathmeter/pathmeter/MarkovHistogram$Builder" "values" "Ljava/util/Map;" (.ref a3)) ∧ (Fld Z h a1 "com/example/pathmeter/pathmeter/MarkovHistogram$Builder" "topK" "I" (.int p4))
set_option maxRecDepth 65536 in
set_option maxHeartbeats 40000000 in
theorem rm2r (l : Launch) (Z : State) (a0 : Array Value) (hw : ∀ d ∈ tables_1, d.before a0 Z = true) (ws : List Jvm.Cond) (a1 : Addr) (p2 : Int32) (a3 : Addr) (p4 : Int32) (h0 : Heap) (n0 : Nat) (Z0 : n0 ≤ h0.size) (P0 : Exa Z h0 a1 "com/example/pathmeter/pathmeter/MarkovHistogram$Builder") (P1 : Fld Z h0 a1 "com/example/pathmeter/pathmeter/MarkovHistogram$Builder" "paths" "Lcom/example/pathmeter/pathmeter/MarkovHistogram$Tally;" .null) (P2 : Fld Z h0 a1 "com/example/pathmeter/pathmeter/MarkovHistogram$Builder" "order" "I" (.int (0 : Int32))) (P3 : Fld Z h0 a1 "com/example/pathmeter/pathmeter/MarkovHistogram$Builder" "values" "Ljava/util/Map;" .null) (P4 : Fld Z h0 a1 "com/example/pathmeter/pathmeter/MarkovHistogram$Builder" "topK" "I" (.int (0 : Int32))) (g_a1 : n0 ≤ a1) :
    MetFree l (⟨"com/example/pathmeter/pathmeter/MarkovHistogram$Builder", "<init>", "(ILjava/util/Map;I)V"⟩ : MethodName) (head1 (Jvm.Cond.code (⟨"com/example/pathmeter/pathmeter/MarkovHistogram$Builder", "<init>", "(ILjava/util/Map;I)V"⟩ : MethodName) prog_25_method_3_code 4 none :: ws) ({ frames := 2, cells := 1, slots := 2, locals := 26 } : Room)) (fun a U => a = #[(.ref a1), (.int p2), (.ref a3), (.int p4)] ∧ Z.Warmed39 U.vm ∧ U.heap = h0) (fun _ _ _ _ _ => True) (fun _ U o U' => ∃ v L, o = .returned v ∧ Q2r Z a1 p2 a3 p4 h0 n0 v U'.heap L ∧ FrameEnd U o U' L ({ frames := 2, cells := 1, slots := 2, locals := 26 } : Room).cells ({ frames := 2, cells := 1, slots := 2, locals := 26 } : Room).slots) := by
  refine MetFree.of_bodySF (plainFor_of_name pn_2r) hisR ?_
  intro p e s m args below meth c s₁ Bd hml0 hP hK
  obtain ⟨rfl, hZ, hh⟩ := hP
  have w1_ := hw _ (List.mem_of_getElem? (i := 1) rfl)
  have w9_ := hw _ (List.mem_of_getElem? (i := 9) rfl)
  have w10_ := hw _ (List.mem_of_getElem? (i := 10) rfl)
  have w11_ := hw _ (List.mem_of_getElem? (i := 11) rfl)
  have w12_ := hw _ (List.mem_of_getElem? (i := 12) rfl)
  have w13_ := hw _ (List.mem_of_getElem? (i := 13) rfl)
  have w14_ := hw _ (List.mem_of_getElem? (i := 14) rfl)
  have w15_ := hw _ (List.mem_of_getElem? (i := 15) rfl)
  have w16_ := hw _ (List.mem_of_getElem? (i := 16) rfl)
  have w17_ := hw _ (List.mem_of_getElem? (i := 17) rfl)
  have w19_ := hw _ (List.mem_of_getElem? (i := 19) rfl)
  have w20_ := hw _ (List.mem_of_getElem? (i := 20) rfl)
  have w21_ := hw _ (List.mem_of_getElem? (i := 21) rfl)
  have w22_ := hw _ (List.mem_of_getElem? (i := 22) rfl)
  have w23_ := hw _ (List.mem_of_getElem? (i := 23) rfl)
  have w24_ := hw _ (List.mem_of_getElem? (i := 24) rfl)
  have w25_ := hw _ (List.mem_of_getElem? (i := 25) rfl)
  have w26_ := hw _ (List.mem_of_getElem? (i := 26) rfl)
  have hx := Bd.exec
  have hby := Bd.bytes
  have hml : c.maxLocals = 4 := hml0
  have hown : s.vm.findClass "com/example/pathmeter/pathmeter/MarkovHistogram$Builder" = some m.cls := findClass_of_methodNamed Bd.named
  have hnm := (name_of_methodNamed Bd.named Bd.method).1
  have X0 : Stand p l e ({ frames := 2, cells := 1, slots := 2, locals := 26 } : Room) s m #[(.ref a1), (.int p2), (.ref a3), (.int p4)] below meth c s₁ [] 0 0 := Stand.of_body Bd
  have e0 : s₁.heap = h0 := by rw [← hh, Bd.state]; rfl
  have N0 := Fr.nil n0
  have pre0 : ∀ t, Steps p.tables e below (s₁.setTop (mkF m 0 #[.val (.ref a1), .val (.int p2), .val (.ref a3), .val (.int p4)] [])) t → Steps p.tables e below (s₁.setTop (entryFrame m #[(.ref a1), (.int p2), (.ref a3), (.int p4)] 4)) t := fun t k => castTop (ef_2r m a1 p2 a3 p4) k
  let Lo1 : Array Slot := #[.val (.ref a1), .val (.int p2), .val (.ref a3), .val (.int p4)]
  obtain ⟨T1, X1, e1, st1⟩ := initO X0 hx hZ hown w9_ w10_ w11_ e0 (g := (mkF m 1 Lo1 [(.ref a1)])) rfl (by rw [hml]; rfl) rfl (hb hby d2r_1) (by decide) (W := 0) (by show 2 * 0 + _ ≤ _; exact Nat.le_of_eq rfl) (by decide)
  obtain ⟨T2, h2, X2, e2, E2, A2, D2, -, st2⟩ := newO X1 hx hZ hown w12_ w13_ w14_ e1 (g := (mkF m 5 Lo1 [(.ref a1)])) rfl (hb hby d2r_5) (by decide) (by decide)
  obtain ⟨b2, g2⟩ : ∃ z, z = h0.size := ⟨_, rfl⟩
  rw [← g2] at A2 D2 st2
  have ne_a1_b2 : a1 ≠ b2 := Nat.ne_of_lt (Nat.lt_of_lt_of_le P0.lt (Nat.le_of_eq g2.symm))
  have g_b2 : n0 ≤ b2 := Nat.le_trans Z0 (Nat.le_of_eq g2.symm)
  have sz_b2 : h0.size ≤ b2 := Nat.le_trans (Keep.refl h0 [a1]).1 (Nat.le_of_eq g2.symm)
  have F2_paths_a1 := P1.ext E2
  have F2_order_a1 := P2.ext E2
  have F2_values_a1 := P3.ext E2
  have F2_topK_a1 := P4.ext E2
  have E2_a1 := P0.ext E2
  have K2 : Keep h0 h2 [a1] := (Keep.refl h0 [a1]).ext E2
  have Z2 : n0 ≤ h2.size := Nat.le_trans Z0 E2.1
  obtain ⟨_, _, ⟨T3, L3, k3, n3⟩, -, X3, ⟨Lc3, hQ3, l3, y3, z3⟩, st3⟩ := X2.specialBackNest hx (host := "com/example/pathmeter/pathmeter/MarkovHistogram") (y := (⟨"com/example/pathmeter/pathmeter/MarkovHistogram$Tally", "<init>", "()V"⟩ : MethodName)) rfl hown (Cond.methodLinkNest_wide hZ w15_ :) (mvT hZ w16_) (mvT hZ w17_) (by decide) (backOf (W := 2) (rm4 l Z a0 hw [] b2 h2 n0 Z2 ) hZ w17_ w14_ (by decide) (by decide)) (g := (mkF m 9 Lo1 [(.ref b2), (.ref b2), (.ref a1)])) rfl (by rw [hml]; rfl) (Steps.refl _) (a := b2) (argsL := []) (rest := [(.ref b2), (.ref a1)]) (lenOf pd_2r_4 rfl) rfl (by show 2 * 0 + _ ≤ _; exact Nat.le_of_eq rfl) (hb hby d2r_9) (fun _ _ => ⟨rfl, e2, (by decide : 1 + 0 ≤ _), (by decide : 2 + 0 ≤ _)⟩)
  dsimp only [Pt.U, Pt.locs, Pt.cells, Pt.slots] at X3 l3 y3 z3 st3 hQ3
  subst l3 y3 z3
  obtain ⟨rfl, N3q, qq3⟩ := hQ3
  have N3 := Fr.app N0 N3q
  have e3 : T3.heap = h2 := qq3
  obtain ⟨T4, h4, X4, e4, W4, st4⟩ := putF X3 hx hZ hown (host := "") (Or.inl w19_) Via.refl e3 F2_paths_a1 E2_a1 (Or.inr ⟨w20_, rfl, hnm⟩) w1_ (ty := (.object "com/example/pathmeter/pathmeter/MarkovHistogram$Tally")) (by decide) rfl rfl (g := (mkF m 12 Lo1 [(.ref b2), (.ref a1)])) rfl rfl (hb hby d2r_12)
  have F4_paths_a1 := F2_paths_a1.same W4
  have F4_order_a1 := F2_order_a1.other W4 (Or.inr (slot_ne (Or.inr w22_) (Or.inr w20_) (by decide) (t := .int) (t' := (.object "com/example/pathmeter/pathmeter/MarkovHistogram$Tally")) (by decide) (by decide)))
  have F4_values_a1 := F2_values_a1.other W4 (Or.inr (slot_ne (Or.inr w24_) (Or.inr w20_) (by decide) (t := (.object "java/util/Map")) (t' := (.object "com/example/pathmeter/pathmeter/MarkovHistogram$Tally")) (by decide) (by decide)))
  have F4_topK_a1 := F2_topK_a1.other W4 (Or.inr (slot_ne (Or.inr w26_) (Or.inr w20_) (by decide) (t := .int) (t' := (.object "com/example/pathmeter/pathmeter/MarkovHistogram$Tally")) (by decide) (by decide)))
  have E4_a1 := E2_a1.wr W4
  have E4_b2 := A2.wr W4
  have K4 : Keep h0 h4 [a1] := K2.wr W4 (Or.inl (List.mem_of_getElem? (i := 0) rfl))
  have Z4 : n0 ≤ h4.size := Nat.le_trans Z2 (Keep.of_wr W4).1
  have N4 := Fr.snoc X4 N3 g_a1
  obtain ⟨T5, h5, X5, e5, W5, st5⟩ := putF X4 hx hZ hown (host := "") (Or.inl w21_) Via.refl e4 F4_order_a1 E4_a1 (Or.inr ⟨w22_, rfl, hnm⟩) w1_ (ty := .int) (by decide) rfl rfl (g := (mkF m 17 Lo1 [(.int p2), (.ref a1)])) rfl rfl (hb hby d2r_17)
  have F5_paths_a1 := F4_paths_a1.other W5 (Or.inr (slot_ne (Or.inr w20_) (Or.inr w22_) (by decide) (t := (.object "com/example/pathmeter/pathmeter/MarkovHistogram$Tally")) (t' := .int) (by decide) (by decide)))
  have F5_order_a1 := F4_order_a1.same W5
  have F5_values_a1 := F4_values_a1.other W5 (Or.inr (slot_ne (Or.inr w24_) (Or.inr w22_) (by decide) (t := (.object "java/util/Map")) (t' := .int) (by decide) (by decide)))
  have F5_topK_a1 := F4_topK_a1.other W5 (Or.inr (slot_ne (Or.inr w26_) (Or.inr w22_) (by decide) (t := .int) (t' := .int) (by decide) (by decide)))
  have E5_a1 := E4_a1.wr W5
  have E5_b2 := E4_b2.wr W5
  have K5 : Keep h0 h5 [a1] := K4.wr W5 (Or.inl (List.mem_of_getElem? (i := 0) rfl))
  have Z5 : n0 ≤ h5.size := Nat.le_trans Z4 (Keep.of_wr W5).1
  have N5 := Fr.snoc X5 N4 g_a1
  obtain ⟨T6, h6, X6, e6, W6, st6⟩ := putF X5 hx hZ hown (host := "") (Or.inl w23_) Via.refl e5 F5_values_a1 E5_a1 (Or.inr ⟨w24_, rfl, hnm⟩) w1_ (ty := (.object "java/util/Map")) (by decide) rfl rfl (g := (mkF m 22 Lo1 [(.ref a3), (.ref a1)])) rfl rfl (hb hby d2r_22)
  have F6_paths_a1 := F5_paths_a1.other W6 (Or.inr (slot_ne (Or.inr w20_) (Or.inr w24_) (by decide) (t := (.object "com/example/pathmeter/pathmeter/MarkovHistogram$Tally")) (t' := (.object "java/util/Map")) (by decide) (by decide)))
  have F6_order_a1 := F5_order_a1.other W6 (Or.inr (slot_ne (Or.inr w22_) (Or.inr w24_) (by decide) (t := .int) (t' := (.object "java/util/Map")) (by decide) (by decide)))
  have F6_values_a1 := F5_values_a1.same W6
  have F6_topK_a1 := F5_topK_a1.other W6 (Or.inr (slot_ne (Or.inr w26_) (Or.inr w24_) (by decide) (t := .int) (t' := (.object "java/util/Map")) (by decide) (by decide)))
  have E6_a1 := E5_a1.wr W6
  have E6_b2 := E5_b2.wr W6
  have K6 : Keep h0 h6 [a1] := K5.wr W6 (Or.inl (List.mem_of_getElem? (i := 0) rfl))
  have Z6 : n0 ≤ h6.size := Nat.le_trans Z5 (Keep.of_wr W6).1
  have N6 := Fr.snoc X6 N5 g_a1
  obtain ⟨T7, h7, X7, e7, W7, st7⟩ := putF X6 hx hZ hown (host := "") (Or.inl w25_) Via.refl e6 F6_topK_a1 E6_a1 (Or.inr ⟨w26_, rfl, hnm⟩) w1_ (ty := .int) (by decide) rfl rfl (g := (mkF m 27 Lo1 [(.int p4), (.ref a1)])) rfl rfl (hb hby d2r_27)
  have F7_paths_a1 := F6_paths_a1.other W7 (Or.inr (slot_ne (Or.inr w20_) (Or.inr w26_) (by decide) (t := (.object "com/example/pathmeter/pathmeter/MarkovHistogram$Tally")) (t' := .int) (by decide) (by decide)))
  have F7_order_a1 := F6_order_a1.other W7 (Or.inr (slot_ne (Or.inr w22_) (Or.inr w26_) (by decide) (t := .int) (t' := .int) (by decide) (by decide)))
  have F7_values_a1 := F6_values_a1.other W7 (Or.inr (slot_ne (Or.inr w24_) (Or.inr w26_) (by decide) (t := (.object "java/util/Map")) (t' := .int) (by decide) (by decide)))
  have F7_topK_a1 := F6_topK_a1.same W7
  have E7_a1 := E6_a1.wr W7
  have E7_b2 := E6_b2.wr W7
  have K7 : Keep h0 h7 [a1] := K6.wr W7 (Or.inl (List.mem_of_getElem? (i := 0) rfl))
  have Z7 : n0 ≤ h7.size := Nat.le_trans Z6 (Keep.of_wr W7).1
  have N7 := Fr.snoc X7 N6 g_a1
  obtain ⟨fs, hr, hrun, hended, hW, hsame⟩ := X7.leave (v := none) (fun _ => rfl)
  refine ⟨_, _, pre0 _ ?_, hrun, hended, _, _, rfl, ?_, ⟨_, rfl⟩, hW, hsame.mono (by decide) (by decide)⟩
  · show Steps p.tables e below (s₁.setTop (mkF m 0 Lo1 [])) _
    refine XS.aloadN X0.here hx rfl (hb hby d2r_0) rfl rfl ?_
    show Steps p.tables e below (s₁.setTop (mkF m 1 Lo1 [(.ref a1)])) _
    refine st1 _ ?_
    show Steps p.tables e below (T1.setTop (mkF m 4 Lo1 [])) _
    refine XS.aloadN X1.here hx rfl (hb hby d2r_4) rfl rfl ?_
    show Steps p.tables e below (T1.setTop (mkF m 5 Lo1 [(.ref a1)])) _
    refine st2 _ ?_
    show Steps p.tables e below (T2.setTop (mkF m 8 Lo1 [(.ref b2), (.ref a1)])) _
    refine XS.dup X2.here hx rfl (hb hby d2r_8) rfl rfl ?_
    show Steps p.tables e below (T2.setTop (mkF m 9 Lo1 [(.ref b2), (.ref b2), (.ref a1)])) _
    refine st3.trans ?_
    show Steps p.tables e below (T3.setTop (mkF m 12 Lo1 [(.ref b2), (.ref a1)])) _
    refine st4 _ ?_
    show Steps p.tables e below (T4.setTop (mkF m 15 Lo1 [])) _
    refine XS.aloadN X4.here hx rfl (hb hby d2r_15) rfl rfl ?_
    show Steps p.tables e below (T4.setTop (mkF m 16 Lo1 [(.ref a1)])) _
    refine XS.iloadN X4.here hx rfl (hb hby d2r_16) rfl ?_
    show Steps p.tables e below (T4.setTop (mkF m 17 Lo1 [(.int p2), (.ref a1)])) _
    refine st5 _ ?_
    show Steps p.tables e below (T5.setTop (mkF m 20 Lo1 [])) _
    refine XS.aloadN X5.here hx rfl (hb hby d2r_20) rfl rfl ?_
    show Steps p.tables e below (T5.setTop (mkF m 21 Lo1 [(.ref a1)])) _
    refine XS.aloadN X5.here hx rfl (hb hby d2r_21) rfl rfl ?_
    show Steps p.tables e below (T5.setTop (mkF m 22 Lo1 [(.ref a3), (.ref a1)])) _
    refine st6 _ ?_
    show Steps p.tables e below (T6.setTop (mkF m 25 Lo1 [])) _
    refine XS.aloadN X6.here hx rfl (hb hby d2r_25) rfl rfl ?_
    show Steps p.tables e below (T6.setTop (mkF m 26 Lo1 [(.ref a1)])) _
    refine XS.iloadN X6.here hx rfl (hb hby d2r_26) rfl ?_
    show Steps p.tables e below (T6.setTop (mkF m 27 Lo1 [(.int p4), (.ref a1)])) _
    refine st7 _ ?_
    show Steps p.tables e below (T7.setTop (mkF m 30 Lo1 [])) _
    exact X7.returnOut hx Bd.returns (hb hby d2r_30) hr
  · show Q2r Z a1 p2 a3 p4 h0 n0 _ T7.heap _
    rw [e7]
    exact ⟨rfl, N7, K7, E7_a1, F7_values_a1, F7_topK_a1⟩
theorem d1_0 : decode prog_25_method_1_code 0 = .ok (.aload_n 0, 1) := by decide +kernel
theorem d1_1 : decode prog_25_method_1_code 1 = .ok (.iconst 1, 1) := by decide +kernel
theorem d1_2 : decode prog_25_method_1_code 2 = .ok (.aconst_null, 1) := by decide +kernel
theorem d1_3 : decode prog_25_method_1_code 3 = .ok (.iconst 0, 1) := by decide +kernel
theorem d1_4 : decode prog_25_method_1_code 4 = .ok (.invokespecial 1, 3) := by decide +kernel
theorem d1_7 : decode prog_25_method_1_code 7 = .ok (.return_, 1) := by decide +kernel
theorem pn_1 : plainName "com/example/pathmeter/pathmeter/MarkovHistogram$Builder" = true := by first | (simp [plainName, overriddenIn]; done) | decide +kernel
theorem ef_1 (m : MethodId) (x0 : Addr) : entryFrame m #[(.ref x0)] 1 = mkF m 0 #[.val (.ref x0)] [] := by first | (simp [entryFrame, mkF, argsToLocals, Value.category]; done) | rfl
theorem pd_1_2 : parseMethodDescriptor "(ILjava/util/Map;I)V" = some ⟨[.int, (.object "java/util/Map"), .int], none⟩ := by decide +kernel
def Q1 (Z : State) (a1 : Addr) (h0 : Heap) (n0 : Nat) (v : Option Value) (h : Heap) (L : List Loc) : Prop := v = none ∧ Fr n0 L ∧ Keep h0 h [a1] ∧ (Exa Z h a1 "com/example/pathmeter/pathmeter/MarkovHistogram$Builder") ∧ (Fld Z h a1 "com/example/pathmeter/pathmeter/MarkovHistogram$Builder" "values" "Ljava/util/Map;" .null) ∧ (Fld Z h a1 "com/example/pathmeter/pathmeter/MarkovHistogram$Builder" "topK" "I" (.int (0 : Int32)))
set_option maxRecDepth 65536 in
set_option maxHeartbeats 40000000 in
theorem rm1 (l : Launch) (Z : State) (a0 : Array Value) (hw : ∀ d ∈ tables_1, d.before a0 Z = true) (ws : List Jvm.Cond) (a1 : Addr) (h0 : Heap) (n0 : Nat) (Z0 : n0 ≤ h0.size) (P0 : Exa Z h0 a1 "com/example/pathmeter/pathmeter/MarkovHistogram$Builder") (P1 : Fld Z h0 a1 "com/example/pathmeter/pathmeter/MarkovHistogram$Builder" "paths" "Lcom/example/pathmeter/pathmeter/MarkovHistogram$Tally;" .null) (P2 : Fld Z h0 a1 "com/example/pathmeter/pathmeter/MarkovHistogram$Builder" "order" "I" (.int (0 : Int32))) (P3 : Fld Z h0 a1 "com/example/pathmeter/pathmeter/MarkovHistogram$Builder" "values" "Ljava/util/Map;" .null) (P4 : Fld Z h0 a1 "com/example/pathmeter/pathmeter/MarkovHistogram$Builder" "topK" "I" (.int (0 : Int32))) (g_a1 : n0 ≤ a1) :
    MetFree l (⟨"com/example/pathmeter/pathmeter/MarkovHistogram$Builder", "<init>", "()V"⟩ : MethodName) (head1 (Jvm.Cond.code (⟨"com/example/pathmeter/pathmeter/MarkovHistogram$Builder", "<init>", "()V"⟩ : MethodName) prog_25_method_1_code 1 none :: ws) ({ frames := 3, cells := 1, slots := 2, locals := 41 } : Room)) (fun a U => a = #[(.ref a1)] ∧ Z.Warmed39 U.vm ∧ U.heap = h0) (fun _ _ _ _ _ => True) (fun _ U o U' => ∃ v L, o = .returned v ∧ Q1 Z a1 h0 n0 v U'.heap L ∧ FrameEnd U o U' L ({ frames := 3, cells := 1, slots := 2, locals := 41 } : Room).cells ({ frames := 3, cells := 1, slots := 2, locals := 41 } : Room).slots) := by
  refine MetFree.of_bodySF (plainFor_of_name pn_1) hisR ?_
  intro p e s m args below meth c s₁ Bd hml0 hP hK
  obtain ⟨rfl, hZ, hh⟩ := hP
  have w2_ := hw _ (List.mem_of_getElem? (i := 2) rfl)
  have w6_ := hw _ (List.mem_of_getElem? (i := 6) rfl)
  have w7_ := hw _ (List.mem_of_getElem? (i := 7) rfl)
  have w8_ := hw _ (List.mem_of_getElem? (i := 8) rfl)
  have hx := Bd.exec
  have hby := Bd.bytes
  have hml : c.maxLocals = 1 := hml0
  have hown : s.vm.findClass "com/example/pathmeter/pathmeter/MarkovHistogram$Builder" = some m.cls := findClass_of_methodNamed Bd.named
  have hnm := (name_of_methodNamed Bd.named Bd.method).1
  have X0 : Stand p l e ({ frames := 3, cells := 1, slots := 2, locals := 41 } : Room) s m #[(.ref a1)] below meth c s₁ [] 0 0 := Stand.of_body Bd
  have e0 : s₁.heap = h0 := by rw [← hh, Bd.state]; rfl
  have N0 := Fr.nil n0
  have pre0 : ∀ t, Steps p.tables e below (s₁.setTop (mkF m 0 #[.val (.ref a1)] [])) t → Steps p.tables e below (s₁.setTop (entryFrame m #[(.ref a1)] 1)) t := fun t k => castTop (ef_1 m a1) k
  obtain ⟨_, _, ⟨T1, L1, k1, n1⟩, -, X1, ⟨Lc1, hQ1, l1, y1, z1⟩, st1⟩ := X0.specialBack hx (y := (⟨"com/example/pathmeter/pathmeter/MarkovHistogram$Builder", "<init>", "(ILjava/util/Map;I)V"⟩ : MethodName)) rfl hown (mvT hZ w6_) (mvT hZ w7_) (mvT hZ w8_) (by decide) (backOf (W := 0) (rm2n l Z a0 hw [] a1 (1 : Int32) (0 : Int32) h0 n0 Z0 P0 P1 P2 P3 P4 g_a1) hZ w8_ w2_ (by decide) (by decide)) (g := (mkF m 4 #[.val (.ref a1)] [(.int (0 : Int32)), .null, (.int (1 : Int32)), (.ref a1)])) rfl (by rw [hml]; rfl) (Steps.refl _) (a := a1) (argsL := [(.int (1 : Int32)), .null, (.int (0 : Int32))]) (rest := []) (lenOf pd_1_2 rfl) rfl (by show 2 * 0 + _ ≤ _; exact Nat.le_of_eq rfl) (hb hby d1_4) (fun _ _ => ⟨rfl, e0, (by decide : 0 + 1 ≤ _), (by decide : 0 + 2 ≤ _)⟩)
  dsimp only [Pt.U, Pt.locs, Pt.cells, Pt.slots] at X1 l1 y1 z1 st1 hQ1
  subst l1 y1 z1
  obtain ⟨rfl, N1q, qq1, p1_0, p1_1, p1_2⟩ := hQ1
  have N1 := Fr.app N0 N1q
  have E1_a1 := P0.keep qq1
  have K1 : Keep h0 T1.heap [a1] := Keep.trans (Keep.refl h0 [a1]) qq1 (fun x hx => by cases List.mem_singleton.mp hx; exact (Or.inl (List.mem_of_getElem? (i := 0) rfl)))
  have Z1 : n0 ≤ T1.heap.size := Nat.le_trans Z0 qq1.1
  obtain ⟨fs, hr, hrun, hended, hW, hsame⟩ := X1.leave (v := none) (fun _ => rfl)
  refine ⟨_, _, pre0 _ ?_, hrun, hended, _, _, rfl, ?_, ⟨_, rfl⟩, hW, hsame.mono (by decide) (by decide)⟩
  · show Steps p.tables e below (s₁.setTop (mkF m 0 #[.val (.ref a1)] [])) _
    refine XS.aloadN X0.here hx rfl (hb hby d1_0) rfl rfl ?_
    show Steps p.tables e below (s₁.setTop (mkF m 1 #[.val (.ref a1)] [(.ref a1)])) _
    refine XS.iconst X0.here hx rfl (hb hby d1_1) ?_
    show Steps p.tables e below (s₁.setTop (mkF m 2 #[.val (.ref a1)] [(.int (1 : Int32)), (.ref a1)])) _
    refine XS.aconstNull X0.here hx rfl (hb hby d1_2) ?_
    show Steps p.tables e below (s₁.setTop (mkF m 3 #[.val (.ref a1)] [.null, (.int (1 : Int32)), (.ref a1)])) _
    refine XS.iconst X0.here hx rfl (hb hby d1_3) ?_
    show Steps p.tables e below (s₁.setTop (mkF m 4 #[.val (.ref a1)] [(.int (0 : Int32)), .null, (.int (1 : Int32)), (.ref a1)])) _
    refine st1.trans ?_
    show Steps p.tables e below (T1.setTop (mkF m 7 #[.val (.ref a1)] [])) _
    exact X1.returnOut hx Bd.returns (hb hby d1_7) hr
  · show Q1 Z a1 h0 n0 _ T1.heap _
    exact ⟨rfl, N1, K1, p1_0, p1_1, p1_2⟩
theorem d9_0 : decode prog_25_method_2_code 0 = .ok (.aload_n 0, 1) := by decide +kernel
theorem d9_1 : decode prog_25_method_2_code 1 = .ok (.iconst 1, 1) := by decide +kernel
theorem d9_2 : decode prog_25_method_2_code 2 = .ok (.new 7, 3) := by decide +kernel
theorem d9_5 : decode prog_25_method_2_code 5 = .ok (.dup, 1) := by decide +kernel
theorem d9_6 : decode prog_25_method_2_code 6 = .ok (.invokespecial 9, 3) := by decide +kernel
theorem d9_9 : decode prog_25_method_2_code 9 = .ok (.iload_n 1, 1) := by decide +kernel
theorem d9_10 : decode prog_25_method_2_code 10 = .ok (.invokestatic 12, 3) := by decide +kernel
theorem d9_13 : decode prog_25_method_2_code 13 = .ok (.invokespecial 1, 3) := by decide +kernel
theorem d9_16 : decode prog_25_method_2_code 16 = .ok (.return_, 1) := by decide +kernel
theorem pn_9 : plainName "com/example/pathmeter/pathmeter/MarkovHistogram$Builder" = true := by first | (simp [plainName, overriddenIn]; done) | decide +kernel
theorem ef_9 (m : MethodId) (x0 : Addr) (x1 : Int32) : entryFrame m #[(.ref x0), (.int x1)] 2 = mkF m 0 #[.val (.ref x0), .val (.int x1)] [] := by first | (simp [entryFrame, mkF, argsToLocals, Value.category]; done) | rfl
theorem pd_9_10 : parseMethodDescriptor "()V" = some ⟨[], none⟩ := by decide +kernel
theorem pd_9_12 : parseMethodDescriptor "(I)I" = some ⟨[.int], some .int⟩ := by decide +kernel
theorem pd_9_2 : parseMethodDescriptor "(ILjava/util/Map;I)V" = some ⟨[.int, (.object "java/util/Map"), .int], none⟩ := by decide +kernel
def Q9 (Z : State) (a1 : Addr) (p2 : Int32) (h0 : Heap) (n0 : Nat) (v : Option Value) (h : Heap) (L : List Loc) : Prop := ∃ (mm : Addr), v = none ∧ Fr n0 L ∧ Keep h0 h [a1] ∧ (Exa Z h a1 "com/example/pathmeter/pathmeter/MarkovHistogram$Builder") ∧ (Fld Z h a1 "com/example/pathmeter/pathmeter/MarkovHistogram$Builder" "values" "Ljava/util/Map;" (.ref mm)) ∧ (Fld Z h a1 "com/example/pathmeter/pathmeter/MarkovHistogram$Builder" "topK" "I" (.int p2))
set_option maxRecDepth 65536 in
set_option maxHeartbeats 40000000 in
theorem rm9 (l : Launch) (Z : State) (a0 : Array Value) (hw : ∀ d ∈ tables_1, d.before a0 Z = true) (ws : List Jvm.Cond) (a1 : Addr) (p2 : Int32) (h0 : Heap) (n0 : Nat) (Z0 : n0 ≤ h0.size) (P0 : Exa Z h0 a1 "com/example/pathmeter/pathmeter/MarkovHistogram$Builder") (P1 : Fld Z h0 a1 "com/example/pathmeter/pathmeter/MarkovHistogram$Builder" "paths" "Lcom/example/pathmeter/pathmeter/MarkovHistogram$Tally;" .null) (P2 : Fld Z h0 a1 "com/example/pathmeter/pathmeter/MarkovHistogram$Builder" "order" "I" (.int (0 : Int32))) (P3 : Fld Z h0 a1 "com/example/pathmeter/pathmeter/MarkovHistogram$Builder" "values" "Ljava/util/Map;" .null) (P4 : Fld Z h0 a1 "com/example/pathmeter/pathmeter/MarkovHistogram$Builder" "topK" "I" (.int (0 : Int32))) (g_a1 : n0 ≤ a1) (hge : ¬ p2 < (0 : Int32)) :
    MetFree l (⟨"com/example/pathmeter/pathmeter/MarkovHistogram$Builder", "<init>", "(I)V"⟩ : MethodName) (head1 (Jvm.Cond.code (⟨"com/example/pathmeter/pathmeter/MarkovHistogram$Builder", "<init>", "(I)V"⟩ : MethodName) prog_25_method_2_code 2 none :: ws) ({ frames := 3, cells := 2, slots := 10, locals := 41 } : Room)) (fun a U => a = #[(.ref a1), (.int p2)] ∧ Z.Warmed39 U.vm ∧ U.heap = h0) (fun _ _ _ _ _ => True) (fun _ U o U' => ∃ v L, o = .returned v ∧ Q9 Z a1 p2 h0 n0 v U'.heap L ∧ FrameEnd U o U' L ({ frames := 3, cells := 2, slots := 10, locals := 41 } : Room).cells ({ frames := 3, cells := 2, slots := 10, locals := 41 } : Room).slots) := by
  refine MetFree.of_bodySF (plainFor_of_name pn_9) hisR ?_
  intro p e s m args below meth c s₁ Bd hml0 hP hK
  obtain ⟨rfl, hZ, hh⟩ := hP
  have w2_ := hw _ (List.mem_of_getElem? (i := 2) rfl)
  have w6_ := hw _ (List.mem_of_getElem? (i := 6) rfl)
  have w7_ := hw _ (List.mem_of_getElem? (i := 7) rfl)
  have w8_ := hw _ (List.mem_of_getElem? (i := 8) rfl)
  have w50_ := hw _ (List.mem_of_getElem? (i := 50) rfl)
  have w51_ := hw _ (List.mem_of_getElem? (i := 51) rfl)
  have w52_ := hw _ (List.mem_of_getElem? (i := 52) rfl)
  have w53_ := hw _ (List.mem_of_getElem? (i := 53) rfl)
  have w54_ := hw _ (List.mem_of_getElem? (i := 54) rfl)
  have w55_ := hw _ (List.mem_of_getElem? (i := 55) rfl)
  have w65_ := hw _ (List.mem_of_getElem? (i := 65) rfl)
  have w66_ := hw _ (List.mem_of_getElem? (i := 66) rfl)
  have w67_ := hw _ (List.mem_of_getElem? (i := 67) rfl)
  have w68_ := hw _ (List.mem_of_getElem? (i := 68) rfl)
  have w69_ := hw _ (List.mem_of_getElem? (i := 69) rfl)
  have hx := Bd.exec
  have hby := Bd.bytes
  have hml : c.maxLocals = 2 := hml0
  have hown : s.vm.findClass "com/example/pathmeter/pathmeter/MarkovHistogram$Builder" = some m.cls := findClass_of_methodNamed Bd.named
  have hnm := (name_of_methodNamed Bd.named Bd.method).1
  have X0 : Stand p l e ({ frames := 3, cells := 2, slots := 10, locals := 41 } : Room) s m #[(.ref a1), (.int p2)] below meth c s₁ [] 0 0 := Stand.of_body Bd
  have e0 : s₁.heap = h0 := by rw [← hh, Bd.state]; rfl
  have N0 := Fr.nil n0
  have pre0 : ∀ t, Steps p.tables e below (s₁.setTop (mkF m 0 #[.val (.ref a1), .val (.int p2)] [])) t → Steps p.tables e below (s₁.setTop (entryFrame m #[(.ref a1), (.int p2)] 2)) t := fun t k => castTop (ef_9 m a1 p2) k
  obtain ⟨T1, h1, X1, e1, E1, A1, D1, -, st1⟩ := newO X0 hx hZ hown w50_ w51_ w52_ e0 (g := (mkF m 2 #[.val (.ref a1), .val (.int p2)] [(.int (1 : Int32)), (.ref a1)])) rfl (hb hby d9_2) (by decide) (by decide)
  obtain ⟨b1, g1⟩ : ∃ z, z = h0.size := ⟨_, rfl⟩
  rw [← g1] at A1 D1 st1
  have ne_a1_b1 : a1 ≠ b1 := Nat.ne_of_lt (Nat.lt_of_lt_of_le P0.lt (Nat.le_of_eq g1.symm))
  have g_b1 : n0 ≤ b1 := Nat.le_trans Z0 (Nat.le_of_eq g1.symm)
  have sz_b1 : h0.size ≤ b1 := Nat.le_trans (Keep.refl h0 [a1]).1 (Nat.le_of_eq g1.symm)
  have F1_paths_a1 := P1.ext E1
  have F1_order_a1 := P2.ext E1
  have F1_values_a1 := P3.ext E1
  have F1_topK_a1 := P4.ext E1
  have E1_a1 := P0.ext E1
  have K1 : Keep h0 h1 [a1] := (Keep.refl h0 [a1]).ext E1
  have Z1 : n0 ≤ h1.size := Nat.le_trans Z0 E1.1
  have F1_loadFactor_b1 : Fld Z h1 b1 "java/util/HashMap" "loadFactor" "F" (defaultValue .float) := D1 (Or.inr w65_) (ty := .float) (by decide)
  obtain ⟨_, _, ⟨T2, L2, k2, n2⟩, -, X2, ⟨Lc2, hQ2, l2, y2, z2⟩, st2⟩ := X1.specialBack hx (y := (⟨"java/util/HashMap", "<init>", "()V"⟩ : MethodName)) rfl hown (mvT hZ w53_) (mvT hZ w54_) (mvT hZ w55_) (by decide) (backOf (W := 3) (rm10 l Z a0 hw [] b1 h1 n0 Z1 A1 F1_loadFactor_b1 g_b1) hZ w55_ w52_ (by decide) (by decide)) (g := (mkF m 6 #[.val (.ref a1), .val (.int p2)] [(.ref b1), (.ref b1), (.int (1 : Int32)), (.ref a1)])) rfl (by rw [hml]; rfl) (Steps.refl _) (a := b1) (argsL := []) (rest := [(.ref b1), (.int (1 : Int32)), (.ref a1)]) (lenOf pd_9_10 rfl) rfl (by show 2 * 0 + _ ≤ _; exact Nat.le_of_eq rfl) (hb hby d9_6) (fun _ _ => ⟨rfl, e1, (by decide : 1 + 0 ≤ _), (by decide : 8 + 0 ≤ _)⟩)
  dsimp only [Pt.U, Pt.locs, Pt.cells, Pt.slots] at X2 l2 y2 z2 st2 hQ2
  subst l2 y2 z2
  obtain ⟨rfl, N2q, qq2, p2_0⟩ := hQ2
  have N2 := Fr.app N0 N2q
  have F2_paths_a1 := F1_paths_a1.keep qq2 (fun hm => ne_a1_b1 (List.mem_singleton.mp hm))
  have F2_order_a1 := F1_order_a1.keep qq2 (fun hm => ne_a1_b1 (List.mem_singleton.mp hm))
  have F2_values_a1 := F1_values_a1.keep qq2 (fun hm => ne_a1_b1 (List.mem_singleton.mp hm))
  have F2_topK_a1 := F1_topK_a1.keep qq2 (fun hm => ne_a1_b1 (List.mem_singleton.mp hm))
  have E2_a1 := E1_a1.keep qq2
  have E2_b1 := A1.keep qq2
  have K2 : Keep h0 T2.heap [a1] := Keep.trans K1 qq2 (fun x hx => by cases List.mem_singleton.mp hx; exact (Or.inr sz_b1))
  have Z2 : n0 ≤ T2.heap.size := Nat.le_trans Z1 qq2.1
  obtain ⟨_, _, ⟨T3, L3, k3, n3⟩, -, X3, ⟨Lc3, hQ3, l3, y3, z3⟩, st3⟩ := Jvm.LawKit.callS X2 hx (y := (⟨"com/example/pathmeter/pathmeter/ValueStatistics", "requireTopK", "(I)I"⟩ : MethodName)) hown (mvT hZ w66_) (mvT hZ w67_) (mvT hZ w68_) (mvT hZ w69_) (by decide) (backOf (W := 3) (rm12 l Z a0 hw [] p2 T2.heap n0 Z2 hge) hZ w69_ w68_ (by decide) (by decide)) (g := (mkF m 10 #[.val (.ref a1), .val (.int p2)] [(.int p2), (.ref b1), (.int (1 : Int32)), (.ref a1)])) rfl (by rw [hml]; rfl) (argsL := [(.int p2)]) (rest := [(.ref b1), (.int (1 : Int32)), (.ref a1)]) (lenOf pd_9_12 rfl) rfl (by show 2 * 0 + _ ≤ _; exact Nat.le_of_eq rfl) (hb hby d9_10) (fun _ _ => ⟨rfl, rfl, (by decide : 1 + 0 ≤ _), (by decide : 8 + 0 ≤ _)⟩)
  dsimp only [Pt.U, Pt.locs, Pt.cells, Pt.slots] at X3 l3 y3 z3 st3 hQ3
  subst l3 y3 z3
  obtain ⟨rfl, N3q, qq3⟩ := hQ3
  have N3 := Fr.app N2 N3q
  have e3 : T3.heap = T2.heap := qq3
  obtain ⟨_, _, ⟨T4, L4, k4, n4⟩, -, X4, ⟨Lc4, hQ4, l4, y4, z4⟩, st4⟩ := X3.specialBack hx (y := (⟨"com/example/pathmeter/pathmeter/MarkovHistogram$Builder", "<init>", "(ILjava/util/Map;I)V"⟩ : MethodName)) rfl hown (mvT hZ w6_) (mvT hZ w7_) (mvT hZ w8_) (by decide) (backOf (W := 0) (rm2r l Z a0 hw [] a1 (1 : Int32) b1 p2 T2.heap n0 Z2 E2_a1 F2_paths_a1 F2_order_a1 F2_values_a1 F2_topK_a1 g_a1) hZ w8_ w2_ (by decide) (by decide)) (g := (mkF m 13 #[.val (.ref a1), .val (.int p2)] [(.int p2), (.ref b1), (.int (1 : Int32)), (.ref a1)])) rfl (by rw [hml]; rfl) (Steps.refl _) (a := a1) (argsL := [(.int (1 : Int32)), (.ref b1), (.int p2)]) (rest := []) (lenOf pd_9_2 rfl) rfl (by show 2 * 0 + _ ≤ _; exact Nat.le_of_eq rfl) (hb hby d9_13) (fun _ _ => ⟨rfl, e3, (by decide : 1 + 1 ≤ _), (by decide : 8 + 2 ≤ _)⟩)
  dsimp only [Pt.U, Pt.locs, Pt.cells, Pt.slots] at X4 l4 y4 z4 st4 hQ4
  subst l4 y4 z4
  obtain ⟨rfl, N4q, qq4, p4_0, p4_1, p4_2⟩ := hQ4
  have N4 := Fr.app N3 N4q
  have E4_a1 := E2_a1.keep qq4
  have E4_b1 := p2_0.keep qq4
  have K4 : Keep h0 T4.heap [a1] := Keep.trans K2 qq4 (fun x hx => by cases List.mem_singleton.mp hx; exact (Or.inl (List.mem_of_getElem? (i := 0) rfl)))
  have Z4 : n0 ≤ T4.heap.size := Nat.le_trans Z2 qq4.1
  obtain ⟨fs, hr, hrun, hended, hW, hsame⟩ := X4.leave (v := none) (fun _ => rfl)
  refine ⟨_, _, pre0 _ ?_, hrun, hended, _, _, rfl, ?_, ⟨_, rfl⟩, hW, hsame.mono (by decide) (by decide)⟩
  · show Steps p.tables e below (s₁.setTop (mkF m 0 #[.val (.ref a1), .val (.int p2)] [])) _
    refine XS.aloadN X0.here hx rfl (hb hby d9_0) rfl rfl ?_
    show Steps p.tables e below (s₁.setTop (mkF m 1 #[.val (.ref a1), .val (.int p2)] [(.ref a1)])) _
    refine XS.iconst X0.here hx rfl (hb hby d9_1) ?_
    show Steps p.tables e below (s₁.setTop (mkF m 2 #[.val (.ref a1), .val (.int p2)] [(.int (1 : Int32)), (.ref a1)])) _
    refine st1 _ ?_
    show Steps p.tables e below (T1.setTop (mkF m 5 #[.val (.ref a1), .val (.int p2)] [(.ref b1), (.int (1 : Int32)), (.ref a1)])) _
    refine XS.dup X1.here hx rfl (hb hby d9_5) rfl rfl ?_
    show Steps p.tables e below (T1.setTop (mkF m 6 #[.val (.ref a1), .val (.int p2)] [(.ref b1), (.ref b1), (.int (1 : Int32)), (.ref a1)])) _
    refine st2.trans ?_
    show Steps p.tables e below (T2.setTop (mkF m 9 #[.val (.ref a1), .val (.int p2)] [(.ref b1), (.int (1 : Int32)), (.ref a1)])) _
    refine XS.iloadN X2.here hx rfl (hb hby d9_9) rfl ?_
    show Steps p.tables e below (T2.setTop (mkF m 10 #[.val (.ref a1), .val (.int p2)] [(.int p2), (.ref b1), (.int (1 : Int32)), (.ref a1)])) _
    refine st3 _ ?_
    show Steps p.tables e below (T3.setTop (mkF m 13 #[.val (.ref a1), .val (.int p2)] [(.int p2), (.ref b1), (.int (1 : Int32)), (.ref a1)])) _
    refine st4.trans ?_
    show Steps p.tables e below (T4.setTop (mkF m 16 #[.val (.ref a1), .val (.int p2)] [])) _
    exact X4.returnOut hx Bd.returns (hb hby d9_16) hr
  · show Q9 Z a1 p2 h0 n0 _ T4.heap _
    exact ⟨b1, rfl, N4, K4, p4_0, p4_1, p4_2⟩
theorem d6n_0 : decode prog_25_method_4_code 0 = .ok (.new 2, 3) := by decide +kernel
theorem d6n_3 : decode prog_25_method_4_code 3 = .ok (.dup, 1) := by decide +kernel
theorem d6n_4 : decode prog_25_method_4_code 4 = .ok (.iload_n 1, 1) := by decide +kernel
theorem d6n_5 : decode prog_25_method_4_code 5 = .ok (.invokestatic 39, 3) := by decide +kernel
theorem d6n_8 : decode prog_25_method_4_code 8 = .ok (.aload_n 0, 1) := by decide +kernel
theorem d6n_9 : decode prog_25_method_4_code 9 = .ok (.getfield 32, 3) := by decide +kernel
theorem d6n_12 : decode prog_25_method_4_code 12 = .ok (.ifnonnull 7, 3) := by decide +kernel
theorem d6n_15 : decode prog_25_method_4_code 15 = .ok (.aconst_null, 1) := by decide +kernel
theorem d6n_16 : decode prog_25_method_4_code 16 = .ok (.goto 10, 3) := by decide +kernel
theorem d6n_26 : decode prog_25_method_4_code 26 = .ok (.aload_n 0, 1) := by decide +kernel
theorem d6n_27 : decode prog_25_method_4_code 27 = .ok (.getfield 36, 3) := by decide +kernel
theorem d6n_30 : decode prog_25_method_4_code 30 = .ok (.invokespecial 1, 3) := by decide +kernel
theorem d6n_33 : decode prog_25_method_4_code 33 = .ok (.areturn, 1) := by decide +kernel
theorem pn_6n : plainName "com/example/pathmeter/pathmeter/MarkovHistogram$Builder" = true := by first | (simp [plainName, overriddenIn]; done) | decide +kernel
theorem ef_6n (m : MethodId) (x0 : Addr) (x1 : Int32) : entryFrame m #[(.ref x0), (.int x1)] 2 = mkF m 0 #[.val (.ref x0), .val (.int x1)] [] := by first | (simp [entryFrame, mkF, argsToLocals, Value.category]; done) | rfl
theorem pd_6n_7 : parseMethodDescriptor "(I)I" = some ⟨[.int], some .int⟩ := by decide +kernel
theorem pd_6n_2 : parseMethodDescriptor "(ILjava/util/Map;I)V" = some ⟨[.int, (.object "java/util/Map"), .int], none⟩ := by decide +kernel
def Q6n (Z : State) (a1 : Addr) (p2 : Int32) (w9 : Int32) (h0 : Heap) (n0 : Nat) (v : Option Value) (h : Heap) (L : List Loc) : Prop := ∃ (bb : Addr), v = some (.ref bb) ∧ Fr n0 L ∧ Keep h0 h [] ∧ (Exa Z h bb "com/example/pathmeter/pathmeter/MarkovHistogram$Builder") ∧ (Fld Z h bb "com/example/pathmeter/pathmeter/MarkovHistogram$Builder" "values" "Ljava/util/Map;" .null)
set_option maxRecDepth 65536 in
set_option maxHeartbeats 40000000 in
theorem rm6n (l : Launch) (Z : State) (a0 : Array Value) (hw : ∀ d ∈ tables_1, d.before a0 Z = true) (ws : List Jvm.Cond) (a1 : Addr) (p2 : Int32) (w9 : Int32) (h0 : Heap) (n0 : Nat) (Z0 : n0 ≤ h0.size) (P0 : Fld Z h0 a1 "com/example/pathmeter/pathmeter/MarkovHistogram$Builder" "values" "Ljava/util/Map;" .null) (P1 : Fld Z h0 a1 "com/example/pathmeter/pathmeter/MarkovHistogram$Builder" "topK" "I" (.int w9)) (hge : ¬ p2 < (1 : Int32)) :
    MetFree l (⟨"com/example/pathmeter/pathmeter/MarkovHistogram$Builder", "withOrder", "(I)Lcom/example/pathmeter/pathmeter/MarkovHistogram$Builder;"⟩ : MethodName) (head1 (Jvm.Cond.code (⟨"com/example/pathmeter/pathmeter/MarkovHistogram$Builder", "withOrder", "(I)Lcom/example/pathmeter/pathmeter/MarkovHistogram$Builder;"⟩ : MethodName) prog_25_method_4_code 2 (some (.object "com/example/pathmeter/pathmeter/MarkovHistogram$Builder")) :: ws) ({ frames := 3, cells := 2, slots := 6, locals := 42 } : Room)) (fun a U => a = #[(.ref a1), (.int p2)] ∧ Z.Warmed39 U.vm ∧ U.heap = h0) (fun _ _ _ _ _ => True) (fun _ U o U' => ∃ v L, o = .returned v ∧ Q6n Z a1 p2 w9 h0 n0 v U'.heap L ∧ FrameEnd U o U' L ({ frames := 3, cells := 2, slots := 6, locals := 42 } : Room).cells ({ frames := 3, cells := 2, slots := 6, locals := 42 } : Room).slots) := by
  refine MetFree.of_bodySF (plainFor_of_name pn_6n) hisR ?_
  intro p e s m args below meth c s₁ Bd hml0 hP hK
  obtain ⟨rfl, hZ, hh⟩ := hP
  have w1_ := hw _ (List.mem_of_getElem? (i := 1) rfl)
  have w2_ := hw _ (List.mem_of_getElem? (i := 2) rfl)
  have w6_ := hw _ (List.mem_of_getElem? (i := 6) rfl)
  have w7_ := hw _ (List.mem_of_getElem? (i := 7) rfl)
  have w8_ := hw _ (List.mem_of_getElem? (i := 8) rfl)
  have w20_ := hw _ (List.mem_of_getElem? (i := 20) rfl)
  have w22_ := hw _ (List.mem_of_getElem? (i := 22) rfl)
  have w23_ := hw _ (List.mem_of_getElem? (i := 23) rfl)
  have w24_ := hw _ (List.mem_of_getElem? (i := 24) rfl)
  have w25_ := hw _ (List.mem_of_getElem? (i := 25) rfl)
  have w26_ := hw _ (List.mem_of_getElem? (i := 26) rfl)
  have w37_ := hw _ (List.mem_of_getElem? (i := 37) rfl)
  have w38_ := hw _ (List.mem_of_getElem? (i := 38) rfl)
  have w39_ := hw _ (List.mem_of_getElem? (i := 39) rfl)
  have w40_ := hw _ (List.mem_of_getElem? (i := 40) rfl)
  have w41_ := hw _ (List.mem_of_getElem? (i := 41) rfl)
  have hx := Bd.exec
  have hby := Bd.bytes
  have hml : c.maxLocals = 2 := hml0
  have hown : s.vm.findClass "com/example/pathmeter/pathmeter/MarkovHistogram$Builder" = some m.cls := findClass_of_methodNamed Bd.named
  have hnm := (name_of_methodNamed Bd.named Bd.method).1
  have X0 : Stand p l e ({ frames := 3, cells := 2, slots := 6, locals := 42 } : Room) s m #[(.ref a1), (.int p2)] below meth c s₁ [] 0 0 := Stand.of_body Bd
  have e0 : s₁.heap = h0 := by rw [← hh, Bd.state]; rfl
  have N0 := Fr.nil n0
  have pre0 : ∀ t, Steps p.tables e below (s₁.setTop (mkF m 0 #[.val (.ref a1), .val (.int p2)] [])) t → Steps p.tables e below (s₁.setTop (entryFrame m #[(.ref a1), (.int p2)] 2)) t := fun t k => castTop (ef_6n m a1 p2) k
  obtain ⟨T1, h1, X1, e1, E1, A1, D1, -, st1⟩ := newO X0 hx hZ hown w37_ w1_ w2_ e0 (g := (mkF m 0 #[.val (.ref a1), .val (.int p2)] [])) rfl (hb hby d6n_0) (by decide) (by decide)
  obtain ⟨b1, g1⟩ : ∃ z, z = h0.size := ⟨_, rfl⟩
  rw [← g1] at A1 D1 st1
  have ne_a1_b1 : a1 ≠ b1 := Nat.ne_of_lt (Nat.lt_of_lt_of_le P1.lt (Nat.le_of_eq g1.symm))
  have g_b1 : n0 ≤ b1 := Nat.le_trans Z0 (Nat.le_of_eq g1.symm)
  have sz_b1 : h0.size ≤ b1 := Nat.le_trans (Keep.refl h0 []).1 (Nat.le_of_eq g1.symm)
  have F1_values_a1 := P0.ext E1
  have F1_topK_a1 := P1.ext E1
  have K1 : Keep h0 h1 [] := (Keep.refl h0 []).ext E1
  have Z1 : n0 ≤ h1.size := Nat.le_trans Z0 E1.1
  have F1_paths_b1 : Fld Z h1 b1 "com/example/pathmeter/pathmeter/MarkovHistogram$Builder" "paths" "Lcom/example/pathmeter/pathmeter/MarkovHistogram$Tally;" .null := D1 (Or.inr w20_) (ty := (.object "com/example/pathmeter/pathmeter/MarkovHistogram$Tally")) (by decide)
  have F1_order_b1 : Fld Z h1 b1 "com/example/pathmeter/pathmeter/MarkovHistogram$Builder" "order" "I" (.int (0 : Int32)) := D1 (Or.inr w22_) (ty := .int) (by decide)
  have F1_values_b1 : Fld Z h1 b1 "com/example/pathmeter/pathmeter/MarkovHistogram$Builder" "values" "Ljava/util/Map;" .null := D1 (Or.inr w24_) (ty := (.object "java/util/Map")) (by decide)
  have F1_topK_b1 : Fld Z h1 b1 "com/example/pathmeter/pathmeter/MarkovHistogram$Builder" "topK" "I" (.int (0 : Int32)) := D1 (Or.inr w26_) (ty := .int) (by decide)
  obtain ⟨_, _, ⟨T2, L2, k2, n2⟩, -, X2, ⟨Lc2, hQ2, l2, y2, z2⟩, st2⟩ := Jvm.LawKit.callS X1 hx (y := (⟨"com/example/pathmeter/pathmeter/PathStatistics", "requireOrder", "(I)I"⟩ : MethodName)) hown (mvT hZ w38_) (mvT hZ w39_) (mvT hZ w40_) (mvT hZ w41_) (by decide) (backOf (W := 2) (rm7 l Z a0 hw [] p2 h1 n0 Z1 hge) hZ w41_ w40_ (by decide) (by decide)) (g := (mkF m 5 #[.val (.ref a1), .val (.int p2)] [(.int p2), (.ref b1), (.ref b1)])) rfl (by rw [hml]; rfl) (argsL := [(.int p2)]) (rest := [(.ref b1), (.ref b1)]) (lenOf pd_6n_7 rfl) rfl (by show 2 * 0 + _ ≤ _; exact Nat.le_of_eq rfl) (hb hby d6n_5) (fun _ _ => ⟨rfl, e1, (by decide : 1 + 0 ≤ _), (by decide : 4 + 0 ≤ _)⟩)
  dsimp only [Pt.U, Pt.locs, Pt.cells, Pt.slots] at X2 l2 y2 z2 st2 hQ2
  subst l2 y2 z2
  obtain ⟨rfl, N2q, qq2⟩ := hQ2
  have N2 := Fr.app N0 N2q
  have e2 : T2.heap = h1 := qq2
  obtain ⟨T3, X3, e3, st3⟩ := getF X2 hx hZ hown (host := "") (Or.inl w23_) Via.refl e2 F1_values_a1 (g := (mkF m 9 #[.val (.ref a1), .val (.int p2)] [(.ref a1), (.int p2), (.ref b1), (.ref b1)])) rfl rfl (hb hby d6n_9)
  obtain ⟨T4, X4, e4, st4⟩ := getF X3 hx hZ hown (host := "") (Or.inl w25_) Via.refl e3 F1_topK_a1 (g := (mkF m 27 #[.val (.ref a1), .val (.int p2)] [(.ref a1), .null, (.int p2), (.ref b1), (.ref b1)])) rfl rfl (hb hby d6n_27)
  obtain ⟨_, _, ⟨T5, L5, k5, n5⟩, -, X5, ⟨Lc5, hQ5, l5, y5, z5⟩, st5⟩ := X4.specialBack hx (y := (⟨"com/example/pathmeter/pathmeter/MarkovHistogram$Builder", "<init>", "(ILjava/util/Map;I)V"⟩ : MethodName)) rfl hown (mvT hZ w6_) (mvT hZ w7_) (mvT hZ w8_) (by decide) (backOf (W := 1) (rm2n l Z a0 hw [] b1 p2 w9 h1 n0 Z1 A1 F1_paths_b1 F1_order_b1 F1_values_b1 F1_topK_b1 g_b1) hZ w8_ w2_ (by decide) (by decide)) (g := (mkF m 30 #[.val (.ref a1), .val (.int p2)] [(.int w9), .null, (.int p2), (.ref b1), (.ref b1)])) rfl (by rw [hml]; rfl) (Steps.refl _) (a := b1) (argsL := [(.int p2), .null, (.int w9)]) (rest := [(.ref b1)]) (lenOf pd_6n_2 rfl) rfl (by show 2 * 0 + _ ≤ _; exact Nat.le_of_eq rfl) (hb hby d6n_30) (fun _ _ => ⟨rfl, e4, (by decide : 1 + 1 ≤ _), (by decide : 4 + 2 ≤ _)⟩)
  dsimp only [Pt.U, Pt.locs, Pt.cells, Pt.slots] at X5 l5 y5 z5 st5 hQ5
  subst l5 y5 z5
  obtain ⟨rfl, N5q, qq5, p5_0, p5_1, p5_2⟩ := hQ5
  have N5 := Fr.app N2 N5q
  have F5_values_a1 := F1_values_a1.keep qq5 (fun hm => ne_a1_b1 (List.mem_singleton.mp hm))
  have F5_topK_a1 := F1_topK_a1.keep qq5 (fun hm => ne_a1_b1 (List.mem_singleton.mp hm))
  have E5_b1 := A1.keep qq5
  have K5 : Keep h0 T5.heap [] := Keep.trans K1 qq5 (fun x hx => by cases List.mem_singleton.mp hx; exact (Or.inr sz_b1))
  have Z5 : n0 ≤ T5.heap.size := Nat.le_trans Z1 qq5.1
  obtain ⟨fs, hr, hrun, hended, hW, hsame⟩ := X5.leave (v := some (.ref b1)) (fun h => by rw [Bd.returns] at h; cases h)
  refine ⟨_, _, pre0 _ ?_, hrun, hended, _, _, rfl, ?_, ⟨_, rfl⟩, hW, hsame.mono (by decide) (by decide)⟩
  · show Steps p.tables e below (s₁.setTop (mkF m 0 #[.val (.ref a1), .val (.int p2)] [])) _
    refine st1 _ ?_
    show Steps p.tables e below (T1.setTop (mkF m 3 #[.val (.ref a1), .val (.int p2)] [(.ref b1)])) _
    refine XS.dup X1.here hx rfl (hb hby d6n_3) rfl rfl ?_
    show Steps p.tables e below (T1.setTop (mkF m 4 #[.val (.ref a1), .val (.int p2)] [(.ref b1), (.ref b1)])) _
    refine XS.iloadN X1.here hx rfl (hb hby d6n_4) rfl ?_
    show Steps p.tables e below (T1.setTop (mkF m 5 #[.val (.ref a1), .val (.int p2)] [(.int p2), (.ref b1), (.ref b1)])) _
    refine st2 _ ?_
    show Steps p.tables e below (T2.setTop (mkF m 8 #[.val (.ref a1), .val (.int p2)] [(.int p2), (.ref b1), (.ref b1)])) _
    refine XS.aloadN X2.here hx rfl (hb hby d6n_8) rfl rfl ?_
    show Steps p.tables e below (T2.setTop (mkF m 9 #[.val (.ref a1), .val (.int p2)] [(.ref a1), (.int p2), (.ref b1), (.ref b1)])) _
    refine st3 _ ?_
    show Steps p.tables e below (T3.setTop (mkF m 12 #[.val (.ref a1), .val (.int p2)] [.null, (.int p2), (.ref b1), (.ref b1)])) _
    refine XS.ifnonnullNo X3.here hx rfl (hb hby d6n_12) rfl ?_
    show Steps p.tables e below (T3.setTop (mkF m 15 #[.val (.ref a1), .val (.int p2)] [(.int p2), (.ref b1), (.ref b1)])) _
    refine XS.aconstNull X3.here hx rfl (hb hby d6n_15) ?_
    show Steps p.tables e below (T3.setTop (mkF m 16 #[.val (.ref a1), .val (.int p2)] [.null, (.int p2), (.ref b1), (.ref b1)])) _
    refine XS.goto X3.here hx rfl (pc0 := 16) (pc' := 26) rfl (hb hby d6n_16) (by decide) (by decide) ?_
    show Steps p.tables e below (T3.setTop (mkF m 26 #[.val (.ref a1), .val (.int p2)] [.null, (.int p2), (.ref b1), (.ref b1)])) _
    refine XS.aloadN X3.here hx rfl (hb hby d6n_26) rfl rfl ?_
    show Steps p.tables e below (T3.setTop (mkF m 27 #[.val (.ref a1), .val (.int p2)] [(.ref a1), .null, (.int p2), (.ref b1), (.ref b1)])) _
    refine st4 _ ?_
    show Steps p.tables e below (T4.setTop (mkF m 30 #[.val (.ref a1), .val (.int p2)] [(.int w9), .null, (.int p2), (.ref b1), (.ref b1)])) _
    refine st5.trans ?_
    show Steps p.tables e below (T5.setTop (mkF m 33 #[.val (.ref a1), .val (.int p2)] [(.ref b1)])) _
    jvm_step X5.here [X5.here.top, hx, (hb hby d6n_33), X5.method', Bd.returns, Value.isRef, FieldType.isReference]
    first | (intro acts; rw [hr _ acts rfl rfl rfl]) | rw [hr _ _ rfl rfl rfl]
    exact Steps.refl _
  · show Q6n Z a1 p2 w9 h0 n0 _ T5.heap _
    exact ⟨b1, rfl, N5, K5, p5_0, p5_1⟩
theorem d6r_0 : decode prog_25_method_4_code 0 = .ok (.new 2, 3) := by decide +kernel
theorem d6r_3 : decode prog_25_method_4_code 3 = .ok (.dup, 1) := by decide +kernel
theorem d6r_4 : decode prog_25_method_4_code 4 = .ok (.iload_n 1, 1) := by decide +kernel
theorem d6r_5 : decode prog_25_method_4_code 5 = .ok (.invokestatic 39, 3) := by decide +kernel
theorem d6r_8 : decode prog_25_method_4_code 8 = .ok (.aload_n 0, 1) := by decide +kernel
theorem d6r_9 : decode prog_25_method_4_code 9 = .ok (.getfield 32, 3) := by decide +kernel
theorem d6r_12 : decode prog_25_method_4_code 12 = .ok (.ifnonnull 7, 3) := by decide +kernel
theorem d6r_19 : decode prog_25_method_4_code 19 = .ok (.new 7, 3) := by decide +kernel
theorem d6r_22 : decode prog_25_method_4_code 22 = .ok (.dup, 1) := by decide +kernel
theorem d6r_23 : decode prog_25_method_4_code 23 = .ok (.invokespecial 9, 3) := by decide +kernel
theorem d6r_26 : decode prog_25_method_4_code 26 = .ok (.aload_n 0, 1) := by decide +kernel
theorem d6r_27 : decode prog_25_method_4_code 27 = .ok (.getfield 36, 3) := by decide +kernel
theorem d6r_30 : decode prog_25_method_4_code 30 = .ok (.invokespecial 1, 3) := by decide +kernel
theorem d6r_33 : decode prog_25_method_4_code 33 = .ok (.areturn, 1) := by decide +kernel
theorem pn_6r : plainName "com/example/pathmeter/pathmeter/MarkovHistogram$Builder" = true := by first | (simp [plainName, overriddenIn]; done) | decide +kernel
theorem ef_6r (m : MethodId) (x0 : Addr) (x1 : Int32) : entryFrame m #[(.ref x0), (.int x1)] 2 = mkF m 0 #[.val (.ref x0), .val (.int x1)] [] := by first | (simp [entryFrame, mkF, argsToLocals, Value.category]; done) | rfl
theorem pd_6r_7 : parseMethodDescriptor "(I)I" = some ⟨[.int], some .int⟩ := by decide +kernel
theorem pd_6r_10 : parseMethodDescriptor "()V" = some ⟨[], none⟩ := by decide +kernel
theorem pd_6r_2 : parseMethodDescriptor "(ILjava/util/Map;I)V" = some ⟨[.int, (.object "java/util/Map"), .int], none⟩ := by decide +kernel
def Q6r (Z : State) (a1 : Addr) (p2 : Int32) (w9 : Int32) (w5 : Addr) (h0 : Heap) (n0 : Nat) (v : Option Value) (h : Heap) (L : List Loc) : Prop := ∃ (bb : Addr) (mm : Addr), v = some (.ref bb) ∧ Fr n0 L ∧ Keep h0 h [] ∧ (Exa Z h bb "com/example/pathmeter/pathmeter/MarkovHistogram$Builder") ∧ (Fld Z h bb "com/example/pathmeter/pathmeter/MarkovHistogram$Builder" "values" "Ljava/util/Map;" (.ref mm))
set_option maxRecDepth 65536 in
set_option maxHeartbeats 40000000 in
theorem rm6r (l : Launch) (Z : State) (a0 : Array Value) (hw : ∀ d ∈ tables_1, d.before a0 Z = true) (ws : List Jvm.Cond) (a1 : Addr) (p2 : Int32) (w9 : Int32) (w5 : Addr) (h0 : Heap) (n0 : Nat) (Z0 : n0 ≤ h0.size) (P0 : Fld Z h0 a1 "com/example/pathmeter/pathmeter/MarkovHistogram$Builder" "values" "Ljava/util/Map;" (.ref w5)) (P1 : Fld Z h0 a1 "com/example/pathmeter/pathmeter/MarkovHistogram$Builder" "topK" "I" (.int w9)) (hge : ¬ p2 < (1 : Int32)) :
    MetFree l (⟨"com/example/pathmeter/pathmeter/MarkovHistogram$Builder", "withOrder", "(I)Lcom/example/pathmeter/pathmeter/MarkovHistogram$Builder;"⟩ : MethodName) (head1 (Jvm.Cond.code (⟨"com/example/pathmeter/pathmeter/MarkovHistogram$Builder", "withOrder", "(I)Lcom/example/pathmeter/pathmeter/MarkovHistogram$Builder;"⟩ : MethodName) prog_25_method_4_code 2 (some (.object "com/example/pathmeter/pathmeter/MarkovHistogram$Builder")) :: ws) ({ frames := 3, cells := 3, slots := 14, locals := 42 } : Room)) (fun a U => a = #[(.ref a1), (.int p2)] ∧ Z.Warmed39 U.vm ∧ U.heap = h0) (fun _ _ _ _ _ => True) (fun _ U o U' => ∃ v L, o = .returned v ∧ Q6r Z a1 p2 w9 w5 h0 n0 v U'.heap L ∧ FrameEnd U o U' L ({ frames := 3, cells := 3, slots := 14, locals := 42 } : Room).cells ({ frames := 3, cells := 3, slots := 14, locals := 42 } : Room).slots) := by
  refine MetFree.of_bodySF (plainFor_of_name pn_6r) hisR ?_
  intro p e s m args below meth c s₁ Bd hml0 hP hK
  obtain ⟨rfl, hZ, hh⟩ := hP
  have w1_ := hw _ (List.mem_of_getElem? (i := 1) rfl)
  have w2_ := hw _ (List.mem_of_getElem? (i := 2) rfl)
  have w6_ := hw _ (List.mem_of_getElem? (i := 6) rfl)
  have w7_ := hw _ (List.mem_of_getElem? (i := 7) rfl)
  have w8_ := hw _ (List.mem_of_getElem? (i := 8) rfl)
  have w20_ := hw _ (List.mem_of_getElem? (i := 20) rfl)
  have w22_ := hw _ (List.mem_of_getElem? (i := 22) rfl)
  have w23_ := hw _ (List.mem_of_getElem? (i := 23) rfl)
  have w24_ := hw _ (List.mem_of_getElem? (i := 24) rfl)
  have w25_ := hw _ (List.mem_of_getElem? (i := 25) rfl)
  have w26_ := hw _ (List.mem_of_getElem? (i := 26) rfl)
  have w37_ := hw _ (List.mem_of_getElem? (i := 37) rfl)
  have w38_ := hw _ (List.mem_of_getElem? (i := 38) rfl)
  have w39_ := hw _ (List.mem_of_getElem? (i := 39) rfl)
  have w40_ := hw _ (List.mem_of_getElem? (i := 40) rfl)
  have w41_ := hw _ (List.mem_of_getElem? (i := 41) rfl)
  have w50_ := hw _ (List.mem_of_getElem? (i := 50) rfl)
  have w51_ := hw _ (List.mem_of_getElem? (i := 51) rfl)
  have w52_ := hw _ (List.mem_of_getElem? (i := 52) rfl)
  have w53_ := hw _ (List.mem_of_getElem? (i := 53) rfl)
  have w54_ := hw _ (List.mem_of_getElem? (i := 54) rfl)
  have w55_ := hw _ (List.mem_of_getElem? (i := 55) rfl)
  have w65_ := hw _ (List.mem_of_getElem? (i := 65) rfl)
  have hx := Bd.exec
  have hby := Bd.bytes
  have hml : c.maxLocals = 2 := hml0
  have hown : s.vm.findClass "com/example/pathmeter/pathmeter/MarkovHistogram$Builder" = some m.cls := findClass_of_methodNamed Bd.named
  have hnm := (name_of_methodNamed Bd.named Bd.method).1
  have X0 : Stand p l e ({ frames := 3, cells := 3, slots := 14, locals := 42 } : Room) s m #[(.ref a1), (.int p2)] below meth c s₁ [] 0 0 := Stand.of_body Bd
  have e0 : s₁.heap = h0 := by rw [← hh, Bd.state]; rfl
  have N0 := Fr.nil n0
  have pre0 : ∀ t, Steps p.tables e below (s₁.setTop (mkF m 0 #[.val (.ref a1), .val (.int p2)] [])) t → Steps p.tables e below (s₁.setTop (entryFrame m #[(.ref a1), (.int p2)] 2)) t := fun t k => castTop (ef_6r m a1 p2) k
  obtain ⟨T1, h1, X1, e1, E1, A1, D1, -, st1⟩ := newO X0 hx hZ hown w37_ w1_ w2_ e0 (g := (mkF m 0 #[.val (.ref a1), .val (.int p2)] [])) rfl (hb hby d6r_0) (by decide) (by decide)
  obtain ⟨b1, g1⟩ : ∃ z, z = h0.size := ⟨_, rfl⟩
  rw [← g1] at A1 D1 st1
  have ne_a1_b1 : a1 ≠ b1 := Nat.ne_of_lt (Nat.lt_of_lt_of_le P1.lt (Nat.le_of_eq g1.symm))
  have g_b1 : n0 ≤ b1 := Nat.le_trans Z0 (Nat.le_of_eq g1.symm)
  have sz_b1 : h0.size ≤ b1 := Nat.le_trans (Keep.refl h0 []).1 (Nat.le_of_eq g1.symm)
  have F1_values_a1 := P0.ext E1
  have F1_topK_a1 := P1.ext E1
  have K1 : Keep h0 h1 [] := (Keep.refl h0 []).ext E1
  have Z1 : n0 ≤ h1.size := Nat.le_trans Z0 E1.1
  have F1_paths_b1 : Fld Z h1 b1 "com/example/pathmeter/pathmeter/MarkovHistogram$Builder" "paths" "Lcom/example/pathmeter/pathmeter/MarkovHistogram$Tally;" .null := D1 (Or.inr w20_) (ty := (.object "com/example/pathmeter/pathmeter/MarkovHistogram$Tally")) (by decide)
  have F1_order_b1 : Fld Z h1 b1 "com/example/pathmeter/pathmeter/MarkovHistogram$Builder" "order" "I" (.int (0 : Int32)) := D1 (Or.inr w22_) (ty := .int) (by decide)
  have F1_values_b1 : Fld Z h1 b1 "com/example/pathmeter/pathmeter/MarkovHistogram$Builder" "values" "Ljava/util/Map;" .null := D1 (Or.inr w24_) (ty := (.object "java/util/Map")) (by decide)
  have F1_topK_b1 : Fld Z h1 b1 "com/example/pathmeter/pathmeter/MarkovHistogram$Builder" "topK" "I" (.int (0 : Int32)) := D1 (Or.inr w26_) (ty := .int) (by decide)
  obtain ⟨_, _, ⟨T2, L2, k2, n2⟩, -, X2, ⟨Lc2, hQ2, l2, y2, z2⟩, st2⟩ := Jvm.LawKit.callS X1 hx (y := (⟨"com/example/pathmeter/pathmeter/PathStatistics", "requireOrder", "(I)I"⟩ : MethodName)) hown (mvT hZ w38_) (mvT hZ w39_) (mvT hZ w40_) (mvT hZ w41_) (by decide) (backOf (W := 2) (rm7 l Z a0 hw [] p2 h1 n0 Z1 hge) hZ w41_ w40_ (by decide) (by decide)) (g := (mkF m 5 #[.val (.ref a1), .val (.int p2)] [(.int p2), (.ref b1), (.ref b1)])) rfl (by rw [hml]; rfl) (argsL := [(.int p2)]) (rest := [(.ref b1), (.ref b1)]) (lenOf pd_6r_7 rfl) rfl (by show 2 * 0 + _ ≤ _; exact Nat.le_of_eq rfl) (hb hby d6r_5) (fun _ _ => ⟨rfl, e1, (by decide : 1 + 0 ≤ _), (by decide : 4 + 0 ≤ _)⟩)
  dsimp only [Pt.U, Pt.locs, Pt.cells, Pt.slots] at X2 l2 y2 z2 st2 hQ2
  subst l2 y2 z2
  obtain ⟨rfl, N2q, qq2⟩ := hQ2
  have N2 := Fr.app N0 N2q
  have e2 : T2.heap = h1 := qq2
  obtain ⟨T3, X3, e3, st3⟩ := getF X2 hx hZ hown (host := "") (Or.inl w23_) Via.refl e2 F1_values_a1 (g := (mkF m 9 #[.val (.ref a1), .val (.int p2)] [(.ref a1), (.int p2), (.ref b1), (.ref b1)])) rfl rfl (hb hby d6r_9)
  obtain ⟨T4, h4, X4, e4, E4, A4, D4, -, st4⟩ := newO X3 hx hZ hown w50_ w51_ w52_ e3 (g := (mkF m 19 #[.val (.ref a1), .val (.int p2)] [(.int p2), (.ref b1), (.ref b1)])) rfl (hb hby d6r_19) (by decide) (by decide)
  obtain ⟨b4, g4⟩ : ∃ z, z = h1.size := ⟨_, rfl⟩
  rw [← g4] at A4 D4 st4
  have ne_a1_b4 : a1 ≠ b4 := Nat.ne_of_lt (Nat.lt_of_lt_of_le F1_topK_a1.lt (Nat.le_of_eq g4.symm))
  have ne_b1_b4 : b1 ≠ b4 := Nat.ne_of_lt (Nat.lt_of_lt_of_le A1.lt (Nat.le_of_eq g4.symm))
  have g_b4 : n0 ≤ b4 := Nat.le_trans Z1 (Nat.le_of_eq g4.symm)
  have sz_b4 : h0.size ≤ b4 := Nat.le_trans K1.1 (Nat.le_of_eq g4.symm)
  have F4_values_a1 := F1_values_a1.ext E4
  have F4_topK_a1 := F1_topK_a1.ext E4
  have F4_paths_b1 := F1_paths_b1.ext E4
  have F4_order_b1 := F1_order_b1.ext E4
  have F4_values_b1 := F1_values_b1.ext E4
  have F4_topK_b1 := F1_topK_b1.ext E4
  have E4_b1 := A1.ext E4
  have K4 : Keep h0 h4 [] := K1.ext E4
  have Z4 : n0 ≤ h4.size := Nat.le_trans Z1 E4.1
  have F4_loadFactor_b4 : Fld Z h4 b4 "java/util/HashMap" "loadFactor" "F" (defaultValue .float) := D4 (Or.inr w65_) (ty := .float) (by decide)
  obtain ⟨_, _, ⟨T5, L5, k5, n5⟩, -, X5, ⟨Lc5, hQ5, l5, y5, z5⟩, st5⟩ := X4.specialBack hx (y := (⟨"java/util/HashMap", "<init>", "()V"⟩ : MethodName)) rfl hown (mvT hZ w53_) (mvT hZ w54_) (mvT hZ w55_) (by decide) (backOf (W := 4) (rm10 l Z a0 hw [] b4 h4 n0 Z4 A4 F4_loadFactor_b4 g_b4) hZ w55_ w52_ (by decide) (by decide)) (g := (mkF m 23 #[.val (.ref a1), .val (.int p2)] [(.ref b4), (.ref b4), (.int p2), (.ref b1), (.ref b1)])) rfl (by rw [hml]; rfl) (Steps.refl _) (a := b4) (argsL := []) (rest := [(.ref b4), (.int p2), (.ref b1), (.ref b1)]) (lenOf pd_6r_10 rfl) rfl (by show 2 * 0 + _ ≤ _; exact Nat.le_of_eq rfl) (hb hby d6r_23) (fun _ _ => ⟨rfl, e4, (by decide : 2 + 0 ≤ _), (by decide : 12 + 0 ≤ _)⟩)
  dsimp only [Pt.U, Pt.locs, Pt.cells, Pt.slots] at X5 l5 y5 z5 st5 hQ5
  subst l5 y5 z5
  obtain ⟨rfl, N5q, qq5, p5_0⟩ := hQ5
  have N5 := Fr.app N2 N5q
  have F5_values_a1 := F4_values_a1.keep qq5 (fun hm => ne_a1_b4 (List.mem_singleton.mp hm))
  have F5_topK_a1 := F4_topK_a1.keep qq5 (fun hm => ne_a1_b4 (List.mem_singleton.mp hm))
  have F5_paths_b1 := F4_paths_b1.keep qq5 (fun hm => ne_b1_b4 (List.mem_singleton.mp hm))
  have F5_order_b1 := F4_order_b1.keep qq5 (fun hm => ne_b1_b4 (List.mem_singleton.mp hm))
  have F5_values_b1 := F4_values_b1.keep qq5 (fun hm => ne_b1_b4 (List.mem_singleton.mp hm))
  have F5_topK_b1 := F4_topK_b1.keep qq5 (fun hm => ne_b1_b4 (List.mem_singleton.mp hm))
  have E5_b1 := E4_b1.keep qq5
  have E5_b4 := A4.keep qq5
  have K5 : Keep h0 T5.heap [] := Keep.trans K4 qq5 (fun x hx => by cases List.mem_singleton.mp hx; exact (Or.inr sz_b4))
  have Z5 : n0 ≤ T5.heap.size := Nat.le_trans Z4 qq5.1
  obtain ⟨T6, X6, e6, st6⟩ := getF X5 hx hZ hown (host := "") (Or.inl w25_) Via.refl rfl F5_topK_a1 (g := (mkF m 27 #[.val (.ref a1), .val (.int p2)] [(.ref a1), (.ref b4), (.int p2), (.ref b1), (.ref b1)])) rfl rfl (hb hby d6r_27)
  obtain ⟨_, _, ⟨T7, L7, k7, n7⟩, -, X7, ⟨Lc7, hQ7, l7, y7, z7⟩, st7⟩ := X6.specialBack hx (y := (⟨"com/example/pathmeter/pathmeter/MarkovHistogram$Builder", "<init>", "(ILjava/util/Map;I)V"⟩ : MethodName)) rfl hown (mvT hZ w6_) (mvT hZ w7_) (mvT hZ w8_) (by decide) (backOf (W := 1) (rm2r l Z a0 hw [] b1 p2 b4 w9 T5.heap n0 Z5 E5_b1 F5_paths_b1 F5_order_b1 F5_values_b1 F5_topK_b1 g_b1) hZ w8_ w2_ (by decide) (by decide)) (g := (mkF m 30 #[.val (.ref a1), .val (.int p2)] [(.int w9), (.ref b4), (.int p2), (.ref b1), (.ref b1)])) rfl (by rw [hml]; rfl) (Steps.refl _) (a := b1) (argsL := [(.int p2), (.ref b4), (.int w9)]) (rest := [(.ref b1)]) (lenOf pd_6r_2 rfl) rfl (by show 2 * 0 + _ ≤ _; exact Nat.le_of_eq rfl) (hb hby d6r_30) (fun _ _ => ⟨rfl, e6, (by decide : 2 + 1 ≤ _), (by decide : 12 + 2 ≤ _)⟩)
  dsimp only [Pt.U, Pt.locs, Pt.cells, Pt.slots] at X7 l7 y7 z7 st7 hQ7
  subst l7 y7 z7
  obtain ⟨rfl, N7q, qq7, p7_0, p7_1, p7_2⟩ := hQ7
  have N7 := Fr.app N5 N7q
  have F7_values_a1 := F5_values_a1.keep qq7 (fun hm => ne_a1_b1 (List.mem_singleton.mp hm))
  have F7_topK_a1 := F5_topK_a1.keep qq7 (fun hm => ne_a1_b1 (List.mem_singleton.mp hm))
  have E7_b1 := E5_b1.keep qq7
  have E7_b4 := p5_0.keep qq7
  have K7 : Keep h0 T7.heap [] := Keep.trans K5 qq7 (fun x hx => by cases List.mem_singleton.mp hx; exact (Or.inr sz_b1))
  have Z7 : n0 ≤ T7.heap.size := Nat.le_trans Z5 qq7.1
  obtain ⟨fs, hr, hrun, hended, hW, hsame⟩ := X7.leave (v := some (.ref b1)) (fun h => by rw [Bd.returns] at h; cases h)
  refine ⟨_, _, pre0 _ ?_, hrun, hended, _, _, rfl, ?_, ⟨_, rfl⟩, hW, hsame.mono (by decide) (by decide)⟩
  · show Steps p.tables e below (s₁.setTop (mkF m 0 #[.val (.ref a1), .val (.int p2)] [])) _
    refine st1 _ ?_
    show Steps p.tables e below (T1.setTop (mkF m 3 #[.val (.ref a1), .val (.int p2)] [(.ref b1)])) _
    refine XS.dup X1.here hx rfl (hb hby d6r_3) rfl rfl ?_
    show Steps p.tables e below (T1.setTop (mkF m 4 #[.val (.ref a1), .val (.int p2)] [(.ref b1), (.ref b1)])) _
    refine XS.iloadN X1.here hx rfl (hb hby d6r_4) rfl ?_
    show Steps p.tables e below (T1.setTop (mkF m 5 #[.val (.ref a1), .val (.int p2)] [(.int p2), (.ref b1), (.ref b1)])) _
    refine st2 _ ?_
    show Steps p.tables e below (T2.setTop (mkF m 8 #[.val (.ref a1), .val (.int p2)] [(.int p2), (.ref b1), (.ref b1)])) _
    refine XS.aloadN X2.here hx rfl (hb hby d6r_8) rfl rfl ?_
    show Steps p.tables e below (T2.setTop (mkF m 9 #[.val (.ref a1), .val (.int p2)] [(.ref a1), (.int p2), (.ref b1), (.ref b1)])) _
    refine st3 _ ?_
    show Steps p.tables e below (T3.setTop (mkF m 12 #[.val (.ref a1), .val (.int p2)] [(.ref w5), (.int p2), (.ref b1), (.ref b1)])) _
    refine XS.ifnonnullYes X3.here hx rfl (pc0 := 12) (pc' := 19) rfl (hb hby d6r_12) rfl (by decide) (by decide) ?_
    show Steps p.tables e below (T3.setTop (mkF m 19 #[.val (.ref a1), .val (.int p2)] [(.int p2), (.ref b1), (.ref b1)])) _
    refine st4 _ ?_
    show Steps p.tables e below (T4.setTop (mkF m 22 #[.val (.ref a1), .val (.int p2)] [(.ref b4), (.int p2), (.ref b1), (.ref b1)])) _
    refine XS.dup X4.here hx rfl (hb hby d6r_22) rfl rfl ?_
    show Steps p.tables e below (T4.setTop (mkF m 23 #[.val (.ref a1), .val (.int p2)] [(.ref b4), (.ref b4), (.int p2), (.ref b1), (.ref b1)])) _
    refine st5.trans ?_
    show Steps p.tables e below (T5.setTop (mkF m 26 #[.val (.ref a1), .val (.int p2)] [(.ref b4), (.int p2), (.ref b1), (.ref b1)])) _
    refine XS.aloadN X5.here hx rfl (hb hby d6r_26) rfl rfl ?_
    show Steps p.tables e below (T5.setTop (mkF m 27 #[.val (.ref a1), .val (.int p2)] [(.ref a1), (.ref b4), (.int p2), (.ref b1), (.ref b1)])) _
    refine st6 _ ?_
    show Steps p.tables e below (T6.setTop (mkF m 30 #[.val (.ref a1), .val (.int p2)] [(.int w9), (.ref b4), (.int p2), (.ref b1), (.ref b1)])) _
    refine st7.trans ?_
    show Steps p.tables e below (T7.setTop (mkF m 33 #[.val (.ref a1), .val (.int p2)] [(.ref b1)])) _
    jvm_step X7.here [X7.here.top, hx, (hb hby d6r_33), X7.method', Bd.returns, Value.isRef, FieldType.isReference]
    first | (intro acts; rw [hr _ acts rfl rfl rfl]) | rw [hr _ _ rfl rfl rfl]
    exact Steps.refl _
  · show Q6r Z a1 p2 w9 w5 h0 n0 _ T7.heap _
    exact ⟨b1, b4, rfl, N7, K7, p7_0, p7_1⟩
theorem d8n_0 : decode prog_25_method_7_code 0 = .ok (.aload_n 0, 1) := by decide +kernel
theorem d8n_1 : decode prog_25_method_7_code 1 = .ok (.getfield 32, 3) := by decide +kernel
theorem d8n_4 : decode prog_25_method_7_code 4 = .ok (.ifnonnull 7, 3) := by decide +kernel
theorem d8n_7 : decode prog_25_method_7_code 7 = .ok (.iconst 0, 1) := by decide +kernel
theorem d8n_8 : decode prog_25_method_7_code 8 = .ok (.goto 5, 3) := by decide +kernel
theorem d8n_13 : decode prog_25_method_7_code 13 = .ok (.ireturn, 1) := by decide +kernel
theorem pn_8n : plainName "com/example/pathmeter/pathmeter/MarkovHistogram$Builder" = true := by first | (simp [plainName, overriddenIn]; done) | decide +kernel
theorem ef_8n (m : MethodId) (x0 : Addr) : entryFrame m #[(.ref x0)] 1 = mkF m 0 #[.val (.ref x0)] [] := by first | (simp [entryFrame, mkF, argsToLocals, Value.category]; done) | rfl
def Q8n (Z : State) (a1 : Addr) (h0 : Heap) (n0 : Nat) (v : Option Value) (h : Heap) (L : List Loc) : Prop := v = some (.int (0 : Int32)) ∧ Fr n0 L ∧ h = h0
set_option maxRecDepth 65536 in
set_option maxHeartbeats 40000000 in
theorem rm8n (l : Launch) (Z : State) (a0 : Array Value) (hw : ∀ d ∈ tables_1, d.before a0 Z = true) (ws : List Jvm.Cond) (a1 : Addr) (h0 : Heap) (n0 : Nat) (Z0 : n0 ≤ h0.size) (P0 : Fld Z h0 a1 "com/example/pathmeter/pathmeter/MarkovHistogram$Builder" "values" "Ljava/util/Map;" .null) :
    MetFree l (⟨"com/example/pathmeter/pathmeter/MarkovHistogram$Builder", "longestValue", "()I"⟩ : MethodName) (head1 (Jvm.Cond.code (⟨"com/example/pathmeter/pathmeter/MarkovHistogram$Builder", "longestValue", "()I"⟩ : MethodName) prog_25_method_7_code 1 (some .int) :: ws) ({ frames := 0, cells := 0, slots := 0, locals := 0 } : Room)) (fun a U => a = #[(.ref a1)] ∧ Z.Warmed39 U.vm ∧ U.heap = h0) (fun _ _ _ _ _ => True) (fun _ U o U' => ∃ v L, o = .returned v ∧ Q8n Z a1 h0 n0 v U'.heap L ∧ FrameEnd U o U' L ({ frames := 0, cells := 0, slots := 0, locals := 0 } : Room).cells ({ frames := 0, cells := 0, slots := 0, locals := 0 } : Room).slots) := by
  refine MetFree.of_bodySF (plainFor_of_name pn_8n) hisR ?_
  intro p e s m args below meth c s₁ Bd hml0 hP hK
  obtain ⟨rfl, hZ, hh⟩ := hP
  have w23_ := hw _ (List.mem_of_getElem? (i := 23) rfl)
  have hx := Bd.exec
  have hby := Bd.bytes
  have hml : c.maxLocals = 1 := hml0
  have hown : s.vm.findClass "com/example/pathmeter/pathmeter/MarkovHistogram$Builder" = some m.cls := findClass_of_methodNamed Bd.named
  have hnm := (name_of_methodNamed Bd.named Bd.method).1
  have X0 : Stand p l e ({ frames := 0, cells := 0, slots := 0, locals := 0 } : Room) s m #[(.ref a1)] below meth c s₁ [] 0 0 := Stand.of_body Bd
  have e0 : s₁.heap = h0 := by rw [← hh, Bd.state]; rfl
  have N0 := Fr.nil n0
  have pre0 : ∀ t, Steps p.tables e below (s₁.setTop (mkF m 0 #[.val (.ref a1)] [])) t → Steps p.tables e below (s₁.setTop (entryFrame m #[(.ref a1)] 1)) t := fun t k => castTop (ef_8n m a1) k
  obtain ⟨T1, X1, e1, st1⟩ := getF X0 hx hZ hown (host := "") (Or.inl w23_) Via.refl e0 P0 (g := (mkF m 1 #[.val (.ref a1)] [(.ref a1)])) rfl rfl (hb hby d8n_1)
  obtain ⟨fs, hr, hrun, hended, hW, hsame⟩ := X1.leave (v := some (.int (0 : Int32))) (fun h => by rw [Bd.returns] at h; cases h)
  refine ⟨_, _, pre0 _ ?_, hrun, hended, _, _, rfl, ?_, ⟨_, rfl⟩, hW, hsame.mono (by decide) (by decide)⟩
  · show Steps p.tables e below (s₁.setTop (mkF m 0 #[.val (.ref a1)] [])) _
    refine XS.aloadN X0.here hx rfl (hb hby d8n_0) rfl rfl ?_
    show Steps p.tables e below (s₁.setTop (mkF m 1 #[.val (.ref a1)] [(.ref a1)])) _
    refine st1 _ ?_
    show Steps p.tables e below (T1.setTop (mkF m 4 #[.val (.ref a1)] [.null])) _
    refine XS.ifnonnullNo X1.here hx rfl (hb hby d8n_4) rfl ?_
    show Steps p.tables e below (T1.setTop (mkF m 7 #[.val (.ref a1)] [])) _
    refine XS.iconst X1.here hx rfl (hb hby d8n_7) ?_
    show Steps p.tables e below (T1.setTop (mkF m 8 #[.val (.ref a1)] [(.int (0 : Int32))])) _
    refine XS.goto X1.here hx rfl (pc0 := 8) (pc' := 13) rfl (hb hby d8n_8) (by decide) (by decide) ?_
    show Steps p.tables e below (T1.setTop (mkF m 13 #[.val (.ref a1)] [(.int (0 : Int32))])) _
    exact own_retI X1 hx Bd.returns (hb hby d8n_13) rfl hr
  · show Q8n Z a1 h0 n0 _ T1.heap _
    rw [e1]
    exact ⟨rfl, N0, rfl⟩
theorem d8r_0 : decode prog_25_method_7_code 0 = .ok (.aload_n 0, 1) := by decide +kernel
theorem d8r_1 : decode prog_25_method_7_code 1 = .ok (.getfield 32, 3) := by decide +kernel
theorem d8r_4 : decode prog_25_method_7_code 4 = .ok (.ifnonnull 7, 3) := by decide +kernel
theorem d8r_11 : decode prog_25_method_7_code 11 = .ok (.ldc 68, 2) := by decide +kernel
theorem d8r_13 : decode prog_25_method_7_code 13 = .ok (.ireturn, 1) := by decide +kernel
theorem pn_8r : plainName "com/example/pathmeter/pathmeter/MarkovHistogram$Builder" = true := by first | (simp [plainName, overriddenIn]; done) | decide +kernel
theorem ef_8r (m : MethodId) (x0 : Addr) : entryFrame m #[(.ref x0)] 1 = mkF m 0 #[.val (.ref x0)] [] := by first | (simp [entryFrame, mkF, argsToLocals, Value.category]; done) | rfl
def Q8r (Z : State) (a1 : Addr) (w5 : Addr) (h0 : Heap) (n0 : Nat) (v : Option Value) (h : Heap) (L : List Loc) : Prop := v = some (.int (1048576 : Int32)) ∧ Fr n0 L ∧ h = h0
set_option maxRecDepth 65536 in
set_option maxHeartbeats 40000000 in
theorem rm8r (l : Launch) (Z : State) (a0 : Array Value) (hw : ∀ d ∈ tables_1, d.before a0 Z = true) (ws : List Jvm.Cond) (a1 : Addr) (w5 : Addr) (h0 : Heap) (n0 : Nat) (Z0 : n0 ≤ h0.size) (P0 : Fld Z h0 a1 "com/example/pathmeter/pathmeter/MarkovHistogram$Builder" "values" "Ljava/util/Map;" (.ref w5)) :
    MetFree l (⟨"com/example/pathmeter/pathmeter/MarkovHistogram$Builder", "longestValue", "()I"⟩ : MethodName) (head1 (Jvm.Cond.code (⟨"com/example/pathmeter/pathmeter/MarkovHistogram$Builder", "longestValue", "()I"⟩ : MethodName) prog_25_method_7_code 1 (some .int) :: ws) ({ frames := 0, cells := 0, slots := 0, locals := 0 } : Room)) (fun a U => a = #[(.ref a1)] ∧ Z.Warmed39 U.vm ∧ U.heap = h0) (fun _ _ _ _ _ => True) (fun _ U o U' => ∃ v L, o = .returned v ∧ Q8r Z a1 w5 h0 n0 v U'.heap L ∧ FrameEnd U o U' L ({ frames := 0, cells := 0, slots := 0, locals := 0 } : Room).cells ({ frames := 0, cells := 0, slots := 0, locals := 0 } : Room).slots) := by
  refine MetFree.of_bodySF (plainFor_of_name pn_8r) hisR ?_
  intro p e s m args below meth c s₁ Bd hml0 hP hK
  obtain ⟨rfl, hZ, hh⟩ := hP
  have w23_ := hw _ (List.mem_of_getElem? (i := 23) rfl)
  have w71_ := hw _ (List.mem_of_getElem? (i := 71) rfl)
  have hx := Bd.exec
  have hby := Bd.bytes
  have hml : c.maxLocals = 1 := hml0
  have hown : s.vm.findClass "com/example/pathmeter/pathmeter/MarkovHistogram$Builder" = some m.cls := findClass_of_methodNamed Bd.named
  have hnm := (name_of_methodNamed Bd.named Bd.method).1
  have X0 : Stand p l e ({ frames := 0, cells := 0, slots := 0, locals := 0 } : Room) s m #[(.ref a1)] below meth c s₁ [] 0 0 := Stand.of_body Bd
  have e0 : s₁.heap = h0 := by rw [← hh, Bd.state]; rfl
  have N0 := Fr.nil n0
  have pre0 : ∀ t, Steps p.tables e below (s₁.setTop (mkF m 0 #[.val (.ref a1)] [])) t → Steps p.tables e below (s₁.setTop (entryFrame m #[(.ref a1)] 1)) t := fun t k => castTop (ef_8r m a1) k
  obtain ⟨T1, X1, e1, st1⟩ := getF X0 hx hZ hown (host := "") (Or.inl w23_) Via.refl e0 P0 (g := (mkF m 1 #[.val (.ref a1)] [(.ref a1)])) rfl rfl (hb hby d8r_1)
  obtain ⟨fs, hr, hrun, hended, hW, hsame⟩ := X1.leave (v := some (.int (1048576 : Int32))) (fun h => by rw [Bd.returns] at h; cases h)
  refine ⟨_, _, pre0 _ ?_, hrun, hended, _, _, rfl, ?_, ⟨_, rfl⟩, hW, hsame.mono (by decide) (by decide)⟩
  · show Steps p.tables e below (s₁.setTop (mkF m 0 #[.val (.ref a1)] [])) _
    refine XS.aloadN X0.here hx rfl (hb hby d8r_0) rfl rfl ?_
    show Steps p.tables e below (s₁.setTop (mkF m 1 #[.val (.ref a1)] [(.ref a1)])) _
    refine st1 _ ?_
    show Steps p.tables e below (T1.setTop (mkF m 4 #[.val (.ref a1)] [(.ref w5)])) _
    refine XS.ifnonnullYes X1.here hx rfl (pc0 := 4) (pc' := 11) rfl (hb hby d8r_4) rfl (by decide) (by decide) ?_
    show Steps p.tables e below (T1.setTop (mkF m 11 #[.val (.ref a1)] [])) _
    refine X1.ldcInt hx hown (mvT hZ w71_) (g := (mkF m 11 #[.val (.ref a1)] [])) rfl (hb hby d8r_11) _ ?_
    show Steps p.tables e below (T1.setTop (mkF m 13 #[.val (.ref a1)] [(.int (1048576 : Int32))])) _
    exact own_retI X1 hx Bd.returns (hb hby d8r_13) rfl hr
  · show Q8r Z a1 w5 h0 n0 _ T1.heap _
    rw [e1]
    exact ⟨rfl, N0, rfl⟩
theorem own_pos (x : Int32) : ¬ (x &&& (2147483647 : Int32)) < (0 : Int32) := by
  rw [Jvm.Free.XT.and_neg32]
  intro h
  exact absurd h.2 (by decide)
theorem own_max1 (y : Int32) : ¬ own_max (1 : Int32) y < (1 : Int32) := by
  unfold own_max
  split
  · rename_i h
    rw [Int32.lt_iff_toInt_lt] at h ⊢
    omega
  · decide
theorem pn_0gr : plainName "com/example/pathmeter/pathmeter/BuilderLongestValuePinLaw" = true := by first | (simp [plainName, overriddenIn]; done) | decide +kernel
theorem ef_0gr (m : MethodId) (x0 : Int32) (x1 : Int32) (x2 : Int32) : entryFrame m #[(.int x0), (.int x1), (.int x2)] maxLocals = mkF m 0 #[.val (.int x0), .val (.int x1), .val (.int x2), .unset, .unset, .unset, .unset] [] := by first | (simp [entryFrame, mkF, argsToLocals, Value.category, maxLocals]; done) | rfl
theorem pd_0gr_9 : parseMethodDescriptor "(I)V" = some ⟨[.int], none⟩ := by decide +kernel
theorem pd_0gr_5 : parseMethodDescriptor "(II)I" = some ⟨[.int, .int], some .int⟩ := by decide +kernel
theorem pd_0gr_6 : parseMethodDescriptor "(I)Lcom/example/pathmeter/pathmeter/MarkovHistogram$Builder;" = some ⟨[.int], some (.object "com/example/pathmeter/pathmeter/MarkovHistogram$Builder")⟩ := by decide +kernel
theorem pd_0gr_8 : parseMethodDescriptor "()I" = some ⟨[], some .int⟩ := by decide +kernel
def Q0gr (Z : State) (p1 : Int32) (p2 : Int32) (p3 : Int32) (h0 : Heap) (n0 : Nat) (v : Option Value) (h : Heap) (L : List Loc) : Prop := v = some (.int 1) ∧ Fr n0 L
set_option maxRecDepth 65536 in
set_option maxHeartbeats 40000000 in
theorem rm0gr (l : Launch) (Z : State) (a0 : Array Value) (hw : ∀ d ∈ tables_1, d.before a0 Z = true) (ws : List Jvm.Cond) (p1 : Int32) (p2 : Int32) (p3 : Int32) (h0 : Heap) (n0 : Nat) (Z0 : n0 ≤ h0.size) (hg : ¬ ((p3 &&& (1 : Int32)) = (0 : Int32))) (ho : ¬ ((p3 &&& (2 : Int32)) = (0 : Int32))) :
    MetFree l x (head1 (Jvm.Cond.code x code maxLocals ret :: ws) room_1) (fun a U => a = #[(.int p1), (.int p2), (.int p3)] ∧ Z.Warmed39 U.vm ∧ U.heap = h0) (fun _ _ _ _ _ => True) (fun _ U o U' => ∃ v L, o = .returned v ∧ Q0gr Z p1 p2 p3 h0 n0 v U'.heap L ∧ FrameEnd U o U' L room_1.cells room_1.slots) := by
  refine MetFree.of_bodySF (plainFor_of_name pn_0gr) hisR ?_
  intro p e s m args below meth c s₁ Bd hml0 hP hK
  obtain ⟨rfl, hZ, hh⟩ := hP
  have w0_ := hw _ (List.mem_of_getElem? (i := 0) rfl)
  have w1_ := hw _ (List.mem_of_getElem? (i := 1) rfl)
  have w2_ := hw _ (List.mem_of_getElem? (i := 2) rfl)
  have w20_ := hw _ (List.mem_of_getElem? (i := 20) rfl)
  have w22_ := hw _ (List.mem_of_getElem? (i := 22) rfl)
  have w24_ := hw _ (List.mem_of_getElem? (i := 24) rfl)
  have w26_ := hw _ (List.mem_of_getElem? (i := 26) rfl)
  have w27_ := hw _ (List.mem_of_getElem? (i := 27) rfl)
  have w28_ := hw _ (List.mem_of_getElem? (i := 28) rfl)
  have w29_ := hw _ (List.mem_of_getElem? (i := 29) rfl)
  have w30_ := hw _ (List.mem_of_getElem? (i := 30) rfl)
  have w31_ := hw _ (List.mem_of_getElem? (i := 31) rfl)
  have w32_ := hw _ (List.mem_of_getElem? (i := 32) rfl)
  have w33_ := hw _ (List.mem_of_getElem? (i := 33) rfl)
  have w34_ := hw _ (List.mem_of_getElem? (i := 34) rfl)
  have w35_ := hw _ (List.mem_of_getElem? (i := 35) rfl)
  have w36_ := hw _ (List.mem_of_getElem? (i := 36) rfl)
  have w42_ := hw _ (List.mem_of_getElem? (i := 42) rfl)
  have w43_ := hw _ (List.mem_of_getElem? (i := 43) rfl)
  have w44_ := hw _ (List.mem_of_getElem? (i := 44) rfl)
  have w45_ := hw _ (List.mem_of_getElem? (i := 45) rfl)
  have w46_ := hw _ (List.mem_of_getElem? (i := 46) rfl)
  have w47_ := hw _ (List.mem_of_getElem? (i := 47) rfl)
  have w48_ := hw _ (List.mem_of_getElem? (i := 48) rfl)
  have w49_ := hw _ (List.mem_of_getElem? (i := 49) rfl)
  have w70_ := hw _ (List.mem_of_getElem? (i := 70) rfl)
  have hx := Bd.exec
  have hby := Bd.bytes
  have hml : c.maxLocals = 7 := hml0
  have hown : s.vm.findClass "com/example/pathmeter/pathmeter/BuilderLongestValuePinLaw" = some m.cls := findClass_of_methodNamed Bd.named
  have hnm := (name_of_methodNamed Bd.named Bd.method).1
  have X0 : Stand p l e room_1 s m #[(.int p1), (.int p2), (.int p3)] below meth c s₁ [] 0 0 := Stand.of_body Bd
  have e0 : s₁.heap = h0 := by rw [← hh, Bd.state]; rfl
  have N0 := Fr.nil n0
  have pre0 : ∀ t, Steps p.tables e below (s₁.setTop (mkF m 0 #[.val (.int p1), .val (.int p2), .val (.int p3), .unset, .unset, .unset, .unset] [])) t → Steps p.tables e below (s₁.setTop (entryFrame m #[(.int p1), (.int p2), (.int p3)] maxLocals)) t := fun t k => castTop (ef_0gr m p1 p2 p3) k
  let Lo1 : Array Slot := #[.val (.int p1), .val (.int p2), .val (.int p3), .unset, .unset, .unset, .unset]
  let Lo2 : Array Slot := #[.val (.int p1), .val (.int p2), .val (.int p3), .val (.int (1 : Int32)), .unset, .unset, .unset]
  let Lo3 : Array Slot := #[.val (.int p1), .val (.int p2), .val (.int p3), .val (.int (1 : Int32)), .val (.int (1 : Int32)), .unset, .unset]
  obtain ⟨T1, h1, X1, e1, E1, A1, D1, -, st1⟩ := newO X0 hx hZ hown w0_ w1_ w2_ e0 (g := (mkF m 29 Lo3 [])) rfl (hb hby at_29) (by decide) (by decide)
  obtain ⟨b1, g1⟩ : ∃ z, z = h0.size := ⟨_, rfl⟩
  rw [← g1] at A1 D1 st1
  have g_b1 : n0 ≤ b1 := Nat.le_trans Z0 (Nat.le_of_eq g1.symm)
  have Z1 : n0 ≤ h1.size := Nat.le_trans Z0 E1.1
  have F1_paths_b1 : Fld Z h1 b1 "com/example/pathmeter/pathmeter/MarkovHistogram$Builder" "paths" "Lcom/example/pathmeter/pathmeter/MarkovHistogram$Tally;" .null := D1 (Or.inr w20_) (ty := (.object "com/example/pathmeter/pathmeter/MarkovHistogram$Tally")) (by decide)
  have F1_order_b1 : Fld Z h1 b1 "com/example/pathmeter/pathmeter/MarkovHistogram$Builder" "order" "I" (.int (0 : Int32)) := D1 (Or.inr w22_) (ty := .int) (by decide)
  have F1_values_b1 : Fld Z h1 b1 "com/example/pathmeter/pathmeter/MarkovHistogram$Builder" "values" "Ljava/util/Map;" .null := D1 (Or.inr w24_) (ty := (.object "java/util/Map")) (by decide)
  have F1_topK_b1 : Fld Z h1 b1 "com/example/pathmeter/pathmeter/MarkovHistogram$Builder" "topK" "I" (.int (0 : Int32)) := D1 (Or.inr w26_) (ty := .int) (by decide)
  obtain ⟨_, _, ⟨T2, L2, k2, n2⟩, -, X2, ⟨Lc2, hQ2, l2, y2, z2⟩, st2⟩ := X1.specialBack hx (y := (⟨"com/example/pathmeter/pathmeter/MarkovHistogram$Builder", "<init>", "(I)V"⟩ : MethodName)) rfl hown (mvT hZ w47_) (mvT hZ w48_) (mvT hZ w49_) (by decide) (backOf (W := 1) (rm9 l Z a0 hw [] b1 (p1 &&& (2147483647 : Int32)) h1 n0 Z1 A1 F1_paths_b1 F1_order_b1 F1_values_b1 F1_topK_b1 g_b1 (own_pos p1)) hZ w49_ w2_ (by decide) (by decide)) (g := (mkF m 37 Lo3 [(.int (p1 &&& (2147483647 : Int32))), (.ref b1), (.ref b1)])) rfl (by rw [hml]; rfl) (Steps.refl _) (a := b1) (argsL := [(.int (p1 &&& (2147483647 : Int32)))]) (rest := [(.ref b1)]) (lenOf pd_0gr_9 rfl) rfl (by show 2 * 0 + _ ≤ _; exact Nat.le_of_eq rfl) (hb hby at_37) (fun _ _ => ⟨rfl, e1, (by decide : 1 + 2 ≤ _), (by decide : 4 + 10 ≤ _)⟩)
  dsimp only [Pt.U, Pt.locs, Pt.cells, Pt.slots] at X2 l2 y2 z2 st2 hQ2
  subst l2 y2 z2
  obtain ⟨mm_2, rfl, N2q, qq2, p2_0, p2_1, p2_2⟩ := hQ2
  have N2 := Fr.app N0 N2q
  have E2_b1 := A1.keep qq2
  have Z2 : n0 ≤ T2.heap.size := Nat.le_trans Z1 qq2.1
  let Lo4 : Array Slot := #[.val (.int p1), .val (.int p2), .val (.int p3), .val (.int (1 : Int32)), .val (.int (1 : Int32)), .val (.ref b1), .unset]
  obtain ⟨_, _, ⟨T3, L3, k3, n3⟩, -, X3, ⟨Lc3, hQ3, l3, y3, z3⟩, st3⟩ := Jvm.LawKit.callS X2 hx (y := (⟨"java/lang/Math", "max", "(II)I"⟩ : MethodName)) hown (mvT hZ w28_) (mvT hZ w29_) (mvT hZ w30_) (mvT hZ w31_) (by decide) (backOf (W := 1) (rm5 l Z a0 hw [] (1 : Int32) (p2 &&& (2147483647 : Int32)) T2.heap n0 Z2 ) hZ w31_ w30_ (by decide) (by decide)) (g := (mkF m 64 Lo4 [(.int (p2 &&& (2147483647 : Int32))), (.int (1 : Int32)), (.ref b1)])) rfl (by rw [hml]; rfl) (argsL := [(.int (1 : Int32)), (.int (p2 &&& (2147483647 : Int32)))]) (rest := [(.ref b1)]) (lenOf pd_0gr_5 rfl) rfl (by show 2 * 0 + _ ≤ _; exact Nat.le_of_eq rfl) (hb hby at_64) (fun _ _ => ⟨rfl, rfl, (by decide : 3 + 0 ≤ _), (by decide : 14 + 0 ≤ _)⟩)
  dsimp only [Pt.U, Pt.locs, Pt.cells, Pt.slots] at X3 l3 y3 z3 st3 hQ3
  subst l3 y3 z3
  obtain ⟨rfl, N3q, qq3⟩ := hQ3
  have N3 := Fr.app N2 N3q
  have e3 : T3.heap = T2.heap := qq3
  obtain ⟨cq4, kq4, q4a, q4b, q4c⟩ := isOf hZ e3 p2_0
  obtain ⟨_, _, ⟨T4, L4, k4, n4⟩, -, X4, ⟨Lc4, hQ4, l4, y4, z4⟩, st4⟩ := X3.virtualBack hx (y := (⟨"com/example/pathmeter/pathmeter/MarkovHistogram$Builder", "withOrder", "(I)Lcom/example/pathmeter/pathmeter/MarkovHistogram$Builder;"⟩ : MethodName)) (z := (⟨"com/example/pathmeter/pathmeter/MarkovHistogram$Builder", "withOrder", "(I)Lcom/example/pathmeter/pathmeter/MarkovHistogram$Builder;"⟩ : MethodName)) hown (mvT hZ w32_) (mvT hZ w33_) (notFace_of_selects (args := #[]) (mvT hZ w35_)) (mvT hZ w35_) (mvT hZ w34_) (by decide) (backOf (W := 0) (rm6r l Z a0 hw [] b1 (own_max (1 : Int32) (p2 &&& (2147483647 : Int32))) (p1 &&& (2147483647 : Int32)) mm_2 T2.heap n0 Z2 p2_1 p2_2 (own_max1 _)) hZ w36_ w2_ (by decide) (by decide)) q4a q4c (g := (mkF m 67 Lo4 [(.int (own_max (1 : Int32) (p2 &&& (2147483647 : Int32)))), (.ref b1)])) rfl (by rw [hml]; rfl) (Steps.refl _) (argsL := [(.int (own_max (1 : Int32) (p2 &&& (2147483647 : Int32))))]) (rest := []) (lenOf pd_0gr_6 rfl) rfl (by show 2 * 0 + _ ≤ _; exact Nat.le_of_eq rfl) (hb hby at_67) (fun _ _ => ⟨rfl, e3, (by decide : 3 + 3 ≤ _), (by decide : 14 + 14 ≤ _)⟩)
  dsimp only [Pt.U, Pt.locs, Pt.cells, Pt.slots] at X4 l4 y4 z4 st4 hQ4
  subst l4 y4 z4
  obtain ⟨bb_4, mm_4, rfl, N4q, qq4, p4_0, p4_1⟩ := hQ4
  have N4 := Fr.app N3 N4q
  have F4_values_b1 := p2_1.keep qq4 (fun hm => by cases hm)
  have F4_topK_b1 := p2_2.keep qq4 (fun hm => by cases hm)
  have E4_b1 := p2_0.keep qq4
  have Z4 : n0 ≤ T4.heap.size := Nat.le_trans Z2 qq4.1
  let Lo5 : Array Slot := #[.val (.int p1), .val (.int p2), .val (.int p3), .val (.int (1 : Int32)), .val (.int (1 : Int32)), .val (.ref bb_4), .unset]
  let Lo6 : Array Slot := #[.val (.int p1), .val (.int p2), .val (.int p3), .val (.int (1 : Int32)), .val (.int (1 : Int32)), .val (.ref bb_4), .val (.int (1048576 : Int32))]
  obtain ⟨cq5, kq5, q5a, q5b, q5c⟩ := isOf hZ rfl p4_0
  obtain ⟨_, _, ⟨T5, L5, k5, n5⟩, -, X5, ⟨Lc5, hQ5, l5, y5, z5⟩, st5⟩ := X4.virtualBack hx (y := (⟨"com/example/pathmeter/pathmeter/MarkovHistogram$Builder", "longestValue", "()I"⟩ : MethodName)) (z := (⟨"com/example/pathmeter/pathmeter/MarkovHistogram$Builder", "longestValue", "()I"⟩ : MethodName)) hown (mvT hZ w42_) (mvT hZ w43_) (notFace_of_selects (args := #[]) (mvT hZ w45_)) (mvT hZ w45_) (mvT hZ w44_) (by decide) (backOf (W := 0) (rm8r l Z a0 hw [] bb_4 mm_4 T4.heap n0 Z4 p4_1) hZ w46_ w2_ (by decide) (by decide)) q5a q5c (g := (mkF m 86 Lo6 [(.ref bb_4)])) rfl (by rw [hml]; rfl) (Steps.refl _) (argsL := []) (rest := []) (lenOf pd_0gr_8 rfl) rfl (by show 2 * 0 + _ ≤ _; exact Nat.le_of_eq rfl) (hb hby at_86) (fun _ _ => ⟨rfl, rfl, (by decide : 6 + 0 ≤ _), (by decide : 28 + 0 ≤ _)⟩)
  dsimp only [Pt.U, Pt.locs, Pt.cells, Pt.slots] at X5 l5 y5 z5 st5 hQ5
  subst l5 y5 z5
  obtain ⟨rfl, N5q, qq5⟩ := hQ5
  have N5 := Fr.app N4 N5q
  have e5 : T5.heap = T4.heap := qq5
  obtain ⟨fs, hr, hrun, hended, hW, hsame⟩ := X5.leave (v := some (.int 1)) (fun h => by rw [Bd.returns] at h; cases h)
  refine ⟨_, _, pre0 _ ?_, hrun, hended, _, _, rfl, ?_, ⟨_, rfl⟩, hW, hsame.mono (by decide) (by decide)⟩
  · show Steps p.tables e below (s₁.setTop (mkF m 0 Lo1 [])) _
    refine XS.iloadN X0.here hx rfl (hb hby at_0) rfl ?_
    show Steps p.tables e below (s₁.setTop (mkF m 1 Lo1 [(.int p3)])) _
    refine XS.iconst X0.here hx rfl (hb hby at_1) ?_
    show Steps p.tables e below (s₁.setTop (mkF m 2 Lo1 [(.int (1 : Int32)), (.int p3)])) _
    refine XS.iand X0.here hx rfl (hb hby at_2) rfl ?_
    show Steps p.tables e below (s₁.setTop (mkF m 3 Lo1 [(.int (p3 &&& (1 : Int32)))])) _
    refine XS.ifNo X0.here hx rfl (hb hby at_3) rfl (Jvm.Free.XT.i0_eq_f hg) ?_
    show Steps p.tables e below (s₁.setTop (mkF m 6 Lo1 [])) _
    refine XS.iconst X0.here hx rfl (hb hby at_6) ?_
    show Steps p.tables e below (s₁.setTop (mkF m 7 Lo1 [(.int (1 : Int32))])) _
    refine XS.goto X0.here hx rfl (pc0 := 7) (pc' := 11) rfl (hb hby at_7) (by decide) (by decide) ?_
    show Steps p.tables e below (s₁.setTop (mkF m 11 Lo1 [(.int (1 : Int32))])) _
    refine XS.istoreN X0.here hx rfl (hb hby at_11) rfl (l' := Lo2) rfl ?_
    show Steps p.tables e below (s₁.setTop (mkF m 12 Lo2 [])) _
    refine XS.iloadN X0.here hx rfl (hb hby at_12) rfl ?_
    show Steps p.tables e below (s₁.setTop (mkF m 13 Lo2 [(.int p3)])) _
    refine XS.iconst X0.here hx rfl (hb hby at_13) ?_
    show Steps p.tables e below (s₁.setTop (mkF m 14 Lo2 [(.int (2 : Int32)), (.int p3)])) _
    refine XS.iand X0.here hx rfl (hb hby at_14) rfl ?_
    show Steps p.tables e below (s₁.setTop (mkF m 15 Lo2 [(.int (p3 &&& (2 : Int32)))])) _
    refine XS.ifNo X0.here hx rfl (hb hby at_15) rfl (Jvm.Free.XT.i0_eq_f ho) ?_
    show Steps p.tables e below (s₁.setTop (mkF m 18 Lo2 [])) _
    refine XS.iconst X0.here hx rfl (hb hby at_18) ?_
    show Steps p.tables e below (s₁.setTop (mkF m 19 Lo2 [(.int (1 : Int32))])) _
    refine XS.goto X0.here hx rfl (pc0 := 19) (pc' := 23) rfl (hb hby at_19) (by decide) (by decide) ?_
    show Steps p.tables e below (s₁.setTop (mkF m 23 Lo2 [(.int (1 : Int32))])) _
    refine XS.istore X0.here hx rfl (hb hby at_23) rfl (l' := Lo3) rfl ?_
    show Steps p.tables e below (s₁.setTop (mkF m 25 Lo3 [])) _
    refine XS.iloadN X0.here hx rfl (hb hby at_25) rfl ?_
    show Steps p.tables e below (s₁.setTop (mkF m 26 Lo3 [(.int (1 : Int32))])) _
    refine XS.ifNo X0.here hx rfl (hb hby at_26) rfl (by first | rfl | decide) ?_
    show Steps p.tables e below (s₁.setTop (mkF m 29 Lo3 [])) _
    refine st1 _ ?_
    show Steps p.tables e below (T1.setTop (mkF m 32 Lo3 [(.ref b1)])) _
    refine XS.dup X1.here hx rfl (hb hby at_32) rfl rfl ?_
    show Steps p.tables e below (T1.setTop (mkF m 33 Lo3 [(.ref b1), (.ref b1)])) _
    refine XS.iloadN X1.here hx rfl (hb hby at_33) rfl ?_
    show Steps p.tables e below (T1.setTop (mkF m 34 Lo3 [(.int p1), (.ref b1), (.ref b1)])) _
    refine X1.ldcInt hx hown (mvT hZ w27_) (g := (mkF m 34 Lo3 [(.int p1), (.ref b1), (.ref b1)])) rfl (hb hby at_34) _ ?_
    show Steps p.tables e below (T1.setTop (mkF m 36 Lo3 [(.int (2147483647 : Int32)), (.int p1), (.ref b1), (.ref b1)])) _
    refine XS.iand X1.here hx rfl (hb hby at_36) rfl ?_
    show Steps p.tables e below (T1.setTop (mkF m 37 Lo3 [(.int (p1 &&& (2147483647 : Int32))), (.ref b1), (.ref b1)])) _
    refine st2.trans ?_
    show Steps p.tables e below (T2.setTop (mkF m 40 Lo3 [(.ref b1)])) _
    refine XS.goto X2.here hx rfl (pc0 := 40) (pc' := 50) rfl (hb hby at_40) (by decide) (by decide) ?_
    show Steps p.tables e below (T2.setTop (mkF m 50 Lo3 [(.ref b1)])) _
    refine XS.astore X2.here hx rfl (hb hby at_50) rfl rfl (l' := Lo4) rfl ?_
    show Steps p.tables e below (T2.setTop (mkF m 52 Lo4 [])) _
    refine XS.iload X2.here hx rfl (hb hby at_52) rfl ?_
    show Steps p.tables e below (T2.setTop (mkF m 54 Lo4 [(.int (1 : Int32))])) _
    refine XS.ifNo X2.here hx rfl (hb hby at_54) rfl (by first | rfl | decide) ?_
    show Steps p.tables e below (T2.setTop (mkF m 57 Lo4 [])) _
    refine XS.aload X2.here hx rfl (hb hby at_57) rfl rfl ?_
    show Steps p.tables e below (T2.setTop (mkF m 59 Lo4 [(.ref b1)])) _
    refine XS.iconst X2.here hx rfl (hb hby at_59) ?_
    show Steps p.tables e below (T2.setTop (mkF m 60 Lo4 [(.int (1 : Int32)), (.ref b1)])) _
    refine XS.iloadN X2.here hx rfl (hb hby at_60) rfl ?_
    show Steps p.tables e below (T2.setTop (mkF m 61 Lo4 [(.int p2), (.int (1 : Int32)), (.ref b1)])) _
    refine X2.ldcInt hx hown (mvT hZ w27_) (g := (mkF m 61 Lo4 [(.int p2), (.int (1 : Int32)), (.ref b1)])) rfl (hb hby at_61) _ ?_
    show Steps p.tables e below (T2.setTop (mkF m 63 Lo4 [(.int (2147483647 : Int32)), (.int p2), (.int (1 : Int32)), (.ref b1)])) _
    refine XS.iand X2.here hx rfl (hb hby at_63) rfl ?_
    show Steps p.tables e below (T2.setTop (mkF m 64 Lo4 [(.int (p2 &&& (2147483647 : Int32))), (.int (1 : Int32)), (.ref b1)])) _
    refine st3 _ ?_
    show Steps p.tables e below (T3.setTop (mkF m 67 Lo4 [(.int (own_max (1 : Int32) (p2 &&& (2147483647 : Int32)))), (.ref b1)])) _
    refine st4.trans ?_
    show Steps p.tables e below (T4.setTop (mkF m 70 Lo4 [(.ref bb_4)])) _
    refine XS.astore X4.here hx rfl (hb hby at_70) rfl rfl (l' := Lo5) rfl ?_
    show Steps p.tables e below (T4.setTop (mkF m 72 Lo5 [])) _
    refine XS.iloadN X4.here hx rfl (hb hby at_72) rfl ?_
    show Steps p.tables e below (T4.setTop (mkF m 73 Lo5 [(.int (1 : Int32))])) _
    refine XS.ifNo X4.here hx rfl (hb hby at_73) rfl (by first | rfl | decide) ?_
    show Steps p.tables e below (T4.setTop (mkF m 76 Lo5 [])) _
    refine X4.ldcInt hx hown (mvT hZ w70_) (g := (mkF m 76 Lo5 [])) rfl (hb hby at_76) _ ?_
    show Steps p.tables e below (T4.setTop (mkF m 78 Lo5 [(.int (1048576 : Int32))])) _
    refine XS.goto X4.here hx rfl (pc0 := 78) (pc' := 82) rfl (hb hby at_78) (by decide) (by decide) ?_
    show Steps p.tables e below (T4.setTop (mkF m 82 Lo5 [(.int (1048576 : Int32))])) _
    refine XS.istore X4.here hx rfl (hb hby at_82) rfl (l' := Lo6) rfl ?_
    show Steps p.tables e below (T4.setTop (mkF m 84 Lo6 [])) _
    refine XS.aload X4.here hx rfl (hb hby at_84) rfl rfl ?_
    show Steps p.tables e below (T4.setTop (mkF m 86 Lo6 [(.ref bb_4)])) _
    refine st5.trans ?_
    show Steps p.tables e below (T5.setTop (mkF m 89 Lo6 [(.int (1048576 : Int32))])) _
    refine XS.iload X5.here hx rfl (hb hby at_89) rfl ?_
    show Steps p.tables e below (T5.setTop (mkF m 91 Lo6 [(.int (1048576 : Int32)), (.int (1048576 : Int32))])) _
    refine XS.icmpNo X5.here hx rfl (hb hby at_91) rfl (by first | rfl | decide) ?_
    show Steps p.tables e below (T5.setTop (mkF m 94 Lo6 [])) _
    refine XS.iconst X5.here hx rfl (hb hby at_94) ?_
    show Steps p.tables e below (T5.setTop (mkF m 95 Lo6 [(.int (1 : Int32))])) _
    refine XS.goto X5.here hx rfl (pc0 := 95) (pc' := 99) rfl (hb hby at_95) (by decide) (by decide) ?_
    show Steps p.tables e below (T5.setTop (mkF m 99 Lo6 [(.int (1 : Int32))])) _
    exact own_retZ X5 hx Bd.returns (hb hby at_99) rfl rfl hr
  · show Q0gr Z p1 p2 p3 h0 n0 _ T5.heap _
    exact ⟨rfl, N5⟩
theorem pn_0gk : plainName "com/example/pathmeter/pathmeter/BuilderLongestValuePinLaw" = true := by first | (simp [plainName, overriddenIn]; done) | decide +kernel
theorem ef_0gk (m : MethodId) (x0 : Int32) (x1 : Int32) (x2 : Int32) : entryFrame m #[(.int x0), (.int x1), (.int x2)] maxLocals = mkF m 0 #[.val (.int x0), .val (.int x1), .val (.int x2), .unset, .unset, .unset, .unset] [] := by first | (simp [entryFrame, mkF, argsToLocals, Value.category, maxLocals]; done) | rfl
theorem pd_0gk_9 : parseMethodDescriptor "(I)V" = some ⟨[.int], none⟩ := by decide +kernel
theorem pd_0gk_8 : parseMethodDescriptor "()I" = some ⟨[], some .int⟩ := by decide +kernel
def Q0gk (Z : State) (p1 : Int32) (p2 : Int32) (p3 : Int32) (h0 : Heap) (n0 : Nat) (v : Option Value) (h : Heap) (L : List Loc) : Prop := v = some (.int 1) ∧ Fr n0 L
set_option maxRecDepth 65536 in
set_option maxHeartbeats 40000000 in
theorem rm0gk (l : Launch) (Z : State) (a0 : Array Value) (hw : ∀ d ∈ tables_1, d.before a0 Z = true) (ws : List Jvm.Cond) (p1 : Int32) (p2 : Int32) (p3 : Int32) (h0 : Heap) (n0 : Nat) (Z0 : n0 ≤ h0.size) (hg : ¬ ((p3 &&& (1 : Int32)) = (0 : Int32))) (ho : ((p3 &&& (2 : Int32)) = (0 : Int32))) :
    MetFree l x (head1 (Jvm.Cond.code x code maxLocals ret :: ws) room_1) (fun a U => a = #[(.int p1), (.int p2), (.int p3)] ∧ Z.Warmed39 U.vm ∧ U.heap = h0) (fun _ _ _ _ _ => True) (fun _ U o U' => ∃ v L, o = .returned v ∧ Q0gk Z p1 p2 p3 h0 n0 v U'.heap L ∧ FrameEnd U o U' L room_1.cells room_1.slots) := by
  refine MetFree.of_bodySF (plainFor_of_name pn_0gk) hisR ?_
  intro p e s m args below meth c s₁ Bd hml0 hP hK
  obtain ⟨rfl, hZ, hh⟩ := hP
  have w0_ := hw _ (List.mem_of_getElem? (i := 0) rfl)
  have w1_ := hw _ (List.mem_of_getElem? (i := 1) rfl)
  have w2_ := hw _ (List.mem_of_getElem? (i := 2) rfl)
  have w20_ := hw _ (List.mem_of_getElem? (i := 20) rfl)
  have w22_ := hw _ (List.mem_of_getElem? (i := 22) rfl)
  have w24_ := hw _ (List.mem_of_getElem? (i := 24) rfl)
  have w26_ := hw _ (List.mem_of_getElem? (i := 26) rfl)
  have w27_ := hw _ (List.mem_of_getElem? (i := 27) rfl)
  have w42_ := hw _ (List.mem_of_getElem? (i := 42) rfl)
  have w43_ := hw _ (List.mem_of_getElem? (i := 43) rfl)
  have w44_ := hw _ (List.mem_of_getElem? (i := 44) rfl)
  have w45_ := hw _ (List.mem_of_getElem? (i := 45) rfl)
  have w46_ := hw _ (List.mem_of_getElem? (i := 46) rfl)
  have w47_ := hw _ (List.mem_of_getElem? (i := 47) rfl)
  have w48_ := hw _ (List.mem_of_getElem? (i := 48) rfl)
  have w49_ := hw _ (List.mem_of_getElem? (i := 49) rfl)
  have w70_ := hw _ (List.mem_of_getElem? (i := 70) rfl)
  have hx := Bd.exec
  have hby := Bd.bytes
  have hml : c.maxLocals = 7 := hml0
  have hown : s.vm.findClass "com/example/pathmeter/pathmeter/BuilderLongestValuePinLaw" = some m.cls := findClass_of_methodNamed Bd.named
  have hnm := (name_of_methodNamed Bd.named Bd.method).1
  have X0 : Stand p l e room_1 s m #[(.int p1), (.int p2), (.int p3)] below meth c s₁ [] 0 0 := Stand.of_body Bd
  have e0 : s₁.heap = h0 := by rw [← hh, Bd.state]; rfl
  have N0 := Fr.nil n0
  have pre0 : ∀ t, Steps p.tables e below (s₁.setTop (mkF m 0 #[.val (.int p1), .val (.int p2), .val (.int p3), .unset, .unset, .unset, .unset] [])) t → Steps p.tables e below (s₁.setTop (entryFrame m #[(.int p1), (.int p2), (.int p3)] maxLocals)) t := fun t k => castTop (ef_0gk m p1 p2 p3) k
  let Lo1 : Array Slot := #[.val (.int p1), .val (.int p2), .val (.int p3), .unset, .unset, .unset, .unset]
  let Lo2 : Array Slot := #[.val (.int p1), .val (.int p2), .val (.int p3), .val (.int (1 : Int32)), .unset, .unset, .unset]
  let Lo3 : Array Slot := #[.val (.int p1), .val (.int p2), .val (.int p3), .val (.int (1 : Int32)), .val (.int (0 : Int32)), .unset, .unset]
  obtain ⟨T1, h1, X1, e1, E1, A1, D1, -, st1⟩ := newO X0 hx hZ hown w0_ w1_ w2_ e0 (g := (mkF m 29 Lo3 [])) rfl (hb hby at_29) (by decide) (by decide)
  obtain ⟨b1, g1⟩ : ∃ z, z = h0.size := ⟨_, rfl⟩
  rw [← g1] at A1 D1 st1
  have g_b1 : n0 ≤ b1 := Nat.le_trans Z0 (Nat.le_of_eq g1.symm)
  have Z1 : n0 ≤ h1.size := Nat.le_trans Z0 E1.1
  have F1_paths_b1 : Fld Z h1 b1 "com/example/pathmeter/pathmeter/MarkovHistogram$Builder" "paths" "Lcom/example/pathmeter/pathmeter/MarkovHistogram$Tally;" .null := D1 (Or.inr w20_) (ty := (.object "com/example/pathmeter/pathmeter/MarkovHistogram$Tally")) (by decide)
  have F1_order_b1 : Fld Z h1 b1 "com/example/pathmeter/pathmeter/MarkovHistogram$Builder" "order" "I" (.int (0 : Int32)) := D1 (Or.inr w22_) (ty := .int) (by decide)
  have F1_values_b1 : Fld Z h1 b1 "com/example/pathmeter/pathmeter/MarkovHistogram$Builder" "values" "Ljava/util/Map;" .null := D1 (Or.inr w24_) (ty := (.object "java/util/Map")) (by decide)
  have F1_topK_b1 : Fld Z h1 b1 "com/example/pathmeter/pathmeter/MarkovHistogram$Builder" "topK" "I" (.int (0 : Int32)) := D1 (Or.inr w26_) (ty := .int) (by decide)
  obtain ⟨_, _, ⟨T2, L2, k2, n2⟩, -, X2, ⟨Lc2, hQ2, l2, y2, z2⟩, st2⟩ := X1.specialBack hx (y := (⟨"com/example/pathmeter/pathmeter/MarkovHistogram$Builder", "<init>", "(I)V"⟩ : MethodName)) rfl hown (mvT hZ w47_) (mvT hZ w48_) (mvT hZ w49_) (by decide) (backOf (W := 1) (rm9 l Z a0 hw [] b1 (p1 &&& (2147483647 : Int32)) h1 n0 Z1 A1 F1_paths_b1 F1_order_b1 F1_values_b1 F1_topK_b1 g_b1 (own_pos p1)) hZ w49_ w2_ (by decide) (by decide)) (g := (mkF m 37 Lo3 [(.int (p1 &&& (2147483647 : Int32))), (.ref b1), (.ref b1)])) rfl (by rw [hml]; rfl) (Steps.refl _) (a := b1) (argsL := [(.int (p1 &&& (2147483647 : Int32)))]) (rest := [(.ref b1)]) (lenOf pd_0gk_9 rfl) rfl (by show 2 * 0 + _ ≤ _; exact Nat.le_of_eq rfl) (hb hby at_37) (fun _ _ => ⟨rfl, e1, (by decide : 1 + 2 ≤ _), (by decide : 4 + 10 ≤ _)⟩)
  dsimp only [Pt.U, Pt.locs, Pt.cells, Pt.slots] at X2 l2 y2 z2 st2 hQ2
  subst l2 y2 z2
  obtain ⟨mm_2, rfl, N2q, qq2, p2_0, p2_1, p2_2⟩ := hQ2
  have N2 := Fr.app N0 N2q
  have E2_b1 := A1.keep qq2
  have Z2 : n0 ≤ T2.heap.size := Nat.le_trans Z1 qq2.1
  let Lo4 : Array Slot := #[.val (.int p1), .val (.int p2), .val (.int p3), .val (.int (1 : Int32)), .val (.int (0 : Int32)), .val (.ref b1), .unset]
  let Lo5 : Array Slot := #[.val (.int p1), .val (.int p2), .val (.int p3), .val (.int (1 : Int32)), .val (.int (0 : Int32)), .val (.ref b1), .val (.int (1048576 : Int32))]
  obtain ⟨cq3, kq3, q3a, q3b, q3c⟩ := isOf hZ rfl p2_0
  obtain ⟨_, _, ⟨T3, L3, k3, n3⟩, -, X3, ⟨Lc3, hQ3, l3, y3, z3⟩, st3⟩ := X2.virtualBack hx (y := (⟨"com/example/pathmeter/pathmeter/MarkovHistogram$Builder", "longestValue", "()I"⟩ : MethodName)) (z := (⟨"com/example/pathmeter/pathmeter/MarkovHistogram$Builder", "longestValue", "()I"⟩ : MethodName)) hown (mvT hZ w42_) (mvT hZ w43_) (notFace_of_selects (args := #[]) (mvT hZ w45_)) (mvT hZ w45_) (mvT hZ w44_) (by decide) (backOf (W := 0) (rm8r l Z a0 hw [] b1 mm_2 T2.heap n0 Z2 p2_1) hZ w46_ w2_ (by decide) (by decide)) q3a q3c (g := (mkF m 86 Lo5 [(.ref b1)])) rfl (by rw [hml]; rfl) (Steps.refl _) (argsL := []) (rest := []) (lenOf pd_0gk_8 rfl) rfl (by show 2 * 0 + _ ≤ _; exact Nat.le_of_eq rfl) (hb hby at_86) (fun _ _ => ⟨rfl, rfl, (by decide : 3 + 0 ≤ _), (by decide : 14 + 0 ≤ _)⟩)
  dsimp only [Pt.U, Pt.locs, Pt.cells, Pt.slots] at X3 l3 y3 z3 st3 hQ3
  subst l3 y3 z3
  obtain ⟨rfl, N3q, qq3⟩ := hQ3
  have N3 := Fr.app N2 N3q
  have e3 : T3.heap = T2.heap := qq3
  obtain ⟨fs, hr, hrun, hended, hW, hsame⟩ := X3.leave (v := some (.int 1)) (fun h => by rw [Bd.returns] at h; cases h)
  refine ⟨_, _, pre0 _ ?_, hrun, hended, _, _, rfl, ?_, ⟨_, rfl⟩, hW, hsame.mono (by decide) (by decide)⟩
  · show Steps p.tables e below (s₁.setTop (mkF m 0 Lo1 [])) _
    refine XS.iloadN X0.here hx rfl (hb hby at_0) rfl ?_
    show Steps p.tables e below (s₁.setTop (mkF m 1 Lo1 [(.int p3)])) _
    refine XS.iconst X0.here hx rfl (hb hby at_1) ?_
    show Steps p.tables e below (s₁.setTop (mkF m 2 Lo1 [(.int (1 : Int32)), (.int p3)])) _
    refine XS.iand X0.here hx rfl (hb hby at_2) rfl ?_
    show Steps p.tables e below (s₁.setTop (mkF m 3 Lo1 [(.int (p3 &&& (1 : Int32)))])) _
    refine XS.ifNo X0.here hx rfl (hb hby at_3) rfl (Jvm.Free.XT.i0_eq_f hg) ?_
    show Steps p.tables e below (s₁.setTop (mkF m 6 Lo1 [])) _
    refine XS.iconst X0.here hx rfl (hb hby at_6) ?_
    show Steps p.tables e below (s₁.setTop (mkF m 7 Lo1 [(.int (1 : Int32))])) _
    refine XS.goto X0.here hx rfl (pc0 := 7) (pc' := 11) rfl (hb hby at_7) (by decide) (by decide) ?_
    show Steps p.tables e below (s₁.setTop (mkF m 11 Lo1 [(.int (1 : Int32))])) _
    refine XS.istoreN X0.here hx rfl (hb hby at_11) rfl (l' := Lo2) rfl ?_
    show Steps p.tables e below (s₁.setTop (mkF m 12 Lo2 [])) _
    refine XS.iloadN X0.here hx rfl (hb hby at_12) rfl ?_
    show Steps p.tables e below (s₁.setTop (mkF m 13 Lo2 [(.int p3)])) _
    refine XS.iconst X0.here hx rfl (hb hby at_13) ?_
    show Steps p.tables e below (s₁.setTop (mkF m 14 Lo2 [(.int (2 : Int32)), (.int p3)])) _
    refine XS.iand X0.here hx rfl (hb hby at_14) rfl ?_
    show Steps p.tables e below (s₁.setTop (mkF m 15 Lo2 [(.int (p3 &&& (2 : Int32)))])) _
    refine XS.ifYes X0.here hx rfl (pc0 := 15) (pc' := 22) rfl (hb hby at_15) rfl (Jvm.Free.XT.i0_eq_t ho) (by decide) (by decide) ?_
    show Steps p.tables e below (s₁.setTop (mkF m 22 Lo2 [])) _
    refine XS.iconst X0.here hx rfl (hb hby at_22) ?_
    show Steps p.tables e below (s₁.setTop (mkF m 23 Lo2 [(.int (0 : Int32))])) _
    refine XS.istore X0.here hx rfl (hb hby at_23) rfl (l' := Lo3) rfl ?_
    show Steps p.tables e below (s₁.setTop (mkF m 25 Lo3 [])) _
    refine XS.iloadN X0.here hx rfl (hb hby at_25) rfl ?_
    show Steps p.tables e below (s₁.setTop (mkF m 26 Lo3 [(.int (1 : Int32))])) _
    refine XS.ifNo X0.here hx rfl (hb hby at_26) rfl (by first | rfl | decide) ?_
    show Steps p.tables e below (s₁.setTop (mkF m 29 Lo3 [])) _
    refine st1 _ ?_
    show Steps p.tables e below (T1.setTop (mkF m 32 Lo3 [(.ref b1)])) _
    refine XS.dup X1.here hx rfl (hb hby at_32) rfl rfl ?_
    show Steps p.tables e below (T1.setTop (mkF m 33 Lo3 [(.ref b1), (.ref b1)])) _
    refine XS.iloadN X1.here hx rfl (hb hby at_33) rfl ?_
    show Steps p.tables e below (T1.setTop (mkF m 34 Lo3 [(.int p1), (.ref b1), (.ref b1)])) _
    refine X1.ldcInt hx hown (mvT hZ w27_) (g := (mkF m 34 Lo3 [(.int p1), (.ref b1), (.ref b1)])) rfl (hb hby at_34) _ ?_
    show Steps p.tables e below (T1.setTop (mkF m 36 Lo3 [(.int (2147483647 : Int32)), (.int p1), (.ref b1), (.ref b1)])) _
    refine XS.iand X1.here hx rfl (hb hby at_36) rfl ?_
    show Steps p.tables e below (T1.setTop (mkF m 37 Lo3 [(.int (p1 &&& (2147483647 : Int32))), (.ref b1), (.ref b1)])) _
    refine st2.trans ?_
    show Steps p.tables e below (T2.setTop (mkF m 40 Lo3 [(.ref b1)])) _
    refine XS.goto X2.here hx rfl (pc0 := 40) (pc' := 50) rfl (hb hby at_40) (by decide) (by decide) ?_
    show Steps p.tables e below (T2.setTop (mkF m 50 Lo3 [(.ref b1)])) _
    refine XS.astore X2.here hx rfl (hb hby at_50) rfl rfl (l' := Lo4) rfl ?_
    show Steps p.tables e below (T2.setTop (mkF m 52 Lo4 [])) _
    refine XS.iload X2.here hx rfl (hb hby at_52) rfl ?_
    show Steps p.tables e below (T2.setTop (mkF m 54 Lo4 [(.int (0 : Int32))])) _
    refine XS.ifYes X2.here hx rfl (pc0 := 54) (pc' := 72) rfl (hb hby at_54) rfl (by first | rfl | decide) (by decide) (by decide) ?_
    show Steps p.tables e below (T2.setTop (mkF m 72 Lo4 [])) _
    refine XS.iloadN X2.here hx rfl (hb hby at_72) rfl ?_
    show Steps p.tables e below (T2.setTop (mkF m 73 Lo4 [(.int (1 : Int32))])) _
    refine XS.ifNo X2.here hx rfl (hb hby at_73) rfl (by first | rfl | decide) ?_
    show Steps p.tables e below (T2.setTop (mkF m 76 Lo4 [])) _
    refine X2.ldcInt hx hown (mvT hZ w70_) (g := (mkF m 76 Lo4 [])) rfl (hb hby at_76) _ ?_
    show Steps p.tables e below (T2.setTop (mkF m 78 Lo4 [(.int (1048576 : Int32))])) _
    refine XS.goto X2.here hx rfl (pc0 := 78) (pc' := 82) rfl (hb hby at_78) (by decide) (by decide) ?_
    show Steps p.tables e below (T2.setTop (mkF m 82 Lo4 [(.int (1048576 : Int32))])) _
    refine XS.istore X2.here hx rfl (hb hby at_82) rfl (l' := Lo5) rfl ?_
    show Steps p.tables e below (T2.setTop (mkF m 84 Lo5 [])) _
    refine XS.aload X2.here hx rfl (hb hby at_84) rfl rfl ?_
    show Steps p.tables e below (T2.setTop (mkF m 86 Lo5 [(.ref b1)])) _
    refine st3.trans ?_
    show Steps p.tables e below (T3.setTop (mkF m 89 Lo5 [(.int (1048576 : Int32))])) _
    refine XS.iload X3.here hx rfl (hb hby at_89) rfl ?_
    show Steps p.tables e below (T3.setTop (mkF m 91 Lo5 [(.int (1048576 : Int32)), (.int (1048576 : Int32))])) _
    refine XS.icmpNo X3.here hx rfl (hb hby at_91) rfl (by first | rfl | decide) ?_
    show Steps p.tables e below (T3.setTop (mkF m 94 Lo5 [])) _
    refine XS.iconst X3.here hx rfl (hb hby at_94) ?_
    show Steps p.tables e below (T3.setTop (mkF m 95 Lo5 [(.int (1 : Int32))])) _
    refine XS.goto X3.here hx rfl (pc0 := 95) (pc' := 99) rfl (hb hby at_95) (by decide) (by decide) ?_
    show Steps p.tables e below (T3.setTop (mkF m 99 Lo5 [(.int (1 : Int32))])) _
    exact own_retZ X3 hx Bd.returns (hb hby at_99) rfl rfl hr
  · show Q0gk Z p1 p2 p3 h0 n0 _ T3.heap _
    exact ⟨rfl, N3⟩
theorem pn_0pr : plainName "com/example/pathmeter/pathmeter/BuilderLongestValuePinLaw" = true := by first | (simp [plainName, overriddenIn]; done) | decide +kernel
theorem ef_0pr (m : MethodId) (x0 : Int32) (x1 : Int32) (x2 : Int32) : entryFrame m #[(.int x0), (.int x1), (.int x2)] maxLocals = mkF m 0 #[.val (.int x0), .val (.int x1), .val (.int x2), .unset, .unset, .unset, .unset] [] := by first | (simp [entryFrame, mkF, argsToLocals, Value.category, maxLocals]; done) | rfl
theorem pd_0pr_1 : parseMethodDescriptor "()V" = some ⟨[], none⟩ := by decide +kernel
theorem pd_0pr_5 : parseMethodDescriptor "(II)I" = some ⟨[.int, .int], some .int⟩ := by decide +kernel
theorem pd_0pr_6 : parseMethodDescriptor "(I)Lcom/example/pathmeter/pathmeter/MarkovHistogram$Builder;" = some ⟨[.int], some (.object "com/example/pathmeter/pathmeter/MarkovHistogram$Builder")⟩ := by decide +kernel
theorem pd_0pr_8 : parseMethodDescriptor "()I" = some ⟨[], some .int⟩ := by decide +kernel
def Q0pr (Z : State) (p1 : Int32) (p2 : Int32) (p3 : Int32) (h0 : Heap) (n0 : Nat) (v : Option Value) (h : Heap) (L : List Loc) : Prop := v = some (.int 1) ∧ Fr n0 L
set_option maxRecDepth 65536 in
set_option maxHeartbeats 40000000 in
theorem rm0pr (l : Launch) (Z : State) (a0 : Array Value) (hw : ∀ d ∈ tables_1, d.before a0 Z = true) (ws : List Jvm.Cond) (p1 : Int32) (p2 : Int32) (p3 : Int32) (h0 : Heap) (n0 : Nat) (Z0 : n0 ≤ h0.size) (hg : ((p3 &&& (1 : Int32)) = (0 : Int32))) (ho : ¬ ((p3 &&& (2 : Int32)) = (0 : Int32))) :
    MetFree l x (head1 (Jvm.Cond.code x code maxLocals ret :: ws) room_1) (fun a U => a = #[(.int p1), (.int p2), (.int p3)] ∧ Z.Warmed39 U.vm ∧ U.heap = h0) (fun _ _ _ _ _ => True) (fun _ U o U' => ∃ v L, o = .returned v ∧ Q0pr Z p1 p2 p3 h0 n0 v U'.heap L ∧ FrameEnd U o U' L room_1.cells room_1.slots) := by
  refine MetFree.of_bodySF (plainFor_of_name pn_0pr) hisR ?_
  intro p e s m args below meth c s₁ Bd hml0 hP hK
  obtain ⟨rfl, hZ, hh⟩ := hP
  have w0_ := hw _ (List.mem_of_getElem? (i := 0) rfl)
  have w1_ := hw _ (List.mem_of_getElem? (i := 1) rfl)
  have w2_ := hw _ (List.mem_of_getElem? (i := 2) rfl)
  have w3_ := hw _ (List.mem_of_getElem? (i := 3) rfl)
  have w4_ := hw _ (List.mem_of_getElem? (i := 4) rfl)
  have w5_ := hw _ (List.mem_of_getElem? (i := 5) rfl)
  have w20_ := hw _ (List.mem_of_getElem? (i := 20) rfl)
  have w22_ := hw _ (List.mem_of_getElem? (i := 22) rfl)
  have w24_ := hw _ (List.mem_of_getElem? (i := 24) rfl)
  have w26_ := hw _ (List.mem_of_getElem? (i := 26) rfl)
  have w27_ := hw _ (List.mem_of_getElem? (i := 27) rfl)
  have w28_ := hw _ (List.mem_of_getElem? (i := 28) rfl)
  have w29_ := hw _ (List.mem_of_getElem? (i := 29) rfl)
  have w30_ := hw _ (List.mem_of_getElem? (i := 30) rfl)
  have w31_ := hw _ (List.mem_of_getElem? (i := 31) rfl)
  have w32_ := hw _ (List.mem_of_getElem? (i := 32) rfl)
  have w33_ := hw _ (List.mem_of_getElem? (i := 33) rfl)
  have w34_ := hw _ (List.mem_of_getElem? (i := 34) rfl)
  have w35_ := hw _ (List.mem_of_getElem? (i := 35) rfl)
  have w36_ := hw _ (List.mem_of_getElem? (i := 36) rfl)
  have w42_ := hw _ (List.mem_of_getElem? (i := 42) rfl)
  have w43_ := hw _ (List.mem_of_getElem? (i := 43) rfl)
  have w44_ := hw _ (List.mem_of_getElem? (i := 44) rfl)
  have w45_ := hw _ (List.mem_of_getElem? (i := 45) rfl)
  have w46_ := hw _ (List.mem_of_getElem? (i := 46) rfl)
  have hx := Bd.exec
  have hby := Bd.bytes
  have hml : c.maxLocals = 7 := hml0
  have hown : s.vm.findClass "com/example/pathmeter/pathmeter/BuilderLongestValuePinLaw" = some m.cls := findClass_of_methodNamed Bd.named
  have hnm := (name_of_methodNamed Bd.named Bd.method).1
  have X0 : Stand p l e room_1 s m #[(.int p1), (.int p2), (.int p3)] below meth c s₁ [] 0 0 := Stand.of_body Bd
  have e0 : s₁.heap = h0 := by rw [← hh, Bd.state]; rfl
  have N0 := Fr.nil n0
  have pre0 : ∀ t, Steps p.tables e below (s₁.setTop (mkF m 0 #[.val (.int p1), .val (.int p2), .val (.int p3), .unset, .unset, .unset, .unset] [])) t → Steps p.tables e below (s₁.setTop (entryFrame m #[(.int p1), (.int p2), (.int p3)] maxLocals)) t := fun t k => castTop (ef_0pr m p1 p2 p3) k
  let Lo1 : Array Slot := #[.val (.int p1), .val (.int p2), .val (.int p3), .unset, .unset, .unset, .unset]
  let Lo2 : Array Slot := #[.val (.int p1), .val (.int p2), .val (.int p3), .val (.int (0 : Int32)), .unset, .unset, .unset]
  let Lo3 : Array Slot := #[.val (.int p1), .val (.int p2), .val (.int p3), .val (.int (0 : Int32)), .val (.int (1 : Int32)), .unset, .unset]
  obtain ⟨T1, h1, X1, e1, E1, A1, D1, -, st1⟩ := newO X0 hx hZ hown w0_ w1_ w2_ e0 (g := (mkF m 43 Lo3 [])) rfl (hb hby at_43) (by decide) (by decide)
  obtain ⟨b1, g1⟩ : ∃ z, z = h0.size := ⟨_, rfl⟩
  rw [← g1] at A1 D1 st1
  have g_b1 : n0 ≤ b1 := Nat.le_trans Z0 (Nat.le_of_eq g1.symm)
  have Z1 : n0 ≤ h1.size := Nat.le_trans Z0 E1.1
  have F1_paths_b1 : Fld Z h1 b1 "com/example/pathmeter/pathmeter/MarkovHistogram$Builder" "paths" "Lcom/example/pathmeter/pathmeter/MarkovHistogram$Tally;" .null := D1 (Or.inr w20_) (ty := (.object "com/example/pathmeter/pathmeter/MarkovHistogram$Tally")) (by decide)
  have F1_order_b1 : Fld Z h1 b1 "com/example/pathmeter/pathmeter/MarkovHistogram$Builder" "order" "I" (.int (0 : Int32)) := D1 (Or.inr w22_) (ty := .int) (by decide)
  have F1_values_b1 : Fld Z h1 b1 "com/example/pathmeter/pathmeter/MarkovHistogram$Builder" "values" "Ljava/util/Map;" .null := D1 (Or.inr w24_) (ty := (.object "java/util/Map")) (by decide)
  have F1_topK_b1 : Fld Z h1 b1 "com/example/pathmeter/pathmeter/MarkovHistogram$Builder" "topK" "I" (.int (0 : Int32)) := D1 (Or.inr w26_) (ty := .int) (by decide)
  obtain ⟨_, _, ⟨T2, L2, k2, n2⟩, -, X2, ⟨Lc2, hQ2, l2, y2, z2⟩, st2⟩ := X1.specialBack hx (y := (⟨"com/example/pathmeter/pathmeter/MarkovHistogram$Builder", "<init>", "()V"⟩ : MethodName)) rfl hown (mvT hZ w3_) (mvT hZ w4_) (mvT hZ w5_) (by decide) (backOf (W := 1) (rm1 l Z a0 hw [] b1 h1 n0 Z1 A1 F1_paths_b1 F1_order_b1 F1_values_b1 F1_topK_b1 g_b1) hZ w5_ w2_ (by decide) (by decide)) (g := (mkF m 47 Lo3 [(.ref b1), (.ref b1)])) rfl (by rw [hml]; rfl) (Steps.refl _) (a := b1) (argsL := []) (rest := [(.ref b1)]) (lenOf pd_0pr_1 rfl) rfl (by show 2 * 0 + _ ≤ _; exact Nat.le_of_eq rfl) (hb hby at_47) (fun _ _ => ⟨rfl, e1, (by decide : 1 + 1 ≤ _), (by decide : 4 + 2 ≤ _)⟩)
  dsimp only [Pt.U, Pt.locs, Pt.cells, Pt.slots] at X2 l2 y2 z2 st2 hQ2
  subst l2 y2 z2
  obtain ⟨rfl, N2q, qq2, p2_0, p2_1, p2_2⟩ := hQ2
  have N2 := Fr.app N0 N2q
  have E2_b1 := A1.keep qq2
  have Z2 : n0 ≤ T2.heap.size := Nat.le_trans Z1 qq2.1
  let Lo4 : Array Slot := #[.val (.int p1), .val (.int p2), .val (.int p3), .val (.int (0 : Int32)), .val (.int (1 : Int32)), .val (.ref b1), .unset]
  obtain ⟨_, _, ⟨T3, L3, k3, n3⟩, -, X3, ⟨Lc3, hQ3, l3, y3, z3⟩, st3⟩ := Jvm.LawKit.callS X2 hx (y := (⟨"java/lang/Math", "max", "(II)I"⟩ : MethodName)) hown (mvT hZ w28_) (mvT hZ w29_) (mvT hZ w30_) (mvT hZ w31_) (by decide) (backOf (W := 1) (rm5 l Z a0 hw [] (1 : Int32) (p2 &&& (2147483647 : Int32)) T2.heap n0 Z2 ) hZ w31_ w30_ (by decide) (by decide)) (g := (mkF m 64 Lo4 [(.int (p2 &&& (2147483647 : Int32))), (.int (1 : Int32)), (.ref b1)])) rfl (by rw [hml]; rfl) (argsL := [(.int (1 : Int32)), (.int (p2 &&& (2147483647 : Int32)))]) (rest := [(.ref b1)]) (lenOf pd_0pr_5 rfl) rfl (by show 2 * 0 + _ ≤ _; exact Nat.le_of_eq rfl) (hb hby at_64) (fun _ _ => ⟨rfl, rfl, (by decide : 2 + 0 ≤ _), (by decide : 6 + 0 ≤ _)⟩)
  dsimp only [Pt.U, Pt.locs, Pt.cells, Pt.slots] at X3 l3 y3 z3 st3 hQ3
  subst l3 y3 z3
  obtain ⟨rfl, N3q, qq3⟩ := hQ3
  have N3 := Fr.app N2 N3q
  have e3 : T3.heap = T2.heap := qq3
  obtain ⟨cq4, kq4, q4a, q4b, q4c⟩ := isOf hZ e3 p2_0
  obtain ⟨_, _, ⟨T4, L4, k4, n4⟩, -, X4, ⟨Lc4, hQ4, l4, y4, z4⟩, st4⟩ := X3.virtualBack hx (y := (⟨"com/example/pathmeter/pathmeter/MarkovHistogram$Builder", "withOrder", "(I)Lcom/example/pathmeter/pathmeter/MarkovHistogram$Builder;"⟩ : MethodName)) (z := (⟨"com/example/pathmeter/pathmeter/MarkovHistogram$Builder", "withOrder", "(I)Lcom/example/pathmeter/pathmeter/MarkovHistogram$Builder;"⟩ : MethodName)) hown (mvT hZ w32_) (mvT hZ w33_) (notFace_of_selects (args := #[]) (mvT hZ w35_)) (mvT hZ w35_) (mvT hZ w34_) (by decide) (backOf (W := 0) (rm6n l Z a0 hw [] b1 (own_max (1 : Int32) (p2 &&& (2147483647 : Int32))) (0 : Int32) T2.heap n0 Z2 p2_1 p2_2 (own_max1 _)) hZ w36_ w2_ (by decide) (by decide)) q4a q4c (g := (mkF m 67 Lo4 [(.int (own_max (1 : Int32) (p2 &&& (2147483647 : Int32)))), (.ref b1)])) rfl (by rw [hml]; rfl) (Steps.refl _) (argsL := [(.int (own_max (1 : Int32) (p2 &&& (2147483647 : Int32))))]) (rest := []) (lenOf pd_0pr_6 rfl) rfl (by show 2 * 0 + _ ≤ _; exact Nat.le_of_eq rfl) (hb hby at_67) (fun _ _ => ⟨rfl, e3, (by decide : 2 + 2 ≤ _), (by decide : 6 + 6 ≤ _)⟩)
  dsimp only [Pt.U, Pt.locs, Pt.cells, Pt.slots] at X4 l4 y4 z4 st4 hQ4
  subst l4 y4 z4
  obtain ⟨bb_4, rfl, N4q, qq4, p4_0, p4_1⟩ := hQ4
  have N4 := Fr.app N3 N4q
  have F4_values_b1 := p2_1.keep qq4 (fun hm => by cases hm)
  have F4_topK_b1 := p2_2.keep qq4 (fun hm => by cases hm)
  have E4_b1 := p2_0.keep qq4
  have Z4 : n0 ≤ T4.heap.size := Nat.le_trans Z2 qq4.1
  let Lo5 : Array Slot := #[.val (.int p1), .val (.int p2), .val (.int p3), .val (.int (0 : Int32)), .val (.int (1 : Int32)), .val (.ref bb_4), .unset]
  let Lo6 : Array Slot := #[.val (.int p1), .val (.int p2), .val (.int p3), .val (.int (0 : Int32)), .val (.int (1 : Int32)), .val (.ref bb_4), .val (.int (0 : Int32))]
  obtain ⟨cq5, kq5, q5a, q5b, q5c⟩ := isOf hZ rfl p4_0
  obtain ⟨_, _, ⟨T5, L5, k5, n5⟩, -, X5, ⟨Lc5, hQ5, l5, y5, z5⟩, st5⟩ := X4.virtualBack hx (y := (⟨"com/example/pathmeter/pathmeter/MarkovHistogram$Builder", "longestValue", "()I"⟩ : MethodName)) (z := (⟨"com/example/pathmeter/pathmeter/MarkovHistogram$Builder", "longestValue", "()I"⟩ : MethodName)) hown (mvT hZ w42_) (mvT hZ w43_) (notFace_of_selects (args := #[]) (mvT hZ w45_)) (mvT hZ w45_) (mvT hZ w44_) (by decide) (backOf (W := 0) (rm8n l Z a0 hw [] bb_4 T4.heap n0 Z4 p4_1) hZ w46_ w2_ (by decide) (by decide)) q5a q5c (g := (mkF m 86 Lo6 [(.ref bb_4)])) rfl (by rw [hml]; rfl) (Steps.refl _) (argsL := []) (rest := []) (lenOf pd_0pr_8 rfl) rfl (by show 2 * 0 + _ ≤ _; exact Nat.le_of_eq rfl) (hb hby at_86) (fun _ _ => ⟨rfl, rfl, (by decide : 4 + 0 ≤ _), (by decide : 12 + 0 ≤ _)⟩)
  dsimp only [Pt.U, Pt.locs, Pt.cells, Pt.slots] at X5 l5 y5 z5 st5 hQ5
  subst l5 y5 z5
  obtain ⟨rfl, N5q, qq5⟩ := hQ5
  have N5 := Fr.app N4 N5q
  have e5 : T5.heap = T4.heap := qq5
  obtain ⟨fs, hr, hrun, hended, hW, hsame⟩ := X5.leave (v := some (.int 1)) (fun h => by rw [Bd.returns] at h; cases h)
  refine ⟨_, _, pre0 _ ?_, hrun, hended, _, _, rfl, ?_, ⟨_, rfl⟩, hW, hsame.mono (by decide) (by decide)⟩
  · show Steps p.tables e below (s₁.setTop (mkF m 0 Lo1 [])) _
    refine XS.iloadN X0.here hx rfl (hb hby at_0) rfl ?_
    show Steps p.tables e below (s₁.setTop (mkF m 1 Lo1 [(.int p3)])) _
    refine XS.iconst X0.here hx rfl (hb hby at_1) ?_
    show Steps p.tables e below (s₁.setTop (mkF m 2 Lo1 [(.int (1 : Int32)), (.int p3)])) _
    refine XS.iand X0.here hx rfl (hb hby at_2) rfl ?_
    show Steps p.tables e below (s₁.setTop (mkF m 3 Lo1 [(.int (p3 &&& (1 : Int32)))])) _
    refine XS.ifYes X0.here hx rfl (pc0 := 3) (pc' := 10) rfl (hb hby at_3) rfl (Jvm.Free.XT.i0_eq_t hg) (by decide) (by decide) ?_
    show Steps p.tables e below (s₁.setTop (mkF m 10 Lo1 [])) _
    refine XS.iconst X0.here hx rfl (hb hby at_10) ?_
    show Steps p.tables e below (s₁.setTop (mkF m 11 Lo1 [(.int (0 : Int32))])) _
    refine XS.istoreN X0.here hx rfl (hb hby at_11) rfl (l' := Lo2) rfl ?_
    show Steps p.tables e below (s₁.setTop (mkF m 12 Lo2 [])) _
    refine XS.iloadN X0.here hx rfl (hb hby at_12) rfl ?_
    show Steps p.tables e below (s₁.setTop (mkF m 13 Lo2 [(.int p3)])) _
    refine XS.iconst X0.here hx rfl (hb hby at_13) ?_
    show Steps p.tables e below (s₁.setTop (mkF m 14 Lo2 [(.int (2 : Int32)), (.int p3)])) _
    refine XS.iand X0.here hx rfl (hb hby at_14) rfl ?_
    show Steps p.tables e below (s₁.setTop (mkF m 15 Lo2 [(.int (p3 &&& (2 : Int32)))])) _
    refine XS.ifNo X0.here hx rfl (hb hby at_15) rfl (Jvm.Free.XT.i0_eq_f ho) ?_
    show Steps p.tables e below (s₁.setTop (mkF m 18 Lo2 [])) _
    refine XS.iconst X0.here hx rfl (hb hby at_18) ?_
    show Steps p.tables e below (s₁.setTop (mkF m 19 Lo2 [(.int (1 : Int32))])) _
    refine XS.goto X0.here hx rfl (pc0 := 19) (pc' := 23) rfl (hb hby at_19) (by decide) (by decide) ?_
    show Steps p.tables e below (s₁.setTop (mkF m 23 Lo2 [(.int (1 : Int32))])) _
    refine XS.istore X0.here hx rfl (hb hby at_23) rfl (l' := Lo3) rfl ?_
    show Steps p.tables e below (s₁.setTop (mkF m 25 Lo3 [])) _
    refine XS.iloadN X0.here hx rfl (hb hby at_25) rfl ?_
    show Steps p.tables e below (s₁.setTop (mkF m 26 Lo3 [(.int (0 : Int32))])) _
    refine XS.ifYes X0.here hx rfl (pc0 := 26) (pc' := 43) rfl (hb hby at_26) rfl (by first | rfl | decide) (by decide) (by decide) ?_
    show Steps p.tables e below (s₁.setTop (mkF m 43 Lo3 [])) _
    refine st1 _ ?_
    show Steps p.tables e below (T1.setTop (mkF m 46 Lo3 [(.ref b1)])) _
    refine XS.dup X1.here hx rfl (hb hby at_46) rfl rfl ?_
    show Steps p.tables e below (T1.setTop (mkF m 47 Lo3 [(.ref b1), (.ref b1)])) _
    refine st2.trans ?_
    show Steps p.tables e below (T2.setTop (mkF m 50 Lo3 [(.ref b1)])) _
    refine XS.astore X2.here hx rfl (hb hby at_50) rfl rfl (l' := Lo4) rfl ?_
    show Steps p.tables e below (T2.setTop (mkF m 52 Lo4 [])) _
    refine XS.iload X2.here hx rfl (hb hby at_52) rfl ?_
    show Steps p.tables e below (T2.setTop (mkF m 54 Lo4 [(.int (1 : Int32))])) _
    refine XS.ifNo X2.here hx rfl (hb hby at_54) rfl (by first | rfl | decide) ?_
    show Steps p.tables e below (T2.setTop (mkF m 57 Lo4 [])) _
    refine XS.aload X2.here hx rfl (hb hby at_57) rfl rfl ?_
    show Steps p.tables e below (T2.setTop (mkF m 59 Lo4 [(.ref b1)])) _
    refine XS.iconst X2.here hx rfl (hb hby at_59) ?_
    show Steps p.tables e below (T2.setTop (mkF m 60 Lo4 [(.int (1 : Int32)), (.ref b1)])) _
    refine XS.iloadN X2.here hx rfl (hb hby at_60) rfl ?_
    show Steps p.tables e below (T2.setTop (mkF m 61 Lo4 [(.int p2), (.int (1 : Int32)), (.ref b1)])) _
    refine X2.ldcInt hx hown (mvT hZ w27_) (g := (mkF m 61 Lo4 [(.int p2), (.int (1 : Int32)), (.ref b1)])) rfl (hb hby at_61) _ ?_
    show Steps p.tables e below (T2.setTop (mkF m 63 Lo4 [(.int (2147483647 : Int32)), (.int p2), (.int (1 : Int32)), (.ref b1)])) _
    refine XS.iand X2.here hx rfl (hb hby at_63) rfl ?_
    show Steps p.tables e below (T2.setTop (mkF m 64 Lo4 [(.int (p2 &&& (2147483647 : Int32))), (.int (1 : Int32)), (.ref b1)])) _
    refine st3 _ ?_
    show Steps p.tables e below (T3.setTop (mkF m 67 Lo4 [(.int (own_max (1 : Int32) (p2 &&& (2147483647 : Int32)))), (.ref b1)])) _
    refine st4.trans ?_
    show Steps p.tables e below (T4.setTop (mkF m 70 Lo4 [(.ref bb_4)])) _
    refine XS.astore X4.here hx rfl (hb hby at_70) rfl rfl (l' := Lo5) rfl ?_
    show Steps p.tables e below (T4.setTop (mkF m 72 Lo5 [])) _
    refine XS.iloadN X4.here hx rfl (hb hby at_72) rfl ?_
    show Steps p.tables e below (T4.setTop (mkF m 73 Lo5 [(.int (0 : Int32))])) _
    refine XS.ifYes X4.here hx rfl (pc0 := 73) (pc' := 81) rfl (hb hby at_73) rfl (by first | rfl | decide) (by decide) (by decide) ?_
    show Steps p.tables e below (T4.setTop (mkF m 81 Lo5 [])) _
    refine XS.iconst X4.here hx rfl (hb hby at_81) ?_
    show Steps p.tables e below (T4.setTop (mkF m 82 Lo5 [(.int (0 : Int32))])) _
    refine XS.istore X4.here hx rfl (hb hby at_82) rfl (l' := Lo6) rfl ?_
    show Steps p.tables e below (T4.setTop (mkF m 84 Lo6 [])) _
    refine XS.aload X4.here hx rfl (hb hby at_84) rfl rfl ?_
    show Steps p.tables e below (T4.setTop (mkF m 86 Lo6 [(.ref bb_4)])) _
    refine st5.trans ?_
    show Steps p.tables e below (T5.setTop (mkF m 89 Lo6 [(.int (0 : Int32))])) _
    refine XS.iload X5.here hx rfl (hb hby at_89) rfl ?_
    show Steps p.tables e below (T5.setTop (mkF m 91 Lo6 [(.int (0 : Int32)), (.int (0 : Int32))])) _
    refine XS.icmpNo X5.here hx rfl (hb hby at_91) rfl (by first | rfl | decide) ?_
    show Steps p.tables e below (T5.setTop (mkF m 94 Lo6 [])) _
    refine XS.iconst X5.here hx rfl (hb hby at_94) ?_
    show Steps p.tables e below (T5.setTop (mkF m 95 Lo6 [(.int (1 : Int32))])) _
    refine XS.goto X5.here hx rfl (pc0 := 95) (pc' := 99) rfl (hb hby at_95) (by decide) (by decide) ?_
    show Steps p.tables e below (T5.setTop (mkF m 99 Lo6 [(.int (1 : Int32))])) _
    exact own_retZ X5 hx Bd.returns (hb hby at_99) rfl rfl hr
  · show Q0pr Z p1 p2 p3 h0 n0 _ T5.heap _
    exact ⟨rfl, N5⟩
theorem pn_0pk : plainName "com/example/pathmeter/pathmeter/BuilderLongestValuePinLaw" = true := by first | (simp [plainName, overriddenIn]; done) | decide +kernel
theorem ef_0pk (m : MethodId) (x0 : Int32) (x1 : Int32) (x2 : Int32) : entryFrame m #[(.int x0), (.int x1), (.int x2)] maxLocals = mkF m 0 #[.val (.int x0), .val (.int x1), .val (.int x2), .unset, .unset, .unset, .unset] [] := by first | (simp [entryFrame, mkF, argsToLocals, Value.category, maxLocals]; done) | rfl
theorem pd_0pk_1 : parseMethodDescriptor "()V" = some ⟨[], none⟩ := by decide +kernel
theorem pd_0pk_8 : parseMethodDescriptor "()I" = some ⟨[], some .int⟩ := by decide +kernel
def Q0pk (Z : State) (p1 : Int32) (p2 : Int32) (p3 : Int32) (h0 : Heap) (n0 : Nat) (v : Option Value) (h : Heap) (L : List Loc) : Prop := v = some (.int 1) ∧ Fr n0 L
set_option maxRecDepth 65536 in
set_option maxHeartbeats 40000000 in
theorem rm0pk (l : Launch) (Z : State) (a0 : Array Value) (hw : ∀ d ∈ tables_1, d.before a0 Z = true) (ws : List Jvm.Cond) (p1 : Int32) (p2 : Int32) (p3 : Int32) (h0 : Heap) (n0 : Nat) (Z0 : n0 ≤ h0.size) (hg : ((p3 &&& (1 : Int32)) = (0 : Int32))) (ho : ((p3 &&& (2 : Int32)) = (0 : Int32))) :
    MetFree l x (head1 (Jvm.Cond.code x code maxLocals ret :: ws) room_1) (fun a U => a = #[(.int p1), (.int p2), (.int p3)] ∧ Z.Warmed39 U.vm ∧ U.heap = h0) (fun _ _ _ _ _ => True) (fun _ U o U' => ∃ v L, o = .returned v ∧ Q0pk Z p1 p2 p3 h0 n0 v U'.heap L ∧ FrameEnd U o U' L room_1.cells room_1.slots) := by
  refine MetFree.of_bodySF (plainFor_of_name pn_0pk) hisR ?_
  intro p e s m args below meth c s₁ Bd hml0 hP hK
  obtain ⟨rfl, hZ, hh⟩ := hP
  have w0_ := hw _ (List.mem_of_getElem? (i := 0) rfl)
  have w1_ := hw _ (List.mem_of_getElem? (i := 1) rfl)
  have w2_ := hw _ (List.mem_of_getElem? (i := 2) rfl)
  have w3_ := hw _ (List.mem_of_getElem? (i := 3) rfl)
  have w4_ := hw _ (List.mem_of_getElem? (i := 4) rfl)
  have w5_ := hw _ (List.mem_of_getElem? (i := 5) rfl)
  have w20_ := hw _ (List.mem_of_getElem? (i := 20) rfl)
  have w22_ := hw _ (List.mem_of_getElem? (i := 22) rfl)
  have w24_ := hw _ (List.mem_of_getElem? (i := 24) rfl)
  have w26_ := hw _ (List.mem_of_getElem? (i := 26) rfl)
  have w42_ := hw _ (List.mem_of_getElem? (i := 42) rfl)
  have w43_ := hw _ (List.mem_of_getElem? (i := 43) rfl)
  have w44_ := hw _ (List.mem_of_getElem? (i := 44) rfl)
  have w45_ := hw _ (List.mem_of_getElem? (i := 45) rfl)
  have w46_ := hw _ (List.mem_of_getElem? (i := 46) rfl)
  have hx := Bd.exec
  have hby := Bd.bytes
  have hml : c.maxLocals = 7 := hml0
  have hown : s.vm.findClass "com/example/pathmeter/pathmeter/BuilderLongestValuePinLaw" = some m.cls := findClass_of_methodNamed Bd.named
  have hnm := (name_of_methodNamed Bd.named Bd.method).1
  have X0 : Stand p l e room_1 s m #[(.int p1), (.int p2), (.int p3)] below meth c s₁ [] 0 0 := Stand.of_body Bd
  have e0 : s₁.heap = h0 := by rw [← hh, Bd.state]; rfl
  have N0 := Fr.nil n0
  have pre0 : ∀ t, Steps p.tables e below (s₁.setTop (mkF m 0 #[.val (.int p1), .val (.int p2), .val (.int p3), .unset, .unset, .unset, .unset] [])) t → Steps p.tables e below (s₁.setTop (entryFrame m #[(.int p1), (.int p2), (.int p3)] maxLocals)) t := fun t k => castTop (ef_0pk m p1 p2 p3) k
  let Lo1 : Array Slot := #[.val (.int p1), .val (.int p2), .val (.int p3), .unset, .unset, .unset, .unset]
  let Lo2 : Array Slot := #[.val (.int p1), .val (.int p2), .val (.int p3), .val (.int (0 : Int32)), .unset, .unset, .unset]
  let Lo3 : Array Slot := #[.val (.int p1), .val (.int p2), .val (.int p3), .val (.int (0 : Int32)), .val (.int (0 : Int32)), .unset, .unset]
  obtain ⟨T1, h1, X1, e1, E1, A1, D1, -, st1⟩ := newO X0 hx hZ hown w0_ w1_ w2_ e0 (g := (mkF m 43 Lo3 [])) rfl (hb hby at_43) (by decide) (by decide)
  obtain ⟨b1, g1⟩ : ∃ z, z = h0.size := ⟨_, rfl⟩
  rw [← g1] at A1 D1 st1
  have g_b1 : n0 ≤ b1 := Nat.le_trans Z0 (Nat.le_of_eq g1.symm)
  have Z1 : n0 ≤ h1.size := Nat.le_trans Z0 E1.1
  have F1_paths_b1 : Fld Z h1 b1 "com/example/pathmeter/pathmeter/MarkovHistogram$Builder" "paths" "Lcom/example/pathmeter/pathmeter/MarkovHistogram$Tally;" .null := D1 (Or.inr w20_) (ty := (.object "com/example/pathmeter/pathmeter/MarkovHistogram$Tally")) (by decide)
  have F1_order_b1 : Fld Z h1 b1 "com/example/pathmeter/pathmeter/MarkovHistogram$Builder" "order" "I" (.int (0 : Int32)) := D1 (Or.inr w22_) (ty := .int) (by decide)
  have F1_values_b1 : Fld Z h1 b1 "com/example/pathmeter/pathmeter/MarkovHistogram$Builder" "values" "Ljava/util/Map;" .null := D1 (Or.inr w24_) (ty := (.object "java/util/Map")) (by decide)
  have F1_topK_b1 : Fld Z h1 b1 "com/example/pathmeter/pathmeter/MarkovHistogram$Builder" "topK" "I" (.int (0 : Int32)) := D1 (Or.inr w26_) (ty := .int) (by decide)
  obtain ⟨_, _, ⟨T2, L2, k2, n2⟩, -, X2, ⟨Lc2, hQ2, l2, y2, z2⟩, st2⟩ := X1.specialBack hx (y := (⟨"com/example/pathmeter/pathmeter/MarkovHistogram$Builder", "<init>", "()V"⟩ : MethodName)) rfl hown (mvT hZ w3_) (mvT hZ w4_) (mvT hZ w5_) (by decide) (backOf (W := 1) (rm1 l Z a0 hw [] b1 h1 n0 Z1 A1 F1_paths_b1 F1_order_b1 F1_values_b1 F1_topK_b1 g_b1) hZ w5_ w2_ (by decide) (by decide)) (g := (mkF m 47 Lo3 [(.ref b1), (.ref b1)])) rfl (by rw [hml]; rfl) (Steps.refl _) (a := b1) (argsL := []) (rest := [(.ref b1)]) (lenOf pd_0pk_1 rfl) rfl (by show 2 * 0 + _ ≤ _; exact Nat.le_of_eq rfl) (hb hby at_47) (fun _ _ => ⟨rfl, e1, (by decide : 1 + 1 ≤ _), (by decide : 4 + 2 ≤ _)⟩)
  dsimp only [Pt.U, Pt.locs, Pt.cells, Pt.slots] at X2 l2 y2 z2 st2 hQ2
  subst l2 y2 z2
  obtain ⟨rfl, N2q, qq2, p2_0, p2_1, p2_2⟩ := hQ2
  have N2 := Fr.app N0 N2q
  have E2_b1 := A1.keep qq2
  have Z2 : n0 ≤ T2.heap.size := Nat.le_trans Z1 qq2.1
  let Lo4 : Array Slot := #[.val (.int p1), .val (.int p2), .val (.int p3), .val (.int (0 : Int32)), .val (.int (0 : Int32)), .val (.ref b1), .unset]
  let Lo5 : Array Slot := #[.val (.int p1), .val (.int p2), .val (.int p3), .val (.int (0 : Int32)), .val (.int (0 : Int32)), .val (.ref b1), .val (.int (0 : Int32))]
  obtain ⟨cq3, kq3, q3a, q3b, q3c⟩ := isOf hZ rfl p2_0
  obtain ⟨_, _, ⟨T3, L3, k3, n3⟩, -, X3, ⟨Lc3, hQ3, l3, y3, z3⟩, st3⟩ := X2.virtualBack hx (y := (⟨"com/example/pathmeter/pathmeter/MarkovHistogram$Builder", "longestValue", "()I"⟩ : MethodName)) (z := (⟨"com/example/pathmeter/pathmeter/MarkovHistogram$Builder", "longestValue", "()I"⟩ : MethodName)) hown (mvT hZ w42_) (mvT hZ w43_) (notFace_of_selects (args := #[]) (mvT hZ w45_)) (mvT hZ w45_) (mvT hZ w44_) (by decide) (backOf (W := 0) (rm8n l Z a0 hw [] b1 T2.heap n0 Z2 p2_1) hZ w46_ w2_ (by decide) (by decide)) q3a q3c (g := (mkF m 86 Lo5 [(.ref b1)])) rfl (by rw [hml]; rfl) (Steps.refl _) (argsL := []) (rest := []) (lenOf pd_0pk_8 rfl) rfl (by show 2 * 0 + _ ≤ _; exact Nat.le_of_eq rfl) (hb hby at_86) (fun _ _ => ⟨rfl, rfl, (by decide : 2 + 0 ≤ _), (by decide : 6 + 0 ≤ _)⟩)
  dsimp only [Pt.U, Pt.locs, Pt.cells, Pt.slots] at X3 l3 y3 z3 st3 hQ3
  subst l3 y3 z3
  obtain ⟨rfl, N3q, qq3⟩ := hQ3
  have N3 := Fr.app N2 N3q
  have e3 : T3.heap = T2.heap := qq3
  obtain ⟨fs, hr, hrun, hended, hW, hsame⟩ := X3.leave (v := some (.int 1)) (fun h => by rw [Bd.returns] at h; cases h)
  refine ⟨_, _, pre0 _ ?_, hrun, hended, _, _, rfl, ?_, ⟨_, rfl⟩, hW, hsame.mono (by decide) (by decide)⟩
  · show Steps p.tables e below (s₁.setTop (mkF m 0 Lo1 [])) _
    refine XS.iloadN X0.here hx rfl (hb hby at_0) rfl ?_
    show Steps p.tables e below (s₁.setTop (mkF m 1 Lo1 [(.int p3)])) _
    refine XS.iconst X0.here hx rfl (hb hby at_1) ?_
    show Steps p.tables e below (s₁.setTop (mkF m 2 Lo1 [(.int (1 : Int32)), (.int p3)])) _
    refine XS.iand X0.here hx rfl (hb hby at_2) rfl ?_
    show Steps p.tables e below (s₁.setTop (mkF m 3 Lo1 [(.int (p3 &&& (1 : Int32)))])) _
    refine XS.ifYes X0.here hx rfl (pc0 := 3) (pc' := 10) rfl (hb hby at_3) rfl (Jvm.Free.XT.i0_eq_t hg) (by decide) (by decide) ?_
    show Steps p.tables e below (s₁.setTop (mkF m 10 Lo1 [])) _
    refine XS.iconst X0.here hx rfl (hb hby at_10) ?_
    show Steps p.tables e below (s₁.setTop (mkF m 11 Lo1 [(.int (0 : Int32))])) _
    refine XS.istoreN X0.here hx rfl (hb hby at_11) rfl (l' := Lo2) rfl ?_
    show Steps p.tables e below (s₁.setTop (mkF m 12 Lo2 [])) _
    refine XS.iloadN X0.here hx rfl (hb hby at_12) rfl ?_
    show Steps p.tables e below (s₁.setTop (mkF m 13 Lo2 [(.int p3)])) _
    refine XS.iconst X0.here hx rfl (hb hby at_13) ?_
    show Steps p.tables e below (s₁.setTop (mkF m 14 Lo2 [(.int (2 : Int32)), (.int p3)])) _
    refine XS.iand X0.here hx rfl (hb hby at_14) rfl ?_
    show Steps p.tables e below (s₁.setTop (mkF m 15 Lo2 [(.int (p3 &&& (2 : Int32)))])) _
    refine XS.ifYes X0.here hx rfl (pc0 := 15) (pc' := 22) rfl (hb hby at_15) rfl (Jvm.Free.XT.i0_eq_t ho) (by decide) (by decide) ?_
    show Steps p.tables e below (s₁.setTop (mkF m 22 Lo2 [])) _
    refine XS.iconst X0.here hx rfl (hb hby at_22) ?_
    show Steps p.tables e below (s₁.setTop (mkF m 23 Lo2 [(.int (0 : Int32))])) _
    refine XS.istore X0.here hx rfl (hb hby at_23) rfl (l' := Lo3) rfl ?_
    show Steps p.tables e below (s₁.setTop (mkF m 25 Lo3 [])) _
    refine XS.iloadN X0.here hx rfl (hb hby at_25) rfl ?_
    show Steps p.tables e below (s₁.setTop (mkF m 26 Lo3 [(.int (0 : Int32))])) _
    refine XS.ifYes X0.here hx rfl (pc0 := 26) (pc' := 43) rfl (hb hby at_26) rfl (by first | rfl | decide) (by decide) (by decide) ?_
    show Steps p.tables e below (s₁.setTop (mkF m 43 Lo3 [])) _
    refine st1 _ ?_
    show Steps p.tables e below (T1.setTop (mkF m 46 Lo3 [(.ref b1)])) _
    refine XS.dup X1.here hx rfl (hb hby at_46) rfl rfl ?_
    show Steps p.tables e below (T1.setTop (mkF m 47 Lo3 [(.ref b1), (.ref b1)])) _
    refine st2.trans ?_
    show Steps p.tables e below (T2.setTop (mkF m 50 Lo3 [(.ref b1)])) _
    refine XS.astore X2.here hx rfl (hb hby at_50) rfl rfl (l' := Lo4) rfl ?_
    show Steps p.tables e below (T2.setTop (mkF m 52 Lo4 [])) _
    refine XS.iload X2.here hx rfl (hb hby at_52) rfl ?_
    show Steps p.tables e below (T2.setTop (mkF m 54 Lo4 [(.int (0 : Int32))])) _
    refine XS.ifYes X2.here hx rfl (pc0 := 54) (pc' := 72) rfl (hb hby at_54) rfl (by first | rfl | decide) (by decide) (by decide) ?_
    show Steps p.tables e below (T2.setTop (mkF m 72 Lo4 [])) _
    refine XS.iloadN X2.here hx rfl (hb hby at_72) rfl ?_
    show Steps p.tables e below (T2.setTop (mkF m 73 Lo4 [(.int (0 : Int32))])) _
    refine XS.ifYes X2.here hx rfl (pc0 := 73) (pc' := 81) rfl (hb hby at_73) rfl (by first | rfl | decide) (by decide) (by decide) ?_
    show Steps p.tables e below (T2.setTop (mkF m 81 Lo4 [])) _
    refine XS.iconst X2.here hx rfl (hb hby at_81) ?_
    show Steps p.tables e below (T2.setTop (mkF m 82 Lo4 [(.int (0 : Int32))])) _
    refine XS.istore X2.here hx rfl (hb hby at_82) rfl (l' := Lo5) rfl ?_
    show Steps p.tables e below (T2.setTop (mkF m 84 Lo5 [])) _
    refine XS.aload X2.here hx rfl (hb hby at_84) rfl rfl ?_
    show Steps p.tables e below (T2.setTop (mkF m 86 Lo5 [(.ref b1)])) _
    refine st3.trans ?_
    show Steps p.tables e below (T3.setTop (mkF m 89 Lo5 [(.int (0 : Int32))])) _
    refine XS.iload X3.here hx rfl (hb hby at_89) rfl ?_
    show Steps p.tables e below (T3.setTop (mkF m 91 Lo5 [(.int (0 : Int32)), (.int (0 : Int32))])) _
    refine XS.icmpNo X3.here hx rfl (hb hby at_91) rfl (by first | rfl | decide) ?_
    show Steps p.tables e below (T3.setTop (mkF m 94 Lo5 [])) _
    refine XS.iconst X3.here hx rfl (hb hby at_94) ?_
    show Steps p.tables e below (T3.setTop (mkF m 95 Lo5 [(.int (1 : Int32))])) _
    refine XS.goto X3.here hx rfl (pc0 := 95) (pc' := 99) rfl (hb hby at_95) (by decide) (by decide) ?_
    show Steps p.tables e below (T3.setTop (mkF m 99 Lo5 [(.int (1 : Int32))])) _
    exact own_retZ X3 hx Bd.returns (hb hby at_99) rfl rfl hr
  · show Q0pk Z p1 p2 p3 h0 n0 _ T3.heap _
    exact ⟨rfl, N3⟩
def Q0 (Z : State) (p1 : Int32) (p2 : Int32) (p3 : Int32) (h0 : Heap) (n0 : Nat) (v : Option Value) (h : Heap) (L : List Loc) : Prop := v = some (.int 1) ∧ Fr n0 L
set_option maxRecDepth 65536 in
set_option maxHeartbeats 40000000 in
theorem rm0 (l : Launch) (Z : State) (a0 : Array Value) (hw : ∀ d ∈ tables_1, d.before a0 Z = true) (ws : List Jvm.Cond) (p1 : Int32) (p2 : Int32) (p3 : Int32) (h0 : Heap) (n0 : Nat) (Z0 : n0 ≤ h0.size)  :
    MetFree l x (head1 (Jvm.Cond.code x code maxLocals ret :: ws) room_1) (fun a U => a = #[(.int p1), (.int p2), (.int p3)] ∧ Z.Warmed39 U.vm ∧ U.heap = h0) (fun _ _ _ _ _ => True) (fun _ U o U' => ∃ v L, o = .returned v ∧ Q0 Z p1 p2 p3 h0 n0 v U'.heap L ∧ FrameEnd U o U' L room_1.cells room_1.slots) := by
  by_cases hg : (p3 &&& (1 : Int32)) = (0 : Int32)
  · by_cases ho : (p3 &&& (2 : Int32)) = (0 : Int32)
    · exact rm0pk l Z a0 hw ws p1 p2 p3 h0 n0 Z0 hg ho
    · exact rm0pr l Z a0 hw ws p1 p2 p3 h0 n0 Z0 hg ho
  · by_cases ho : (p3 &&& (2 : Int32)) = (0 : Int32)
    · exact rm0gk l Z a0 hw ws p1 p2 p3 h0 n0 Z0 hg ho
    · exact rm0gr l Z a0 hw ws p1 p2 p3 h0 n0 Z0 hg ho
set_option maxRecDepth 65536 in
set_option maxHeartbeats 40000000 in
theorem comes_1 {Post : Tables → Env → Array Value → State → Outcome → State → Prop} (hpost : ∀ tb e args s v u, (limb_1_1.after args s (.returned v) u = true ∧ limb_1_2.after args s (.returned v) u = true ∧ True) → FrameEnd s (.returned v) u (Jvm.fieldLocs frame_1_writes args s ++ Jvm.arrayLocs frame_1_arrays args s ++ Jvm.staticLocs frame_1_statics s) 24 128 → Post tb e args s (.returned v) u) :
    ArmFor flags0 classFile x code maxLocals ret World_1 tables_1 room_1 Calls_1 rest_1 Pre_1 Post := by
  intro l hfl _ _ p e ha hc hk s m args below hf hA hF happ hP
  obtain ⟨hcalls, hrest, hpre⟩ := hP
  obtain ⟨-, -, -, hnamed, -, -, -, hat⟩ := (Spec.applies_iff hf).mp happ
  obtain ⟨hg, hn⟩ := and_e (Cond.before_iff.mp (show (Jvm.Cond.and given_1 narrow_1).before args s = true from hpre))
  obtain ⟨gc, g0⟩ := and_e hg
  obtain ⟨ga0, gb0⟩ := and_e g0
  obtain ⟨ga1, gb1⟩ := and_e gb0
  obtain ⟨w0, w1, w2, rfl⟩ : ∃ w0 w1 w2 : Value, args = #[w0, w1, w2] := by
    have hs : args.size = 3 := by simpa [Cond.value, given_1] using gc
    obtain ⟨L⟩ := args
    match L, hs with
    | [w0, w1, w2], _ => exact ⟨w0, w1, w2, rfl⟩
  have hw := fun d (hd : d ∈ tables_1) => atoms_spec (ws := Jvm.Cond.code x code maxLocals ret :: tables_1) hat d (List.mem_cons_of_mem _ hd)
  obtain ⟨i0, ei0⟩ := is_v ga0
  obtain rfl : w0 = (.int i0) := Option.some.inj ei0
  obtain ⟨i1, ei1⟩ := is_v ga1
  obtain rfl : w1 = (.int i1) := Option.some.inj ei1
  obtain ⟨i2, ei2⟩ := is_v gb1
  obtain rfl : w2 = (.int i2) := Option.some.inj ei2
  obtain ⟨n, o, h1, h2, h3, _, L, rfl, ⟨rfl, N⟩, hq⟩ := rm0 l s _ hw tables_1 i0 i1 i2 s.heap s.heap.size (Nat.le_refl _) p e ha hc hk s m _ below hf ((Spec.applies_iff_loose hf).mp happ).1 ⟨rfl, State.Warmed39.refl s, rfl⟩ trivial
  refine ⟨n, _, h1, h2, h3, hpost _ _ _ _ _ _ ⟨Cond.after_iff.mpr rfl, Cond.after_iff.mpr (eq_i res_at (Term.int_eval (1)) rfl), trivial⟩ ⟨hq.1, hq.2.1, (hq.2.2.sift fun y hy => Or.inr (N y hy)).mono (by decide) (by decide)⟩⟩
theorem main_1_1 : Claimed_1_1 := comes_1 fun _ _ _ _ _ _ h hF => ⟨h.1, hF⟩
theorem main_1_2 : Claimed_1_2 := comes_1 fun _ _ _ _ _ _ h hF => ⟨h.2.1, hF⟩
end Jvm.Pilot.@@N@@
namespace Jvm.Pilot.@@N@@
open Jvm Jvm.ClassFile Sem Op Lib Jvm.Free Jvm.Stand Jvm.Pilot.@@N@@.Jvm.D
/-! MADE BY PROGRAM (witnessworld.py) out of the Statement's table words and the real class files: 19 classes; the members and pool entries that the words name. The judged class is class 1, her method 1. -/
namespace start1
open Jvm.ClassFile
def u (s : String) : CpInfo := .utf8 (stringToUtf16 s)
/-- a pool by its gaps: so many unusable entries, then the entry; so many at the end -/
def gap : Nat → List CpInfo → List CpInfo
  | 0, r => r
  | n + 1, r => .unusable :: gap n r
def poolList (es : List (Nat × CpInfo)) (last : Nat) : List CpInfo := es.foldr (fun e r => gap e.1 (e.2 :: r)) (gap last [])
def pool (es : List (Nat × CpInfo)) (last : Nat) : Array CpInfo := ⟨poolList es last⟩
def fileOf (pool : Array CpInfo) (this : Nat) (attrs : Array Attribute := #[]) (ms : Array MethodInfo := #[]) (fl : Nat := 33) (sup : Nat := 0) (ifs : Array Nat := #[]) (fds : Array FieldInfo := #[]) : ClassFile where
  minorVersion := 0
  majorVersion := 65
  constantPool := pool
  accessFlags := fl
  thisClass := this
  superClass := sup
  interfaces := ifs
  fields := fds
  methods := ms
  attributes := attrs
def plain (name : String) (sup : Option ClassId) : Class where
  name := name
  kind := .ordinary
  loader := none
  accessFlags := 33
  super := sup
  interfaces := #[]
  cf := none
  fields := #[]
  methods := #[]
  instanceTypes := #[]
  staticTypes := #[]
  resolved := #[]
  callSites := []
  init := .initialized
  statics := none
  mirror := none

def pool0 : Array CpInfo := pool [(5, u "<init>"), (0, u "()V"), (1, .class_ 10), (1, u "java/lang/Object")] 113

def k0c0 : Code := { maxStack := 0, maxLocals := 1, code := object_method_1_code, exceptionTable := #[], attributes := #[] }
def k0m0 : Method := { name := "<init>", desc := "()V", sig := { parameters := [], returnType := none }, accessFlags := 1, code := some k0c0 }
/-- java/lang/Object -/
def k0 : Class := { plain "java/lang/Object" none with
  accessFlags := 33
  interfaces := #[]
  cf := some (fileOf pool0 8 #[] #[{ accessFlags := 1, nameIndex := 5, descriptorIndex := 6, attributes := #[] }] 33 0 #[] #[])
  fields := #[]
  methods := #[k0m0]
  instanceTypes := #[]
  staticTypes := #[]
  resolved := Array.replicate 124 none
  statics := none }

def pool1 : Array CpInfo := pool [(2, .class_ 4), (0, .nameAndType 5 6), (0, u "java/lang/Object"), (0, u "<init>"), (0, u "()V"), (0, .class_ 8), (0, u "com/example/pathmeter/pathmeter/MarkovHistogram$Builder"), (0, .integer 2147483647), (0, .methodref 7 11), (0, .nameAndType 5 12), (0, u "(I)V"), (0, .methodref 7 3), (0, .methodref 15 16), (0, .class_ 17), (0, .nameAndType 18 19), (0, u "java/lang/Math"), (0, u "max"), (0, u "(II)I"), (0, .methodref 7 21), (0, .nameAndType 22 23), (0, u "withOrder"), (0, u "(I)Lcom/example/pathmeter/pathmeter/MarkovHistogram$Builder;"), (0, .integer 1048576), (0, .methodref 7 26), (0, .nameAndType 27 28), (0, u "longestValue"), (0, u "()I"), (0, .class_ 30), (0, u "com/example/pathmeter/pathmeter/BuilderLongestValuePinLaw"), (2, u "law"), (0, u "(III)Z")] 7

def k1m0 : Method := { name := "<init>", desc := "()V", sig := { parameters := [], returnType := none }, accessFlags := 2, code := none }
def k1c1 : Code := { maxStack := 4, maxLocals := 7, code := code, exceptionTable := #[], attributes := #[] }
def k1m1 : Method := { name := "law", desc := "(III)Z", sig := { parameters := [.int, .int, .int], returnType := some .boolean }, accessFlags := 9, code := some k1c1 }
/-- com/example/pathmeter/pathmeter/BuilderLongestValuePinLaw -/
def k1 : Class := { plain "com/example/pathmeter/pathmeter/BuilderLongestValuePinLaw" (some 0) with
  accessFlags := 49
  interfaces := #[]
  cf := some (fileOf pool1 29 #[] #[{ accessFlags := 2, nameIndex := 5, descriptorIndex := 6, attributes := #[] }, { accessFlags := 9, nameIndex := 33, descriptorIndex := 34, attributes := #[] }] 49 2 #[] #[])
  fields := #[]
  methods := #[k1m0, k1m1]
  instanceTypes := #[]
  staticTypes := #[]
  resolved := Array.replicate 42 none
  statics := none }

def pool2 : Array CpInfo := pool [(7, .class_ 8), (0, u "com/example/pathmeter/pathmeter/Synopsis"), (0, .class_ 10), (0, u "java/lang/Object"), (21, .class_ 33), (0, u "com/example/pathmeter/pathmeter/Synopsis$Entry")] 2

/-- com/example/pathmeter/pathmeter/Synopsis -/
def k2 : Class := { plain "com/example/pathmeter/pathmeter/Synopsis" (some 0) with
  accessFlags := 1537
  interfaces := #[]
  cf := some (fileOf pool2 7 #[.nestMembers #[32]] #[] 1537 9 #[] #[])
  fields := #[]
  methods := #[]
  instanceTypes := #[]
  staticTypes := #[]
  resolved := Array.replicate 36 none
  statics := none }

def pool3 : Array CpInfo := pool [(2, .class_ 4), (1, u "java/lang/Object"), (3, .class_ 10), (1, u "com/example/pathmeter/pathmeter/MarkovHistogram"), (0, u "paths"), (0, u "Lcom/example/pathmeter/pathmeter/PathStatistics;"), (2, u "values"), (0, u "Lcom/example/pathmeter/pathmeter/ValueStatistics;"), (338, .class_ 356), (0, u "com/example/pathmeter/pathmeter/Synopsis"), (0, u "KIND"), (0, u "B"), (2, u "NOT_CAPTURED"), (0, u "D"), (22, .class_ 386), (0, u "com/example/pathmeter/pathmeter/MarkovHistogram$Tally"), (0, .class_ 388), (0, u "com/example/pathmeter/pathmeter/MarkovHistogram$Builder")] 33

/-- com/example/pathmeter/pathmeter/MarkovHistogram -/
def k3 : Class := { plain "com/example/pathmeter/pathmeter/MarkovHistogram" (some 0) with
  accessFlags := 49
  interfaces := #[2]
  cf := some (fileOf pool3 8 #[.nestMembers #[385, 387]] #[] 49 2 #[355] #[{ accessFlags := 24, nameIndex := 357, descriptorIndex := 358, attributes := #[] }, { accessFlags := 26, nameIndex := 361, descriptorIndex := 362, attributes := #[] }, { accessFlags := 18, nameIndex := 11, descriptorIndex := 12, attributes := #[] }, { accessFlags := 18, nameIndex := 15, descriptorIndex := 16, attributes := #[] }])
  fields := #[{ name := "KIND", type := .byte, accessFlags := 24, slot := 0, constantValue := 0 }, { name := "NOT_CAPTURED", type := .double, accessFlags := 26, slot := 1, constantValue := 0 }, { name := "paths", type := (.object "com/example/pathmeter/pathmeter/PathStatistics"), accessFlags := 18, slot := 0, constantValue := 0 }, { name := "values", type := (.object "com/example/pathmeter/pathmeter/ValueStatistics"), accessFlags := 18, slot := 1, constantValue := 0 }]
  methods := #[]
  instanceTypes := #[(.object "com/example/pathmeter/pathmeter/PathStatistics"), (.object "com/example/pathmeter/pathmeter/ValueStatistics")]
  staticTypes := #[.byte, .double]
  resolved := Array.replicate 422 none
  statics := none }

def pool4 : Array CpInfo := pool [(4, .class_ 5), (0, u "com/example/pathmeter/pathmeter/NodeVisitor"), (0, .class_ 7), (0, u "java/lang/Object")] 18

/-- com/example/pathmeter/pathmeter/NodeVisitor -/
def k4 : Class := { plain "com/example/pathmeter/pathmeter/NodeVisitor" (some 0) with
  accessFlags := 1537
  interfaces := #[]
  cf := some (fileOf pool4 4 #[] #[] 1537 6 #[] #[])
  fields := #[]
  methods := #[]
  instanceTypes := #[]
  staticTypes := #[]
  resolved := Array.replicate 26 none
  statics := none }

def pool5 : Array CpInfo := pool [(1, .methodref 2 3), (0, .class_ 4), (0, .nameAndType 5 6), (0, u "com/example/pathmeter/pathmeter/MarkovHistogram$Builder"), (0, u "<init>"), (0, u "(ILjava/util/Map;I)V"), (0, .class_ 8), (0, u "java/util/HashMap"), (0, .methodref 7 10), (0, .nameAndType 5 11), (0, u "()V"), (0, .methodref 13 14), (0, .class_ 15), (0, .nameAndType 16 17), (0, u "com/example/pathmeter/pathmeter/ValueStatistics"), (0, u "requireTopK"), (0, u "(I)I"), (0, .methodref 19 10), (0, .class_ 20), (0, u "java/lang/Object"), (0, .class_ 22), (0, u "com/example/pathmeter/pathmeter/MarkovHistogram$Tally"), (0, .methodref 21 10), (0, .fieldref 2 25), (0, .nameAndType 26 27), (0, u "paths"), (0, u "Lcom/example/pathmeter/pathmeter/MarkovHistogram$Tally;"), (0, .fieldref 2 29), (0, .nameAndType 30 31), (0, u "order"), (0, u "I"), (0, .fieldref 2 33), (0, .nameAndType 34 35), (0, u "values"), (0, u "Ljava/util/Map;"), (0, .fieldref 2 37), (0, .nameAndType 38 31), (0, u "topK"), (0, .methodref 40 41), (0, .class_ 42), (0, .nameAndType 43 17), (0, u "com/example/pathmeter/pathmeter/PathStatistics"), (0, u "requireOrder"), (5, u "()I"), (18, .integer 1048576), (29, .class_ 99), (0, u "com/example/pathmeter/pathmeter/MarkovHistogram"), (7, .class_ 108), (0, u "com/example/pathmeter/pathmeter/NodeVisitor"), (0, u "LONGEST_VALUE"), (5, u "(I)V"), (1, u "withOrder"), (0, u "(I)Lcom/example/pathmeter/pathmeter/MarkovHistogram$Builder;"), (4, u "longestValue")] 34

def k5c0 : Code := { maxStack := 4, maxLocals := 1, code := prog_25_method_1_code, exceptionTable := #[], attributes := #[] }
def k5m0 : Method := { name := "<init>", desc := "()V", sig := { parameters := [], returnType := none }, accessFlags := 1, code := some k5c0 }
def k5c1 : Code := { maxStack := 4, maxLocals := 2, code := prog_25_method_2_code, exceptionTable := #[], attributes := #[] }
def k5m1 : Method := { name := "<init>", desc := "(I)V", sig := { parameters := [.int], returnType := none }, accessFlags := 1, code := some k5c1 }
def k5c2 : Code := { maxStack := 3, maxLocals := 4, code := prog_25_method_3_code, exceptionTable := #[], attributes := #[] }
def k5m2 : Method := { name := "<init>", desc := "(ILjava/util/Map;I)V", sig := { parameters := [.int, (.object "java/util/Map"), .int], returnType := none }, accessFlags := 2, code := some k5c2 }
def k5c3 : Code := { maxStack := 5, maxLocals := 2, code := prog_25_method_4_code, exceptionTable := #[], attributes := #[] }
def k5m3 : Method := { name := "withOrder", desc := "(I)Lcom/example/pathmeter/pathmeter/MarkovHistogram$Builder;", sig := { parameters := [.int], returnType := some (.object "com/example/pathmeter/pathmeter/MarkovHistogram$Builder") }, accessFlags := 1, code := some k5c3 }
def k5c4 : Code := { maxStack := 1, maxLocals := 1, code := prog_25_method_7_code, exceptionTable := #[], attributes := #[] }
def k5m4 : Method := { name := "longestValue", desc := "()I", sig := { parameters := [], returnType := some .int }, accessFlags := 1, code := some k5c4 }
/-- com/example/pathmeter/pathmeter/MarkovHistogram$Builder -/
def k5 : Class := { plain "com/example/pathmeter/pathmeter/MarkovHistogram$Builder" (some 0) with
  accessFlags := 49
  interfaces := #[4]
  cf := some (fileOf pool5 2 #[.nestHost 98] #[{ accessFlags := 1, nameIndex := 5, descriptorIndex := 11, attributes := #[] }, { accessFlags := 1, nameIndex := 5, descriptorIndex := 115, attributes := #[] }, { accessFlags := 2, nameIndex := 5, descriptorIndex := 6, attributes := #[] }, { accessFlags := 1, nameIndex := 117, descriptorIndex := 118, attributes := #[] }, { accessFlags := 1, nameIndex := 123, descriptorIndex := 49, attributes := #[] }] 49 19 #[107] #[{ accessFlags := 26, nameIndex := 109, descriptorIndex := 31, attributes := #[] }, { accessFlags := 18, nameIndex := 30, descriptorIndex := 31, attributes := #[] }, { accessFlags := 18, nameIndex := 26, descriptorIndex := 27, attributes := #[] }, { accessFlags := 18, nameIndex := 34, descriptorIndex := 35, attributes := #[] }, { accessFlags := 18, nameIndex := 38, descriptorIndex := 31, attributes := #[] }])
  fields := #[{ name := "LONGEST_VALUE", type := .int, accessFlags := 26, slot := 0, constantValue := 0 }, { name := "order", type := .int, accessFlags := 18, slot := 0, constantValue := 0 }, { name := "paths", type := (.object "com/example/pathmeter/pathmeter/MarkovHistogram$Tally"), accessFlags := 18, slot := 1, constantValue := 0 }, { name := "values", type := (.object "java/util/Map"), accessFlags := 18, slot := 2, constantValue := 0 }, { name := "topK", type := .int, accessFlags := 18, slot := 3, constantValue := 0 }]
  methods := #[k5m0, k5m1, k5m2, k5m3, k5m4]
  instanceTypes := #[.int, (.object "com/example/pathmeter/pathmeter/MarkovHistogram$Tally"), (.object "java/util/Map"), .int]
  staticTypes := #[.int]
  resolved := Array.replicate 158 none
  statics := none }

def pool6 : Array CpInfo := pool [(1, .methodref 2 3), (0, .class_ 4), (0, .nameAndType 5 6), (0, u "java/lang/Object"), (0, u "<init>"), (0, u "()V"), (1, .class_ 10), (1, u "com/example/pathmeter/pathmeter/MarkovHistogram$Tally"), (0, u "longer"), (0, u "Ljava/util/Map;"), (100, u "count"), (0, u "J"), (21, .class_ 137), (0, u "com/example/pathmeter/pathmeter/MarkovHistogram")] 36

def k6c0 : Code := { maxStack := 1, maxLocals := 1, code := prog_26_method_1_code, exceptionTable := #[], attributes := #[] }
def k6m0 : Method := { name := "<init>", desc := "()V", sig := { parameters := [], returnType := none }, accessFlags := 2, code := some k6c0 }
/-- com/example/pathmeter/pathmeter/MarkovHistogram$Tally -/
def k6 : Class := { plain "com/example/pathmeter/pathmeter/MarkovHistogram$Tally" (some 0) with
  accessFlags := 48
  interfaces := #[]
  cf := some (fileOf pool6 8 #[.nestHost 136] #[{ accessFlags := 2, nameIndex := 5, descriptorIndex := 6, attributes := #[] }] 48 2 #[] #[{ accessFlags := 2, nameIndex := 113, descriptorIndex := 114, attributes := #[] }, { accessFlags := 2, nameIndex := 11, descriptorIndex := 12, attributes := #[] }])
  fields := #[{ name := "count", type := .long, accessFlags := 2, slot := 0, constantValue := 0 }, { name := "longer", type := (.object "java/util/Map"), accessFlags := 2, slot := 1, constantValue := 0 }]
  methods := #[k6m0]
  instanceTypes := #[.long, (.object "java/util/Map")]
  staticTypes := #[]
  resolved := Array.replicate 174 none
  statics := none }

def pool7 : Array CpInfo := pool [(1, .class_ 2), (0, u "java/lang/Math"), (1, .class_ 6), (1, u "java/lang/Object"), (0, u "<init>"), (0, u "()V"), (89, .class_ 100), (1, u "java/lang/Math$RandomNumberGeneratorHolder"), (71, u "negativeZeroFloatBits"), (0, u "J"), (2, u "negativeZeroDoubleBits"), (21, u "max"), (46, u "$assertionsDisabled"), (0, u "Z"), (88, u "(II)I"), (2, u "twoToTheDoubleScaleDown"), (0, u "D"), (4, u "twoToTheDoubleScaleUp"), (9, u "E"), (3, u "PI"), (2, u "TAU"), (2, u "DEGREES_TO_RADIANS"), (0, u "RADIANS_TO_DEGREES")] 94

def k7m0 : Method := { name := "<init>", desc := "()V", sig := { parameters := [], returnType := none }, accessFlags := 2, code := none }
def k7c1 : Code := { maxStack := 2, maxLocals := 2, code := jdk_29_method_65_code, exceptionTable := #[], attributes := #[] }
def k7m1 : Method := { name := "max", desc := "(II)I", sig := { parameters := [.int, .int], returnType := some .int }, accessFlags := 9, code := some k7c1 }
/-- java/lang/Math -/
def k7 : Class := { plain "java/lang/Math" (some 0) with
  accessFlags := 49
  interfaces := #[]
  cf := some (fileOf pool7 1 #[.nestMembers #[98]] #[{ accessFlags := 2, nameIndex := 7, descriptorIndex := 8, attributes := #[] }, { accessFlags := 9, nameIndex := 198, descriptorIndex := 335, attributes := #[] }] 49 4 #[] #[{ accessFlags := 25, nameIndex := 354, descriptorIndex := 339, attributes := #[] }, { accessFlags := 25, nameIndex := 358, descriptorIndex := 339, attributes := #[] }, { accessFlags := 25, nameIndex := 361, descriptorIndex := 339, attributes := #[] }, { accessFlags := 26, nameIndex := 364, descriptorIndex := 339, attributes := #[] }, { accessFlags := 26, nameIndex := 365, descriptorIndex := 339, attributes := #[] }, { accessFlags := 26, nameIndex := 172, descriptorIndex := 173, attributes := #[] }, { accessFlags := 26, nameIndex := 176, descriptorIndex := 173, attributes := #[] }, { accessFlags := 8, nameIndex := 344, descriptorIndex := 339, attributes := #[] }, { accessFlags := 8, nameIndex := 338, descriptorIndex := 339, attributes := #[] }, { accessFlags := 4120, nameIndex := 245, descriptorIndex := 246, attributes := #[] }])
  fields := #[{ name := "E", type := .double, accessFlags := 25, slot := 0, constantValue := 0 }, { name := "PI", type := .double, accessFlags := 25, slot := 1, constantValue := 0 }, { name := "TAU", type := .double, accessFlags := 25, slot := 2, constantValue := 0 }, { name := "DEGREES_TO_RADIANS", type := .double, accessFlags := 26, slot := 3, constantValue := 0 }, { name := "RADIANS_TO_DEGREES", type := .double, accessFlags := 26, slot := 4, constantValue := 0 }, { name := "negativeZeroFloatBits", type := .long, accessFlags := 26, slot := 5, constantValue := 0 }, { name := "negativeZeroDoubleBits", type := .long, accessFlags := 26, slot := 6, constantValue := 0 }, { name := "twoToTheDoubleScaleUp", type := .double, accessFlags := 8, slot := 7, constantValue := 0 }, { name := "twoToTheDoubleScaleDown", type := .double, accessFlags := 8, slot := 8, constantValue := 0 }, { name := "$assertionsDisabled", type := .boolean, accessFlags := 4120, slot := 9, constantValue := 0 }]
  methods := #[k7m0, k7m1]
  instanceTypes := #[]
  staticTypes := #[.double, .double, .double, .double, .double, .long, .long, .double, .double, .boolean]
  resolved := Array.replicate 460 none
  statics := none }

def pool8 : Array CpInfo := pool [(2, .class_ 4), (1, u "java/lang/Object"), (0, u "<init>"), (0, u "()V"), (4, .class_ 13), (1, u "com/example/pathmeter/pathmeter/PathStatistics"), (0, u "counts"), (0, u "Ljava/util/Map;"), (5, u "sizes"), (0, u "Ljava/util/NavigableMap;"), (6, u "observed"), (0, u "Ljava/util/Set;"), (5, u "parents"), (2, u "incomingSums"), (279, .class_ 320), (0, u "com/example/pathmeter/pathmeter/PathStatistics$Tails"), (82, u "SHORTEST_FIRST"), (0, u "Ljava/util/Comparator;"), (80, u "totalBytes"), (0, u "J"), (2, u "longerBytes"), (117, u "ORDER"), (32, u "UNIT_ROUNDOFF"), (0, u "D"), (0, u "LONGER"), (0, u "I"), (4, u "SEPARATOR"), (0, u "Ljava/lang/String;"), (7, u "requireOrder"), (0, u "(I)I")] 182

def k8m0 : Method := { name := "<init>", desc := "()V", sig := { parameters := [], returnType := none }, accessFlags := 2, code := none }
def k8c1 : Code := { maxStack := 3, maxLocals := 1, code := prog_33_method_2_code, exceptionTable := #[], attributes := #[] }
def k8m1 : Method := { name := "requireOrder", desc := "(I)I", sig := { parameters := [.int], returnType := some .int }, accessFlags := 8, code := some k8c1 }
/-- com/example/pathmeter/pathmeter/PathStatistics -/
def k8 : Class := { plain "com/example/pathmeter/pathmeter/PathStatistics" (some 0) with
  accessFlags := 48
  interfaces := #[]
  cf := some (fileOf pool8 11 #[.nestMembers #[319]] #[{ accessFlags := 2, nameIndex := 5, descriptorIndex := 6, attributes := #[] }, { accessFlags := 8, nameIndex := 657, descriptorIndex := 658, attributes := #[] }] 48 2 #[] #[{ accessFlags := 26, nameIndex := 642, descriptorIndex := 643, attributes := #[] }, { accessFlags := 26, nameIndex := 607, descriptorIndex := 404, attributes := #[] }, { accessFlags := 26, nameIndex := 403, descriptorIndex := 404, attributes := #[] }, { accessFlags := 26, nameIndex := 648, descriptorIndex := 649, attributes := #[] }, { accessFlags := 26, nameIndex := 640, descriptorIndex := 641, attributes := #[] }, { accessFlags := 18, nameIndex := 14, descriptorIndex := 15, attributes := #[] }, { accessFlags := 2, nameIndex := 485, descriptorIndex := 486, attributes := #[] }, { accessFlags := 2, nameIndex := 489, descriptorIndex := 486, attributes := #[] }, { accessFlags := 18, nameIndex := 21, descriptorIndex := 22, attributes := #[] }, { accessFlags := 18, nameIndex := 29, descriptorIndex := 30, attributes := #[] }, { accessFlags := 18, nameIndex := 36, descriptorIndex := 15, attributes := #[] }, { accessFlags := 18, nameIndex := 39, descriptorIndex := 15, attributes := #[] }])
  fields := #[{ name := "LONGER", type := .int, accessFlags := 26, slot := 0, constantValue := 0 }, { name := "ORDER", type := (.object "java/util/Comparator"), accessFlags := 26, slot := 1, constantValue := 0 }, { name := "SHORTEST_FIRST", type := (.object "java/util/Comparator"), accessFlags := 26, slot := 2, constantValue := 0 }, { name := "SEPARATOR", type := (.object "java/lang/String"), accessFlags := 26, slot := 3, constantValue := 0 }, { name := "UNIT_ROUNDOFF", type := .double, accessFlags := 26, slot := 4, constantValue := 0 }, { name := "counts", type := (.object "java/util/Map"), accessFlags := 18, slot := 0, constantValue := 0 }, { name := "totalBytes", type := .long, accessFlags := 2, slot := 1, constantValue := 0 }, { name := "longerBytes", type := .long, accessFlags := 2, slot := 2, constantValue := 0 }, { name := "sizes", type := (.object "java/util/NavigableMap"), accessFlags := 18, slot := 3, constantValue := 0 }, { name := "observed", type := (.object "java/util/Set"), accessFlags := 18, slot := 4, constantValue := 0 }, { name := "parents", type := (.object "java/util/Map"), accessFlags := 18, slot := 5, constantValue := 0 }, { name := "incomingSums", type := (.object "java/util/Map"), accessFlags := 18, slot := 6, constantValue := 0 }]
  methods := #[k8m0, k8m1]
  instanceTypes := #[(.object "java/util/Map"), .long, .long, (.object "java/util/NavigableMap"), (.object "java/util/Set"), (.object "java/util/Map"), (.object "java/util/Map")]
  staticTypes := #[.int, (.object "java/util/Comparator"), (.object "java/util/Comparator"), (.object "java/lang/String"), .double]
  resolved := Array.replicate 841 none
  statics := none }

def pool9 : Array CpInfo := pool [(2, .class_ 4), (1, u "java/util/Map"), (31, .class_ 37), (0, u "java/util/Map$Entry"), (55, .class_ 94), (0, u "java/lang/Object")] 168

/-- java/util/Map -/
def k9 : Class := { plain "java/util/Map" (some 0) with
  accessFlags := 1537
  interfaces := #[]
  cf := some (fileOf pool9 2 #[.nestMembers #[36]] #[] 1537 93 #[] #[])
  fields := #[]
  methods := #[]
  instanceTypes := #[]
  staticTypes := #[]
  resolved := Array.replicate 263 none
  statics := none }

def pool10 : Array CpInfo := pool [(1, .methodref 2 3), (0, .class_ 4), (0, .nameAndType 5 6), (0, u "java/lang/Object"), (0, u "<init>"), (0, u "()V"), (1, .class_ 10), (1, u "java/util/AbstractMap"), (42, .class_ 54), (0, u "java/util/Map"), (9, u "keySet"), (0, u "Ljava/util/Set;"), (0, .class_ 67), (0, u "java/util/AbstractMap$1"), (5, u "values"), (0, u "Ljava/util/Collection;"), (0, .class_ 76), (0, u "java/util/AbstractMap$2"), (104, .class_ 182), (0, u "java/util/AbstractMap$ViewCollection"), (0, .class_ 184), (0, u "java/util/AbstractMap$SimpleImmutableEntry"), (0, .class_ 186), (0, u "java/util/AbstractMap$SimpleEntry"), (0, .class_ 188), (0, u "java/util/AbstractMap$2$1"), (0, .class_ 190), (0, u "java/util/AbstractMap$1$1")] 5

def k10c0 : Code := { maxStack := 1, maxLocals := 1, code := jdk_71_method_1_code, exceptionTable := #[], attributes := #[] }
def k10m0 : Method := { name := "<init>", desc := "()V", sig := { parameters := [], returnType := none }, accessFlags := 4, code := some k10c0 }
/-- java/util/AbstractMap -/
def k10 : Class := { plain "java/util/AbstractMap" (some 0) with
  accessFlags := 1057
  interfaces := #[9]
  cf := some (fileOf pool10 8 #[.nestMembers #[181, 183, 185, 75, 187, 66, 189]] #[{ accessFlags := 4, nameIndex := 5, descriptorIndex := 6, attributes := #[] }] 1057 2 #[53] #[{ accessFlags := 128, nameIndex := 64, descriptorIndex := 65, attributes := #[] }, { accessFlags := 128, nameIndex := 73, descriptorIndex := 74, attributes := #[] }])
  fields := #[{ name := "keySet", type := (.object "java/util/Set"), accessFlags := 128, slot := 0, constantValue := 0 }, { name := "values", type := (.object "java/util/Collection"), accessFlags := 128, slot := 1, constantValue := 0 }]
  methods := #[k10m0]
  instanceTypes := #[(.object "java/util/Set"), (.object "java/util/Collection")]
  staticTypes := #[]
  resolved := Array.replicate 196 none
  statics := none }

def pool11 : Array CpInfo := pool [(1, .class_ 2), (0, u "java/lang/Cloneable"), (0, .class_ 4), (0, u "java/lang/Object")] 2

/-- java/lang/Cloneable -/
def k11 : Class := { plain "java/lang/Cloneable" (some 0) with
  accessFlags := 1537
  interfaces := #[]
  cf := some (fileOf pool11 1 #[] #[] 1537 3 #[] #[])
  fields := #[]
  methods := #[]
  instanceTypes := #[]
  staticTypes := #[]
  resolved := Array.replicate 7 none
  statics := none }

def pool12 : Array CpInfo := pool [(1, .class_ 2), (0, u "java/io/Serializable"), (0, .class_ 4), (0, u "java/lang/Object")] 2

/-- java/io/Serializable -/
def k12 : Class := { plain "java/io/Serializable" (some 0) with
  accessFlags := 1537
  interfaces := #[]
  cf := some (fileOf pool12 1 #[] #[] 1537 3 #[] #[])
  fields := #[]
  methods := #[]
  instanceTypes := #[]
  staticTypes := #[]
  resolved := Array.replicate 7 none
  statics := none }

def pool13 : Array CpInfo := pool [(40, .class_ 41), (0, u "java/util/HashMap"), (1, .methodref 44 45), (0, .class_ 46), (0, .nameAndType 47 48), (0, u "java/util/AbstractMap"), (0, u "<init>"), (0, u "()V"), (32, .fieldref 40 82), (0, .nameAndType 83 84), (0, u "loadFactor"), (0, u "F"), (5, u "threshold"), (0, u "I"), (0, .float 1061158912), (8, .class_ 103), (1, u "java/util/Map"), (0, u "size"), (2, u "table"), (0, u "[Ljava/util/HashMap$Node;"), (14, u "entrySet"), (39, .class_ 165), (1, u "java/util/HashMap$Node"), (14, .class_ 181), (0, u "java/util/HashMap$TreeNode"), (22, u "modCount"), (37, u "Ljava/util/Set;"), (0, .class_ 244), (0, u "java/util/HashMap$KeySet"), (18, .class_ 264), (0, u "java/util/HashMap$Values"), (3, .class_ 269), (0, u "java/util/HashMap$EntrySet"), (76, .class_ 348), (1, u "java/util/HashMap$UnsafeHolder"), (43, .class_ 393), (0, u "java/lang/Cloneable"), (0, .class_ 395), (0, u "java/io/Serializable"), (0, u "serialVersionUID"), (0, u "J"), (3, u "DEFAULT_INITIAL_CAPACITY"), (1, u "MAXIMUM_CAPACITY"), (0, u "DEFAULT_LOAD_FACTOR"), (0, u "TREEIFY_THRESHOLD"), (1, u "UNTREEIFY_THRESHOLD"), (1, u "MIN_TREEIFY_CAPACITY"), (186, .class_ 597), (0, u "java/util/HashMap$EntrySpliterator"), (0, .class_ 599), (0, u "java/util/HashMap$ValueSpliterator"), (0, .class_ 601), (0, u "java/util/HashMap$KeySpliterator"), (0, .class_ 603), (0, u "java/util/HashMap$HashMapSpliterator"), (0, .class_ 605), (0, u "java/util/HashMap$EntryIterator"), (0, .class_ 607), (0, u "java/util/HashMap$ValueIterator"), (0, .class_ 609), (0, u "java/util/HashMap$KeyIterator"), (0, .class_ 611), (0, u "java/util/HashMap$HashIterator")] 17

def k13c0 : Code := { maxStack := 2, maxLocals := 1, code := jdk_69_method_7_code, exceptionTable := #[], attributes := #[] }
def k13m0 : Method := { name := "<init>", desc := "()V", sig := { parameters := [], returnType := none }, accessFlags := 1, code := some k13c0 }
/-- java/util/HashMap -/
def k13 : Class := { plain "java/util/HashMap" (some 10) with
  accessFlags := 33
  interfaces := #[9, 11, 12]
  cf := some (fileOf pool13 40 #[.nestMembers #[180, 596, 598, 600, 602, 604, 606, 608, 610, 346, 268, 263, 243, 163]] #[{ accessFlags := 1, nameIndex := 47, descriptorIndex := 48, attributes := #[] }] 33 44 #[101, 392, 394] #[{ accessFlags := 26, nameIndex := 396, descriptorIndex := 397, attributes := #[] }, { accessFlags := 24, nameIndex := 401, descriptorIndex := 91, attributes := #[] }, { accessFlags := 24, nameIndex := 403, descriptorIndex := 91, attributes := #[] }, { accessFlags := 24, nameIndex := 404, descriptorIndex := 84, attributes := #[] }, { accessFlags := 24, nameIndex := 405, descriptorIndex := 91, attributes := #[] }, { accessFlags := 24, nameIndex := 407, descriptorIndex := 91, attributes := #[] }, { accessFlags := 24, nameIndex := 409, descriptorIndex := 91, attributes := #[] }, { accessFlags := 128, nameIndex := 107, descriptorIndex := 108, attributes := #[] }, { accessFlags := 128, nameIndex := 123, descriptorIndex := 242, attributes := #[] }, { accessFlags := 128, nameIndex := 104, descriptorIndex := 91, attributes := #[] }, { accessFlags := 128, nameIndex := 204, descriptorIndex := 91, attributes := #[] }, { accessFlags := 0, nameIndex := 90, descriptorIndex := 91, attributes := #[] }, { accessFlags := 16, nameIndex := 83, descriptorIndex := 84, attributes := #[] }])
  fields := #[{ name := "serialVersionUID", type := .long, accessFlags := 26, slot := 0, constantValue := 0 }, { name := "DEFAULT_INITIAL_CAPACITY", type := .int, accessFlags := 24, slot := 1, constantValue := 0 }, { name := "MAXIMUM_CAPACITY", type := .int, accessFlags := 24, slot := 2, constantValue := 0 }, { name := "DEFAULT_LOAD_FACTOR", type := .float, accessFlags := 24, slot := 3, constantValue := 0 }, { name := "TREEIFY_THRESHOLD", type := .int, accessFlags := 24, slot := 4, constantValue := 0 }, { name := "UNTREEIFY_THRESHOLD", type := .int, accessFlags := 24, slot := 5, constantValue := 0 }, { name := "MIN_TREEIFY_CAPACITY", type := .int, accessFlags := 24, slot := 6, constantValue := 0 }, { name := "table", type := (.array (.object "java/util/HashMap$Node")), accessFlags := 128, slot := 2, constantValue := 0 }, { name := "entrySet", type := (.object "java/util/Set"), accessFlags := 128, slot := 3, constantValue := 0 }, { name := "size", type := .int, accessFlags := 128, slot := 4, constantValue := 0 }, { name := "modCount", type := .int, accessFlags := 128, slot := 5, constantValue := 0 }, { name := "threshold", type := .int, accessFlags := 0, slot := 6, constantValue := 0 }, { name := "loadFactor", type := .float, accessFlags := 16, slot := 7, constantValue := 0 }]
  methods := #[k13m0]
  instanceTypes := #[(.object "java/util/Set"), (.object "java/util/Collection"), (.array (.object "java/util/HashMap$Node")), (.object "java/util/Set"), .int, .int, .int, .float]
  staticTypes := #[.long, .int, .int, .float, .int, .int, .int]
  resolved := Array.replicate 629 none
  statics := none }

def pool14 : Array CpInfo := pool [(4, .class_ 6), (1, u "java/lang/Object"), (6, .class_ 15), (1, u "com/example/pathmeter/pathmeter/ValueStatistics"), (0, u "observed"), (0, u "Ljava/util/Map;"), (2, u "totals"), (2, u "kept"), (2, u "buckets"), (52, .class_ 81), (1, u "com/example/pathmeter/pathmeter/ValueStatistics$LabelValue"), (1, u "Ljava/util/Comparator;"), (44, .class_ 129), (0, u "com/example/pathmeter/pathmeter/ValueStatistics$Bucket"), (121, u "FIRST_TO_MOVE_OUT"), (67, .class_ 320), (0, u "com/example/pathmeter/pathmeter/ValueStatistics$LabelFeature"), (86, u "MARKED_KINDS"), (0, u "Ljava/util/List;"), (67, u "VALUE_BYTES"), (0, u "I"), (2, u "BUCKET_BYTES"), (1, u "OTHER_FEATURE"), (0, u "C"), (13, u "requireTopK"), (0, u "(I)I")] 139

def k14c0 : Code := { maxStack := 3, maxLocals := 1, code := prog_48_method_3_code, exceptionTable := #[], attributes := #[] }
def k14m0 : Method := { name := "requireTopK", desc := "(I)I", sig := { parameters := [.int], returnType := some .int }, accessFlags := 8, code := some k14c0 }
/-- com/example/pathmeter/pathmeter/ValueStatistics -/
def k14 : Class := { plain "com/example/pathmeter/pathmeter/ValueStatistics" (some 0) with
  accessFlags := 48
  interfaces := #[]
  cf := some (fileOf pool14 13 #[.nestMembers #[128, 319, 79]] #[{ accessFlags := 8, nameIndex := 497, descriptorIndex := 498, attributes := #[] }] 48 4 #[] #[{ accessFlags := 26, nameIndex := 476, descriptorIndex := 477, attributes := #[] }, { accessFlags := 26, nameIndex := 480, descriptorIndex := 477, attributes := #[] }, { accessFlags := 26, nameIndex := 482, descriptorIndex := 483, attributes := #[] }, { accessFlags := 26, nameIndex := 251, descriptorIndex := 83, attributes := #[] }, { accessFlags := 26, nameIndex := 407, descriptorIndex := 408, attributes := #[] }, { accessFlags := 18, nameIndex := 23, descriptorIndex := 17, attributes := #[] }, { accessFlags := 18, nameIndex := 26, descriptorIndex := 17, attributes := #[] }, { accessFlags := 18, nameIndex := 16, descriptorIndex := 17, attributes := #[] }, { accessFlags := 18, nameIndex := 20, descriptorIndex := 17, attributes := #[] }])
  fields := #[{ name := "VALUE_BYTES", type := .int, accessFlags := 26, slot := 0, constantValue := 0 }, { name := "BUCKET_BYTES", type := .int, accessFlags := 26, slot := 1, constantValue := 0 }, { name := "OTHER_FEATURE", type := .char, accessFlags := 26, slot := 2, constantValue := 0 }, { name := "FIRST_TO_MOVE_OUT", type := (.object "java/util/Comparator"), accessFlags := 26, slot := 3, constantValue := 0 }, { name := "MARKED_KINDS", type := (.object "java/util/List"), accessFlags := 26, slot := 4, constantValue := 0 }, { name := "kept", type := (.object "java/util/Map"), accessFlags := 18, slot := 0, constantValue := 0 }, { name := "buckets", type := (.object "java/util/Map"), accessFlags := 18, slot := 1, constantValue := 0 }, { name := "observed", type := (.object "java/util/Map"), accessFlags := 18, slot := 2, constantValue := 0 }, { name := "totals", type := (.object "java/util/Map"), accessFlags := 18, slot := 3, constantValue := 0 }]
  methods := #[k14m0]
  instanceTypes := #[(.object "java/util/Map"), (.object "java/util/Map"), (.object "java/util/Map"), (.object "java/util/Map")]
  staticTypes := #[.int, .int, .char, (.object "java/util/Comparator"), (.object "java/util/List")]
  resolved := Array.replicate 638 none
  statics := none }

/-- the primitive byte -/
def k15 : Class := { plain "byte" none with kind := .primitive 'B', accessFlags := 0x411 }
/-- [B -/
def k16 : Class := { plain "[B" (some 0) with kind := .array 15 .byte, interfaces := #[11, 12], accessFlags := 1041 }

/-- the primitive int -/
def k17 : Class := { plain "int" none with kind := .primitive 'I', accessFlags := 0x411 }
/-- [I -/
def k18 : Class := { plain "[I" (some 0) with kind := .array 17 .int, interfaces := #[11, 12], accessFlags := 1041 }

def heap : Heap := #[]
def classes : Array Class := #[k0, k1, k2, k3, k4, k5, k6, k7, k8, k9, k10, k11, k12, k13, k14, k15, k16, k17, k18]
def interned : List (Array UInt16 × Addr) := []
def slotsUsed : Nat := 0
def theMethod : MethodId := ⟨1, 1⟩
def args0 : Array Value := #[.int 1, .int 0, .int 3]
def aboutOver (below : List Frame) : State where
  vm := { classes := classes, interned := interned.toArray }
  heap := heap
  slotsUsed := slotsUsed
  threads := #[{ frames := .invoking theMethod args0 :: below }]
def below0 : List Frame := [.native { method := ⟨0, 0⟩, args := #[] }]
def about1 : State := aboutOver below0
def p0 : Program := .bare "" "" ""
def e0 : Env := launch0.env 0 0 0
theorem w_frames : about1.frames = Frame.invoking theMethod args0 :: below0 := rfl
set_option maxRecDepth 65536 in
theorem w_args : argsFit about1.vm theMethod args0 = true := by decide +kernel
set_option maxRecDepth 65536 in
theorem w_heap : heapFits about1 = true := by decide +kernel
set_option maxRecDepth 65536 in
theorem w_runnable : about1.curStatus? = some .runnable := by decide +kernel
set_option maxRecDepth 65536 in
theorem w_alone : about1.alone = true := by decide +kernel
set_option maxRecDepth 65536 in
theorem w_named : about1.methodNamed? x = some theMethod := by decide +kernel
set_option maxRecDepth 65536 in
theorem w_hears : about1.hears theMethod below0 = true := by decide +kernel
set_option maxRecDepth 65536 in
theorem w_ripe : about1.ripe theMethod args0 below0 = true := by decide +kernel
theorem w_running : about1.status = .running := rfl
set_option maxRecDepth 65536 in
theorem w_room : about1.hasRoom e0.platform room_1 = true :=
  launch0.hasRoom_least _ room_1 (by decide +kernel) (by decide +kernel) (by decide +kernel) (by decide +kernel) (by decide +kernel) (by decide +kernel)
theorem allAtoms_all (ts : List Jvm.Cond) (a : Array Jvm.Value) (st : Jvm.State) : (allAtoms ts).before a st = ts.all (fun c => c.before a st) := by
  induction ts with
  | nil => rfl
  | cons c t ih =>
    show (Jvm.Cond.and c (allAtoms t)).before a st = _
    rw [Jvm.Cond.before_and, ih, List.all_cons]
def words1 : List Jvm.Cond := Jvm.Cond.code x code maxLocals ret :: tables_1
/-- a 'code' word, met by the world's own term for the bytes: nothing is compared byte by byte -/
theorem code_word {y : MethodName} {bytes : ByteArray} {mx : Nat} {rt : Option FieldType} {a : Array Value} {s : State} {m : MethodId} {meth : Method} {c : Code} (h1 : s.methodNamed? y = some m) (h2 : s.vm.method? m = some meth) (h3 : meth.code = some c) (h4 : c.code = bytes)
    (h5 : (c.maxLocals == mx && c.exceptionTable.isEmpty && decide (c.maxStack ≤ mostOperands) && decide (meth.sig.returnType = rt) && !meth.locks && decide (parseMethodDescriptor y.desc = some meth.sig)) = true) : (Jvm.Cond.code y bytes mx rt).before a s = true := by
  simp only [Bool.and_eq_true, beq_iff_eq, Bool.not_eq_true', decide_eq_true_eq] at h5
  obtain ⟨⟨⟨⟨⟨g1, g2⟩, g3⟩, g4⟩, g5⟩, g6⟩ := h5
  simp [Cond.before, Cond.holds, Cond.value, h1, h2, h3, h4, g1, g2, g3, g4, g5, g6]
def isCode : Jvm.Cond → Bool
  | .code _ _ _ _ => true
  | _ => false
theorem all_split {L : List Jvm.Cond} {P : Jvm.Cond → Bool} (h1 : L.all (fun c => isCode c || P c) = true) (h2 : ∀ c ∈ L.filter isCode, P c = true) : L.all P = true := by
  refine List.all_eq_true.mpr fun c hc => ?_
  have h := List.all_eq_true.mp h1 c hc
  rcases Bool.eq_false_or_eq_true (isCode c) with hi | hi
  · exact h2 c (List.mem_filter.mpr ⟨hc, hi⟩)
  · simpa [hi] using h
set_option maxRecDepth 65536 in
theorem w_c0 : (Jvm.Cond.code x code maxLocals ret).before args0 about1 = true := code_word (m := ⟨1, 1⟩) (meth := k1m1) (c := k1c1) (by decide +kernel) rfl rfl rfl (by decide +kernel)
set_option maxRecDepth 65536 in
theorem w_c1 : (Jvm.Cond.code ({ cls := "com/example/pathmeter/pathmeter/MarkovHistogram$Builder", name := "<init>", desc := "()V" } : Jvm.MethodName) prog_25_method_1_code (1 : Nat) (Option.none : Option Jvm.ClassFile.FieldType)).before args0 about1 = true := code_word (m := ⟨5, 0⟩) (meth := k5m0) (c := k5c0) (by decide +kernel) rfl rfl rfl (by decide +kernel)
set_option maxRecDepth 65536 in
theorem w_c2 : (Jvm.Cond.code ({ cls := "com/example/pathmeter/pathmeter/MarkovHistogram$Builder", name := "<init>", desc := "(ILjava/util/Map;I)V" } : Jvm.MethodName) prog_25_method_3_code (4 : Nat) (Option.none : Option Jvm.ClassFile.FieldType)).before args0 about1 = true := code_word (m := ⟨5, 2⟩) (meth := k5m2) (c := k5c2) (by decide +kernel) rfl rfl rfl (by decide +kernel)
set_option maxRecDepth 65536 in
theorem w_c3 : (Jvm.Cond.code ({ cls := "java/lang/Object", name := "<init>", desc := "()V" } : Jvm.MethodName) object_method_1_code (1 : Nat) (Option.none : Option Jvm.ClassFile.FieldType)).before args0 about1 = true := code_word (m := ⟨0, 0⟩) (meth := k0m0) (c := k0c0) (by decide +kernel) rfl rfl rfl (by decide +kernel)
set_option maxRecDepth 65536 in
theorem w_c4 : (Jvm.Cond.code ({ cls := "com/example/pathmeter/pathmeter/MarkovHistogram$Tally", name := "<init>", desc := "()V" } : Jvm.MethodName) prog_26_method_1_code (1 : Nat) (Option.none : Option Jvm.ClassFile.FieldType)).before args0 about1 = true := code_word (m := ⟨6, 0⟩) (meth := k6m0) (c := k6c0) (by decide +kernel) rfl rfl rfl (by decide +kernel)
set_option maxRecDepth 65536 in
theorem w_c5 : (Jvm.Cond.code ({ cls := "java/lang/Math", name := "max", desc := "(II)I" } : Jvm.MethodName) jdk_29_method_65_code (2 : Nat) (Option.some Jvm.ClassFile.FieldType.int)).before args0 about1 = true := code_word (m := ⟨7, 1⟩) (meth := k7m1) (c := k7c1) (by decide +kernel) rfl rfl rfl (by decide +kernel)
set_option maxRecDepth 65536 in
theorem w_c6 : (Jvm.Cond.code ({ cls := "com/example/pathmeter/pathmeter/MarkovHistogram$Builder", name := "withOrder", desc := "(I)Lcom/example/pathmeter/pathmeter/MarkovHistogram$Builder;" } : Jvm.MethodName) prog_25_method_4_code (2 : Nat) (Option.some (Jvm.ClassFile.FieldType.object "com/example/pathmeter/pathmeter/MarkovHistogram$Builder"))).before args0 about1 = true := code_word (m := ⟨5, 3⟩) (meth := k5m3) (c := k5c3) (by decide +kernel) rfl rfl rfl (by decide +kernel)
set_option maxRecDepth 65536 in
theorem w_c7 : (Jvm.Cond.code ({ cls := "com/example/pathmeter/pathmeter/PathStatistics", name := "requireOrder", desc := "(I)I" } : Jvm.MethodName) prog_33_method_2_code (1 : Nat) (Option.some Jvm.ClassFile.FieldType.int)).before args0 about1 = true := code_word (m := ⟨8, 1⟩) (meth := k8m1) (c := k8c1) (by decide +kernel) rfl rfl rfl (by decide +kernel)
set_option maxRecDepth 65536 in
theorem w_c8 : (Jvm.Cond.code ({ cls := "com/example/pathmeter/pathmeter/MarkovHistogram$Builder", name := "longestValue", desc := "()I" } : Jvm.MethodName) prog_25_method_7_code (1 : Nat) (Option.some Jvm.ClassFile.FieldType.int)).before args0 about1 = true := code_word (m := ⟨5, 4⟩) (meth := k5m4) (c := k5c4) (by decide +kernel) rfl rfl rfl (by decide +kernel)
set_option maxRecDepth 65536 in
theorem w_c9 : (Jvm.Cond.code ({ cls := "com/example/pathmeter/pathmeter/MarkovHistogram$Builder", name := "<init>", desc := "(I)V" } : Jvm.MethodName) prog_25_method_2_code (2 : Nat) (Option.none : Option Jvm.ClassFile.FieldType)).before args0 about1 = true := code_word (m := ⟨5, 1⟩) (meth := k5m1) (c := k5c1) (by decide +kernel) rfl rfl rfl (by decide +kernel)
set_option maxRecDepth 65536 in
theorem w_c10 : (Jvm.Cond.code ({ cls := "java/util/HashMap", name := "<init>", desc := "()V" } : Jvm.MethodName) jdk_69_method_7_code (1 : Nat) (Option.none : Option Jvm.ClassFile.FieldType)).before args0 about1 = true := code_word (m := ⟨13, 0⟩) (meth := k13m0) (c := k13c0) (by decide +kernel) rfl rfl rfl (by decide +kernel)
set_option maxRecDepth 65536 in
theorem w_c11 : (Jvm.Cond.code ({ cls := "java/util/AbstractMap", name := "<init>", desc := "()V" } : Jvm.MethodName) jdk_71_method_1_code (1 : Nat) (Option.none : Option Jvm.ClassFile.FieldType)).before args0 about1 = true := code_word (m := ⟨10, 0⟩) (meth := k10m0) (c := k10c0) (by decide +kernel) rfl rfl rfl (by decide +kernel)
set_option maxRecDepth 65536 in
theorem w_c12 : (Jvm.Cond.code ({ cls := "com/example/pathmeter/pathmeter/ValueStatistics", name := "requireTopK", desc := "(I)I" } : Jvm.MethodName) prog_48_method_3_code (1 : Nat) (Option.some Jvm.ClassFile.FieldType.int)).before args0 about1 = true := code_word (m := ⟨14, 0⟩) (meth := k14m0) (c := k14c0) (by decide +kernel) rfl rfl rfl (by decide +kernel)
def codes1 : List Jvm.Cond := [Jvm.Cond.code x code maxLocals ret, Jvm.Cond.code ({ cls := "com/example/pathmeter/pathmeter/MarkovHistogram$Builder", name := "<init>", desc := "()V" } : Jvm.MethodName) prog_25_method_1_code (1 : Nat) (Option.none : Option Jvm.ClassFile.FieldType), Jvm.Cond.code ({ cls := "com/example/pathmeter/pathmeter/MarkovHistogram$Builder", name := "<init>", desc := "(ILjava/util/Map;I)V" } : Jvm.MethodName) prog_25_method_3_code (4 : Nat) (Option.none : Option Jvm.ClassFile.FieldType), Jvm.Cond.code ({ cls := "java/lang/Object", name := "<init>", desc := "()V" } : Jvm.MethodName) object_method_1_code (1 : Nat) (Option.none : Option Jvm.ClassFile.FieldType), Jvm.Cond.code ({ cls := "com/example/pathmeter/pathmeter/MarkovHistogram$Tally", name := "<init>", desc := "()V" } : Jvm.MethodName) prog_26_method_1_code (1 : Nat) (Option.none : Option Jvm.ClassFile.FieldType), Jvm.Cond.code ({ cls := "java/lang/Math", name := "max", desc := "(II)I" } : Jvm.MethodName) jdk_29_method_65_code (2 : Nat) (Option.some Jvm.ClassFile.FieldType.int), Jvm.Cond.code ({ cls := "com/example/pathmeter/pathmeter/MarkovHistogram$Builder", name := "withOrder", desc := "(I)Lcom/example/pathmeter/pathmeter/MarkovHistogram$Builder;" } : Jvm.MethodName) prog_25_method_4_code (2 : Nat) (Option.some (Jvm.ClassFile.FieldType.object "com/example/pathmeter/pathmeter/MarkovHistogram$Builder")), Jvm.Cond.code ({ cls := "com/example/pathmeter/pathmeter/PathStatistics", name := "requireOrder", desc := "(I)I" } : Jvm.MethodName) prog_33_method_2_code (1 : Nat) (Option.some Jvm.ClassFile.FieldType.int), Jvm.Cond.code ({ cls := "com/example/pathmeter/pathmeter/MarkovHistogram$Builder", name := "longestValue", desc := "()I" } : Jvm.MethodName) prog_25_method_7_code (1 : Nat) (Option.some Jvm.ClassFile.FieldType.int), Jvm.Cond.code ({ cls := "com/example/pathmeter/pathmeter/MarkovHistogram$Builder", name := "<init>", desc := "(I)V" } : Jvm.MethodName) prog_25_method_2_code (2 : Nat) (Option.none : Option Jvm.ClassFile.FieldType), Jvm.Cond.code ({ cls := "java/util/HashMap", name := "<init>", desc := "()V" } : Jvm.MethodName) jdk_69_method_7_code (1 : Nat) (Option.none : Option Jvm.ClassFile.FieldType), Jvm.Cond.code ({ cls := "java/util/AbstractMap", name := "<init>", desc := "()V" } : Jvm.MethodName) jdk_71_method_1_code (1 : Nat) (Option.none : Option Jvm.ClassFile.FieldType), Jvm.Cond.code ({ cls := "com/example/pathmeter/pathmeter/ValueStatistics", name := "requireTopK", desc := "(I)I" } : Jvm.MethodName) prog_48_method_3_code (1 : Nat) (Option.some Jvm.ClassFile.FieldType.int)]
set_option maxRecDepth 65536 in
theorem codes_eq : words1.filter isCode = codes1 := rfl
theorem w_codes : ∀ c ∈ words1.filter isCode, c.before args0 about1 = true := by
  rw [codes_eq]
  intro c hc
  simp only [codes1, List.mem_cons, List.not_mem_nil, or_false] at hc
  rcases hc with rfl | rfl | rfl | rfl | rfl | rfl | rfl | rfl | rfl | rfl | rfl | rfl | rfl
  · exact w_c0
  · exact w_c1
  · exact w_c2
  · exact w_c3
  · exact w_c4
  · exact w_c5
  · exact w_c6
  · exact w_c7
  · exact w_c8
  · exact w_c9
  · exact w_c10
  · exact w_c11
  · exact w_c12
set_option maxRecDepth 65536 in
theorem w_t1 : (words1.take 24).all (fun c => isCode c || c.before args0 about1) = true := by decide +kernel
set_option maxRecDepth 65536 in
theorem w_t2 : ((words1.drop 24).take 24).all (fun c => isCode c || c.before args0 about1) = true := by decide +kernel
set_option maxRecDepth 65536 in
theorem w_t3 : (((words1.drop 24).drop 24).take 24).all (fun c => isCode c || c.before args0 about1) = true := by decide +kernel
set_option maxRecDepth 65536 in
theorem w_t4 : (((words1.drop 24).drop 24).drop 24).all (fun c => isCode c || c.before args0 about1) = true := by decide +kernel
theorem w_tables : (allAtoms (Jvm.Cond.code x code maxLocals ret :: tables_1)).before args0 about1 = true := by
  rw [allAtoms_all]
  show words1.all (fun c => c.before args0 about1) = true
  refine all_split ?_ w_codes
  rw [← List.take_append_drop 24 words1, List.all_append, w_t1, ← List.take_append_drop 24 (words1.drop 24), List.all_append, w_t2, ← List.take_append_drop 24 ((words1.drop 24).drop 24), List.all_append, w_t3, w_t4]
  rfl
set_option maxRecDepth 65536 in
theorem w_case : (Jvm.Cond.and given_1 narrow_1).before args0 about1 = true := by decide +kernel
theorem w_applies : (headSpec (Jvm.Cond.code x code maxLocals ret :: tables_1) room_1).applies x e0.platform about1 = true :=
  (Spec.applies_iff w_frames).mpr ⟨w_running, w_runnable, w_alone, w_named, w_hears, w_ripe, w_room, w_tables⟩
theorem atStart : AtStart classFile x code maxLocals ret World_1 tables_1 room_1 Calls_1 rest_1 Pre_1 launch0 p0 e0 about1 theMethod args0 below0 :=
  ⟨lists_1, trivial, launch0.admits_env _ _ _, launch0.least_env, fairChoices_fair.cas, fairChoices_fair.clock, w_frames, w_args, w_heap, w_applies, trivial, trivial, w_case⟩
end start1
theorem witness_1 : WitnessClaimed_1 := ⟨start1.p0, start1.e0, start1.about1, start1.theMethod, start1.args0, start1.below0, start1.atStart⟩
end Jvm.Pilot.@@N@@
