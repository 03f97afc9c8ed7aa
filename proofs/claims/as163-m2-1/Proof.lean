import JvmDerived
import JvmDerived.Pilot.@@N@@Statement
import JvmDerived.Pilot.@@N@@Code
set_option linter.unusedVariables false
set_option linter.unusedSimpArgs false
namespace Jvm.RoadKit
open Sem ClassFile Op Lib Jvm.Stand Jvm.Free Jvm.LawKit
section OwnRets
variable {p : Program} {l : Launch} {e : Env} {R : Room} {s : State} {m : MethodId} {args : Array Value} {below : List Frame} {meth : Method} {c : Code} {T : State} {locs : List Loc} {cells slots : Nat}
theorem own_retI (X : Stand p l e R s m args below meth c T locs cells slots) (hx : p.tables.exec = Jvm.exec) {pc : Nat} {Ls : Array Slot} {z z' : Int32} {rest : List Value} (hret : meth.sig.returnType = some .int) (hd : decode c.code pc = .ok (.ireturn, 1)) (hz : z' = z) {fs : List Frame}
    (hl : ∀ (f : JFrame) (acts : List Action), f.method = m → f.locked = none → f.entered = [] → (doReturn e (T.setTop f) acts (some (.int z'))).1 = T.setFrames fs) : Steps p.tables e below (T.setTop (mkF m pc Ls (.int z :: rest))) (T.setFrames fs) := by
  subst hz
  have hm' : T.vm.method? m = some meth := X.method'
  have hn : narrow .int (.int z') = .int z' := rfl
  show Steps p.tables e below (T.setTop { method := m, pc := pc, locals := Ls, stack := _ :: rest, locked := none }) _
  jvm_step X.here [X.here.top, hx, hd, hm', hret, hn]
  first | (intro acts; rw [hl _ acts rfl rfl rfl]) | rw [hl _ _ rfl rfl rfl]
  exact Steps.refl _
theorem own_retZ (X : Stand p l e R s m args below meth c T locs cells slots) (hx : p.tables.exec = Jvm.exec) {pc : Nat} {Ls : Array Slot} {z z' : Int32} {rest : List Value} (hret : meth.sig.returnType = some .boolean) (hd : decode c.code pc = .ok (.ireturn, 1)) (hz : z' = z) (hn : nar .boolean z = z) {fs : List Frame}
    (hl : ∀ (f : JFrame) (acts : List Action), f.method = m → f.locked = none → f.entered = [] → (doReturn e (T.setTop f) acts (some (.int z'))).1 = T.setFrames fs) : Steps p.tables e below (T.setTop (mkF m pc Ls (.int z :: rest))) (T.setFrames fs) := by
  subst hz
  refine retN X hx (t := .boolean) hret (by simp) hd ?_
  rw [hn]; exact hl
theorem own_retJ (X : Stand p l e R s m args below meth c T locs cells slots) (hx : p.tables.exec = Jvm.exec) {pc : Nat} {Ls : Array Slot} {z z' : Int64} (hret : meth.sig.returnType = some .long) (hd : decode c.code pc = .ok (.lreturn, 1)) (hz : z' = z) {fs : List Frame}
    (hl : ∀ (f : JFrame) (acts : List Action), f.method = m → f.locked = none → f.entered = [] → (doReturn e (T.setTop f) acts (some (.long z'))).1 = T.setFrames fs) : Steps p.tables e below (T.setTop (mkF m pc Ls [.long z])) (T.setFrames fs) := by
  subst hz
  exact X.lreturnOut hx hret hd hl
end OwnRets
theorem own_lw_eq_t {x y : Int64} (h : x = y) : ifCond.holds .eq (lcmpW x y) = true := (if0 _ _).trans (teq ((lw_eq x y).mpr h)).1
theorem own_lw_eq_f {x y : Int64} (h : ¬ x = y) : ifCond.holds .eq (lcmpW x y) = false := (if0 _ _).trans (feq (mt (lw_eq x y).mp h)).1
theorem own_lw_ne_t {x y : Int64} (h : ¬ x = y) : ifCond.holds .ne (lcmpW x y) = true := (if0 _ _).trans (feq (mt (lw_eq x y).mp h)).2
theorem own_lw_ne_f {x y : Int64} (h : x = y) : ifCond.holds .ne (lcmpW x y) = false := (if0 _ _).trans (teq ((lw_eq x y).mpr h)).2
theorem own_lw_lt_t {x y : Int64} (h : x < y) : ifCond.holds .lt (lcmpW x y) = true := (if0 _ _).trans (tlt ((lw_lt x y).mpr h)).1
theorem own_lw_lt_f {x y : Int64} (h : ¬ x < y) : ifCond.holds .lt (lcmpW x y) = false := (if0 _ _).trans (flt (mt (lw_lt x y).mp h)).1
theorem own_lw_ge_t {x y : Int64} (h : ¬ x < y) : ifCond.holds .ge (lcmpW x y) = true := (if0 _ _).trans (flt (mt (lw_lt x y).mp h)).2.1
theorem own_lw_ge_f {x y : Int64} (h : x < y) : ifCond.holds .ge (lcmpW x y) = false := (if0 _ _).trans (tlt ((lw_lt x y).mpr h)).2.1
end Jvm.RoadKit
namespace Jvm.Pilot.@@N@@
open Jvm Jvm.ClassFile Sem Op Lib Jvm.Free Jvm.Stand Jvm.LawKit Jvm.RoadKit Bundle Jvm.Pilot.@@N@@.Jvm.D
theorem d2_0 : decode jdk_30_method_1_code 0 = .ok (.aload_n 0, 1) := by decide +kernel
theorem d2_1 : decode jdk_30_method_1_code 1 = .ok (.invokespecial 1, 3) := by decide +kernel
theorem d2_4 : decode jdk_30_method_1_code 4 = .ok (.return_, 1) := by decide +kernel
theorem pn_2 : plainName "java/lang/Record" = true := by first | (simp [plainName, overriddenIn]; done) | decide +kernel
theorem ef_2 (m : MethodId) (x0 : Addr) : entryFrame m #[(.ref x0)] 1 = mkF m 0 #[.val (.ref x0)] [] := by first | (simp [entryFrame, mkF, argsToLocals, Value.category]; done) | rfl
def Q2 (Z : State) (a1 : Addr) (h0 : Heap) (n0 : Nat) (v : Option Value) (h : Heap) (L : List Loc) : Prop := v = none ∧ Fr n0 L ∧ h = h0
set_option maxRecDepth 65536 in
set_option maxHeartbeats 40000000 in
theorem rm2 (l : Launch) (Z : State) (a0 : Array Value) (hw : ∀ d ∈ tables_1, d.before a0 Z = true) (ws : List Jvm.Cond) (a1 : Addr) (h0 : Heap) (n0 : Nat) (Z0 : n0 ≤ h0.size)  :
    MetFree l (⟨"java/lang/Record", "<init>", "()V"⟩ : MethodName) (head1 (Jvm.Cond.code (⟨"java/lang/Record", "<init>", "()V"⟩ : MethodName) jdk_30_method_1_code 1 none :: ws) ({ frames := 1, cells := 0, slots := 0, locals := 12 } : Room)) (fun a U => a = #[(.ref a1)] ∧ Z.Warmed39 U.vm ∧ U.heap = h0) (fun _ _ _ _ _ => True) (fun _ U o U' => ∃ v L, o = .returned v ∧ Q2 Z a1 h0 n0 v U'.heap L ∧ FrameEnd U o U' L ({ frames := 1, cells := 0, slots := 0, locals := 12 } : Room).cells ({ frames := 1, cells := 0, slots := 0, locals := 12 } : Room).slots) := by
  refine MetFree.of_bodySF (plainFor_of_name pn_2) hisR ?_
  intro p e s m args below meth c s₁ Bd hml0 hP hK
  obtain ⟨rfl, hZ, hh⟩ := hP
  have w11_ := hw _ (List.mem_of_getElem? (i := 11) rfl)
  have w12_ := hw _ (List.mem_of_getElem? (i := 12) rfl)
  have w13_ := hw _ (List.mem_of_getElem? (i := 13) rfl)
  have hx := Bd.exec
  have hby := Bd.bytes
  have hml : c.maxLocals = 1 := hml0
  have hown : s.vm.findClass "java/lang/Record" = some m.cls := findClass_of_methodNamed Bd.named
  have hnm := (name_of_methodNamed Bd.named Bd.method).1
  have X0 : Stand p l e ({ frames := 1, cells := 0, slots := 0, locals := 12 } : Room) s m #[(.ref a1)] below meth c s₁ [] 0 0 := Stand.of_body Bd
  have e0 : s₁.heap = h0 := by rw [← hh, Bd.state]; rfl
  have N0 := Fr.nil n0
  have pre0 : ∀ t, Steps p.tables e below (s₁.setTop (mkF m 0 #[.val (.ref a1)] [])) t → Steps p.tables e below (s₁.setTop (entryFrame m #[(.ref a1)] 1)) t := fun t k => castTop (ef_2 m a1) k
  obtain ⟨T1, X1, e1, st1⟩ := initO X0 hx hZ hown w11_ w12_ w13_ e0 (g := (mkF m 1 #[.val (.ref a1)] [(.ref a1)])) rfl (by rw [hml]; rfl) rfl (hb hby d2_1) (by decide) (W := 0) (by show 2 * 0 + _ ≤ _; exact Nat.le_of_eq rfl) (by decide)
  obtain ⟨fs, hr, hrun, hended, hW, hsame⟩ := X1.leave (v := none) (fun _ => rfl)
  refine ⟨_, _, pre0 _ ?_, hrun, hended, _, _, rfl, ?_, ⟨_, rfl⟩, hW, hsame.mono (by decide) (by decide)⟩
  · show Steps p.tables e below (s₁.setTop (mkF m 0 #[.val (.ref a1)] [])) _
    refine XS.aloadN X0.here hx rfl (hb hby d2_0) rfl rfl ?_
    show Steps p.tables e below (s₁.setTop (mkF m 1 #[.val (.ref a1)] [(.ref a1)])) _
    refine st1 _ ?_
    show Steps p.tables e below (T1.setTop (mkF m 4 #[.val (.ref a1)] [])) _
    exact X1.returnOut hx Bd.returns (hb hby d2_4) hr
  · show Q2 Z a1 h0 n0 _ T1.heap _
    rw [e1]
    exact ⟨rfl, N0, rfl⟩
theorem d1_0 : decode prog_35_method_1_code 0 = .ok (.aload_n 0, 1) := by decide +kernel
theorem d1_1 : decode prog_35_method_1_code 1 = .ok (.invokespecial 1, 3) := by decide +kernel
theorem d1_4 : decode prog_35_method_1_code 4 = .ok (.aload_n 0, 1) := by decide +kernel
theorem d1_5 : decode prog_35_method_1_code 5 = .ok (.iload_n 1, 1) := by decide +kernel
theorem d1_6 : decode prog_35_method_1_code 6 = .ok (.putfield 7, 3) := by decide +kernel
theorem d1_9 : decode prog_35_method_1_code 9 = .ok (.aload_n 0, 1) := by decide +kernel
theorem d1_10 : decode prog_35_method_1_code 10 = .ok (.iload_n 2, 1) := by decide +kernel
theorem d1_11 : decode prog_35_method_1_code 11 = .ok (.putfield 13, 3) := by decide +kernel
theorem d1_14 : decode prog_35_method_1_code 14 = .ok (.return_, 1) := by decide +kernel
theorem pn_1 : plainName "com/example/mindful_guard/mindfulguard/packets/AddressPair" = true := by first | (simp [plainName, overriddenIn]; done) | decide +kernel
theorem ef_1 (m : MethodId) (x0 : Addr) (x1 : Int32) (x2 : Int32) : entryFrame m #[(.ref x0), (.int x1), (.int x2)] 3 = mkF m 0 #[.val (.ref x0), .val (.int x1), .val (.int x2)] [] := by first | (simp [entryFrame, mkF, argsToLocals, Value.category]; done) | rfl
theorem pd_1_2 : parseMethodDescriptor "()V" = some ⟨[], none⟩ := by decide +kernel
def Q1 (Z : State) (a1 : Addr) (p2 : Int32) (p3 : Int32) (h0 : Heap) (n0 : Nat) (v : Option Value) (h : Heap) (L : List Loc) : Prop := v = none ∧ Fr n0 L ∧ Keep h0 h [a1] ∧ (Exa Z h a1 "com/example/mindful_guard/mindfulguard/packets/AddressPair")
set_option maxRecDepth 65536 in
set_option maxHeartbeats 40000000 in
theorem rm1 (l : Launch) (Z : State) (a0 : Array Value) (hw : ∀ d ∈ tables_1, d.before a0 Z = true) (ws : List Jvm.Cond) (a1 : Addr) (p2 : Int32) (p3 : Int32) (h0 : Heap) (n0 : Nat) (Z0 : n0 ≤ h0.size) (P0 : Exa Z h0 a1 "com/example/mindful_guard/mindfulguard/packets/AddressPair") (P1 : Fld Z h0 a1 "com/example/mindful_guard/mindfulguard/packets/AddressPair" "source" "I" (.int (0 : Int32))) (P2 : Fld Z h0 a1 "com/example/mindful_guard/mindfulguard/packets/AddressPair" "destination" "I" (.int (0 : Int32))) (g_a1 : n0 ≤ a1) :
    MetFree l (⟨"com/example/mindful_guard/mindfulguard/packets/AddressPair", "<init>", "(II)V"⟩ : MethodName) (head1 (Jvm.Cond.code (⟨"com/example/mindful_guard/mindfulguard/packets/AddressPair", "<init>", "(II)V"⟩ : MethodName) prog_35_method_1_code 3 none :: ws) ({ frames := 2, cells := 0, slots := 0, locals := 24 } : Room)) (fun a U => a = #[(.ref a1), (.int p2), (.int p3)] ∧ Z.Warmed39 U.vm ∧ U.heap = h0) (fun _ _ _ _ _ => True) (fun _ U o U' => ∃ v L, o = .returned v ∧ Q1 Z a1 p2 p3 h0 n0 v U'.heap L ∧ FrameEnd U o U' L ({ frames := 2, cells := 0, slots := 0, locals := 24 } : Room).cells ({ frames := 2, cells := 0, slots := 0, locals := 24 } : Room).slots) := by
  refine MetFree.of_bodySF (plainFor_of_name pn_1) hisR ?_
  intro p e s m args below meth c s₁ Bd hml0 hP hK
  obtain ⟨rfl, hZ, hh⟩ := hP
  have w1_ := hw _ (List.mem_of_getElem? (i := 1) rfl)
  have w6_ := hw _ (List.mem_of_getElem? (i := 6) rfl)
  have w7_ := hw _ (List.mem_of_getElem? (i := 7) rfl)
  have w9_ := hw _ (List.mem_of_getElem? (i := 9) rfl)
  have w10_ := hw _ (List.mem_of_getElem? (i := 10) rfl)
  have w14_ := hw _ (List.mem_of_getElem? (i := 14) rfl)
  have w15_ := hw _ (List.mem_of_getElem? (i := 15) rfl)
  have w16_ := hw _ (List.mem_of_getElem? (i := 16) rfl)
  have w17_ := hw _ (List.mem_of_getElem? (i := 17) rfl)
  have hx := Bd.exec
  have hby := Bd.bytes
  have hml : c.maxLocals = 3 := hml0
  have hown : s.vm.findClass "com/example/mindful_guard/mindfulguard/packets/AddressPair" = some m.cls := findClass_of_methodNamed Bd.named
  have hnm := (name_of_methodNamed Bd.named Bd.method).1
  have X0 : Stand p l e ({ frames := 2, cells := 0, slots := 0, locals := 24 } : Room) s m #[(.ref a1), (.int p2), (.int p3)] below meth c s₁ [] 0 0 := Stand.of_body Bd
  have e0 : s₁.heap = h0 := by rw [← hh, Bd.state]; rfl
  have N0 := Fr.nil n0
  have pre0 : ∀ t, Steps p.tables e below (s₁.setTop (mkF m 0 #[.val (.ref a1), .val (.int p2), .val (.int p3)] [])) t → Steps p.tables e below (s₁.setTop (entryFrame m #[(.ref a1), (.int p2), (.int p3)] 3)) t := fun t k => castTop (ef_1 m a1 p2 p3) k
  let Lo1 : Array Slot := #[.val (.ref a1), .val (.int p2), .val (.int p3)]
  obtain ⟨_, _, ⟨T1, L1, k1, n1⟩, -, X1, ⟨Lc1, hQ1, l1, y1, z1⟩, st1⟩ := X0.specialBack hx (y := (⟨"java/lang/Record", "<init>", "()V"⟩ : MethodName)) rfl hown (mvT hZ w6_) (mvT hZ w7_) (mvT hZ w10_) (by decide) (backOf (W := 0) (rm2 l Z a0 hw [] a1 h0 n0 Z0 ) hZ w10_ w9_ (by decide) (by decide)) (g := (mkF m 1 Lo1 [(.ref a1)])) rfl (by rw [hml]; rfl) (Steps.refl _) (a := a1) (argsL := []) (rest := []) (lenOf pd_1_2 rfl) rfl (by show 2 * 0 + _ ≤ _; exact Nat.le_of_eq rfl) (hb hby d1_1) (fun _ _ => ⟨rfl, e0, (by decide : 0 + 0 ≤ _), (by decide : 0 + 0 ≤ _)⟩)
  dsimp only [Pt.U, Pt.locs, Pt.cells, Pt.slots] at X1 l1 y1 z1 st1 hQ1
  subst l1 y1 z1
  obtain ⟨rfl, N1q, q1⟩ := hQ1
  have N1 := Fr.app N0 N1q
  have e1 : T1.heap = h0 := q1
  obtain ⟨T2, h2, X2, e2, W2, st2⟩ := putF X1 hx hZ hown (host := "") (Or.inl w14_) Via.refl e1 P1 P0 (Or.inr ⟨w15_, rfl, hnm⟩) w1_ (ty := .int) (by decide) rfl rfl (g := (mkF m 6 Lo1 [(.int p2), (.ref a1)])) rfl rfl (hb hby d1_6)
  have F2_source_a1 := P1.same W2
  have F2_destination_a1 := P2.other W2 (Or.inr (slot_ne (Or.inr w17_) (Or.inr w15_) (by decide) (t := .int) (t' := .int) (by decide) (by decide)))
  have E2_a1 := P0.wr W2
  have K2 : Keep h0 h2 [a1] := (Keep.refl h0 [a1]).wr W2 (Or.inl (List.mem_of_getElem? (i := 0) rfl))
  have Z2 : n0 ≤ h2.size := Nat.le_trans Z0 (Keep.of_wr W2).1
  have N2 := Fr.snoc X2 N1 g_a1
  obtain ⟨T3, h3, X3, e3, W3, st3⟩ := putF X2 hx hZ hown (host := "") (Or.inl w16_) Via.refl e2 F2_destination_a1 E2_a1 (Or.inr ⟨w17_, rfl, hnm⟩) w1_ (ty := .int) (by decide) rfl rfl (g := (mkF m 11 Lo1 [(.int p3), (.ref a1)])) rfl rfl (hb hby d1_11)
  have F3_source_a1 := F2_source_a1.other W3 (Or.inr (slot_ne (Or.inr w15_) (Or.inr w17_) (by decide) (t := .int) (t' := .int) (by decide) (by decide)))
  have F3_destination_a1 := F2_destination_a1.same W3
  have E3_a1 := E2_a1.wr W3
  have K3 : Keep h0 h3 [a1] := K2.wr W3 (Or.inl (List.mem_of_getElem? (i := 0) rfl))
  have Z3 : n0 ≤ h3.size := Nat.le_trans Z2 (Keep.of_wr W3).1
  have N3 := Fr.snoc X3 N2 g_a1
  obtain ⟨fs, hr, hrun, hended, hW, hsame⟩ := X3.leave (v := none) (fun _ => rfl)
  refine ⟨_, _, pre0 _ ?_, hrun, hended, _, _, rfl, ?_, ⟨_, rfl⟩, hW, hsame.mono (by decide) (by decide)⟩
  · show Steps p.tables e below (s₁.setTop (mkF m 0 Lo1 [])) _
    refine XS.aloadN X0.here hx rfl (hb hby d1_0) rfl rfl ?_
    show Steps p.tables e below (s₁.setTop (mkF m 1 Lo1 [(.ref a1)])) _
    refine st1.trans ?_
    show Steps p.tables e below (T1.setTop (mkF m 4 Lo1 [])) _
    refine XS.aloadN X1.here hx rfl (hb hby d1_4) rfl rfl ?_
    show Steps p.tables e below (T1.setTop (mkF m 5 Lo1 [(.ref a1)])) _
    refine XS.iloadN X1.here hx rfl (hb hby d1_5) rfl ?_
    show Steps p.tables e below (T1.setTop (mkF m 6 Lo1 [(.int p2), (.ref a1)])) _
    refine st2 _ ?_
    show Steps p.tables e below (T2.setTop (mkF m 9 Lo1 [])) _
    refine XS.aloadN X2.here hx rfl (hb hby d1_9) rfl rfl ?_
    show Steps p.tables e below (T2.setTop (mkF m 10 Lo1 [(.ref a1)])) _
    refine XS.iloadN X2.here hx rfl (hb hby d1_10) rfl ?_
    show Steps p.tables e below (T2.setTop (mkF m 11 Lo1 [(.int p3), (.ref a1)])) _
    refine st3 _ ?_
    show Steps p.tables e below (T3.setTop (mkF m 14 Lo1 [])) _
    exact X3.returnOut hx Bd.returns (hb hby d1_14) hr
  · show Q1 Z a1 p2 p3 h0 n0 _ T3.heap _
    rw [e3]
    exact ⟨rfl, N3, K3, E3_a1⟩
theorem d4_0 : decode prog_39_method_1_code 0 = .ok (.aload_n 0, 1) := by decide +kernel
theorem d4_1 : decode prog_39_method_1_code 1 = .ok (.invokespecial 1, 3) := by decide +kernel
theorem d4_4 : decode prog_39_method_1_code 4 = .ok (.aload_n 0, 1) := by decide +kernel
theorem d4_5 : decode prog_39_method_1_code 5 = .ok (.lload_n 1, 1) := by decide +kernel
theorem d4_6 : decode prog_39_method_1_code 6 = .ok (.putfield 7, 3) := by decide +kernel
theorem d4_9 : decode prog_39_method_1_code 9 = .ok (.aload_n 0, 1) := by decide +kernel
theorem d4_10 : decode prog_39_method_1_code 10 = .ok (.iload_n 3, 1) := by decide +kernel
theorem d4_11 : decode prog_39_method_1_code 11 = .ok (.putfield 13, 3) := by decide +kernel
theorem d4_14 : decode prog_39_method_1_code 14 = .ok (.aload_n 0, 1) := by decide +kernel
theorem d4_15 : decode prog_39_method_1_code 15 = .ok (.iload 4, 2) := by decide +kernel
theorem d4_17 : decode prog_39_method_1_code 17 = .ok (.putfield 17, 3) := by decide +kernel
theorem d4_20 : decode prog_39_method_1_code 20 = .ok (.aload_n 0, 1) := by decide +kernel
theorem d4_21 : decode prog_39_method_1_code 21 = .ok (.aload 5, 2) := by decide +kernel
theorem d4_23 : decode prog_39_method_1_code 23 = .ok (.putfield 21, 3) := by decide +kernel
theorem d4_26 : decode prog_39_method_1_code 26 = .ok (.return_, 1) := by decide +kernel
theorem pn_4 : plainName "com/example/mindful_guard/mindfulguard/packets/Ipv4Header" = true := by first | (simp [plainName, overriddenIn]; done) | decide +kernel
theorem ef_4 (m : MethodId) (x0 : Addr) (x1 : Int64) (x2 : Int32) (x3 : Int32) (x4 : Addr) : entryFrame m #[(.ref x0), (.long x1), (.int x2), (.int x3), (.ref x4)] 6 = mkF m 0 #[.val (.ref x0), .val (.long x1), .second, .val (.int x2), .val (.int x3), .val (.ref x4)] [] := by first | (simp [entryFrame, mkF, argsToLocals, Value.category]; done) | rfl
theorem pd_4_2 : parseMethodDescriptor "()V" = some ⟨[], none⟩ := by decide +kernel
def Q4 (Z : State) (a1 : Addr) (q2 : Int64) (p3 : Int32) (p4 : Int32) (a5 : Addr) (h0 : Heap) (n0 : Nat) (v : Option Value) (h : Heap) (L : List Loc) : Prop := v = none ∧ Fr n0 L ∧ Keep h0 h [a1] ∧ (Exa Z h a1 "com/example/mindful_guard/mindfulguard/packets/Ipv4Header") ∧ (Fld Z h a1 "com/example/mindful_guard/mindfulguard/packets/Ipv4Header" "reservedFlag" "Z" (.int p3)) ∧ (Fld Z h a1 "com/example/mindful_guard/mindfulguard/packets/Ipv4Header" "protocol" "I" (.int p4))
set_option maxRecDepth 65536 in
set_option maxHeartbeats 40000000 in
theorem rm4 (l : Launch) (Z : State) (a0 : Array Value) (hw : ∀ d ∈ tables_1, d.before a0 Z = true) (ws : List Jvm.Cond) (a1 : Addr) (q2 : Int64) (p3 : Int32) (p4 : Int32) (a5 : Addr) (h0 : Heap) (n0 : Nat) (Z0 : n0 ≤ h0.size) (P0 : Exa Z h0 a1 "com/example/mindful_guard/mindfulguard/packets/Ipv4Header") (P1 : Fld Z h0 a1 "com/example/mindful_guard/mindfulguard/packets/Ipv4Header" "at" "J" (.long (0 : Int64))) (P2 : Fld Z h0 a1 "com/example/mindful_guard/mindfulguard/packets/Ipv4Header" "reservedFlag" "Z" (.int (0 : Int32))) (P3 : Fld Z h0 a1 "com/example/mindful_guard/mindfulguard/packets/Ipv4Header" "protocol" "I" (.int (0 : Int32))) (P4 : Fld Z h0 a1 "com/example/mindful_guard/mindfulguard/packets/Ipv4Header" "addresses" "Lcom/example/mindful_guard/mindfulguard/packets/AddressPair;" .null) (g_a1 : n0 ≤ a1) (hnar : narrow .boolean (.int p3) = .int p3) (hfit : fits .boolean (.int p3) = true) :
    MetFree l (⟨"com/example/mindful_guard/mindfulguard/packets/Ipv4Header", "<init>", "(JZILcom/example/mindful_guard/mindfulguard/packets/AddressPair;)V"⟩ : MethodName) (head1 (Jvm.Cond.code (⟨"com/example/mindful_guard/mindfulguard/packets/Ipv4Header", "<init>", "(JZILcom/example/mindful_guard/mindfulguard/packets/AddressPair;)V"⟩ : MethodName) prog_39_method_1_code 6 none :: ws) ({ frames := 2, cells := 0, slots := 0, locals := 24 } : Room)) (fun a U => a = #[(.ref a1), (.long q2), (.int p3), (.int p4), (.ref a5)] ∧ Z.Warmed39 U.vm ∧ U.heap = h0) (fun _ _ _ _ _ => True) (fun _ U o U' => ∃ v L, o = .returned v ∧ Q4 Z a1 q2 p3 p4 a5 h0 n0 v U'.heap L ∧ FrameEnd U o U' L ({ frames := 2, cells := 0, slots := 0, locals := 24 } : Room).cells ({ frames := 2, cells := 0, slots := 0, locals := 24 } : Room).slots) := by
  refine MetFree.of_bodySF (plainFor_of_name pn_4) hisR ?_
  intro p e s m args below meth c s₁ Bd hml0 hP hK
  obtain ⟨rfl, hZ, hh⟩ := hP
  have w7_ := hw _ (List.mem_of_getElem? (i := 7) rfl)
  have w9_ := hw _ (List.mem_of_getElem? (i := 9) rfl)
  have w10_ := hw _ (List.mem_of_getElem? (i := 10) rfl)
  have w19_ := hw _ (List.mem_of_getElem? (i := 19) rfl)
  have w24_ := hw _ (List.mem_of_getElem? (i := 24) rfl)
  have w25_ := hw _ (List.mem_of_getElem? (i := 25) rfl)
  have w26_ := hw _ (List.mem_of_getElem? (i := 26) rfl)
  have w27_ := hw _ (List.mem_of_getElem? (i := 27) rfl)
  have w28_ := hw _ (List.mem_of_getElem? (i := 28) rfl)
  have w29_ := hw _ (List.mem_of_getElem? (i := 29) rfl)
  have w30_ := hw _ (List.mem_of_getElem? (i := 30) rfl)
  have w31_ := hw _ (List.mem_of_getElem? (i := 31) rfl)
  have w32_ := hw _ (List.mem_of_getElem? (i := 32) rfl)
  have hx := Bd.exec
  have hby := Bd.bytes
  have hml : c.maxLocals = 6 := hml0
  have hown : s.vm.findClass "com/example/mindful_guard/mindfulguard/packets/Ipv4Header" = some m.cls := findClass_of_methodNamed Bd.named
  have hnm := (name_of_methodNamed Bd.named Bd.method).1
  have X0 : Stand p l e ({ frames := 2, cells := 0, slots := 0, locals := 24 } : Room) s m #[(.ref a1), (.long q2), (.int p3), (.int p4), (.ref a5)] below meth c s₁ [] 0 0 := Stand.of_body Bd
  have e0 : s₁.heap = h0 := by rw [← hh, Bd.state]; rfl
  have N0 := Fr.nil n0
  have pre0 : ∀ t, Steps p.tables e below (s₁.setTop (mkF m 0 #[.val (.ref a1), .val (.long q2), .second, .val (.int p3), .val (.int p4), .val (.ref a5)] [])) t → Steps p.tables e below (s₁.setTop (entryFrame m #[(.ref a1), (.long q2), (.int p3), (.int p4), (.ref a5)] 6)) t := fun t k => castTop (ef_4 m a1 q2 p3 p4 a5) k
  let Lo1 : Array Slot := #[.val (.ref a1), .val (.long q2), .second, .val (.int p3), .val (.int p4), .val (.ref a5)]
  obtain ⟨_, _, ⟨T1, L1, k1, n1⟩, -, X1, ⟨Lc1, hQ1, l1, y1, z1⟩, st1⟩ := X0.specialBack hx (y := (⟨"java/lang/Record", "<init>", "()V"⟩ : MethodName)) rfl hown (mvT hZ w24_) (mvT hZ w7_) (mvT hZ w10_) (by decide) (backOf (W := 0) (rm2 l Z a0 hw [] a1 h0 n0 Z0 ) hZ w10_ w9_ (by decide) (by decide)) (g := (mkF m 1 Lo1 [(.ref a1)])) rfl (by rw [hml]; rfl) (Steps.refl _) (a := a1) (argsL := []) (rest := []) (lenOf pd_4_2 rfl) rfl (by show 2 * 0 + _ ≤ _; exact Nat.le_of_eq rfl) (hb hby d4_1) (fun _ _ => ⟨rfl, e0, (by decide : 0 + 0 ≤ _), (by decide : 0 + 0 ≤ _)⟩)
  dsimp only [Pt.U, Pt.locs, Pt.cells, Pt.slots] at X1 l1 y1 z1 st1 hQ1
  subst l1 y1 z1
  obtain ⟨rfl, N1q, q1⟩ := hQ1
  have N1 := Fr.app N0 N1q
  have e1 : T1.heap = h0 := q1
  obtain ⟨T2, h2, X2, e2, W2, st2⟩ := putF X1 hx hZ hown (host := "") (Or.inl w25_) Via.refl e1 P1 P0 (Or.inr ⟨w26_, rfl, hnm⟩) w19_ (ty := .long) (by decide) rfl rfl (g := (mkF m 6 Lo1 [(.long q2), (.ref a1)])) rfl rfl (hb hby d4_6)
  have F2_at_a1 := P1.same W2
  have F2_reservedFlag_a1 := P2.other W2 (Or.inr (slot_ne (Or.inr w28_) (Or.inr w26_) (by decide) (t := .boolean) (t' := .long) (by decide) (by decide)))
  have F2_protocol_a1 := P3.other W2 (Or.inr (slot_ne (Or.inr w30_) (Or.inr w26_) (by decide) (t := .int) (t' := .long) (by decide) (by decide)))
  have F2_addresses_a1 := P4.other W2 (Or.inr (slot_ne (Or.inr w32_) (Or.inr w26_) (by decide) (t := (.object "com/example/mindful_guard/mindfulguard/packets/AddressPair")) (t' := .long) (by decide) (by decide)))
  have E2_a1 := P0.wr W2
  have K2 : Keep h0 h2 [a1] := (Keep.refl h0 [a1]).wr W2 (Or.inl (List.mem_of_getElem? (i := 0) rfl))
  have Z2 : n0 ≤ h2.size := Nat.le_trans Z0 (Keep.of_wr W2).1
  have N2 := Fr.snoc X2 N1 g_a1
  obtain ⟨T3, h3, X3, e3, W3, st3⟩ := putF X2 hx hZ hown (host := "") (Or.inl w27_) Via.refl e2 F2_reservedFlag_a1 E2_a1 (Or.inr ⟨w28_, rfl, hnm⟩) w19_ (ty := .boolean) (by decide) hnar hfit (g := (mkF m 11 Lo1 [(.int p3), (.ref a1)])) rfl rfl (hb hby d4_11)
  have F3_at_a1 := F2_at_a1.other W3 (Or.inr (slot_ne (Or.inr w26_) (Or.inr w28_) (by decide) (t := .long) (t' := .boolean) (by decide) (by decide)))
  have F3_reservedFlag_a1 := F2_reservedFlag_a1.same W3
  have F3_protocol_a1 := F2_protocol_a1.other W3 (Or.inr (slot_ne (Or.inr w30_) (Or.inr w28_) (by decide) (t := .int) (t' := .boolean) (by decide) (by decide)))
  have F3_addresses_a1 := F2_addresses_a1.other W3 (Or.inr (slot_ne (Or.inr w32_) (Or.inr w28_) (by decide) (t := (.object "com/example/mindful_guard/mindfulguard/packets/AddressPair")) (t' := .boolean) (by decide) (by decide)))
  have E3_a1 := E2_a1.wr W3
  have K3 : Keep h0 h3 [a1] := K2.wr W3 (Or.inl (List.mem_of_getElem? (i := 0) rfl))
  have Z3 : n0 ≤ h3.size := Nat.le_trans Z2 (Keep.of_wr W3).1
  have N3 := Fr.snoc X3 N2 g_a1
  obtain ⟨T4, h4, X4, e4, W4, st4⟩ := putF X3 hx hZ hown (host := "") (Or.inl w29_) Via.refl e3 F3_protocol_a1 E3_a1 (Or.inr ⟨w30_, rfl, hnm⟩) w19_ (ty := .int) (by decide) rfl rfl (g := (mkF m 17 Lo1 [(.int p4), (.ref a1)])) rfl rfl (hb hby d4_17)
  have F4_at_a1 := F3_at_a1.other W4 (Or.inr (slot_ne (Or.inr w26_) (Or.inr w30_) (by decide) (t := .long) (t' := .int) (by decide) (by decide)))
  have F4_reservedFlag_a1 := F3_reservedFlag_a1.other W4 (Or.inr (slot_ne (Or.inr w28_) (Or.inr w30_) (by decide) (t := .boolean) (t' := .int) (by decide) (by decide)))
  have F4_protocol_a1 := F3_protocol_a1.same W4
  have F4_addresses_a1 := F3_addresses_a1.other W4 (Or.inr (slot_ne (Or.inr w32_) (Or.inr w30_) (by decide) (t := (.object "com/example/mindful_guard/mindfulguard/packets/AddressPair")) (t' := .int) (by decide) (by decide)))
  have E4_a1 := E3_a1.wr W4
  have K4 : Keep h0 h4 [a1] := K3.wr W4 (Or.inl (List.mem_of_getElem? (i := 0) rfl))
  have Z4 : n0 ≤ h4.size := Nat.le_trans Z3 (Keep.of_wr W4).1
  have N4 := Fr.snoc X4 N3 g_a1
  obtain ⟨T5, h5, X5, e5, W5, st5⟩ := putF X4 hx hZ hown (host := "") (Or.inl w31_) Via.refl e4 F4_addresses_a1 E4_a1 (Or.inr ⟨w32_, rfl, hnm⟩) w19_ (ty := (.object "com/example/mindful_guard/mindfulguard/packets/AddressPair")) (by decide) rfl rfl (g := (mkF m 23 Lo1 [(.ref a5), (.ref a1)])) rfl rfl (hb hby d4_23)
  have F5_at_a1 := F4_at_a1.other W5 (Or.inr (slot_ne (Or.inr w26_) (Or.inr w32_) (by decide) (t := .long) (t' := (.object "com/example/mindful_guard/mindfulguard/packets/AddressPair")) (by decide) (by decide)))
  have F5_reservedFlag_a1 := F4_reservedFlag_a1.other W5 (Or.inr (slot_ne (Or.inr w28_) (Or.inr w32_) (by decide) (t := .boolean) (t' := (.object "com/example/mindful_guard/mindfulguard/packets/AddressPair")) (by decide) (by decide)))
  have F5_protocol_a1 := F4_protocol_a1.other W5 (Or.inr (slot_ne (Or.inr w30_) (Or.inr w32_) (by decide) (t := .int) (t' := (.object "com/example/mindful_guard/mindfulguard/packets/AddressPair")) (by decide) (by decide)))
  have F5_addresses_a1 := F4_addresses_a1.same W5
  have E5_a1 := E4_a1.wr W5
  have K5 : Keep h0 h5 [a1] := K4.wr W5 (Or.inl (List.mem_of_getElem? (i := 0) rfl))
  have Z5 : n0 ≤ h5.size := Nat.le_trans Z4 (Keep.of_wr W5).1
  have N5 := Fr.snoc X5 N4 g_a1
  obtain ⟨fs, hr, hrun, hended, hW, hsame⟩ := X5.leave (v := none) (fun _ => rfl)
  refine ⟨_, _, pre0 _ ?_, hrun, hended, _, _, rfl, ?_, ⟨_, rfl⟩, hW, hsame.mono (by decide) (by decide)⟩
  · show Steps p.tables e below (s₁.setTop (mkF m 0 Lo1 [])) _
    refine XS.aloadN X0.here hx rfl (hb hby d4_0) rfl rfl ?_
    show Steps p.tables e below (s₁.setTop (mkF m 1 Lo1 [(.ref a1)])) _
    refine st1.trans ?_
    show Steps p.tables e below (T1.setTop (mkF m 4 Lo1 [])) _
    refine XS.aloadN X1.here hx rfl (hb hby d4_4) rfl rfl ?_
    show Steps p.tables e below (T1.setTop (mkF m 5 Lo1 [(.ref a1)])) _
    refine XS.lloadN X1.here hx rfl (hb hby d4_5) rfl ?_
    show Steps p.tables e below (T1.setTop (mkF m 6 Lo1 [(.long q2), (.ref a1)])) _
    refine st2 _ ?_
    show Steps p.tables e below (T2.setTop (mkF m 9 Lo1 [])) _
    refine XS.aloadN X2.here hx rfl (hb hby d4_9) rfl rfl ?_
    show Steps p.tables e below (T2.setTop (mkF m 10 Lo1 [(.ref a1)])) _
    refine XS.iloadN X2.here hx rfl (hb hby d4_10) rfl ?_
    show Steps p.tables e below (T2.setTop (mkF m 11 Lo1 [(.int p3), (.ref a1)])) _
    refine st3 _ ?_
    show Steps p.tables e below (T3.setTop (mkF m 14 Lo1 [])) _
    refine XS.aloadN X3.here hx rfl (hb hby d4_14) rfl rfl ?_
    show Steps p.tables e below (T3.setTop (mkF m 15 Lo1 [(.ref a1)])) _
    refine XS.iload X3.here hx rfl (hb hby d4_15) rfl ?_
    show Steps p.tables e below (T3.setTop (mkF m 17 Lo1 [(.int p4), (.ref a1)])) _
    refine st4 _ ?_
    show Steps p.tables e below (T4.setTop (mkF m 20 Lo1 [])) _
    refine XS.aloadN X4.here hx rfl (hb hby d4_20) rfl rfl ?_
    show Steps p.tables e below (T4.setTop (mkF m 21 Lo1 [(.ref a1)])) _
    refine XS.aload X4.here hx rfl (hb hby d4_21) rfl rfl ?_
    show Steps p.tables e below (T4.setTop (mkF m 23 Lo1 [(.ref a5), (.ref a1)])) _
    refine st5 _ ?_
    show Steps p.tables e below (T5.setTop (mkF m 26 Lo1 [])) _
    exact X5.returnOut hx Bd.returns (hb hby d4_26) hr
  · show Q4 Z a1 q2 p3 p4 a5 h0 n0 _ T5.heap _
    rw [e5]
    exact ⟨rfl, N5, K5, E5_a1, F5_reservedFlag_a1, F5_protocol_a1⟩
def own_q (r pr : Int32) : Int32 := if r = 0 then (if pr = 6 then 1 else 0) else 0
theorem d5a_0 : decode prog_39_method_2_code 0 = .ok (.aload_n 0, 1) := by decide +kernel
theorem d5a_1 : decode prog_39_method_2_code 1 = .ok (.getfield 13, 3) := by decide +kernel
theorem d5a_4 : decode prog_39_method_2_code 4 = .ok (.ifCond .ne 16, 3) := by decide +kernel
theorem d5a_20 : decode prog_39_method_2_code 20 = .ok (.iconst 0, 1) := by decide +kernel
theorem d5a_21 : decode prog_39_method_2_code 21 = .ok (.ireturn, 1) := by decide +kernel
theorem pn_5a : plainName "com/example/mindful_guard/mindfulguard/packets/Ipv4Header" = true := by first | (simp [plainName, overriddenIn]; done) | decide +kernel
theorem ef_5a (m : MethodId) (x0 : Addr) : entryFrame m #[(.ref x0)] 1 = mkF m 0 #[.val (.ref x0)] [] := by first | (simp [entryFrame, mkF, argsToLocals, Value.category]; done) | rfl
def Q5a (Z : State) (a1 : Addr) (r : Int32) (pr : Int32) (h0 : Heap) (n0 : Nat) (v : Option Value) (h : Heap) (L : List Loc) : Prop := v = some (.int (own_q r pr)) ∧ Fr n0 L ∧ h = h0
set_option maxRecDepth 65536 in
set_option maxHeartbeats 40000000 in
theorem rm5a (l : Launch) (Z : State) (a0 : Array Value) (hw : ∀ d ∈ tables_1, d.before a0 Z = true) (ws : List Jvm.Cond) (a1 : Addr) (r : Int32) (pr : Int32) (h0 : Heap) (n0 : Nat) (Z0 : n0 ≤ h0.size) (P0 : Fld Z h0 a1 "com/example/mindful_guard/mindfulguard/packets/Ipv4Header" "reservedFlag" "Z" (.int r)) (P1 : Fld Z h0 a1 "com/example/mindful_guard/mindfulguard/packets/Ipv4Header" "protocol" "I" (.int pr)) (hr0 : ¬ r = (0 : Int32)) :
    MetFree l (⟨"com/example/mindful_guard/mindfulguard/packets/Ipv4Header", "qualifies", "()Z"⟩ : MethodName) (head1 (Jvm.Cond.code (⟨"com/example/mindful_guard/mindfulguard/packets/Ipv4Header", "qualifies", "()Z"⟩ : MethodName) prog_39_method_2_code 1 (some .boolean) :: ws) ({ frames := 0, cells := 0, slots := 0, locals := 0 } : Room)) (fun a U => a = #[(.ref a1)] ∧ Z.Warmed39 U.vm ∧ U.heap = h0) (fun _ _ _ _ _ => True) (fun _ U o U' => ∃ v L, o = .returned v ∧ Q5a Z a1 r pr h0 n0 v U'.heap L ∧ FrameEnd U o U' L ({ frames := 0, cells := 0, slots := 0, locals := 0 } : Room).cells ({ frames := 0, cells := 0, slots := 0, locals := 0 } : Room).slots) := by
  refine MetFree.of_bodySF (plainFor_of_name pn_5a) hisR ?_
  intro p e s m args below meth c s₁ Bd hml0 hP hK
  obtain ⟨rfl, hZ, hh⟩ := hP
  have w27_ := hw _ (List.mem_of_getElem? (i := 27) rfl)
  have hx := Bd.exec
  have hby := Bd.bytes
  have hml : c.maxLocals = 1 := hml0
  have hown : s.vm.findClass "com/example/mindful_guard/mindfulguard/packets/Ipv4Header" = some m.cls := findClass_of_methodNamed Bd.named
  have hnm := (name_of_methodNamed Bd.named Bd.method).1
  have X0 : Stand p l e ({ frames := 0, cells := 0, slots := 0, locals := 0 } : Room) s m #[(.ref a1)] below meth c s₁ [] 0 0 := Stand.of_body Bd
  have e0 : s₁.heap = h0 := by rw [← hh, Bd.state]; rfl
  have N0 := Fr.nil n0
  have pre0 : ∀ t, Steps p.tables e below (s₁.setTop (mkF m 0 #[.val (.ref a1)] [])) t → Steps p.tables e below (s₁.setTop (entryFrame m #[(.ref a1)] 1)) t := fun t k => castTop (ef_5a m a1) k
  obtain ⟨T1, X1, e1, st1⟩ := getF X0 hx hZ hown (host := "") (Or.inl w27_) Via.refl e0 P0 (g := (mkF m 1 #[.val (.ref a1)] [(.ref a1)])) rfl rfl (hb hby d5a_1)
  obtain ⟨fs, hr, hrun, hended, hW, hsame⟩ := X1.leave (v := some (.int (own_q r pr))) (fun h => by rw [Bd.returns] at h; cases h)
  refine ⟨_, _, pre0 _ ?_, hrun, hended, _, _, rfl, ?_, ⟨_, rfl⟩, hW, hsame.mono (by decide) (by decide)⟩
  · show Steps p.tables e below (s₁.setTop (mkF m 0 #[.val (.ref a1)] [])) _
    refine XS.aloadN X0.here hx rfl (hb hby d5a_0) rfl rfl ?_
    show Steps p.tables e below (s₁.setTop (mkF m 1 #[.val (.ref a1)] [(.ref a1)])) _
    refine st1 _ ?_
    show Steps p.tables e below (T1.setTop (mkF m 4 #[.val (.ref a1)] [(.int r)])) _
    refine XS.ifYes X1.here hx rfl (pc0 := 4) (pc' := 20) rfl (hb hby d5a_4) rfl (Jvm.Free.XT.i0_ne_t hr0) (by decide) (by decide) ?_
    show Steps p.tables e below (T1.setTop (mkF m 20 #[.val (.ref a1)] [])) _
    refine XS.iconst X1.here hx rfl (hb hby d5a_20) ?_
    show Steps p.tables e below (T1.setTop (mkF m 21 #[.val (.ref a1)] [(.int (0 : Int32))])) _
    exact own_retZ X1 hx Bd.returns (hb hby d5a_21) (by rw [own_q, if_neg hr0]) rfl hr
  · show Q5a Z a1 r pr h0 n0 _ T1.heap _
    rw [e1]
    exact ⟨rfl, N0, rfl⟩
theorem d5b_0 : decode prog_39_method_2_code 0 = .ok (.aload_n 0, 1) := by decide +kernel
theorem d5b_1 : decode prog_39_method_2_code 1 = .ok (.getfield 13, 3) := by decide +kernel
theorem d5b_4 : decode prog_39_method_2_code 4 = .ok (.ifCond .ne 16, 3) := by decide +kernel
theorem d5b_7 : decode prog_39_method_2_code 7 = .ok (.aload_n 0, 1) := by decide +kernel
theorem d5b_8 : decode prog_39_method_2_code 8 = .ok (.getfield 17, 3) := by decide +kernel
theorem d5b_11 : decode prog_39_method_2_code 11 = .ok (.bipush 6, 2) := by decide +kernel
theorem d5b_13 : decode prog_39_method_2_code 13 = .ok (.if_icmp .ne 7, 3) := by decide +kernel
theorem d5b_16 : decode prog_39_method_2_code 16 = .ok (.iconst 1, 1) := by decide +kernel
theorem d5b_17 : decode prog_39_method_2_code 17 = .ok (.goto 4, 3) := by decide +kernel
theorem d5b_20 : decode prog_39_method_2_code 20 = .ok (.iconst 0, 1) := by decide +kernel
theorem d5b_21 : decode prog_39_method_2_code 21 = .ok (.ireturn, 1) := by decide +kernel
theorem pn_5b : plainName "com/example/mindful_guard/mindfulguard/packets/Ipv4Header" = true := by first | (simp [plainName, overriddenIn]; done) | decide +kernel
theorem ef_5b (m : MethodId) (x0 : Addr) : entryFrame m #[(.ref x0)] 1 = mkF m 0 #[.val (.ref x0)] [] := by first | (simp [entryFrame, mkF, argsToLocals, Value.category]; done) | rfl
def Q5b (Z : State) (a1 : Addr) (r : Int32) (pr : Int32) (h0 : Heap) (n0 : Nat) (v : Option Value) (h : Heap) (L : List Loc) : Prop := v = some (.int (own_q r pr)) ∧ Fr n0 L ∧ h = h0
set_option maxRecDepth 65536 in
set_option maxHeartbeats 40000000 in
theorem rm5b (l : Launch) (Z : State) (a0 : Array Value) (hw : ∀ d ∈ tables_1, d.before a0 Z = true) (ws : List Jvm.Cond) (a1 : Addr) (r : Int32) (pr : Int32) (h0 : Heap) (n0 : Nat) (Z0 : n0 ≤ h0.size) (P0 : Fld Z h0 a1 "com/example/mindful_guard/mindfulguard/packets/Ipv4Header" "reservedFlag" "Z" (.int r)) (P1 : Fld Z h0 a1 "com/example/mindful_guard/mindfulguard/packets/Ipv4Header" "protocol" "I" (.int pr)) (hr0 : r = (0 : Int32)) :
    MetFree l (⟨"com/example/mindful_guard/mindfulguard/packets/Ipv4Header", "qualifies", "()Z"⟩ : MethodName) (head1 (Jvm.Cond.code (⟨"com/example/mindful_guard/mindfulguard/packets/Ipv4Header", "qualifies", "()Z"⟩ : MethodName) prog_39_method_2_code 1 (some .boolean) :: ws) ({ frames := 0, cells := 0, slots := 0, locals := 0 } : Room)) (fun a U => a = #[(.ref a1)] ∧ Z.Warmed39 U.vm ∧ U.heap = h0) (fun _ _ _ _ _ => True) (fun _ U o U' => ∃ v L, o = .returned v ∧ Q5b Z a1 r pr h0 n0 v U'.heap L ∧ FrameEnd U o U' L ({ frames := 0, cells := 0, slots := 0, locals := 0 } : Room).cells ({ frames := 0, cells := 0, slots := 0, locals := 0 } : Room).slots) := by
  refine MetFree.of_bodySF (plainFor_of_name pn_5b) hisR ?_
  intro p e s m args below meth c s₁ Bd hml0 hP hK
  obtain ⟨rfl, hZ, hh⟩ := hP
  have w27_ := hw _ (List.mem_of_getElem? (i := 27) rfl)
  have w29_ := hw _ (List.mem_of_getElem? (i := 29) rfl)
  have hx := Bd.exec
  have hby := Bd.bytes
  have hml : c.maxLocals = 1 := hml0
  have hown : s.vm.findClass "com/example/mindful_guard/mindfulguard/packets/Ipv4Header" = some m.cls := findClass_of_methodNamed Bd.named
  have hnm := (name_of_methodNamed Bd.named Bd.method).1
  have X0 : Stand p l e ({ frames := 0, cells := 0, slots := 0, locals := 0 } : Room) s m #[(.ref a1)] below meth c s₁ [] 0 0 := Stand.of_body Bd
  have e0 : s₁.heap = h0 := by rw [← hh, Bd.state]; rfl
  have N0 := Fr.nil n0
  have pre0 : ∀ t, Steps p.tables e below (s₁.setTop (mkF m 0 #[.val (.ref a1)] [])) t → Steps p.tables e below (s₁.setTop (entryFrame m #[(.ref a1)] 1)) t := fun t k => castTop (ef_5b m a1) k
  obtain ⟨T1, X1, e1, st1⟩ := getF X0 hx hZ hown (host := "") (Or.inl w27_) Via.refl e0 P0 (g := (mkF m 1 #[.val (.ref a1)] [(.ref a1)])) rfl rfl (hb hby d5b_1)
  obtain ⟨T2, X2, e2, st2⟩ := getF X1 hx hZ hown (host := "") (Or.inl w29_) Via.refl e1 P1 (g := (mkF m 8 #[.val (.ref a1)] [(.ref a1)])) rfl rfl (hb hby d5b_8)
  obtain ⟨fs, hr, hrun, hended, hW, hsame⟩ := X2.leave (v := some (.int (own_q r pr))) (fun h => by rw [Bd.returns] at h; cases h)
  refine ⟨_, _, pre0 _ ?_, hrun, hended, _, _, rfl, ?_, ⟨_, rfl⟩, hW, hsame.mono (by decide) (by decide)⟩
  · show Steps p.tables e below (s₁.setTop (mkF m 0 #[.val (.ref a1)] [])) _
    refine XS.aloadN X0.here hx rfl (hb hby d5b_0) rfl rfl ?_
    show Steps p.tables e below (s₁.setTop (mkF m 1 #[.val (.ref a1)] [(.ref a1)])) _
    refine st1 _ ?_
    show Steps p.tables e below (T1.setTop (mkF m 4 #[.val (.ref a1)] [(.int r)])) _
    refine XS.ifNo X1.here hx rfl (hb hby d5b_4) rfl (Jvm.Free.XT.i0_ne_f hr0) ?_
    show Steps p.tables e below (T1.setTop (mkF m 7 #[.val (.ref a1)] [])) _
    refine XS.aloadN X1.here hx rfl (hb hby d5b_7) rfl rfl ?_
    show Steps p.tables e below (T1.setTop (mkF m 8 #[.val (.ref a1)] [(.ref a1)])) _
    refine st2 _ ?_
    show Steps p.tables e below (T2.setTop (mkF m 11 #[.val (.ref a1)] [(.int pr)])) _
    refine XS.bipush X2.here hx rfl (hb hby d5b_11) ?_
    show Steps p.tables e below (T2.setTop (mkF m 13 #[.val (.ref a1)] [(.int (6 : Int32)), (.int pr)])) _
    by_cases hc13 : pr = (6 : Int32)
    · refine XS.icmpNo X2.here hx rfl (hb hby d5b_13) rfl (Jvm.Free.XT.ii_ne_f hc13) ?_
      show Steps p.tables e below (T2.setTop (mkF m 16 #[.val (.ref a1)] [])) _
      refine XS.iconst X2.here hx rfl (hb hby d5b_16) ?_
      show Steps p.tables e below (T2.setTop (mkF m 17 #[.val (.ref a1)] [(.int (1 : Int32))])) _
      refine XS.goto X2.here hx rfl (pc0 := 17) (pc' := 21) rfl (hb hby d5b_17) (by decide) (by decide) ?_
      show Steps p.tables e below (T2.setTop (mkF m 21 #[.val (.ref a1)] [(.int (1 : Int32))])) _
      exact own_retZ X2 hx Bd.returns (hb hby d5b_21) (by rw [own_q, if_pos hr0, if_pos hc13]) rfl hr
    · refine XS.icmpYes X2.here hx rfl (pc0 := 13) (pc' := 20) rfl (hb hby d5b_13) rfl (Jvm.Free.XT.ii_ne_t hc13) (by decide) (by decide) ?_
      show Steps p.tables e below (T2.setTop (mkF m 20 #[.val (.ref a1)] [])) _
      refine XS.iconst X2.here hx rfl (hb hby d5b_20) ?_
      show Steps p.tables e below (T2.setTop (mkF m 21 #[.val (.ref a1)] [(.int (0 : Int32))])) _
      exact own_retZ X2 hx Bd.returns (hb hby d5b_21) (by rw [own_q, if_pos hr0, if_neg hc13]) rfl hr
  · show Q5b Z a1 r pr h0 n0 _ T2.heap _
    rw [e2]
    exact ⟨rfl, N0, rfl⟩
def Q5 (Z : State) (a1 : Addr) (r : Int32) (pr : Int32) (h0 : Heap) (n0 : Nat) (v : Option Value) (h : Heap) (L : List Loc) : Prop := v = some (.int (own_q r pr)) ∧ Fr n0 L ∧ h = h0
set_option maxRecDepth 65536 in
set_option maxHeartbeats 40000000 in
theorem rm5 (l : Launch) (Z : State) (a0 : Array Value) (hw : ∀ d ∈ tables_1, d.before a0 Z = true) (ws : List Jvm.Cond) (a1 : Addr) (r : Int32) (pr : Int32) (h0 : Heap) (n0 : Nat) (Z0 : n0 ≤ h0.size) (P0 : Fld Z h0 a1 "com/example/mindful_guard/mindfulguard/packets/Ipv4Header" "reservedFlag" "Z" (.int r)) (P1 : Fld Z h0 a1 "com/example/mindful_guard/mindfulguard/packets/Ipv4Header" "protocol" "I" (.int pr)) :
    MetFree l (⟨"com/example/mindful_guard/mindfulguard/packets/Ipv4Header", "qualifies", "()Z"⟩ : MethodName) (head1 (Jvm.Cond.code (⟨"com/example/mindful_guard/mindfulguard/packets/Ipv4Header", "qualifies", "()Z"⟩ : MethodName) prog_39_method_2_code 1 (some .boolean) :: ws) ({ frames := 0, cells := 0, slots := 0, locals := 0 } : Room)) (fun a U => a = #[(.ref a1)] ∧ Z.Warmed39 U.vm ∧ U.heap = h0) (fun _ _ _ _ _ => True) (fun _ U o U' => ∃ v L, o = .returned v ∧ Q5 Z a1 r pr h0 n0 v U'.heap L ∧ FrameEnd U o U' L ({ frames := 0, cells := 0, slots := 0, locals := 0 } : Room).cells ({ frames := 0, cells := 0, slots := 0, locals := 0 } : Room).slots) := by
  by_cases hr0 : r = (0 : Int32)
  · exact rm5b l Z a0 hw ws a1 r pr h0 n0 Z0 P0 P1 hr0
  · exact rm5a l Z a0 hw ws a1 r pr h0 n0 Z0 P0 P1 hr0
def own_r (p2 : Int32) : Int32 := if (p2 &&& 1) = 0 then 0 else 1
def own_p (p3 p6 : Int32) : Int32 := if (p6 &&& 3) = 0 then p3 else if (p6 &&& 3) = 1 then 6 else if (p6 &&& 3) = 2 then 5 else 7
theorem own_r01 (p2 : Int32) : own_r p2 = 0 ∨ own_r p2 = 1 := by unfold own_r; split; exact Or.inl rfl; exact Or.inr rfl
theorem pn_0 : plainName "com/example/mindful_guard/mindfulguard/packets/Ipv4HeaderQualifiesPinLaw" = true := by first | (simp [plainName, overriddenIn]; done) | decide +kernel
theorem ef_0 (m : MethodId) (x0 : Int64) (x1 : Int32) (x2 : Int32) (x3 : Int32) (x4 : Int32) (x5 : Int32) : entryFrame m #[(.long x0), (.int x1), (.int x2), (.int x3), (.int x4), (.int x5)] maxLocals = mkF m 0 #[.val (.long x0), .second, .val (.int x1), .val (.int x2), .val (.int x3), .val (.int x4), .val (.int x5), .unset, .unset, .unset, .unset, .unset, .unset, .unset, .unset, .unset, .unset] [] := by first | (simp [entryFrame, mkF, argsToLocals, Value.category, maxLocals]; done) | rfl
theorem pd_0_1 : parseMethodDescriptor "(II)V" = some ⟨[.int, .int], none⟩ := by decide +kernel
theorem pd_0_4 : parseMethodDescriptor "(JZILcom/example/mindful_guard/mindfulguard/packets/AddressPair;)V" = some ⟨[.long, .boolean, .int, (.object "com/example/mindful_guard/mindfulguard/packets/AddressPair")], none⟩ := by decide +kernel
theorem pd_0_5 : parseMethodDescriptor "()Z" = some ⟨[], some .boolean⟩ := by decide +kernel
def Q0 (Z : State) (q1 : Int64) (p2 : Int32) (p3 : Int32) (p4 : Int32) (p5 : Int32) (p6 : Int32) (h0 : Heap) (n0 : Nat) (v : Option Value) (h : Heap) (L : List Loc) : Prop := v = some (.int 1) ∧ Fr n0 L
set_option maxRecDepth 65536 in
set_option maxHeartbeats 40000000 in
theorem rm0 (l : Launch) (Z : State) (a0 : Array Value) (hw : ∀ d ∈ tables_1, d.before a0 Z = true) (ws : List Jvm.Cond) (q1 : Int64) (p2 : Int32) (p3 : Int32) (p4 : Int32) (p5 : Int32) (p6 : Int32) (h0 : Heap) (n0 : Nat) (Z0 : n0 ≤ h0.size)  :
    MetFree l x (head1 (Jvm.Cond.code x code maxLocals ret :: ws) room_1) (fun a U => a = #[(.long q1), (.int p2), (.int p3), (.int p4), (.int p5), (.int p6)] ∧ Z.Warmed39 U.vm ∧ U.heap = h0) (fun _ _ _ _ _ => True) (fun _ U o U' => ∃ v L, o = .returned v ∧ Q0 Z q1 p2 p3 p4 p5 p6 h0 n0 v U'.heap L ∧ FrameEnd U o U' L room_1.cells room_1.slots) := by
  refine MetFree.of_bodySF (plainFor_of_name pn_0) hisR ?_
  intro p e s m args below meth c s₁ Bd hml0 hP hK
  obtain ⟨rfl, hZ, hh⟩ := hP
  have w0_ := hw _ (List.mem_of_getElem? (i := 0) rfl)
  have w1_ := hw _ (List.mem_of_getElem? (i := 1) rfl)
  have w2_ := hw _ (List.mem_of_getElem? (i := 2) rfl)
  have w3_ := hw _ (List.mem_of_getElem? (i := 3) rfl)
  have w4_ := hw _ (List.mem_of_getElem? (i := 4) rfl)
  have w5_ := hw _ (List.mem_of_getElem? (i := 5) rfl)
  have w15_ := hw _ (List.mem_of_getElem? (i := 15) rfl)
  have w17_ := hw _ (List.mem_of_getElem? (i := 17) rfl)
  have w18_ := hw _ (List.mem_of_getElem? (i := 18) rfl)
  have w19_ := hw _ (List.mem_of_getElem? (i := 19) rfl)
  have w20_ := hw _ (List.mem_of_getElem? (i := 20) rfl)
  have w21_ := hw _ (List.mem_of_getElem? (i := 21) rfl)
  have w22_ := hw _ (List.mem_of_getElem? (i := 22) rfl)
  have w23_ := hw _ (List.mem_of_getElem? (i := 23) rfl)
  have w26_ := hw _ (List.mem_of_getElem? (i := 26) rfl)
  have w28_ := hw _ (List.mem_of_getElem? (i := 28) rfl)
  have w30_ := hw _ (List.mem_of_getElem? (i := 30) rfl)
  have w32_ := hw _ (List.mem_of_getElem? (i := 32) rfl)
  have w33_ := hw _ (List.mem_of_getElem? (i := 33) rfl)
  have w34_ := hw _ (List.mem_of_getElem? (i := 34) rfl)
  have w35_ := hw _ (List.mem_of_getElem? (i := 35) rfl)
  have w36_ := hw _ (List.mem_of_getElem? (i := 36) rfl)
  have w37_ := hw _ (List.mem_of_getElem? (i := 37) rfl)
  have w38_ := hw _ (List.mem_of_getElem? (i := 38) rfl)
  have hx := Bd.exec
  have hby := Bd.bytes
  have hml : c.maxLocals = 17 := hml0
  have hown : s.vm.findClass "com/example/mindful_guard/mindfulguard/packets/Ipv4HeaderQualifiesPinLaw" = some m.cls := findClass_of_methodNamed Bd.named
  have hnm := (name_of_methodNamed Bd.named Bd.method).1
  have X0 : Stand p l e room_1 s m #[(.long q1), (.int p2), (.int p3), (.int p4), (.int p5), (.int p6)] below meth c s₁ [] 0 0 := Stand.of_body Bd
  have e0 : s₁.heap = h0 := by rw [← hh, Bd.state]; rfl
  have N0 := Fr.nil n0
  have pre0 : ∀ t, Steps p.tables e below (s₁.setTop (mkF m 0 #[.val (.long q1), .second, .val (.int p2), .val (.int p3), .val (.int p4), .val (.int p5), .val (.int p6), .unset, .unset, .unset, .unset, .unset, .unset, .unset, .unset, .unset, .unset] [])) t → Steps p.tables e below (s₁.setTop (entryFrame m #[(.long q1), (.int p2), (.int p3), (.int p4), (.int p5), (.int p6)] maxLocals)) t := fun t k => castTop (ef_0 m q1 p2 p3 p4 p5 p6) k
  obtain ⟨rz, hrz⟩ : ∃ z, z = own_r p2 := ⟨_, rfl⟩
  obtain ⟨pp, hpp⟩ : ∃ z, z = own_p p3 p6 := ⟨_, rfl⟩
  have hrr : rz = 0 ∨ rz = 1 := by rw [hrz]; exact own_r01 p2
  have hnar : narrow .boolean (.int rz) = .int rz := by rcases hrr with rfl | rfl <;> rfl
  have hfit : fits .boolean (.int rz) = true := by rcases hrr with rfl | rfl <;> rfl
  let Lo1 : Array Slot := #[.val (.long q1), .second, .val (.int p2), .val (.int p3), .val (.int p4), .val (.int p5), .val (.int p6), .val (.int rz), .val (.int (p6 &&& (3 : Int32))), .val (.int pp), .val (.int (own_q rz pp)), .unset, .unset, .unset, .unset, .unset, .unset]
  obtain ⟨T1, h1, X1, e1, E1, A1, D1, -, st1⟩ := newO X0 hx hZ hown w0_ w1_ w2_ e0 (g := (mkF m 77 Lo1 [])) rfl (hb hby at_77) (by decide) (by decide)
  obtain ⟨b1, g1⟩ : ∃ z, z = h0.size := ⟨_, rfl⟩
  rw [← g1] at A1 D1 st1
  have g_b1 : n0 ≤ b1 := Nat.le_trans Z0 (Nat.le_of_eq g1.symm)
  have Z1 : n0 ≤ h1.size := Nat.le_trans Z0 E1.1
  have F1_source_b1 : Fld Z h1 b1 "com/example/mindful_guard/mindfulguard/packets/AddressPair" "source" "I" (.int (0 : Int32)) := D1 (Or.inr w15_) (ty := .int) (by decide)
  have F1_destination_b1 : Fld Z h1 b1 "com/example/mindful_guard/mindfulguard/packets/AddressPair" "destination" "I" (.int (0 : Int32)) := D1 (Or.inr w17_) (ty := .int) (by decide)
  obtain ⟨_, _, ⟨T2, L2, k2, n2⟩, -, X2, ⟨Lc2, hQ2, l2, y2, z2⟩, st2⟩ := X1.specialBack hx (y := (⟨"com/example/mindful_guard/mindfulguard/packets/AddressPair", "<init>", "(II)V"⟩ : MethodName)) rfl hown (mvT hZ w3_) (mvT hZ w4_) (mvT hZ w5_) (by decide) (backOf (W := 1) (rm1 l Z a0 hw [] b1 p4 p5 h1 n0 Z1 A1 F1_source_b1 F1_destination_b1 g_b1) hZ w5_ w2_ (by decide) (by decide)) (g := (mkF m 85 Lo1 [(.int p5), (.int p4), (.ref b1), (.ref b1)])) rfl (by rw [hml]; rfl) (Steps.refl _) (a := b1) (argsL := [(.int p4), (.int p5)]) (rest := [(.ref b1)]) (lenOf pd_0_1 rfl) rfl (by show 2 * 0 + _ ≤ _; exact Nat.le_of_eq rfl) (hb hby at_85) (fun _ _ => ⟨rfl, e1, (by decide : 1 + 0 ≤ _), (by decide : 2 + 0 ≤ _)⟩)
  dsimp only [Pt.U, Pt.locs, Pt.cells, Pt.slots] at X2 l2 y2 z2 st2 hQ2
  subst l2 y2 z2
  obtain ⟨rfl, N2q, q2, p2_0⟩ := hQ2
  have N2 := Fr.app N0 N2q
  have E2_b1 := A1.keep q2
  have Z2 : n0 ≤ T2.heap.size := Nat.le_trans Z1 q2.1
  let Lo2 : Array Slot := #[.val (.long q1), .second, .val (.int p2), .val (.int p3), .val (.int p4), .val (.int p5), .val (.int p6), .val (.int rz), .val (.int (p6 &&& (3 : Int32))), .val (.int pp), .val (.int (own_q rz pp)), .val (.ref b1), .unset, .unset, .unset, .unset, .unset]
  obtain ⟨T3, h3, X3, e3, E3, A3, D3, -, st3⟩ := newO X2 hx hZ hown w0_ w1_ w2_ rfl (g := (mkF m 90 Lo2 [])) rfl (hb hby at_90) (by decide) (by decide)
  obtain ⟨b3, g3⟩ : ∃ z, z = T2.heap.size := ⟨_, rfl⟩
  rw [← g3] at A3 D3 st3
  have ne_b1_b3 : b1 ≠ b3 := Nat.ne_of_lt (Nat.lt_of_lt_of_le p2_0.lt (Nat.le_of_eq g3.symm))
  have g_b3 : n0 ≤ b3 := Nat.le_trans Z2 (Nat.le_of_eq g3.symm)
  have E3_b1 := p2_0.ext E3
  have Z3 : n0 ≤ h3.size := Nat.le_trans Z2 E3.1
  have F3_source_b3 : Fld Z h3 b3 "com/example/mindful_guard/mindfulguard/packets/AddressPair" "source" "I" (.int (0 : Int32)) := D3 (Or.inr w15_) (ty := .int) (by decide)
  have F3_destination_b3 : Fld Z h3 b3 "com/example/mindful_guard/mindfulguard/packets/AddressPair" "destination" "I" (.int (0 : Int32)) := D3 (Or.inr w17_) (ty := .int) (by decide)
  obtain ⟨_, _, ⟨T4, L4, k4, n4⟩, -, X4, ⟨Lc4, hQ4, l4, y4, z4⟩, st4⟩ := X3.specialBack hx (y := (⟨"com/example/mindful_guard/mindfulguard/packets/AddressPair", "<init>", "(II)V"⟩ : MethodName)) rfl hown (mvT hZ w3_) (mvT hZ w4_) (mvT hZ w5_) (by decide) (backOf (W := 1) (rm1 l Z a0 hw [] b3 (p5 ^^^ p6) (p4 ^^^ p2) h3 n0 Z3 A3 F3_source_b3 F3_destination_b3 g_b3) hZ w5_ w2_ (by decide) (by decide)) (g := (mkF m 103 Lo2 [(.int (p4 ^^^ p2)), (.int (p5 ^^^ p6)), (.ref b3), (.ref b3)])) rfl (by rw [hml]; rfl) (Steps.refl _) (a := b3) (argsL := [(.int (p5 ^^^ p6)), (.int (p4 ^^^ p2))]) (rest := [(.ref b3)]) (lenOf pd_0_1 rfl) rfl (by show 2 * 0 + _ ≤ _; exact Nat.le_of_eq rfl) (hb hby at_103) (fun _ _ => ⟨rfl, e3, (by decide : 2 + 0 ≤ _), (by decide : 4 + 0 ≤ _)⟩)
  dsimp only [Pt.U, Pt.locs, Pt.cells, Pt.slots] at X4 l4 y4 z4 st4 hQ4
  subst l4 y4 z4
  obtain ⟨rfl, N4q, q4, p4_0⟩ := hQ4
  have N4 := Fr.app N2 N4q
  have E4_b1 := E3_b1.keep q4
  have E4_b3 := A3.keep q4
  have Z4 : n0 ≤ T4.heap.size := Nat.le_trans Z3 q4.1
  let Lo3 : Array Slot := #[.val (.long q1), .second, .val (.int p2), .val (.int p3), .val (.int p4), .val (.int p5), .val (.int p6), .val (.int rz), .val (.int (p6 &&& (3 : Int32))), .val (.int pp), .val (.int (own_q rz pp)), .val (.ref b1), .val (.ref b3), .unset, .unset, .unset, .unset]
  obtain ⟨T5, h5, X5, e5, E5, A5, D5, -, st5⟩ := newO X4 hx hZ hown w18_ w19_ w20_ rfl (g := (mkF m 108 Lo3 [])) rfl (hb hby at_108) (by decide) (by decide)
  obtain ⟨b5, g5⟩ : ∃ z, z = T4.heap.size := ⟨_, rfl⟩
  rw [← g5] at A5 D5 st5
  have ne_b1_b5 : b1 ≠ b5 := Nat.ne_of_lt (Nat.lt_of_lt_of_le E4_b1.lt (Nat.le_of_eq g5.symm))
  have ne_b3_b5 : b3 ≠ b5 := Nat.ne_of_lt (Nat.lt_of_lt_of_le p4_0.lt (Nat.le_of_eq g5.symm))
  have g_b5 : n0 ≤ b5 := Nat.le_trans Z4 (Nat.le_of_eq g5.symm)
  have E5_b1 := E4_b1.ext E5
  have E5_b3 := p4_0.ext E5
  have Z5 : n0 ≤ h5.size := Nat.le_trans Z4 E5.1
  have F5_at_b5 : Fld Z h5 b5 "com/example/mindful_guard/mindfulguard/packets/Ipv4Header" "at" "J" (.long (0 : Int64)) := D5 (Or.inr w26_) (ty := .long) (by decide)
  have F5_reservedFlag_b5 : Fld Z h5 b5 "com/example/mindful_guard/mindfulguard/packets/Ipv4Header" "reservedFlag" "Z" (.int (0 : Int32)) := D5 (Or.inr w28_) (ty := .boolean) (by decide)
  have F5_protocol_b5 : Fld Z h5 b5 "com/example/mindful_guard/mindfulguard/packets/Ipv4Header" "protocol" "I" (.int (0 : Int32)) := D5 (Or.inr w30_) (ty := .int) (by decide)
  have F5_addresses_b5 : Fld Z h5 b5 "com/example/mindful_guard/mindfulguard/packets/Ipv4Header" "addresses" "Lcom/example/mindful_guard/mindfulguard/packets/AddressPair;" .null := D5 (Or.inr w32_) (ty := (.object "com/example/mindful_guard/mindfulguard/packets/AddressPair")) (by decide)
  obtain ⟨_, _, ⟨T6, L6, k6, n6⟩, -, X6, ⟨Lc6, hQ6, l6, y6, z6⟩, st6⟩ := X5.specialBack hx (y := (⟨"com/example/mindful_guard/mindfulguard/packets/Ipv4Header", "<init>", "(JZILcom/example/mindful_guard/mindfulguard/packets/AddressPair;)V"⟩ : MethodName)) rfl hown (mvT hZ w21_) (mvT hZ w22_) (mvT hZ w23_) (by decide) (backOf (W := 1) (rm4 l Z a0 hw [] b5 q1 rz pp b1 h5 n0 Z5 A5 F5_at_b5 F5_reservedFlag_b5 F5_protocol_b5 F5_addresses_b5 g_b5 hnar hfit) hZ w23_ w20_ (by decide) (by decide)) (g := (mkF m 119 Lo3 [(.ref b1), (.int pp), (.int rz), (.long q1), (.ref b5), (.ref b5)])) rfl (by rw [hml]; rfl) (Steps.refl _) (a := b5) (argsL := [(.long q1), (.int rz), (.int pp), (.ref b1)]) (rest := [(.ref b5)]) (lenOf pd_0_4 rfl) rfl (by show 2 * 0 + _ ≤ _; exact Nat.le_of_eq rfl) (hb hby at_119) (fun _ _ => ⟨rfl, e5, (by decide : 3 + 0 ≤ _), (by decide : 8 + 0 ≤ _)⟩)
  dsimp only [Pt.U, Pt.locs, Pt.cells, Pt.slots] at X6 l6 y6 z6 st6 hQ6
  subst l6 y6 z6
  obtain ⟨rfl, N6q, q6, p6_0, p6_1, p6_2⟩ := hQ6
  have N6 := Fr.app N4 N6q
  have E6_b1 := E5_b1.keep q6
  have E6_b3 := E5_b3.keep q6
  have E6_b5 := A5.keep q6
  have Z6 : n0 ≤ T6.heap.size := Nat.le_trans Z5 q6.1
  let Lo4 : Array Slot := #[.val (.long q1), .second, .val (.int p2), .val (.int p3), .val (.int p4), .val (.int p5), .val (.int p6), .val (.int rz), .val (.int (p6 &&& (3 : Int32))), .val (.int pp), .val (.int (own_q rz pp)), .val (.ref b1), .val (.ref b3), .val (.ref b5), .unset, .unset, .unset]
  obtain ⟨T7, h7, X7, e7, E7, A7, D7, -, st7⟩ := newO X6 hx hZ hown w18_ w19_ w20_ rfl (g := (mkF m 124 Lo4 [])) rfl (hb hby at_124) (by decide) (by decide)
  obtain ⟨b7, g7⟩ : ∃ z, z = T6.heap.size := ⟨_, rfl⟩
  rw [← g7] at A7 D7 st7
  have ne_b1_b7 : b1 ≠ b7 := Nat.ne_of_lt (Nat.lt_of_lt_of_le E6_b1.lt (Nat.le_of_eq g7.symm))
  have ne_b3_b7 : b3 ≠ b7 := Nat.ne_of_lt (Nat.lt_of_lt_of_le E6_b3.lt (Nat.le_of_eq g7.symm))
  have ne_b5_b7 : b5 ≠ b7 := Nat.ne_of_lt (Nat.lt_of_lt_of_le p6_0.lt (Nat.le_of_eq g7.symm))
  have g_b7 : n0 ≤ b7 := Nat.le_trans Z6 (Nat.le_of_eq g7.symm)
  have F7_reservedFlag_b5 := p6_1.ext E7
  have F7_protocol_b5 := p6_2.ext E7
  have E7_b1 := E6_b1.ext E7
  have E7_b3 := E6_b3.ext E7
  have E7_b5 := p6_0.ext E7
  have Z7 : n0 ≤ h7.size := Nat.le_trans Z6 E7.1
  have F7_at_b7 : Fld Z h7 b7 "com/example/mindful_guard/mindfulguard/packets/Ipv4Header" "at" "J" (.long (0 : Int64)) := D7 (Or.inr w26_) (ty := .long) (by decide)
  have F7_reservedFlag_b7 : Fld Z h7 b7 "com/example/mindful_guard/mindfulguard/packets/Ipv4Header" "reservedFlag" "Z" (.int (0 : Int32)) := D7 (Or.inr w28_) (ty := .boolean) (by decide)
  have F7_protocol_b7 : Fld Z h7 b7 "com/example/mindful_guard/mindfulguard/packets/Ipv4Header" "protocol" "I" (.int (0 : Int32)) := D7 (Or.inr w30_) (ty := .int) (by decide)
  have F7_addresses_b7 : Fld Z h7 b7 "com/example/mindful_guard/mindfulguard/packets/Ipv4Header" "addresses" "Lcom/example/mindful_guard/mindfulguard/packets/AddressPair;" .null := D7 (Or.inr w32_) (ty := (.object "com/example/mindful_guard/mindfulguard/packets/AddressPair")) (by decide)
  obtain ⟨_, _, ⟨T8, L8, k8, n8⟩, -, X8, ⟨Lc8, hQ8, l8, y8, z8⟩, st8⟩ := X7.specialBack hx (y := (⟨"com/example/mindful_guard/mindfulguard/packets/Ipv4Header", "<init>", "(JZILcom/example/mindful_guard/mindfulguard/packets/AddressPair;)V"⟩ : MethodName)) rfl hown (mvT hZ w21_) (mvT hZ w22_) (mvT hZ w23_) (by decide) (backOf (W := 1) (rm4 l Z a0 hw [] b7 (q1 ^^^ (-1 : Int64)) rz pp b3 h7 n0 Z7 A7 F7_at_b7 F7_reservedFlag_b7 F7_protocol_b7 F7_addresses_b7 g_b7 hnar hfit) hZ w23_ w20_ (by decide) (by decide)) (g := (mkF m 139 Lo4 [(.ref b3), (.int pp), (.int rz), (.long (q1 ^^^ (-1 : Int64))), (.ref b7), (.ref b7)])) rfl (by rw [hml]; rfl) (Steps.refl _) (a := b7) (argsL := [(.long (q1 ^^^ (-1 : Int64))), (.int rz), (.int pp), (.ref b3)]) (rest := [(.ref b7)]) (lenOf pd_0_4 rfl) rfl (by show 2 * 0 + _ ≤ _; exact Nat.le_of_eq rfl) (hb hby at_139) (fun _ _ => ⟨rfl, e7, (by decide : 4 + 0 ≤ _), (by decide : 12 + 0 ≤ _)⟩)
  dsimp only [Pt.U, Pt.locs, Pt.cells, Pt.slots] at X8 l8 y8 z8 st8 hQ8
  subst l8 y8 z8
  obtain ⟨rfl, N8q, q8, p8_0, p8_1, p8_2⟩ := hQ8
  have N8 := Fr.app N6 N8q
  have F8_reservedFlag_b5 := F7_reservedFlag_b5.keep q8 (fun hm => ne_b5_b7 (List.mem_singleton.mp hm))
  have F8_protocol_b5 := F7_protocol_b5.keep q8 (fun hm => ne_b5_b7 (List.mem_singleton.mp hm))
  have E8_b1 := E7_b1.keep q8
  have E8_b3 := E7_b3.keep q8
  have E8_b5 := E7_b5.keep q8
  have E8_b7 := A7.keep q8
  have Z8 : n0 ≤ T8.heap.size := Nat.le_trans Z7 q8.1
  let Lo5 : Array Slot := #[.val (.long q1), .second, .val (.int p2), .val (.int p3), .val (.int p4), .val (.int p5), .val (.int p6), .val (.int rz), .val (.int (p6 &&& (3 : Int32))), .val (.int pp), .val (.int (own_q rz pp)), .val (.ref b1), .val (.ref b3), .val (.ref b5), .val (.ref b7), .unset, .unset]
  obtain ⟨cq9, kq9, q9a, q9b, q9c⟩ := isOf hZ rfl E8_b5
  obtain ⟨_, _, ⟨T9, L9, k9, n9⟩, -, X9, ⟨Lc9, hQ9, l9, y9, z9⟩, st9⟩ := X8.virtualBack hx (y := (⟨"com/example/mindful_guard/mindfulguard/packets/Ipv4Header", "qualifies", "()Z"⟩ : MethodName)) (z := (⟨"com/example/mindful_guard/mindfulguard/packets/Ipv4Header", "qualifies", "()Z"⟩ : MethodName)) hown (mvT hZ w34_) (mvT hZ w35_) (notFace_of_selects (args := #[]) (mvT hZ w37_)) (mvT hZ w37_) (mvT hZ w36_) (by decide) (backOf (W := 0) (rm5 l Z a0 hw [] b5 rz pp T8.heap n0 Z8 F8_reservedFlag_b5 F8_protocol_b5) hZ w38_ w20_ (by decide) (by decide)) q9a q9c (g := (mkF m 146 Lo5 [(.ref b5)])) rfl (by rw [hml]; rfl) (Steps.refl _) (argsL := []) (rest := []) (lenOf pd_0_5 rfl) rfl (by show 2 * 0 + _ ≤ _; exact Nat.le_of_eq rfl) (hb hby at_146) (fun _ _ => ⟨rfl, rfl, (by decide : 4 + 0 ≤ _), (by decide : 12 + 0 ≤ _)⟩)
  dsimp only [Pt.U, Pt.locs, Pt.cells, Pt.slots] at X9 l9 y9 z9 st9 hQ9
  subst l9 y9 z9
  obtain ⟨rfl, N9q, q9⟩ := hQ9
  have N9 := Fr.app N8 N9q
  have e9 : T9.heap = T8.heap := q9
  let Lo6 : Array Slot := #[.val (.long q1), .second, .val (.int p2), .val (.int p3), .val (.int p4), .val (.int p5), .val (.int p6), .val (.int rz), .val (.int (p6 &&& (3 : Int32))), .val (.int pp), .val (.int (own_q rz pp)), .val (.ref b1), .val (.ref b3), .val (.ref b5), .val (.ref b7), .val (.int (own_q rz pp)), .unset]
  obtain ⟨cq10, kq10, q10a, q10b, q10c⟩ := isOf hZ e9 p8_0
  obtain ⟨_, _, ⟨T10, L10, k10, n10⟩, -, X10, ⟨Lc10, hQ10, l10, y10, z10⟩, st10⟩ := X9.virtualBack hx (y := (⟨"com/example/mindful_guard/mindfulguard/packets/Ipv4Header", "qualifies", "()Z"⟩ : MethodName)) (z := (⟨"com/example/mindful_guard/mindfulguard/packets/Ipv4Header", "qualifies", "()Z"⟩ : MethodName)) hown (mvT hZ w34_) (mvT hZ w35_) (notFace_of_selects (args := #[]) (mvT hZ w37_)) (mvT hZ w37_) (mvT hZ w36_) (by decide) (backOf (W := 0) (rm5 l Z a0 hw [] b7 rz pp T8.heap n0 Z8 p8_1 p8_2) hZ w38_ w20_ (by decide) (by decide)) q10a q10c (g := (mkF m 153 Lo6 [(.ref b7)])) rfl (by rw [hml]; rfl) (Steps.refl _) (argsL := []) (rest := []) (lenOf pd_0_5 rfl) rfl (by show 2 * 0 + _ ≤ _; exact Nat.le_of_eq rfl) (hb hby at_153) (fun _ _ => ⟨rfl, e9, (by decide : 4 + 0 ≤ _), (by decide : 12 + 0 ≤ _)⟩)
  dsimp only [Pt.U, Pt.locs, Pt.cells, Pt.slots] at X10 l10 y10 z10 st10 hQ10
  subst l10 y10 z10
  obtain ⟨rfl, N10q, q10⟩ := hQ10
  have N10 := Fr.app N9 N10q
  have e10 : T10.heap = T8.heap := q10
  let Lo7 : Array Slot := #[.val (.long q1), .second, .val (.int p2), .val (.int p3), .val (.int p4), .val (.int p5), .val (.int p6), .val (.int rz), .val (.int (p6 &&& (3 : Int32))), .val (.int pp), .val (.int (own_q rz pp)), .val (.ref b1), .val (.ref b3), .val (.ref b5), .val (.ref b7), .val (.int (own_q rz pp)), .val (.int (own_q rz pp))]
  let Lo8 : Array Slot := #[.val (.long q1), .second, .val (.int p2), .val (.int p3), .val (.int p4), .val (.int p5), .val (.int p6), .val (.int rz), .val (.int (p6 &&& (3 : Int32))), .val (.int pp), .unset, .unset, .unset, .unset, .unset, .unset, .unset]
  let Lo9 : Array Slot := #[.val (.long q1), .second, .val (.int p2), .val (.int p3), .val (.int p4), .val (.int p5), .val (.int p6), .val (.int rz), .val (.int (p6 &&& (3 : Int32))), .val (.int pp), .val (.int (0 : Int32)), .unset, .unset, .unset, .unset, .unset, .unset]
  let Lo10 : Array Slot := #[.val (.long q1), .second, .val (.int p2), .val (.int p3), .val (.int p4), .val (.int p5), .val (.int p6), .val (.int rz), .val (.int (p6 &&& (3 : Int32))), .val (.int pp), .val (.int (1 : Int32)), .unset, .unset, .unset, .unset, .unset, .unset]
  let Lo11 : Array Slot := #[.val (.long q1), .second, .val (.int p2), .val (.int p3), .val (.int p4), .val (.int p5), .val (.int p6), .unset, .unset, .unset, .unset, .unset, .unset, .unset, .unset, .unset, .unset]
  let Lo12 : Array Slot := #[.val (.long q1), .second, .val (.int p2), .val (.int p3), .val (.int p4), .val (.int p5), .val (.int p6), .val (.int rz), .unset, .unset, .unset, .unset, .unset, .unset, .unset, .unset, .unset]
  let Lo13 : Array Slot := #[.val (.long q1), .second, .val (.int p2), .val (.int p3), .val (.int p4), .val (.int p5), .val (.int p6), .val (.int rz), .val (.int (p6 &&& (3 : Int32))), .unset, .unset, .unset, .unset, .unset, .unset, .unset, .unset]
  let Lo14 : Array Slot := #[.val (.long q1), .second, .val (.int p2), .val (.int p3), .val (.int p4), .val (.int p5), .val (.int p6), .val (.int rz), .val (.int (p6 &&& (3 : Int32))), .val (.int p3), .unset, .unset, .unset, .unset, .unset, .unset, .unset]
  let Lo15 : Array Slot := #[.val (.long q1), .second, .val (.int p2), .val (.int p3), .val (.int p4), .val (.int p5), .val (.int p6), .val (.int rz), .val (.int (p6 &&& (3 : Int32))), .val (.int (6 : Int32)), .unset, .unset, .unset, .unset, .unset, .unset, .unset]
  let Lo16 : Array Slot := #[.val (.long q1), .second, .val (.int p2), .val (.int p3), .val (.int p4), .val (.int p5), .val (.int p6), .val (.int rz), .val (.int (p6 &&& (3 : Int32))), .val (.int (5 : Int32)), .unset, .unset, .unset, .unset, .unset, .unset, .unset]
  let Lo17 : Array Slot := #[.val (.long q1), .second, .val (.int p2), .val (.int p3), .val (.int p4), .val (.int p5), .val (.int p6), .val (.int rz), .val (.int (p6 &&& (3 : Int32))), .val (.int (7 : Int32)), .unset, .unset, .unset, .unset, .unset, .unset, .unset]
  obtain ⟨fs, hr, hrun, hended, hW, hsame⟩ := X10.leave (v := some (.int 1)) (fun h => by rw [Bd.returns] at h; cases h)
  have J77 : ∀ (u0 : Int32), u0 = (own_q rz pp) → Steps p.tables e below (s₁.setTop (mkF m 77 #[.val (.long q1), .second, .val (.int p2), .val (.int p3), .val (.int p4), .val (.int p5), .val (.int p6), .val (.int rz), .val (.int (p6 &&& (3 : Int32))), .val (.int pp), .val (.int u0), .unset, .unset, .unset, .unset, .unset, .unset] [])) (T10.setFrames fs) := by
    intro u0 hu0
    rw [hu0]
    show Steps p.tables e below (s₁.setTop (mkF m 77 Lo1 [])) _
    refine st1 _ ?_
    show Steps p.tables e below (T1.setTop (mkF m 80 Lo1 [(.ref b1)])) _
    refine XS.dup X1.here hx rfl (hb hby at_80) rfl rfl ?_
    show Steps p.tables e below (T1.setTop (mkF m 81 Lo1 [(.ref b1), (.ref b1)])) _
    refine XS.iload X1.here hx rfl (hb hby at_81) rfl ?_
    show Steps p.tables e below (T1.setTop (mkF m 83 Lo1 [(.int p4), (.ref b1), (.ref b1)])) _
    refine XS.iload X1.here hx rfl (hb hby at_83) rfl ?_
    show Steps p.tables e below (T1.setTop (mkF m 85 Lo1 [(.int p5), (.int p4), (.ref b1), (.ref b1)])) _
    refine st2.trans ?_
    show Steps p.tables e below (T2.setTop (mkF m 88 Lo1 [(.ref b1)])) _
    refine XS.astore X2.here hx rfl (hb hby at_88) rfl rfl (l' := Lo2) rfl ?_
    show Steps p.tables e below (T2.setTop (mkF m 90 Lo2 [])) _
    refine st3 _ ?_
    show Steps p.tables e below (T3.setTop (mkF m 93 Lo2 [(.ref b3)])) _
    refine XS.dup X3.here hx rfl (hb hby at_93) rfl rfl ?_
    show Steps p.tables e below (T3.setTop (mkF m 94 Lo2 [(.ref b3), (.ref b3)])) _
    refine XS.iload X3.here hx rfl (hb hby at_94) rfl ?_
    show Steps p.tables e below (T3.setTop (mkF m 96 Lo2 [(.int p5), (.ref b3), (.ref b3)])) _
    refine XS.iload X3.here hx rfl (hb hby at_96) rfl ?_
    show Steps p.tables e below (T3.setTop (mkF m 98 Lo2 [(.int p6), (.int p5), (.ref b3), (.ref b3)])) _
    refine XS.ixor X3.here hx rfl (hb hby at_98) rfl ?_
    show Steps p.tables e below (T3.setTop (mkF m 99 Lo2 [(.int (p5 ^^^ p6)), (.ref b3), (.ref b3)])) _
    refine XS.iload X3.here hx rfl (hb hby at_99) rfl ?_
    show Steps p.tables e below (T3.setTop (mkF m 101 Lo2 [(.int p4), (.int (p5 ^^^ p6)), (.ref b3), (.ref b3)])) _
    refine XS.iloadN X3.here hx rfl (hb hby at_101) rfl ?_
    show Steps p.tables e below (T3.setTop (mkF m 102 Lo2 [(.int p2), (.int p4), (.int (p5 ^^^ p6)), (.ref b3), (.ref b3)])) _
    refine XS.ixor X3.here hx rfl (hb hby at_102) rfl ?_
    show Steps p.tables e below (T3.setTop (mkF m 103 Lo2 [(.int (p4 ^^^ p2)), (.int (p5 ^^^ p6)), (.ref b3), (.ref b3)])) _
    refine st4.trans ?_
    show Steps p.tables e below (T4.setTop (mkF m 106 Lo2 [(.ref b3)])) _
    refine XS.astore X4.here hx rfl (hb hby at_106) rfl rfl (l' := Lo3) rfl ?_
    show Steps p.tables e below (T4.setTop (mkF m 108 Lo3 [])) _
    refine st5 _ ?_
    show Steps p.tables e below (T5.setTop (mkF m 111 Lo3 [(.ref b5)])) _
    refine XS.dup X5.here hx rfl (hb hby at_111) rfl rfl ?_
    show Steps p.tables e below (T5.setTop (mkF m 112 Lo3 [(.ref b5), (.ref b5)])) _
    refine XS.lloadN X5.here hx rfl (hb hby at_112) rfl ?_
    show Steps p.tables e below (T5.setTop (mkF m 113 Lo3 [(.long q1), (.ref b5), (.ref b5)])) _
    refine XS.iload X5.here hx rfl (hb hby at_113) rfl ?_
    show Steps p.tables e below (T5.setTop (mkF m 115 Lo3 [(.int rz), (.long q1), (.ref b5), (.ref b5)])) _
    refine XS.iload X5.here hx rfl (hb hby at_115) rfl ?_
    show Steps p.tables e below (T5.setTop (mkF m 117 Lo3 [(.int pp), (.int rz), (.long q1), (.ref b5), (.ref b5)])) _
    refine XS.aload X5.here hx rfl (hb hby at_117) rfl rfl ?_
    show Steps p.tables e below (T5.setTop (mkF m 119 Lo3 [(.ref b1), (.int pp), (.int rz), (.long q1), (.ref b5), (.ref b5)])) _
    refine st6.trans ?_
    show Steps p.tables e below (T6.setTop (mkF m 122 Lo3 [(.ref b5)])) _
    refine XS.astore X6.here hx rfl (hb hby at_122) rfl rfl (l' := Lo4) rfl ?_
    show Steps p.tables e below (T6.setTop (mkF m 124 Lo4 [])) _
    refine st7 _ ?_
    show Steps p.tables e below (T7.setTop (mkF m 127 Lo4 [(.ref b7)])) _
    refine XS.dup X7.here hx rfl (hb hby at_127) rfl rfl ?_
    show Steps p.tables e below (T7.setTop (mkF m 128 Lo4 [(.ref b7), (.ref b7)])) _
    refine XS.lloadN X7.here hx rfl (hb hby at_128) rfl ?_
    show Steps p.tables e below (T7.setTop (mkF m 129 Lo4 [(.long q1), (.ref b7), (.ref b7)])) _
    refine X7.ldc2Long hx hown (mvT hZ w33_) (g := (mkF m 129 Lo4 [(.long q1), (.ref b7), (.ref b7)])) rfl (hb hby at_129) _ ?_
    show Steps p.tables e below (T7.setTop (mkF m 132 Lo4 [(.long (-1 : Int64)), (.long q1), (.ref b7), (.ref b7)])) _
    refine XS.lxor X7.here hx rfl (hb hby at_132) rfl ?_
    show Steps p.tables e below (T7.setTop (mkF m 133 Lo4 [(.long (q1 ^^^ (-1 : Int64))), (.ref b7), (.ref b7)])) _
    refine XS.iload X7.here hx rfl (hb hby at_133) rfl ?_
    show Steps p.tables e below (T7.setTop (mkF m 135 Lo4 [(.int rz), (.long (q1 ^^^ (-1 : Int64))), (.ref b7), (.ref b7)])) _
    refine XS.iload X7.here hx rfl (hb hby at_135) rfl ?_
    show Steps p.tables e below (T7.setTop (mkF m 137 Lo4 [(.int pp), (.int rz), (.long (q1 ^^^ (-1 : Int64))), (.ref b7), (.ref b7)])) _
    refine XS.aload X7.here hx rfl (hb hby at_137) rfl rfl ?_
    show Steps p.tables e below (T7.setTop (mkF m 139 Lo4 [(.ref b3), (.int pp), (.int rz), (.long (q1 ^^^ (-1 : Int64))), (.ref b7), (.ref b7)])) _
    refine st8.trans ?_
    show Steps p.tables e below (T8.setTop (mkF m 142 Lo4 [(.ref b7)])) _
    refine XS.astore X8.here hx rfl (hb hby at_142) rfl rfl (l' := Lo5) rfl ?_
    show Steps p.tables e below (T8.setTop (mkF m 144 Lo5 [])) _
    refine XS.aload X8.here hx rfl (hb hby at_144) rfl rfl ?_
    show Steps p.tables e below (T8.setTop (mkF m 146 Lo5 [(.ref b5)])) _
    refine st9.trans ?_
    show Steps p.tables e below (T9.setTop (mkF m 149 Lo5 [(.int (own_q rz pp))])) _
    refine XS.istore X9.here hx rfl (hb hby at_149) rfl (l' := Lo6) rfl ?_
    show Steps p.tables e below (T9.setTop (mkF m 151 Lo6 [])) _
    refine XS.aload X9.here hx rfl (hb hby at_151) rfl rfl ?_
    show Steps p.tables e below (T9.setTop (mkF m 153 Lo6 [(.ref b7)])) _
    refine st10.trans ?_
    show Steps p.tables e below (T10.setTop (mkF m 156 Lo6 [(.int (own_q rz pp))])) _
    refine XS.istore X10.here hx rfl (hb hby at_156) rfl (l' := Lo7) rfl ?_
    show Steps p.tables e below (T10.setTop (mkF m 158 Lo7 [])) _
    refine XS.iload X10.here hx rfl (hb hby at_158) rfl ?_
    show Steps p.tables e below (T10.setTop (mkF m 160 Lo7 [(.int (own_q rz pp))])) _
    refine XS.iload X10.here hx rfl (hb hby at_160) rfl ?_
    show Steps p.tables e below (T10.setTop (mkF m 162 Lo7 [(.int (own_q rz pp)), (.int (own_q rz pp))])) _
    refine XS.icmpNo X10.here hx rfl (hb hby at_162) rfl (Jvm.Free.XT.ii_ne_f rfl) ?_
    show Steps p.tables e below (T10.setTop (mkF m 165 Lo7 [])) _
    refine XS.iload X10.here hx rfl (hb hby at_165) rfl ?_
    show Steps p.tables e below (T10.setTop (mkF m 167 Lo7 [(.int (own_q rz pp))])) _
    refine XS.iload X10.here hx rfl (hb hby at_167) rfl ?_
    show Steps p.tables e below (T10.setTop (mkF m 169 Lo7 [(.int (own_q rz pp)), (.int (own_q rz pp))])) _
    refine XS.icmpNo X10.here hx rfl (hb hby at_169) rfl (Jvm.Free.XT.ii_ne_f rfl) ?_
    show Steps p.tables e below (T10.setTop (mkF m 172 Lo7 [])) _
    refine XS.iconst X10.here hx rfl (hb hby at_172) ?_
    show Steps p.tables e below (T10.setTop (mkF m 173 Lo7 [(.int (1 : Int32))])) _
    refine XS.goto X10.here hx rfl (pc0 := 173) (pc' := 177) rfl (hb hby at_173) (by decide) (by decide) ?_
    show Steps p.tables e below (T10.setTop (mkF m 177 Lo7 [(.int (1 : Int32))])) _
    exact own_retZ X10 hx Bd.returns (hb hby at_177) rfl rfl hr
  have J59 : ∀ (u0 : Int32), u0 = pp → Steps p.tables e below (s₁.setTop (mkF m 59 #[.val (.long q1), .second, .val (.int p2), .val (.int p3), .val (.int p4), .val (.int p5), .val (.int p6), .val (.int rz), .val (.int (p6 &&& (3 : Int32))), .val (.int u0), .unset, .unset, .unset, .unset, .unset, .unset, .unset] [])) (T10.setFrames fs) := by
    intro u0 hu0
    rw [hu0]
    show Steps p.tables e below (s₁.setTop (mkF m 59 Lo8 [])) _
    refine XS.iconst X0.here hx rfl (hb hby at_59) ?_
    show Steps p.tables e below (s₁.setTop (mkF m 60 Lo8 [(.int (0 : Int32))])) _
    refine XS.istore X0.here hx rfl (hb hby at_60) rfl (l' := Lo9) rfl ?_
    show Steps p.tables e below (s₁.setTop (mkF m 62 Lo9 [])) _
    refine XS.iload X0.here hx rfl (hb hby at_62) rfl ?_
    show Steps p.tables e below (s₁.setTop (mkF m 64 Lo9 [(.int rz)])) _
    by_cases hc64 : rz = (0 : Int32)
    · refine XS.ifNo X0.here hx rfl (hb hby at_64) rfl (Jvm.Free.XT.i0_ne_f hc64) ?_
      show Steps p.tables e below (s₁.setTop (mkF m 67 Lo9 [])) _
      refine XS.iload X0.here hx rfl (hb hby at_67) rfl ?_
      show Steps p.tables e below (s₁.setTop (mkF m 69 Lo9 [(.int pp)])) _
      refine XS.bipush X0.here hx rfl (hb hby at_69) ?_
      show Steps p.tables e below (s₁.setTop (mkF m 71 Lo9 [(.int (6 : Int32)), (.int pp)])) _
      by_cases hc71 : pp = (6 : Int32)
      · refine XS.icmpNo X0.here hx rfl (hb hby at_71) rfl (Jvm.Free.XT.ii_ne_f hc71) ?_
        show Steps p.tables e below (s₁.setTop (mkF m 74 Lo9 [])) _
        refine XS.iconst X0.here hx rfl (hb hby at_74) ?_
        show Steps p.tables e below (s₁.setTop (mkF m 75 Lo9 [(.int (1 : Int32))])) _
        refine XS.istore X0.here hx rfl (hb hby at_75) rfl (l' := Lo10) rfl ?_
        show Steps p.tables e below (s₁.setTop (mkF m 77 Lo10 [])) _
        exact J77 _ (by rw [own_q, if_pos hc64, if_pos hc71])
      · refine XS.icmpYes X0.here hx rfl (pc0 := 71) (pc' := 77) rfl (hb hby at_71) rfl (Jvm.Free.XT.ii_ne_t hc71) (by decide) (by decide) ?_
        show Steps p.tables e below (s₁.setTop (mkF m 77 Lo9 [])) _
        exact J77 _ (by rw [own_q, if_pos hc64, if_neg hc71])
    · refine XS.ifYes X0.here hx rfl (pc0 := 64) (pc' := 77) rfl (hb hby at_64) rfl (Jvm.Free.XT.i0_ne_t hc64) (by decide) (by decide) ?_
      show Steps p.tables e below (s₁.setTop (mkF m 77 Lo9 [])) _
      exact J77 _ (by rw [own_q, if_neg hc64])
  have J11 : ∀ (u0 : Int32), u0 = rz → Steps p.tables e below (s₁.setTop (mkF m 11 #[.val (.long q1), .second, .val (.int p2), .val (.int p3), .val (.int p4), .val (.int p5), .val (.int p6), .unset, .unset, .unset, .unset, .unset, .unset, .unset, .unset, .unset, .unset] [(.int u0)])) (T10.setFrames fs) := by
    intro u0 hu0
    rw [hu0]
    show Steps p.tables e below (s₁.setTop (mkF m 11 Lo11 [(.int rz)])) _
    refine XS.istore X0.here hx rfl (hb hby at_11) rfl (l' := Lo12) rfl ?_
    show Steps p.tables e below (s₁.setTop (mkF m 13 Lo12 [])) _
    refine XS.iload X0.here hx rfl (hb hby at_13) rfl ?_
    show Steps p.tables e below (s₁.setTop (mkF m 15 Lo12 [(.int p6)])) _
    refine XS.iconst X0.here hx rfl (hb hby at_15) ?_
    show Steps p.tables e below (s₁.setTop (mkF m 16 Lo12 [(.int (3 : Int32)), (.int p6)])) _
    refine XS.iand X0.here hx rfl (hb hby at_16) rfl ?_
    show Steps p.tables e below (s₁.setTop (mkF m 17 Lo12 [(.int (p6 &&& (3 : Int32)))])) _
    refine XS.istore X0.here hx rfl (hb hby at_17) rfl (l' := Lo13) rfl ?_
    show Steps p.tables e below (s₁.setTop (mkF m 19 Lo13 [])) _
    refine XS.iload X0.here hx rfl (hb hby at_19) rfl ?_
    show Steps p.tables e below (s₁.setTop (mkF m 21 Lo13 [(.int (p6 &&& (3 : Int32)))])) _
    by_cases hc21 : (p6 &&& (3 : Int32)) = (0 : Int32)
    · refine XS.ifNo X0.here hx rfl (hb hby at_21) rfl (Jvm.Free.XT.i0_ne_f hc21) ?_
      show Steps p.tables e below (s₁.setTop (mkF m 24 Lo13 [])) _
      refine XS.iloadN X0.here hx rfl (hb hby at_24) rfl ?_
      show Steps p.tables e below (s₁.setTop (mkF m 25 Lo13 [(.int p3)])) _
      refine XS.istore X0.here hx rfl (hb hby at_25) rfl (l' := Lo14) rfl ?_
      show Steps p.tables e below (s₁.setTop (mkF m 27 Lo14 [])) _
      refine XS.goto X0.here hx rfl (pc0 := 27) (pc' := 59) rfl (hb hby at_27) (by decide) (by decide) ?_
      show Steps p.tables e below (s₁.setTop (mkF m 59 Lo14 [])) _
      exact J59 _ (by rw [hpp, own_p, if_pos hc21])
    · refine XS.ifYes X0.here hx rfl (pc0 := 21) (pc' := 30) rfl (hb hby at_21) rfl (Jvm.Free.XT.i0_ne_t hc21) (by decide) (by decide) ?_
      show Steps p.tables e below (s₁.setTop (mkF m 30 Lo13 [])) _
      refine XS.iload X0.here hx rfl (hb hby at_30) rfl ?_
      show Steps p.tables e below (s₁.setTop (mkF m 32 Lo13 [(.int (p6 &&& (3 : Int32)))])) _
      refine XS.iconst X0.here hx rfl (hb hby at_32) ?_
      show Steps p.tables e below (s₁.setTop (mkF m 33 Lo13 [(.int (1 : Int32)), (.int (p6 &&& (3 : Int32)))])) _
      by_cases hc33 : (p6 &&& (3 : Int32)) = (1 : Int32)
      · refine XS.icmpNo X0.here hx rfl (hb hby at_33) rfl (Jvm.Free.XT.ii_ne_f hc33) ?_
        show Steps p.tables e below (s₁.setTop (mkF m 36 Lo13 [])) _
        refine XS.bipush X0.here hx rfl (hb hby at_36) ?_
        show Steps p.tables e below (s₁.setTop (mkF m 38 Lo13 [(.int (6 : Int32))])) _
        refine XS.istore X0.here hx rfl (hb hby at_38) rfl (l' := Lo15) rfl ?_
        show Steps p.tables e below (s₁.setTop (mkF m 40 Lo15 [])) _
        refine XS.goto X0.here hx rfl (pc0 := 40) (pc' := 59) rfl (hb hby at_40) (by decide) (by decide) ?_
        show Steps p.tables e below (s₁.setTop (mkF m 59 Lo15 [])) _
        exact J59 _ (by rw [hpp, own_p, if_neg hc21, if_pos hc33])
      · refine XS.icmpYes X0.here hx rfl (pc0 := 33) (pc' := 43) rfl (hb hby at_33) rfl (Jvm.Free.XT.ii_ne_t hc33) (by decide) (by decide) ?_
        show Steps p.tables e below (s₁.setTop (mkF m 43 Lo13 [])) _
        refine XS.iload X0.here hx rfl (hb hby at_43) rfl ?_
        show Steps p.tables e below (s₁.setTop (mkF m 45 Lo13 [(.int (p6 &&& (3 : Int32)))])) _
        refine XS.iconst X0.here hx rfl (hb hby at_45) ?_
        show Steps p.tables e below (s₁.setTop (mkF m 46 Lo13 [(.int (2 : Int32)), (.int (p6 &&& (3 : Int32)))])) _
        by_cases hc46 : (p6 &&& (3 : Int32)) = (2 : Int32)
        · refine XS.icmpNo X0.here hx rfl (hb hby at_46) rfl (Jvm.Free.XT.ii_ne_f hc46) ?_
          show Steps p.tables e below (s₁.setTop (mkF m 49 Lo13 [])) _
          refine XS.iconst X0.here hx rfl (hb hby at_49) ?_
          show Steps p.tables e below (s₁.setTop (mkF m 50 Lo13 [(.int (5 : Int32))])) _
          refine XS.istore X0.here hx rfl (hb hby at_50) rfl (l' := Lo16) rfl ?_
          show Steps p.tables e below (s₁.setTop (mkF m 52 Lo16 [])) _
          refine XS.goto X0.here hx rfl (pc0 := 52) (pc' := 59) rfl (hb hby at_52) (by decide) (by decide) ?_
          show Steps p.tables e below (s₁.setTop (mkF m 59 Lo16 [])) _
          exact J59 _ (by rw [hpp, own_p, if_neg hc21, if_neg hc33, if_pos hc46])
        · refine XS.icmpYes X0.here hx rfl (pc0 := 46) (pc' := 55) rfl (hb hby at_46) rfl (Jvm.Free.XT.ii_ne_t hc46) (by decide) (by decide) ?_
          show Steps p.tables e below (s₁.setTop (mkF m 55 Lo13 [])) _
          refine XS.bipush X0.here hx rfl (hb hby at_55) ?_
          show Steps p.tables e below (s₁.setTop (mkF m 57 Lo13 [(.int (7 : Int32))])) _
          refine XS.istore X0.here hx rfl (hb hby at_57) rfl (l' := Lo17) rfl ?_
          show Steps p.tables e below (s₁.setTop (mkF m 59 Lo17 [])) _
          exact J59 _ (by rw [hpp, own_p, if_neg hc21, if_neg hc33, if_neg hc46])
  refine ⟨_, _, pre0 _ ?_, hrun, hended, _, _, rfl, ?_, ⟨_, rfl⟩, hW, hsame.mono (by decide) (by decide)⟩
  · show Steps p.tables e below (s₁.setTop (mkF m 0 Lo11 [])) _
    refine XS.iloadN X0.here hx rfl (hb hby at_0) rfl ?_
    show Steps p.tables e below (s₁.setTop (mkF m 1 Lo11 [(.int p2)])) _
    refine XS.iconst X0.here hx rfl (hb hby at_1) ?_
    show Steps p.tables e below (s₁.setTop (mkF m 2 Lo11 [(.int (1 : Int32)), (.int p2)])) _
    refine XS.iand X0.here hx rfl (hb hby at_2) rfl ?_
    show Steps p.tables e below (s₁.setTop (mkF m 3 Lo11 [(.int (p2 &&& (1 : Int32)))])) _
    by_cases hc3 : (p2 &&& (1 : Int32)) = (0 : Int32)
    · refine XS.ifYes X0.here hx rfl (pc0 := 3) (pc' := 10) rfl (hb hby at_3) rfl (Jvm.Free.XT.i0_eq_t hc3) (by decide) (by decide) ?_
      show Steps p.tables e below (s₁.setTop (mkF m 10 Lo11 [])) _
      refine XS.iconst X0.here hx rfl (hb hby at_10) ?_
      show Steps p.tables e below (s₁.setTop (mkF m 11 Lo11 [(.int (0 : Int32))])) _
      exact J11 _ (by rw [hrz, own_r, if_pos hc3])
    · refine XS.ifNo X0.here hx rfl (hb hby at_3) rfl (Jvm.Free.XT.i0_eq_f hc3) ?_
      show Steps p.tables e below (s₁.setTop (mkF m 6 Lo11 [])) _
      refine XS.iconst X0.here hx rfl (hb hby at_6) ?_
      show Steps p.tables e below (s₁.setTop (mkF m 7 Lo11 [(.int (1 : Int32))])) _
      refine XS.goto X0.here hx rfl (pc0 := 7) (pc' := 11) rfl (hb hby at_7) (by decide) (by decide) ?_
      show Steps p.tables e below (s₁.setTop (mkF m 11 Lo11 [(.int (1 : Int32))])) _
      exact J11 _ (by rw [hrz, own_r, if_neg hc3])
  · show Q0 Z q1 p2 p3 p4 p5 p6 h0 n0 _ T10.heap _
    exact ⟨rfl, N10⟩
set_option maxRecDepth 65536 in
set_option maxHeartbeats 40000000 in
theorem comes_1 {Post : Tables → Env → Array Value → State → Outcome → State → Prop} (hpost : ∀ tb e args s v u, (limb_1_1.after args s (.returned v) u = true ∧ limb_1_2.after args s (.returned v) u = true ∧ True) → FrameEnd s (.returned v) u (Jvm.fieldLocs frame_1_writes args s ++ Jvm.arrayLocs frame_1_arrays args s ++ Jvm.staticLocs frame_1_statics s) 16 128 → Post tb e args s (.returned v) u) :
    ArmFor flags0 classFile x code maxLocals ret World_1 tables_1 room_1 Calls_1 rest_1 Pre_1 Post := by
  intro l hfl _ _ p e ha hc hk s m args below hf hA hF happ hP
  obtain ⟨hcalls, hrest, hpre⟩ := hP
  obtain ⟨-, -, -, hnamed, -, -, -, hat⟩ := (Spec.applies_iff hf).mp happ
  obtain ⟨hg, hn⟩ := and_e (Cond.before_iff.mp (show (Jvm.Cond.and given_1 narrow_1).before args s = true from hpre))
  obtain ⟨gc, g0⟩ := and_e hg
  obtain ⟨ga0, gb0⟩ := and_e g0
  obtain ⟨ga1, gb1⟩ := and_e gb0
  obtain ⟨ga2, gb2⟩ := and_e gb1
  obtain ⟨ga3, gb3⟩ := and_e gb2
  obtain ⟨ga4, gb4⟩ := and_e gb3
  obtain ⟨w0, w1, w2, w3, w4, w5, rfl⟩ : ∃ w0 w1 w2 w3 w4 w5 : Value, args = #[w0, w1, w2, w3, w4, w5] := by
    have hs : args.size = 6 := by simpa [Cond.value, given_1] using gc
    obtain ⟨L⟩ := args
    match L, hs with
    | [w0, w1, w2, w3, w4, w5], _ => exact ⟨w0, w1, w2, w3, w4, w5, rfl⟩
  have hw := fun d (hd : d ∈ tables_1) => atoms_spec (ws := Jvm.Cond.code x code maxLocals ret :: tables_1) hat d (List.mem_cons_of_mem _ hd)
  obtain ⟨i0, ei0⟩ := isL_v ga0
  obtain rfl : w0 = (.long i0) := Option.some.inj ei0
  obtain ⟨i1, ei1⟩ := is_v ga1
  obtain rfl : w1 = (.int i1) := Option.some.inj ei1
  obtain ⟨i2, ei2⟩ := is_v ga2
  obtain rfl : w2 = (.int i2) := Option.some.inj ei2
  obtain ⟨i3, ei3⟩ := is_v ga3
  obtain rfl : w3 = (.int i3) := Option.some.inj ei3
  obtain ⟨i4, ei4⟩ := is_v ga4
  obtain rfl : w4 = (.int i4) := Option.some.inj ei4
  obtain ⟨i5, ei5⟩ := is_v gb4
  obtain rfl : w5 = (.int i5) := Option.some.inj ei5
  obtain ⟨n, o, h1, h2, h3, _, L, rfl, ⟨rfl, N⟩, hq⟩ := rm0 l s _ hw tables_1 i0 i1 i2 i3 i4 i5 s.heap s.heap.size (Nat.le_refl _) p e ha hc hk s m _ below hf ((Spec.applies_iff_loose hf).mp happ).1 ⟨rfl, State.Warmed39.refl s, rfl⟩ trivial
  refine ⟨n, _, h1, h2, h3, hpost _ _ _ _ _ _ ⟨Cond.after_iff.mpr rfl, Cond.after_iff.mpr (eq_i res_at (Term.int_eval (1)) rfl), trivial⟩ ⟨hq.1, hq.2.1, (hq.2.2.sift fun y hy => Or.inr (N y hy)).mono (by decide) (by decide)⟩⟩
theorem main_1_1 : Claimed_1_1 := comes_1 fun _ _ _ _ _ _ h hF => ⟨h.1, hF⟩
theorem main_1_2 : Claimed_1_2 := comes_1 fun _ _ _ _ _ _ h hF => ⟨h.2.1, hF⟩
end Jvm.Pilot.@@N@@
namespace Jvm.Pilot.@@N@@
open Jvm Jvm.ClassFile Sem Op Lib Jvm.Free Jvm.Stand Jvm.Pilot.@@N@@.Jvm.D
/-! MADE BY PROGRAM (witnessworld.py) out of the Statement's table words and the real class files: 11 classes; the members and pool entries that the words name. The judged class is class 1, her method 1. -/
namespace start1
open Jvm.ClassFile
def u (s : String) : CpInfo := .utf8 (stringToUtf16 s)
/-- a pool by its gaps: so many unusable entries, then the entry; so many at the end -/
def gap : Nat → List CpInfo → List CpInfo
  | 0, r => r
  | n + 1, r => .unusable :: gap n r
def poolList (es : List (Nat × CpInfo)) (last : Nat) : List CpInfo := es.foldr (fun e r => gap e.1 (e.2 :: r)) (gap last [])
def pool (es : List (Nat × CpInfo)) (last : Nat) : Array CpInfo := ⟨poolList es last⟩
def fileOf (pool : Array CpInfo) (this : Nat) (attrs : Array Attribute := #[]) (ms : Array MethodInfo := #[]) (fl : Nat := 33) (sup : Nat := 0) (ifs : Array Nat := #[]) (fds : Array FieldInfo := #[]) : ClassFile where
  minorVersion := 0
  majorVersion := 65
  constantPool := pool
  accessFlags := fl
  thisClass := this
  superClass := sup
  interfaces := ifs
  fields := fds
  methods := ms
  attributes := attrs
def plain (name : String) (sup : Option ClassId) : Class where
  name := name
  kind := .ordinary
  loader := none
  accessFlags := 33
  super := sup
  interfaces := #[]
  cf := none
  fields := #[]
  methods := #[]
  instanceTypes := #[]
  staticTypes := #[]
  resolved := #[]
  callSites := []
  init := .initialized
  statics := none
  mirror := none

def pool0 : Array CpInfo := pool [(5, u "<init>"), (0, u "()V"), (1, .class_ 10), (1, u "java/lang/Object")] 113

def k0c0 : Code := { maxStack := 0, maxLocals := 1, code := object_method_1_code, exceptionTable := #[], attributes := #[] }
def k0m0 : Method := { name := "<init>", desc := "()V", sig := { parameters := [], returnType := none }, accessFlags := 1, code := some k0c0 }
/-- java/lang/Object -/
def k0 : Class := { plain "java/lang/Object" none with
  accessFlags := 33
  interfaces := #[]
  cf := some (fileOf pool0 8 #[] #[{ accessFlags := 1, nameIndex := 5, descriptorIndex := 6, attributes := #[] }] 33 0 #[] #[])
  fields := #[]
  methods := #[k0m0]
  instanceTypes := #[]
  staticTypes := #[]
  resolved := Array.replicate 124 none
  statics := none }

def pool1 : Array CpInfo := pool [(2, .class_ 4), (1, u "java/lang/Object"), (0, u "<init>"), (0, u "()V"), (0, .class_ 8), (0, u "com/example/mindful_guard/mindfulguard/packets/AddressPair"), (0, .methodref 7 10), (0, .nameAndType 5 11), (0, u "(II)V"), (0, .class_ 13), (0, u "com/example/mindful_guard/mindfulguard/packets/Ipv4Header"), (0, .methodref 12 15), (0, .nameAndType 5 16), (0, u "(JZILcom/example/mindful_guard/mindfulguard/packets/AddressPair;)V"), (0, .long 18446744073709551615), (1, .methodref 12 20), (0, .nameAndType 21 22), (0, u "qualifies"), (0, u "()Z"), (0, .class_ 24), (0, u "com/example/mindful_guard/mindfulguard/packets/Ipv4HeaderQualifiesPinLaw"), (2, u "law"), (0, u "(JIIIII)Z")] 3

def k1m0 : Method := { name := "<init>", desc := "()V", sig := { parameters := [], returnType := none }, accessFlags := 1, code := none }
def k1c1 : Code := { maxStack := 7, maxLocals := 17, code := code, exceptionTable := #[], attributes := #[] }
def k1m1 : Method := { name := "law", desc := "(JIIIII)Z", sig := { parameters := [.long, .int, .int, .int, .int, .int], returnType := some .boolean }, accessFlags := 9, code := some k1c1 }
/-- com/example/mindful_guard/mindfulguard/packets/Ipv4HeaderQualifiesPinLaw -/
def k1 : Class := { plain "com/example/mindful_guard/mindfulguard/packets/Ipv4HeaderQualifiesPinLaw" (some 0) with
  accessFlags := 49
  interfaces := #[]
  cf := some (fileOf pool1 23 #[] #[{ accessFlags := 1, nameIndex := 5, descriptorIndex := 6, attributes := #[] }, { accessFlags := 9, nameIndex := 27, descriptorIndex := 28, attributes := #[] }] 49 2 #[] #[])
  fields := #[]
  methods := #[k1m0, k1m1]
  instanceTypes := #[]
  staticTypes := #[]
  resolved := Array.replicate 32 none
  statics := none }

def pool2 : Array CpInfo := pool [(1, .methodref 2 3), (0, .class_ 4), (0, .nameAndType 5 6), (0, u "java/lang/Object"), (0, u "<init>"), (0, u "()V"), (0, .class_ 8), (0, u "java/lang/Record")] 13

def k2c0 : Code := { maxStack := 1, maxLocals := 1, code := jdk_30_method_1_code, exceptionTable := #[], attributes := #[] }
def k2m0 : Method := { name := "<init>", desc := "()V", sig := { parameters := [], returnType := none }, accessFlags := 4, code := some k2c0 }
/-- java/lang/Record -/
def k2 : Class := { plain "java/lang/Record" (some 0) with
  accessFlags := 1057
  interfaces := #[]
  cf := some (fileOf pool2 7 #[] #[{ accessFlags := 4, nameIndex := 5, descriptorIndex := 6, attributes := #[] }] 1057 2 #[] #[])
  fields := #[]
  methods := #[k2m0]
  instanceTypes := #[]
  staticTypes := #[]
  resolved := Array.replicate 22 none
  statics := none }

def pool3 : Array CpInfo := pool [(1, .methodref 2 3), (0, .class_ 4), (0, .nameAndType 5 6), (0, u "java/lang/Record"), (0, u "<init>"), (0, u "()V"), (0, .fieldref 8 9), (0, .class_ 10), (0, .nameAndType 11 12), (0, u "com/example/mindful_guard/mindfulguard/packets/AddressPair"), (0, u "source"), (0, u "I"), (0, .fieldref 8 14), (0, .nameAndType 15 12), (0, u "destination"), (42, u "(II)V"), (45, u "LONGEST_NUMBER")] 44

def k3c0 : Code := { maxStack := 2, maxLocals := 3, code := prog_35_method_1_code, exceptionTable := #[], attributes := #[] }
def k3m0 : Method := { name := "<init>", desc := "(II)V", sig := { parameters := [.int, .int], returnType := none }, accessFlags := 1, code := some k3c0 }
/-- com/example/mindful_guard/mindfulguard/packets/AddressPair -/
def k3 : Class := { plain "com/example/mindful_guard/mindfulguard/packets/AddressPair" (some 2) with
  accessFlags := 49
  interfaces := #[]
  cf := some (fileOf pool3 8 #[] #[{ accessFlags := 1, nameIndex := 5, descriptorIndex := 58, attributes := #[] }] 49 2 #[] #[{ accessFlags := 18, nameIndex := 11, descriptorIndex := 12, attributes := #[] }, { accessFlags := 18, nameIndex := 15, descriptorIndex := 12, attributes := #[] }, { accessFlags := 26, nameIndex := 104, descriptorIndex := 12, attributes := #[] }])
  fields := #[{ name := "source", type := .int, accessFlags := 18, slot := 0, constantValue := 0 }, { name := "destination", type := .int, accessFlags := 18, slot := 1, constantValue := 0 }, { name := "LONGEST_NUMBER", type := .int, accessFlags := 26, slot := 0, constantValue := 0 }]
  methods := #[k3m0]
  instanceTypes := #[.int, .int]
  staticTypes := #[.int]
  resolved := Array.replicate 149 none
  statics := none }

def pool4 : Array CpInfo := pool [(1, .methodref 2 3), (0, .class_ 4), (0, .nameAndType 5 6), (0, u "java/lang/Record"), (0, u "<init>"), (0, u "()V"), (0, .fieldref 8 9), (0, .class_ 10), (0, .nameAndType 11 12), (0, u "com/example/mindful_guard/mindfulguard/packets/Ipv4Header"), (0, u "at"), (0, u "J"), (0, .fieldref 8 14), (0, .nameAndType 15 16), (0, u "reservedFlag"), (0, u "Z"), (0, .fieldref 8 18), (0, .nameAndType 19 20), (0, u "protocol"), (0, u "I"), (0, .fieldref 8 22), (0, .nameAndType 23 24), (0, u "addresses"), (0, u "Lcom/example/mindful_guard/mindfulguard/packets/AddressPair;"), (12, u "TCP"), (2, u "(JZILcom/example/mindful_guard/mindfulguard/packets/AddressPair;)V"), (3, u "qualifies"), (0, u "()Z")] 29

def k4c0 : Code := { maxStack := 3, maxLocals := 6, code := prog_39_method_1_code, exceptionTable := #[], attributes := #[] }
def k4m0 : Method := { name := "<init>", desc := "(JZILcom/example/mindful_guard/mindfulguard/packets/AddressPair;)V", sig := { parameters := [.long, .boolean, .int, (.object "com/example/mindful_guard/mindfulguard/packets/AddressPair")], returnType := none }, accessFlags := 1, code := some k4c0 }
def k4c1 : Code := { maxStack := 2, maxLocals := 1, code := prog_39_method_2_code, exceptionTable := #[], attributes := #[] }
def k4m1 : Method := { name := "qualifies", desc := "()Z", sig := { parameters := [], returnType := some .boolean }, accessFlags := 1, code := some k4c1 }
/-- com/example/mindful_guard/mindfulguard/packets/Ipv4Header -/
def k4 : Class := { plain "com/example/mindful_guard/mindfulguard/packets/Ipv4Header" (some 2) with
  accessFlags := 49
  interfaces := #[]
  cf := some (fileOf pool4 8 #[] #[{ accessFlags := 1, nameIndex := 5, descriptorIndex := 40, attributes := #[] }, { accessFlags := 1, nameIndex := 44, descriptorIndex := 45, attributes := #[] }] 49 2 #[] #[{ accessFlags := 18, nameIndex := 11, descriptorIndex := 12, attributes := #[] }, { accessFlags := 18, nameIndex := 15, descriptorIndex := 16, attributes := #[] }, { accessFlags := 18, nameIndex := 19, descriptorIndex := 20, attributes := #[] }, { accessFlags := 18, nameIndex := 23, descriptorIndex := 24, attributes := #[] }, { accessFlags := 26, nameIndex := 37, descriptorIndex := 20, attributes := #[] }])
  fields := #[{ name := "at", type := .long, accessFlags := 18, slot := 0, constantValue := 0 }, { name := "reservedFlag", type := .boolean, accessFlags := 18, slot := 1, constantValue := 0 }, { name := "protocol", type := .int, accessFlags := 18, slot := 2, constantValue := 0 }, { name := "addresses", type := (.object "com/example/mindful_guard/mindfulguard/packets/AddressPair"), accessFlags := 18, slot := 3, constantValue := 0 }, { name := "TCP", type := .int, accessFlags := 26, slot := 0, constantValue := 0 }]
  methods := #[k4m0, k4m1]
  instanceTypes := #[.long, .boolean, .int, (.object "com/example/mindful_guard/mindfulguard/packets/AddressPair")]
  staticTypes := #[.int]
  resolved := Array.replicate 75 none
  statics := none }

def pool5 : Array CpInfo := pool [(1, u "java/lang/Cloneable"), (0, .class_ 1), (0, u "java/lang/Object"), (0, .class_ 3)] 3

/-- java/lang/Cloneable -/
def k5 : Class := { plain "java/lang/Cloneable" (some 0) with
  accessFlags := 1537
  interfaces := #[]
  cf := some (fileOf pool5 2 #[] #[] 1537 4 #[] #[])
  fields := #[]
  methods := #[]
  instanceTypes := #[]
  staticTypes := #[]
  resolved := Array.replicate 8 none
  statics := none }

def pool6 : Array CpInfo := pool [(1, u "java/io/Serializable"), (0, .class_ 1), (0, u "java/lang/Object"), (0, .class_ 3)] 3

/-- java/io/Serializable -/
def k6 : Class := { plain "java/io/Serializable" (some 0) with
  accessFlags := 1537
  interfaces := #[]
  cf := some (fileOf pool6 2 #[] #[] 1537 4 #[] #[])
  fields := #[]
  methods := #[]
  instanceTypes := #[]
  staticTypes := #[]
  resolved := Array.replicate 8 none
  statics := none }

/-- the primitive byte -/
def k7 : Class := { plain "byte" none with kind := .primitive 'B', accessFlags := 0x411 }
/-- [B -/
def k8 : Class := { plain "[B" (some 0) with kind := .array 7 .byte, interfaces := #[5, 6], accessFlags := 1041 }

/-- the primitive int -/
def k9 : Class := { plain "int" none with kind := .primitive 'I', accessFlags := 0x411 }
/-- [I -/
def k10 : Class := { plain "[I" (some 0) with kind := .array 9 .int, interfaces := #[5, 6], accessFlags := 1041 }

def heap : Heap := #[]
def classes : Array Class := #[k0, k1, k2, k3, k4, k5, k6, k7, k8, k9, k10]
def interned : List (Array UInt16 × Addr) := []
def slotsUsed : Nat := 0
def theMethod : MethodId := ⟨1, 1⟩
def args0 : Array Value := #[.long 3, .int 0, .int 6, .int 1, .int 2, .int 0]
def aboutOver (below : List Frame) : State where
  vm := { classes := classes, interned := interned.toArray }
  heap := heap
  slotsUsed := slotsUsed
  threads := #[{ frames := .invoking theMethod args0 :: below }]
def below0 : List Frame := [.native { method := ⟨0, 0⟩, args := #[] }]
def about1 : State := aboutOver below0
def p0 : Program := .bare "" "" ""
def e0 : Env := launch0.env 0 0 0
theorem w_frames : about1.frames = Frame.invoking theMethod args0 :: below0 := rfl
set_option maxRecDepth 65536 in
theorem w_args : argsFit about1.vm theMethod args0 = true := by decide +kernel
set_option maxRecDepth 65536 in
theorem w_heap : heapFits about1 = true := by decide +kernel
set_option maxRecDepth 65536 in
theorem w_runnable : about1.curStatus? = some .runnable := by decide +kernel
set_option maxRecDepth 65536 in
theorem w_alone : about1.alone = true := by decide +kernel
set_option maxRecDepth 65536 in
theorem w_named : about1.methodNamed? x = some theMethod := by decide +kernel
set_option maxRecDepth 65536 in
theorem w_hears : about1.hears theMethod below0 = true := by decide +kernel
set_option maxRecDepth 65536 in
theorem w_ripe : about1.ripe theMethod args0 below0 = true := by decide +kernel
theorem w_running : about1.status = .running := rfl
set_option maxRecDepth 65536 in
theorem w_room : about1.hasRoom e0.platform room_1 = true :=
  launch0.hasRoom_least _ room_1 (by decide +kernel) (by decide +kernel) (by decide +kernel) (by decide +kernel) (by decide +kernel) (by decide +kernel)
theorem allAtoms_all (ts : List Jvm.Cond) (a : Array Jvm.Value) (st : Jvm.State) : (allAtoms ts).before a st = ts.all (fun c => c.before a st) := by
  induction ts with
  | nil => rfl
  | cons c t ih =>
    show (Jvm.Cond.and c (allAtoms t)).before a st = _
    rw [Jvm.Cond.before_and, ih, List.all_cons]
def words1 : List Jvm.Cond := Jvm.Cond.code x code maxLocals ret :: tables_1
/-- a 'code' word, met by the world's own term for the bytes: nothing is compared byte by byte -/
theorem code_word {y : MethodName} {bytes : ByteArray} {mx : Nat} {rt : Option FieldType} {a : Array Value} {s : State} {m : MethodId} {meth : Method} {c : Code} (h1 : s.methodNamed? y = some m) (h2 : s.vm.method? m = some meth) (h3 : meth.code = some c) (h4 : c.code = bytes)
    (h5 : (c.maxLocals == mx && c.exceptionTable.isEmpty && decide (c.maxStack ≤ mostOperands) && decide (meth.sig.returnType = rt) && !meth.locks && decide (parseMethodDescriptor y.desc = some meth.sig)) = true) : (Jvm.Cond.code y bytes mx rt).before a s = true := by
  simp only [Bool.and_eq_true, beq_iff_eq, Bool.not_eq_true', decide_eq_true_eq] at h5
  obtain ⟨⟨⟨⟨⟨g1, g2⟩, g3⟩, g4⟩, g5⟩, g6⟩ := h5
  simp [Cond.before, Cond.holds, Cond.value, h1, h2, h3, h4, g1, g2, g3, g4, g5, g6]
def isCode : Jvm.Cond → Bool
  | .code _ _ _ _ => true
  | _ => false
theorem all_split {L : List Jvm.Cond} {P : Jvm.Cond → Bool} (h1 : L.all (fun c => isCode c || P c) = true) (h2 : ∀ c ∈ L.filter isCode, P c = true) : L.all P = true := by
  refine List.all_eq_true.mpr fun c hc => ?_
  have h := List.all_eq_true.mp h1 c hc
  rcases Bool.eq_false_or_eq_true (isCode c) with hi | hi
  · exact h2 c (List.mem_filter.mpr ⟨hc, hi⟩)
  · simpa [hi] using h
set_option maxRecDepth 65536 in
theorem w_c0 : (Jvm.Cond.code x code maxLocals ret).before args0 about1 = true := code_word (m := ⟨1, 1⟩) (meth := k1m1) (c := k1c1) (by decide +kernel) rfl rfl rfl (by decide +kernel)
set_option maxRecDepth 65536 in
theorem w_c1 : (Jvm.Cond.code ({ cls := "com/example/mindful_guard/mindfulguard/packets/AddressPair", name := "<init>", desc := "(II)V" } : Jvm.MethodName) prog_35_method_1_code (3 : Nat) (Option.none : Option Jvm.ClassFile.FieldType)).before args0 about1 = true := code_word (m := ⟨3, 0⟩) (meth := k3m0) (c := k3c0) (by decide +kernel) rfl rfl rfl (by decide +kernel)
set_option maxRecDepth 65536 in
theorem w_c2 : (Jvm.Cond.code ({ cls := "java/lang/Record", name := "<init>", desc := "()V" } : Jvm.MethodName) jdk_30_method_1_code (1 : Nat) (Option.none : Option Jvm.ClassFile.FieldType)).before args0 about1 = true := code_word (m := ⟨2, 0⟩) (meth := k2m0) (c := k2c0) (by decide +kernel) rfl rfl rfl (by decide +kernel)
set_option maxRecDepth 65536 in
theorem w_c3 : (Jvm.Cond.code ({ cls := "java/lang/Object", name := "<init>", desc := "()V" } : Jvm.MethodName) object_method_1_code (1 : Nat) (Option.none : Option Jvm.ClassFile.FieldType)).before args0 about1 = true := code_word (m := ⟨0, 0⟩) (meth := k0m0) (c := k0c0) (by decide +kernel) rfl rfl rfl (by decide +kernel)
set_option maxRecDepth 65536 in
theorem w_c4 : (Jvm.Cond.code ({ cls := "com/example/mindful_guard/mindfulguard/packets/Ipv4Header", name := "<init>", desc := "(JZILcom/example/mindful_guard/mindfulguard/packets/AddressPair;)V" } : Jvm.MethodName) prog_39_method_1_code (6 : Nat) (Option.none : Option Jvm.ClassFile.FieldType)).before args0 about1 = true := code_word (m := ⟨4, 0⟩) (meth := k4m0) (c := k4c0) (by decide +kernel) rfl rfl rfl (by decide +kernel)
set_option maxRecDepth 65536 in
theorem w_c5 : (Jvm.Cond.code ({ cls := "com/example/mindful_guard/mindfulguard/packets/Ipv4Header", name := "qualifies", desc := "()Z" } : Jvm.MethodName) prog_39_method_2_code (1 : Nat) (Option.some Jvm.ClassFile.FieldType.boolean)).before args0 about1 = true := code_word (m := ⟨4, 1⟩) (meth := k4m1) (c := k4c1) (by decide +kernel) rfl rfl rfl (by decide +kernel)
def codes1 : List Jvm.Cond := [Jvm.Cond.code x code maxLocals ret, Jvm.Cond.code ({ cls := "com/example/mindful_guard/mindfulguard/packets/AddressPair", name := "<init>", desc := "(II)V" } : Jvm.MethodName) prog_35_method_1_code (3 : Nat) (Option.none : Option Jvm.ClassFile.FieldType), Jvm.Cond.code ({ cls := "java/lang/Record", name := "<init>", desc := "()V" } : Jvm.MethodName) jdk_30_method_1_code (1 : Nat) (Option.none : Option Jvm.ClassFile.FieldType), Jvm.Cond.code ({ cls := "java/lang/Object", name := "<init>", desc := "()V" } : Jvm.MethodName) object_method_1_code (1 : Nat) (Option.none : Option Jvm.ClassFile.FieldType), Jvm.Cond.code ({ cls := "com/example/mindful_guard/mindfulguard/packets/Ipv4Header", name := "<init>", desc := "(JZILcom/example/mindful_guard/mindfulguard/packets/AddressPair;)V" } : Jvm.MethodName) prog_39_method_1_code (6 : Nat) (Option.none : Option Jvm.ClassFile.FieldType), Jvm.Cond.code ({ cls := "com/example/mindful_guard/mindfulguard/packets/Ipv4Header", name := "qualifies", desc := "()Z" } : Jvm.MethodName) prog_39_method_2_code (1 : Nat) (Option.some Jvm.ClassFile.FieldType.boolean)]
set_option maxRecDepth 65536 in
theorem codes_eq : words1.filter isCode = codes1 := rfl
theorem w_codes : ∀ c ∈ words1.filter isCode, c.before args0 about1 = true := by
  rw [codes_eq]
  intro c hc
  simp only [codes1, List.mem_cons, List.not_mem_nil, or_false] at hc
  rcases hc with rfl | rfl | rfl | rfl | rfl | rfl
  · exact w_c0
  · exact w_c1
  · exact w_c2
  · exact w_c3
  · exact w_c4
  · exact w_c5
set_option maxRecDepth 65536 in
theorem w_t1 : (words1.take 24).all (fun c => isCode c || c.before args0 about1) = true := by decide +kernel
set_option maxRecDepth 65536 in
theorem w_t2 : (words1.drop 24).all (fun c => isCode c || c.before args0 about1) = true := by decide +kernel
theorem w_tables : (allAtoms (Jvm.Cond.code x code maxLocals ret :: tables_1)).before args0 about1 = true := by
  rw [allAtoms_all]
  show words1.all (fun c => c.before args0 about1) = true
  refine all_split ?_ w_codes
  rw [← List.take_append_drop 24 words1, List.all_append, w_t1, w_t2]
  rfl
set_option maxRecDepth 65536 in
theorem w_case : (Jvm.Cond.and given_1 narrow_1).before args0 about1 = true := by decide +kernel
theorem w_applies : (headSpec (Jvm.Cond.code x code maxLocals ret :: tables_1) room_1).applies x e0.platform about1 = true :=
  (Spec.applies_iff w_frames).mpr ⟨w_running, w_runnable, w_alone, w_named, w_hears, w_ripe, w_room, w_tables⟩
theorem atStart : AtStart classFile x code maxLocals ret World_1 tables_1 room_1 Calls_1 rest_1 Pre_1 launch0 p0 e0 about1 theMethod args0 below0 :=
  ⟨lists_1, trivial, launch0.admits_env _ _ _, launch0.least_env, fairChoices_fair.cas, fairChoices_fair.clock, w_frames, w_args, w_heap, w_applies, trivial, trivial, w_case⟩
end start1
theorem witness_1 : WitnessClaimed_1 := ⟨start1.p0, start1.e0, start1.about1, start1.theMethod, start1.args0, start1.below0, start1.atStart⟩
end Jvm.Pilot.@@N@@
