import JvmDerived
import JvmDerived.Pilot.@@N@@Statement
import JvmDerived.Pilot.@@N@@Code
set_option linter.unusedVariables false
set_option linter.unusedSimpArgs false
namespace Jvm.RoadKit
open Sem ClassFile Op Lib Jvm.Stand Jvm.Free Jvm.LawKit
section OwnRets
variable {p : Program} {l : Launch} {e : Env} {R : Room} {s : State} {m : MethodId} {args : Array Value} {below : List Frame} {meth : Method} {c : Code} {T : State} {locs : List Loc} {cells slots : Nat}
theorem own_retI (X : Stand p l e R s m args below meth c T locs cells slots) (hx : p.tables.exec = Jvm.exec) {pc : Nat} {Ls : Array Slot} {z z' : Int32} {rest : List Value} (hret : meth.sig.returnType = some .int) (hd : decode c.code pc = .ok (.ireturn, 1)) (hz : z' = z) {fs : List Frame}
    (hl : ∀ (f : JFrame) (acts : List Action), f.method = m → f.locked = none → f.entered = [] → (doReturn e (T.setTop f) acts (some (.int z'))).1 = T.setFrames fs) : Steps p.tables e below (T.setTop (mkF m pc Ls (.int z :: rest))) (T.setFrames fs) := by
  subst hz
  have hm' : T.vm.method? m = some meth := X.method'
  have hn : narrow .int (.int z') = .int z' := rfl
  show Steps p.tables e below (T.setTop { method := m, pc := pc, locals := Ls, stack := _ :: rest, locked := none }) _
  jvm_step X.here [X.here.top, hx, hd, hm', hret, hn]
  first | (intro acts; rw [hl _ acts rfl rfl rfl]) | rw [hl _ _ rfl rfl rfl]
  exact Steps.refl _
theorem own_retZ (X : Stand p l e R s m args below meth c T locs cells slots) (hx : p.tables.exec = Jvm.exec) {pc : Nat} {Ls : Array Slot} {z z' : Int32} {rest : List Value} (hret : meth.sig.returnType = some .boolean) (hd : decode c.code pc = .ok (.ireturn, 1)) (hz : z' = z) (hn : nar .boolean z = z) {fs : List Frame}
    (hl : ∀ (f : JFrame) (acts : List Action), f.method = m → f.locked = none → f.entered = [] → (doReturn e (T.setTop f) acts (some (.int z'))).1 = T.setFrames fs) : Steps p.tables e below (T.setTop (mkF m pc Ls (.int z :: rest))) (T.setFrames fs) := by
  subst hz
  refine retN X hx (t := .boolean) hret (by simp) hd ?_
  rw [hn]; exact hl
theorem own_retJ (X : Stand p l e R s m args below meth c T locs cells slots) (hx : p.tables.exec = Jvm.exec) {pc : Nat} {Ls : Array Slot} {z z' : Int64} (hret : meth.sig.returnType = some .long) (hd : decode c.code pc = .ok (.lreturn, 1)) (hz : z' = z) {fs : List Frame}
    (hl : ∀ (f : JFrame) (acts : List Action), f.method = m → f.locked = none → f.entered = [] → (doReturn e (T.setTop f) acts (some (.long z'))).1 = T.setFrames fs) : Steps p.tables e below (T.setTop (mkF m pc Ls [.long z])) (T.setFrames fs) := by
  subst hz
  exact X.lreturnOut hx hret hd hl
end OwnRets
theorem own_lw_eq_t {x y : Int64} (h : x = y) : ifCond.holds .eq (lcmpW x y) = true := (if0 _ _).trans (teq ((lw_eq x y).mpr h)).1
theorem own_lw_eq_f {x y : Int64} (h : ¬ x = y) : ifCond.holds .eq (lcmpW x y) = false := (if0 _ _).trans (feq (mt (lw_eq x y).mp h)).1
theorem own_lw_ne_t {x y : Int64} (h : ¬ x = y) : ifCond.holds .ne (lcmpW x y) = true := (if0 _ _).trans (feq (mt (lw_eq x y).mp h)).2
theorem own_lw_ne_f {x y : Int64} (h : x = y) : ifCond.holds .ne (lcmpW x y) = false := (if0 _ _).trans (teq ((lw_eq x y).mpr h)).2
theorem own_lw_lt_t {x y : Int64} (h : x < y) : ifCond.holds .lt (lcmpW x y) = true := (if0 _ _).trans (tlt ((lw_lt x y).mpr h)).1
theorem own_lw_lt_f {x y : Int64} (h : ¬ x < y) : ifCond.holds .lt (lcmpW x y) = false := (if0 _ _).trans (flt (mt (lw_lt x y).mp h)).1
theorem own_lw_ge_t {x y : Int64} (h : ¬ x < y) : ifCond.holds .ge (lcmpW x y) = true := (if0 _ _).trans (flt (mt (lw_lt x y).mp h)).2.1
theorem own_lw_ge_f {x y : Int64} (h : x < y) : ifCond.holds .ge (lcmpW x y) = false := (if0 _ _).trans (tlt ((lw_lt x y).mpr h)).2.1
end Jvm.RoadKit
namespace Jvm.Pilot.@@N@@
open Jvm Jvm.ClassFile Sem Op Lib Jvm.Free Jvm.Stand Jvm.LawKit Jvm.RoadKit Bundle Jvm.Pilot.@@N@@.Jvm.D
def own_hor (p1 : Int32) : Int32 := (if p1 = (0 : Int32) then (1 : Int32) else (if p1 = (2 : Int32) then (1 : Int32) else (0 : Int32)))
theorem d1_0 : decode prog_28_method_3_code 0 = .ok (.iload_n 0, 1) := by decide +kernel
theorem d1_1 : decode prog_28_method_3_code 1 = .ok (.ifCond .eq 8, 3) := by decide +kernel
theorem d1_4 : decode prog_28_method_3_code 4 = .ok (.iload_n 0, 1) := by decide +kernel
theorem d1_5 : decode prog_28_method_3_code 5 = .ok (.iconst 2, 1) := by decide +kernel
theorem d1_6 : decode prog_28_method_3_code 6 = .ok (.if_icmp .ne 7, 3) := by decide +kernel
theorem d1_9 : decode prog_28_method_3_code 9 = .ok (.iconst 1, 1) := by decide +kernel
theorem d1_10 : decode prog_28_method_3_code 10 = .ok (.goto 4, 3) := by decide +kernel
theorem d1_13 : decode prog_28_method_3_code 13 = .ok (.iconst 0, 1) := by decide +kernel
theorem d1_14 : decode prog_28_method_3_code 14 = .ok (.ireturn, 1) := by decide +kernel
theorem pn_1 : plainName "com/example/orthogonal_layout/orthogonallayout/OrthogonalMap" = true := by first | (simp [plainName, overriddenIn]; done) | decide +kernel
theorem ef_1 (m : MethodId) (x0 : Int32) : entryFrame m #[(.int x0)] 1 = mkF m 0 #[.val (.int x0)] [] := by first | (simp [entryFrame, mkF, argsToLocals, Value.category]; done) | rfl
def Q1 (Z : State) (p1 : Int32) (h0 : Heap) (n0 : Nat) (v : Option Value) (h : Heap) (L : List Loc) : Prop := v = some (.int (own_hor p1)) ∧ Fr n0 L ∧ h = h0
set_option maxRecDepth 65536 in
set_option maxHeartbeats 40000000 in
theorem rm1 (l : Launch) (Z : State) (a0 : Array Value) (hw : ∀ d ∈ tables_1, d.before a0 Z = true) (ws : List Jvm.Cond) (p1 : Int32) (h0 : Heap) (n0 : Nat) (Z0 : n0 ≤ h0.size)  :
    MetFree l (⟨"com/example/orthogonal_layout/orthogonallayout/OrthogonalMap", "horizontal", "(I)Z"⟩ : MethodName) (head1 (Jvm.Cond.code (⟨"com/example/orthogonal_layout/orthogonallayout/OrthogonalMap", "horizontal", "(I)Z"⟩ : MethodName) prog_28_method_3_code 1 (some .boolean) :: ws) ({ frames := 0, cells := 0, slots := 0, locals := 0 } : Room)) (fun a U => a = #[(.int p1)] ∧ Z.Warmed39 U.vm ∧ U.heap = h0) (fun _ _ _ _ _ => True) (fun _ U o U' => ∃ v L, o = .returned v ∧ Q1 Z p1 h0 n0 v U'.heap L ∧ FrameEnd U o U' L ({ frames := 0, cells := 0, slots := 0, locals := 0 } : Room).cells ({ frames := 0, cells := 0, slots := 0, locals := 0 } : Room).slots) := by
  refine MetFree.of_bodySF (plainFor_of_name pn_1) hisR ?_
  intro p e s m args below meth c s₁ Bd hml0 hP hK
  obtain ⟨rfl, hZ, hh⟩ := hP
  have hx := Bd.exec
  have hby := Bd.bytes
  have hml : c.maxLocals = 1 := hml0
  have hown : s.vm.findClass "com/example/orthogonal_layout/orthogonallayout/OrthogonalMap" = some m.cls := findClass_of_methodNamed Bd.named
  have hnm := (name_of_methodNamed Bd.named Bd.method).1
  have X0 : Stand p l e ({ frames := 0, cells := 0, slots := 0, locals := 0 } : Room) s m #[(.int p1)] below meth c s₁ [] 0 0 := Stand.of_body Bd
  have e0 : s₁.heap = h0 := by rw [← hh, Bd.state]; rfl
  have N0 := Fr.nil n0
  have pre0 : ∀ t, Steps p.tables e below (s₁.setTop (mkF m 0 #[.val (.int p1)] [])) t → Steps p.tables e below (s₁.setTop (entryFrame m #[(.int p1)] 1)) t := fun t k => castTop (ef_1 m p1) k
  obtain ⟨fs, hr, hrun, hended, hW, hsame⟩ := X0.leave (v := some (.int (own_hor p1))) (fun h => by rw [Bd.returns] at h; cases h)
  refine ⟨_, _, pre0 _ ?_, hrun, hended, _, _, rfl, ?_, ⟨_, rfl⟩, hW, hsame.mono (by decide) (by decide)⟩
  · show Steps p.tables e below (s₁.setTop (mkF m 0 #[.val (.int p1)] [])) _
    refine XS.iloadN X0.here hx rfl (hb hby d1_0) rfl ?_
    show Steps p.tables e below (s₁.setTop (mkF m 1 #[.val (.int p1)] [(.int p1)])) _
    by_cases hc1 : p1 = (0 : Int32)
    · refine XS.ifYes X0.here hx rfl (pc0 := 1) (pc' := 9) rfl (hb hby d1_1) rfl (Jvm.Free.XT.i0_eq_t hc1) (by decide) (by decide) ?_
      show Steps p.tables e below (s₁.setTop (mkF m 9 #[.val (.int p1)] [])) _
      refine XS.iconst X0.here hx rfl (hb hby d1_9) ?_
      show Steps p.tables e below (s₁.setTop (mkF m 10 #[.val (.int p1)] [(.int (1 : Int32))])) _
      refine XS.goto X0.here hx rfl (pc0 := 10) (pc' := 14) rfl (hb hby d1_10) (by decide) (by decide) ?_
      show Steps p.tables e below (s₁.setTop (mkF m 14 #[.val (.int p1)] [(.int (1 : Int32))])) _
      exact own_retZ X0 hx Bd.returns (hb hby d1_14) (by rw [own_hor, if_pos hc1]) rfl hr
    · refine XS.ifNo X0.here hx rfl (hb hby d1_1) rfl (Jvm.Free.XT.i0_eq_f hc1) ?_
      show Steps p.tables e below (s₁.setTop (mkF m 4 #[.val (.int p1)] [])) _
      refine XS.iloadN X0.here hx rfl (hb hby d1_4) rfl ?_
      show Steps p.tables e below (s₁.setTop (mkF m 5 #[.val (.int p1)] [(.int p1)])) _
      refine XS.iconst X0.here hx rfl (hb hby d1_5) ?_
      show Steps p.tables e below (s₁.setTop (mkF m 6 #[.val (.int p1)] [(.int (2 : Int32)), (.int p1)])) _
      by_cases hc6 : p1 = (2 : Int32)
      · refine XS.icmpNo X0.here hx rfl (hb hby d1_6) rfl (Jvm.Free.XT.ii_ne_f hc6) ?_
        show Steps p.tables e below (s₁.setTop (mkF m 9 #[.val (.int p1)] [])) _
        refine XS.iconst X0.here hx rfl (hb hby d1_9) ?_
        show Steps p.tables e below (s₁.setTop (mkF m 10 #[.val (.int p1)] [(.int (1 : Int32))])) _
        refine XS.goto X0.here hx rfl (pc0 := 10) (pc' := 14) rfl (hb hby d1_10) (by decide) (by decide) ?_
        show Steps p.tables e below (s₁.setTop (mkF m 14 #[.val (.int p1)] [(.int (1 : Int32))])) _
        exact own_retZ X0 hx Bd.returns (hb hby d1_14) (by rw [own_hor, if_neg hc1, if_pos hc6]) rfl hr
      · refine XS.icmpYes X0.here hx rfl (pc0 := 6) (pc' := 13) rfl (hb hby d1_6) rfl (Jvm.Free.XT.ii_ne_t hc6) (by decide) (by decide) ?_
        show Steps p.tables e below (s₁.setTop (mkF m 13 #[.val (.int p1)] [])) _
        refine XS.iconst X0.here hx rfl (hb hby d1_13) ?_
        show Steps p.tables e below (s₁.setTop (mkF m 14 #[.val (.int p1)] [(.int (0 : Int32))])) _
        exact own_retZ X0 hx Bd.returns (hb hby d1_14) (by rw [own_hor, if_neg hc1, if_neg hc6]) rfl hr
  · show Q1 Z p1 h0 n0 _ s₁.heap _
    rw [e0]
    exact ⟨rfl, N0, rfl⟩
theorem own_four (x : Int32) : (x &&& 3) = 0 ∨ (x &&& 3) = 1 ∨ (x &&& 3) = 2 ∨ (x &&& 3) = 3 := by
  have h : (x &&& 3).toBitVec = x.toBitVec &&& 3#32 := rfl
  have q : (x &&& 3).toBitVec.toNat < 4 := by
    rw [h, BitVec.toNat_and]
    exact Nat.lt_of_le_of_lt Nat.and_le_right (by decide)
  have r : (x &&& 3).toBitVec.toNat = 0 ∨ (x &&& 3).toBitVec.toNat = 1 ∨ (x &&& 3).toBitVec.toNat = 2 ∨ (x &&& 3).toBitVec.toNat = 3 := by omega
  rcases r with r | r | r | r
  · exact Or.inl (Int32.toBitVec_inj.mp (BitVec.eq_of_toNat_eq r))
  · exact Or.inr (Or.inl (Int32.toBitVec_inj.mp (BitVec.eq_of_toNat_eq r)))
  · exact Or.inr (Or.inr (Or.inl (Int32.toBitVec_inj.mp (BitVec.eq_of_toNat_eq r))))
  · exact Or.inr (Or.inr (Or.inr (Int32.toBitVec_inj.mp (BitVec.eq_of_toNat_eq r))))
theorem own_p1 (d : Int32) (h : d = 0 ∨ d = 1 ∨ d = 2 ∨ d = 3) : own_hor d = (if (d &&& 1) = 0 then 1 else 0) ∧ ¬ own_hor ((d + 1) &&& 3) = own_hor d ∧ own_hor ((d + 2) &&& 3) = own_hor d := by
  rcases h with rfl | rfl | rfl | rfl <;> decide
theorem pn_0 : plainName "com/example/orthogonal_layout/orthogonallayout/OrthogonalMapHorizontalPinLaw" = true := by first | (simp [plainName, overriddenIn]; done) | decide +kernel
theorem ef_0 (m : MethodId) (x0 : Int32) : entryFrame m #[(.int x0)] maxLocals = mkF m 0 #[.val (.int x0), .unset, .unset, .unset, .unset, .unset] [] := by first | (simp [entryFrame, mkF, argsToLocals, Value.category, maxLocals]; done) | rfl
theorem pd_0_1 : parseMethodDescriptor "(I)Z" = some ⟨[.int], some .boolean⟩ := by decide +kernel
def Q0 (Z : State) (p1 : Int32) (h0 : Heap) (n0 : Nat) (v : Option Value) (h : Heap) (L : List Loc) : Prop := v = some (.int 1) ∧ Fr n0 L
set_option maxRecDepth 65536 in
set_option maxHeartbeats 40000000 in
theorem rm0 (l : Launch) (Z : State) (a0 : Array Value) (hw : ∀ d ∈ tables_1, d.before a0 Z = true) (ws : List Jvm.Cond) (p1 : Int32) (h0 : Heap) (n0 : Nat) (Z0 : n0 ≤ h0.size)  :
    MetFree l x (head1 (Jvm.Cond.code x code maxLocals ret :: ws) room_1) (fun a U => a = #[(.int p1)] ∧ Z.Warmed39 U.vm ∧ U.heap = h0) (fun _ _ _ _ _ => True) (fun _ U o U' => ∃ v L, o = .returned v ∧ Q0 Z p1 h0 n0 v U'.heap L ∧ FrameEnd U o U' L room_1.cells room_1.slots) := by
  refine MetFree.of_bodySF (plainFor_of_name pn_0) hisR ?_
  intro p e s m args below meth c s₁ Bd hml0 hP hK
  obtain ⟨rfl, hZ, hh⟩ := hP
  have w0_ := hw _ (List.mem_of_getElem? (i := 0) rfl)
  have w1_ := hw _ (List.mem_of_getElem? (i := 1) rfl)
  have w2_ := hw _ (List.mem_of_getElem? (i := 2) rfl)
  have w3_ := hw _ (List.mem_of_getElem? (i := 3) rfl)
  have hx := Bd.exec
  have hby := Bd.bytes
  have hml : c.maxLocals = 6 := hml0
  have hown : s.vm.findClass "com/example/orthogonal_layout/orthogonallayout/OrthogonalMapHorizontalPinLaw" = some m.cls := findClass_of_methodNamed Bd.named
  have hnm := (name_of_methodNamed Bd.named Bd.method).1
  have X0 : Stand p l e room_1 s m #[(.int p1)] below meth c s₁ [] 0 0 := Stand.of_body Bd
  have e0 : s₁.heap = h0 := by rw [← hh, Bd.state]; rfl
  have N0 := Fr.nil n0
  have pre0 : ∀ t, Steps p.tables e below (s₁.setTop (mkF m 0 #[.val (.int p1), .unset, .unset, .unset, .unset, .unset] [])) t → Steps p.tables e below (s₁.setTop (entryFrame m #[(.int p1)] maxLocals)) t := fun t k => castTop (ef_0 m p1) k
  obtain ⟨dd, hdd⟩ : ∃ z, z = (p1 &&& (3 : Int32)) := ⟨_, rfl⟩
  have hfour := own_p1 dd (by rw [hdd]; exact own_four p1)
  obtain ⟨o1, o2, o3⟩ := hfour
  obtain ⟨ee, hee⟩ : ∃ z : Int32, z = (if (dd &&& (1 : Int32)) = (0 : Int32) then 1 else 0) := ⟨_, rfl⟩
  let Lo1 : Array Slot := #[.val (.int p1), .val (.int dd), .unset, .unset, .unset, .unset]
  obtain ⟨_, _, ⟨T1, L1, k1, n1⟩, -, X1, ⟨Lc1, hQ1, l1, y1, z1⟩, st1⟩ := Jvm.LawKit.callS X0 hx (y := (⟨"com/example/orthogonal_layout/orthogonallayout/OrthogonalMap", "horizontal", "(I)Z"⟩ : MethodName)) hown (mvT hZ w0_) (mvT hZ w1_) (mvT hZ w2_) (mvT hZ w3_) (by decide) (backOf (W := 0) (rm1 l Z a0 hw [] dd h0 n0 Z0 ) hZ w3_ w2_ (by decide) (by decide)) (g := (mkF m 5 Lo1 [(.int dd)])) rfl (by rw [hml]; rfl) (argsL := [(.int dd)]) (rest := []) (lenOf pd_0_1 rfl) rfl (by show 2 * 0 + _ ≤ _; exact Nat.le_of_eq rfl) (hb hby at_5) (fun _ _ => ⟨rfl, e0, (by decide : 0 + 0 ≤ _), (by decide : 0 + 0 ≤ _)⟩)
  dsimp only [Pt.U, Pt.locs, Pt.cells, Pt.slots] at X1 l1 y1 z1 st1 hQ1
  subst l1 y1 z1
  obtain ⟨rfl, N1q, q1⟩ := hQ1
  have N1 := Fr.app N0 N1q
  have e1 : T1.heap = h0 := q1
  let Lo2 : Array Slot := #[.val (.int p1), .val (.int dd), .val (.int (own_hor dd)), .unset, .unset, .unset]
  let Lo3 : Array Slot := #[.val (.int p1), .val (.int dd), .val (.int (own_hor dd)), .val (.int ee), .unset, .unset]
  obtain ⟨_, _, ⟨T2, L2, k2, n2⟩, -, X2, ⟨Lc2, hQ2, l2, y2, z2⟩, st2⟩ := Jvm.LawKit.callS X1 hx (y := (⟨"com/example/orthogonal_layout/orthogonallayout/OrthogonalMap", "horizontal", "(I)Z"⟩ : MethodName)) hown (mvT hZ w0_) (mvT hZ w1_) (mvT hZ w2_) (mvT hZ w3_) (by decide) (backOf (W := 0) (rm1 l Z a0 hw [] ((dd + (1 : Int32)) &&& (3 : Int32)) h0 n0 Z0 ) hZ w3_ w2_ (by decide) (by decide)) (g := (mkF m 26 Lo3 [(.int ((dd + (1 : Int32)) &&& (3 : Int32)))])) rfl (by rw [hml]; rfl) (argsL := [(.int ((dd + (1 : Int32)) &&& (3 : Int32)))]) (rest := []) (lenOf pd_0_1 rfl) rfl (by show 2 * 0 + _ ≤ _; exact Nat.le_of_eq rfl) (hb hby at_26) (fun _ _ => ⟨rfl, e1, (by decide : 0 + 0 ≤ _), (by decide : 0 + 0 ≤ _)⟩)
  dsimp only [Pt.U, Pt.locs, Pt.cells, Pt.slots] at X2 l2 y2 z2 st2 hQ2
  subst l2 y2 z2
  obtain ⟨rfl, N2q, q2⟩ := hQ2
  have N2 := Fr.app N1 N2q
  have e2 : T2.heap = h0 := q2
  let Lo4 : Array Slot := #[.val (.int p1), .val (.int dd), .val (.int (own_hor dd)), .val (.int ee), .val (.int (own_hor ((dd + (1 : Int32)) &&& (3 : Int32)))), .unset]
  obtain ⟨_, _, ⟨T3, L3, k3, n3⟩, -, X3, ⟨Lc3, hQ3, l3, y3, z3⟩, st3⟩ := Jvm.LawKit.callS X2 hx (y := (⟨"com/example/orthogonal_layout/orthogonallayout/OrthogonalMap", "horizontal", "(I)Z"⟩ : MethodName)) hown (mvT hZ w0_) (mvT hZ w1_) (mvT hZ w2_) (mvT hZ w3_) (by decide) (backOf (W := 0) (rm1 l Z a0 hw [] ((dd + (2 : Int32)) &&& (3 : Int32)) h0 n0 Z0 ) hZ w3_ w2_ (by decide) (by decide)) (g := (mkF m 36 Lo4 [(.int ((dd + (2 : Int32)) &&& (3 : Int32)))])) rfl (by rw [hml]; rfl) (argsL := [(.int ((dd + (2 : Int32)) &&& (3 : Int32)))]) (rest := []) (lenOf pd_0_1 rfl) rfl (by show 2 * 0 + _ ≤ _; exact Nat.le_of_eq rfl) (hb hby at_36) (fun _ _ => ⟨rfl, e2, (by decide : 0 + 0 ≤ _), (by decide : 0 + 0 ≤ _)⟩)
  dsimp only [Pt.U, Pt.locs, Pt.cells, Pt.slots] at X3 l3 y3 z3 st3 hQ3
  subst l3 y3 z3
  obtain ⟨rfl, N3q, q3⟩ := hQ3
  have N3 := Fr.app N2 N3q
  have e3 : T3.heap = h0 := q3
  let Lo5 : Array Slot := #[.val (.int p1), .val (.int dd), .val (.int (own_hor dd)), .val (.int ee), .val (.int (own_hor ((dd + (1 : Int32)) &&& (3 : Int32)))), .val (.int (own_hor ((dd + (2 : Int32)) &&& (3 : Int32))))]
  let Lo6 : Array Slot := #[.val (.int p1), .unset, .unset, .unset, .unset, .unset]
  let Lo7 : Array Slot := #[.val (.int p1), .val (.int (p1 &&& (3 : Int32))), .unset, .unset, .unset, .unset]
  obtain ⟨fs, hr, hrun, hended, hW, hsame⟩ := X3.leave (v := some (.int 1)) (fun h => by rw [Bd.returns] at h; cases h)
  have J20 : ∀ (u0 : Int32), u0 = ee → Steps p.tables e below (T1.setTop (mkF m 20 #[.val (.int p1), .val (.int dd), .val (.int (own_hor dd)), .unset, .unset, .unset] [(.int u0)])) (T3.setFrames fs) := by
    intro u0 hu0
    rw [hu0]
    show Steps p.tables e below (T1.setTop (mkF m 20 Lo2 [(.int ee)])) _
    refine XS.istoreN X1.here hx rfl (hb hby at_20) rfl (l' := Lo3) rfl ?_
    show Steps p.tables e below (T1.setTop (mkF m 21 Lo3 [])) _
    refine XS.iloadN X1.here hx rfl (hb hby at_21) rfl ?_
    show Steps p.tables e below (T1.setTop (mkF m 22 Lo3 [(.int dd)])) _
    refine XS.iconst X1.here hx rfl (hb hby at_22) ?_
    show Steps p.tables e below (T1.setTop (mkF m 23 Lo3 [(.int (1 : Int32)), (.int dd)])) _
    refine XS.iadd X1.here hx rfl (hb hby at_23) rfl ?_
    show Steps p.tables e below (T1.setTop (mkF m 24 Lo3 [(.int (dd + (1 : Int32)))])) _
    refine XS.iconst X1.here hx rfl (hb hby at_24) ?_
    show Steps p.tables e below (T1.setTop (mkF m 25 Lo3 [(.int (3 : Int32)), (.int (dd + (1 : Int32)))])) _
    refine XS.iand X1.here hx rfl (hb hby at_25) rfl ?_
    show Steps p.tables e below (T1.setTop (mkF m 26 Lo3 [(.int ((dd + (1 : Int32)) &&& (3 : Int32)))])) _
    refine st2 _ ?_
    show Steps p.tables e below (T2.setTop (mkF m 29 Lo3 [(.int (own_hor ((dd + (1 : Int32)) &&& (3 : Int32))))])) _
    refine XS.istore X2.here hx rfl (hb hby at_29) rfl (l' := Lo4) rfl ?_
    show Steps p.tables e below (T2.setTop (mkF m 31 Lo4 [])) _
    refine XS.iloadN X2.here hx rfl (hb hby at_31) rfl ?_
    show Steps p.tables e below (T2.setTop (mkF m 32 Lo4 [(.int dd)])) _
    refine XS.iconst X2.here hx rfl (hb hby at_32) ?_
    show Steps p.tables e below (T2.setTop (mkF m 33 Lo4 [(.int (2 : Int32)), (.int dd)])) _
    refine XS.iadd X2.here hx rfl (hb hby at_33) rfl ?_
    show Steps p.tables e below (T2.setTop (mkF m 34 Lo4 [(.int (dd + (2 : Int32)))])) _
    refine XS.iconst X2.here hx rfl (hb hby at_34) ?_
    show Steps p.tables e below (T2.setTop (mkF m 35 Lo4 [(.int (3 : Int32)), (.int (dd + (2 : Int32)))])) _
    refine XS.iand X2.here hx rfl (hb hby at_35) rfl ?_
    show Steps p.tables e below (T2.setTop (mkF m 36 Lo4 [(.int ((dd + (2 : Int32)) &&& (3 : Int32)))])) _
    refine st3 _ ?_
    show Steps p.tables e below (T3.setTop (mkF m 39 Lo4 [(.int (own_hor ((dd + (2 : Int32)) &&& (3 : Int32))))])) _
    refine XS.istore X3.here hx rfl (hb hby at_39) rfl (l' := Lo5) rfl ?_
    show Steps p.tables e below (T3.setTop (mkF m 41 Lo5 [])) _
    refine XS.iloadN X3.here hx rfl (hb hby at_41) rfl ?_
    show Steps p.tables e below (T3.setTop (mkF m 42 Lo5 [(.int (own_hor dd))])) _
    refine XS.iloadN X3.here hx rfl (hb hby at_42) rfl ?_
    show Steps p.tables e below (T3.setTop (mkF m 43 Lo5 [(.int ee), (.int (own_hor dd))])) _
    by_cases hc43 : (own_hor dd) = ee
    · refine XS.icmpNo X3.here hx rfl (hb hby at_43) rfl (Jvm.Free.XT.ii_ne_f hc43) ?_
      show Steps p.tables e below (T3.setTop (mkF m 46 Lo5 [])) _
      refine XS.iload X3.here hx rfl (hb hby at_46) rfl ?_
      show Steps p.tables e below (T3.setTop (mkF m 48 Lo5 [(.int (own_hor ((dd + (1 : Int32)) &&& (3 : Int32))))])) _
      refine XS.iloadN X3.here hx rfl (hb hby at_48) rfl ?_
      show Steps p.tables e below (T3.setTop (mkF m 49 Lo5 [(.int (own_hor dd)), (.int (own_hor ((dd + (1 : Int32)) &&& (3 : Int32))))])) _
      by_cases hc49 : (own_hor ((dd + (1 : Int32)) &&& (3 : Int32))) = (own_hor dd)
      · refine XS.icmpYes X3.here hx rfl (pc0 := 49) (pc' := 62) rfl (hb hby at_49) rfl (Jvm.Free.XT.ii_eq_t hc49) (by decide) (by decide) ?_
        show Steps p.tables e below (T3.setTop (mkF m 62 Lo5 [])) _
        refine XS.iconst X3.here hx rfl (hb hby at_62) ?_
        show Steps p.tables e below (T3.setTop (mkF m 63 Lo5 [(.int (0 : Int32))])) _
        exact absurd hc49 o2
      · refine XS.icmpNo X3.here hx rfl (hb hby at_49) rfl (Jvm.Free.XT.ii_eq_f hc49) ?_
        show Steps p.tables e below (T3.setTop (mkF m 52 Lo5 [])) _
        refine XS.iload X3.here hx rfl (hb hby at_52) rfl ?_
        show Steps p.tables e below (T3.setTop (mkF m 54 Lo5 [(.int (own_hor ((dd + (2 : Int32)) &&& (3 : Int32))))])) _
        refine XS.iloadN X3.here hx rfl (hb hby at_54) rfl ?_
        show Steps p.tables e below (T3.setTop (mkF m 55 Lo5 [(.int (own_hor dd)), (.int (own_hor ((dd + (2 : Int32)) &&& (3 : Int32))))])) _
        by_cases hc55 : (own_hor ((dd + (2 : Int32)) &&& (3 : Int32))) = (own_hor dd)
        · refine XS.icmpNo X3.here hx rfl (hb hby at_55) rfl (Jvm.Free.XT.ii_ne_f hc55) ?_
          show Steps p.tables e below (T3.setTop (mkF m 58 Lo5 [])) _
          refine XS.iconst X3.here hx rfl (hb hby at_58) ?_
          show Steps p.tables e below (T3.setTop (mkF m 59 Lo5 [(.int (1 : Int32))])) _
          refine XS.goto X3.here hx rfl (pc0 := 59) (pc' := 63) rfl (hb hby at_59) (by decide) (by decide) ?_
          show Steps p.tables e below (T3.setTop (mkF m 63 Lo5 [(.int (1 : Int32))])) _
          exact own_retZ X3 hx Bd.returns (hb hby at_63) rfl rfl hr
        · refine XS.icmpYes X3.here hx rfl (pc0 := 55) (pc' := 62) rfl (hb hby at_55) rfl (Jvm.Free.XT.ii_ne_t hc55) (by decide) (by decide) ?_
          show Steps p.tables e below (T3.setTop (mkF m 62 Lo5 [])) _
          refine XS.iconst X3.here hx rfl (hb hby at_62) ?_
          show Steps p.tables e below (T3.setTop (mkF m 63 Lo5 [(.int (0 : Int32))])) _
          exact absurd o3 hc55
    · refine XS.icmpYes X3.here hx rfl (pc0 := 43) (pc' := 62) rfl (hb hby at_43) rfl (Jvm.Free.XT.ii_ne_t hc43) (by decide) (by decide) ?_
      show Steps p.tables e below (T3.setTop (mkF m 62 Lo5 [])) _
      refine XS.iconst X3.here hx rfl (hb hby at_62) ?_
      show Steps p.tables e below (T3.setTop (mkF m 63 Lo5 [(.int (0 : Int32))])) _
      exact absurd (o1.trans hee.symm) hc43
  have J4 : ∀ (u0 : Int32), u0 = dd → Steps p.tables e below (s₁.setTop (mkF m 4 #[.val (.int p1), .val (.int u0), .unset, .unset, .unset, .unset] [])) (T3.setFrames fs) := by
    intro u0 hu0
    rw [hu0]
    show Steps p.tables e below (s₁.setTop (mkF m 4 Lo1 [])) _
    refine XS.iloadN X0.here hx rfl (hb hby at_4) rfl ?_
    show Steps p.tables e below (s₁.setTop (mkF m 5 Lo1 [(.int dd)])) _
    refine st1 _ ?_
    show Steps p.tables e below (T1.setTop (mkF m 8 Lo1 [(.int (own_hor dd))])) _
    refine XS.istoreN X1.here hx rfl (hb hby at_8) rfl (l' := Lo2) rfl ?_
    show Steps p.tables e below (T1.setTop (mkF m 9 Lo2 [])) _
    refine XS.iloadN X1.here hx rfl (hb hby at_9) rfl ?_
    show Steps p.tables e below (T1.setTop (mkF m 10 Lo2 [(.int dd)])) _
    refine XS.iconst X1.here hx rfl (hb hby at_10) ?_
    show Steps p.tables e below (T1.setTop (mkF m 11 Lo2 [(.int (1 : Int32)), (.int dd)])) _
    refine XS.iand X1.here hx rfl (hb hby at_11) rfl ?_
    show Steps p.tables e below (T1.setTop (mkF m 12 Lo2 [(.int (dd &&& (1 : Int32)))])) _
    by_cases hc12 : (dd &&& (1 : Int32)) = (0 : Int32)
    · refine XS.ifNo X1.here hx rfl (hb hby at_12) rfl (Jvm.Free.XT.i0_ne_f hc12) ?_
      show Steps p.tables e below (T1.setTop (mkF m 15 Lo2 [])) _
      refine XS.iconst X1.here hx rfl (hb hby at_15) ?_
      show Steps p.tables e below (T1.setTop (mkF m 16 Lo2 [(.int (1 : Int32))])) _
      refine XS.goto X1.here hx rfl (pc0 := 16) (pc' := 20) rfl (hb hby at_16) (by decide) (by decide) ?_
      show Steps p.tables e below (T1.setTop (mkF m 20 Lo2 [(.int (1 : Int32))])) _
      exact J20 _ (by rw [hee, if_pos hc12])
    · refine XS.ifYes X1.here hx rfl (pc0 := 12) (pc' := 19) rfl (hb hby at_12) rfl (Jvm.Free.XT.i0_ne_t hc12) (by decide) (by decide) ?_
      show Steps p.tables e below (T1.setTop (mkF m 19 Lo2 [])) _
      refine XS.iconst X1.here hx rfl (hb hby at_19) ?_
      show Steps p.tables e below (T1.setTop (mkF m 20 Lo2 [(.int (0 : Int32))])) _
      exact J20 _ (by rw [hee, if_neg hc12])
  refine ⟨_, _, pre0 _ ?_, hrun, hended, _, _, rfl, ?_, ⟨_, rfl⟩, hW, hsame.mono (by decide) (by decide)⟩
  · show Steps p.tables e below (s₁.setTop (mkF m 0 Lo6 [])) _
    refine XS.iloadN X0.here hx rfl (hb hby at_0) rfl ?_
    show Steps p.tables e below (s₁.setTop (mkF m 1 Lo6 [(.int p1)])) _
    refine XS.iconst X0.here hx rfl (hb hby at_1) ?_
    show Steps p.tables e below (s₁.setTop (mkF m 2 Lo6 [(.int (3 : Int32)), (.int p1)])) _
    refine XS.iand X0.here hx rfl (hb hby at_2) rfl ?_
    show Steps p.tables e below (s₁.setTop (mkF m 3 Lo6 [(.int (p1 &&& (3 : Int32)))])) _
    refine XS.istoreN X0.here hx rfl (hb hby at_3) rfl (l' := Lo7) rfl ?_
    show Steps p.tables e below (s₁.setTop (mkF m 4 Lo7 [])) _
    exact J4 _ (hdd.symm)
  · show Q0 Z p1 h0 n0 _ T3.heap _
    exact ⟨rfl, N3⟩
set_option maxRecDepth 65536 in
set_option maxHeartbeats 40000000 in
theorem comes_1 {Post : Tables → Env → Array Value → State → Outcome → State → Prop} (hpost : ∀ tb e args s v u, (limb_1_1.after args s (.returned v) u = true ∧ limb_1_2.after args s (.returned v) u = true ∧ True) → FrameEnd s (.returned v) u (Jvm.fieldLocs frame_1_writes args s ++ Jvm.arrayLocs frame_1_arrays args s ++ Jvm.staticLocs frame_1_statics s) 0 0 → Post tb e args s (.returned v) u) :
    ArmFor flags0 classFile x code maxLocals ret World_1 tables_1 room_1 Calls_1 rest_1 Pre_1 Post := by
  intro l hfl _ _ p e ha hc hk s m args below hf hA hF happ hP
  obtain ⟨hcalls, hrest, hpre⟩ := hP
  obtain ⟨-, -, -, hnamed, -, -, -, hat⟩ := (Spec.applies_iff hf).mp happ
  obtain ⟨hg, hn⟩ := and_e (Cond.before_iff.mp (show (Jvm.Cond.and given_1 narrow_1).before args s = true from hpre))
  obtain ⟨gc, g0⟩ := and_e hg
  obtain ⟨w0, rfl⟩ : ∃ w0 : Value, args = #[w0] := by
    have hs : args.size = 1 := by simpa [Cond.value, given_1] using gc
    obtain ⟨L⟩ := args
    match L, hs with
    | [w0], _ => exact ⟨w0, rfl⟩
  have hw := fun d (hd : d ∈ tables_1) => atoms_spec (ws := Jvm.Cond.code x code maxLocals ret :: tables_1) hat d (List.mem_cons_of_mem _ hd)
  obtain ⟨i0, ei0⟩ := is_v g0
  obtain rfl : w0 = (.int i0) := Option.some.inj ei0
  obtain ⟨n, o, h1, h2, h3, _, L, rfl, ⟨rfl, N⟩, hq⟩ := rm0 l s _ hw tables_1 i0 s.heap s.heap.size (Nat.le_refl _) p e ha hc hk s m _ below hf ((Spec.applies_iff_loose hf).mp happ).1 ⟨rfl, State.Warmed39.refl s, rfl⟩ trivial
  refine ⟨n, _, h1, h2, h3, hpost _ _ _ _ _ _ ⟨Cond.after_iff.mpr rfl, Cond.after_iff.mpr (eq_i res_at (Term.int_eval (1)) rfl), trivial⟩ ⟨hq.1, hq.2.1, (hq.2.2.sift fun y hy => Or.inr (N y hy)).mono (by decide) (by decide)⟩⟩
theorem main_1_1 : Claimed_1_1 := comes_1 fun _ _ _ _ _ _ h hF => ⟨h.1, hF⟩
theorem main_1_2 : Claimed_1_2 := comes_1 fun _ _ _ _ _ _ h hF => ⟨h.2.1, hF⟩
end Jvm.Pilot.@@N@@
namespace Jvm.Pilot.@@N@@
open Jvm Jvm.ClassFile Sem Op Lib Jvm.Free Jvm.Stand Jvm.Pilot.@@N@@.Jvm.D
/-! MADE BY PROGRAM (witnessworld.py) out of the Statement's table words and the real class files: 9 classes; the members and pool entries that the words name. The judged class is class 1, her method 1. -/
namespace start1
open Jvm.ClassFile
def u (s : String) : CpInfo := .utf8 (stringToUtf16 s)
/-- a pool by its gaps: so many unusable entries, then the entry; so many at the end -/
def gap : Nat → List CpInfo → List CpInfo
  | 0, r => r
  | n + 1, r => .unusable :: gap n r
def poolList (es : List (Nat × CpInfo)) (last : Nat) : List CpInfo := es.foldr (fun e r => gap e.1 (e.2 :: r)) (gap last [])
def pool (es : List (Nat × CpInfo)) (last : Nat) : Array CpInfo := ⟨poolList es last⟩
def fileOf (pool : Array CpInfo) (this : Nat) (attrs : Array Attribute := #[]) (ms : Array MethodInfo := #[]) (fl : Nat := 33) (sup : Nat := 0) (ifs : Array Nat := #[]) (fds : Array FieldInfo := #[]) : ClassFile where
  minorVersion := 0
  majorVersion := 65
  constantPool := pool
  accessFlags := fl
  thisClass := this
  superClass := sup
  interfaces := ifs
  fields := fds
  methods := ms
  attributes := attrs
def plain (name : String) (sup : Option ClassId) : Class where
  name := name
  kind := .ordinary
  loader := none
  accessFlags := 33
  super := sup
  interfaces := #[]
  cf := none
  fields := #[]
  methods := #[]
  instanceTypes := #[]
  staticTypes := #[]
  resolved := #[]
  callSites := []
  init := .initialized
  statics := none
  mirror := none

def pool0 : Array CpInfo := pool [(5, u "<init>"), (0, u "()V"), (1, .class_ 10), (1, u "java/lang/Object")] 113

def k0m0 : Method := { name := "<init>", desc := "()V", sig := { parameters := [], returnType := none }, accessFlags := 1, code := none }
/-- java/lang/Object -/
def k0 : Class := { plain "java/lang/Object" none with
  accessFlags := 33
  interfaces := #[]
  cf := some (fileOf pool0 8 #[] #[{ accessFlags := 1, nameIndex := 5, descriptorIndex := 6, attributes := #[] }] 33 0 #[] #[])
  fields := #[]
  methods := #[k0m0]
  instanceTypes := #[]
  staticTypes := #[]
  resolved := Array.replicate 124 none
  statics := none }

def pool1 : Array CpInfo := pool [(2, .class_ 4), (1, u "java/lang/Object"), (0, u "<init>"), (0, u "()V"), (0, .methodref 8 9), (0, .class_ 10), (0, .nameAndType 11 12), (0, u "com/example/orthogonal_layout/orthogonallayout/OrthogonalMap"), (0, u "horizontal"), (0, u "(I)Z"), (0, .class_ 14), (0, u "com/example/orthogonal_layout/orthogonallayout/OrthogonalMapHorizontalPinLaw"), (2, u "law")] 3

def k1m0 : Method := { name := "<init>", desc := "()V", sig := { parameters := [], returnType := none }, accessFlags := 2, code := none }
def k1c1 : Code := { maxStack := 2, maxLocals := 6, code := code, exceptionTable := #[], attributes := #[] }
def k1m1 : Method := { name := "law", desc := "(I)Z", sig := { parameters := [.int], returnType := some .boolean }, accessFlags := 9, code := some k1c1 }
/-- com/example/orthogonal_layout/orthogonallayout/OrthogonalMapHorizontalPinLaw -/
def k1 : Class := { plain "com/example/orthogonal_layout/orthogonallayout/OrthogonalMapHorizontalPinLaw" (some 0) with
  accessFlags := 49
  interfaces := #[]
  cf := some (fileOf pool1 13 #[] #[{ accessFlags := 2, nameIndex := 5, descriptorIndex := 6, attributes := #[] }, { accessFlags := 9, nameIndex := 17, descriptorIndex := 12, attributes := #[] }] 49 2 #[] #[])
  fields := #[]
  methods := #[k1m0, k1m1]
  instanceTypes := #[]
  staticTypes := #[]
  resolved := Array.replicate 21 none
  statics := none }

def pool2 : Array CpInfo := pool [(2, .class_ 4), (1, u "java/lang/Object"), (0, u "<init>"), (0, u "()V"), (1, .class_ 10), (1, u "com/example/orthogonal_layout/orthogonallayout/OrthogonalMap"), (0, u "out"), (0, u "[I"), (2, u "tails"), (2, u "directions"), (0, .class_ 20), (0, u "com/example/orthogonal_layout/orthogonallayout/OrthogonalMap$Kind"), (2, u "kinds"), (0, u "[Lcom/example/orthogonal_layout/orthogonallayout/OrthogonalMap$Kind;"), (2, u "weights"), (5, u "lengths"), (0, u "Ljava/util/List;"), (2, u "pins"), (2, u "vertices"), (0, u "I"), (23, u "darts"), (12, .class_ 79), (0, u "com/example/orthogonal_layout/orthogonallayout/OrthogonalMap$Length"), (2, u "horizontal"), (0, u "(I)Z"), (9, .class_ 94), (0, u "com/example/orthogonal_layout/orthogonallayout/OrthogonalMap$Pin"), (86, u "EAST"), (2, u "NORTH"), (1, u "WEST"), (1, u "SOUTH"), (28, .class_ 218), (0, u "com/example/orthogonal_layout/orthogonallayout/OrthogonalMap$Frame")] 5

def k2m0 : Method := { name := "<init>", desc := "()V", sig := { parameters := [], returnType := none }, accessFlags := 0, code := none }
def k2c1 : Code := { maxStack := 2, maxLocals := 1, code := prog_28_method_3_code, exceptionTable := #[], attributes := #[] }
def k2m1 : Method := { name := "horizontal", desc := "(I)Z", sig := { parameters := [.int], returnType := some .boolean }, accessFlags := 8, code := some k2c1 }
/-- com/example/orthogonal_layout/orthogonallayout/OrthogonalMap -/
def k2 : Class := { plain "com/example/orthogonal_layout/orthogonallayout/OrthogonalMap" (some 0) with
  accessFlags := 48
  interfaces := #[]
  cf := some (fileOf pool2 8 #[.nestMembers #[217, 93, 78, 19]] #[{ accessFlags := 0, nameIndex := 5, descriptorIndex := 6, attributes := #[] }, { accessFlags := 8, nameIndex := 82, descriptorIndex := 83, attributes := #[] }] 48 2 #[] #[{ accessFlags := 24, nameIndex := 181, descriptorIndex := 41, attributes := #[] }, { accessFlags := 24, nameIndex := 184, descriptorIndex := 41, attributes := #[] }, { accessFlags := 24, nameIndex := 186, descriptorIndex := 41, attributes := #[] }, { accessFlags := 24, nameIndex := 188, descriptorIndex := 41, attributes := #[] }, { accessFlags := 2, nameIndex := 40, descriptorIndex := 41, attributes := #[] }, { accessFlags := 2, nameIndex := 65, descriptorIndex := 41, attributes := #[] }, { accessFlags := 2, nameIndex := 11, descriptorIndex := 12, attributes := #[] }, { accessFlags := 2, nameIndex := 15, descriptorIndex := 12, attributes := #[] }, { accessFlags := 2, nameIndex := 18, descriptorIndex := 12, attributes := #[] }, { accessFlags := 2, nameIndex := 23, descriptorIndex := 24, attributes := #[] }, { accessFlags := 2, nameIndex := 27, descriptorIndex := 12, attributes := #[] }, { accessFlags := 18, nameIndex := 33, descriptorIndex := 34, attributes := #[] }, { accessFlags := 18, nameIndex := 37, descriptorIndex := 34, attributes := #[] }])
  fields := #[{ name := "EAST", type := .int, accessFlags := 24, slot := 0, constantValue := 0 }, { name := "NORTH", type := .int, accessFlags := 24, slot := 1, constantValue := 0 }, { name := "WEST", type := .int, accessFlags := 24, slot := 2, constantValue := 0 }, { name := "SOUTH", type := .int, accessFlags := 24, slot := 3, constantValue := 0 }, { name := "vertices", type := .int, accessFlags := 2, slot := 0, constantValue := 0 }, { name := "darts", type := .int, accessFlags := 2, slot := 1, constantValue := 0 }, { name := "out", type := (.array .int), accessFlags := 2, slot := 2, constantValue := 0 }, { name := "tails", type := (.array .int), accessFlags := 2, slot := 3, constantValue := 0 }, { name := "directions", type := (.array .int), accessFlags := 2, slot := 4, constantValue := 0 }, { name := "kinds", type := (.array (.object "com/example/orthogonal_layout/orthogonallayout/OrthogonalMap$Kind")), accessFlags := 2, slot := 5, constantValue := 0 }, { name := "weights", type := (.array .int), accessFlags := 2, slot := 6, constantValue := 0 }, { name := "lengths", type := (.object "java/util/List"), accessFlags := 18, slot := 7, constantValue := 0 }, { name := "pins", type := (.object "java/util/List"), accessFlags := 18, slot := 8, constantValue := 0 }]
  methods := #[k2m0, k2m1]
  instanceTypes := #[.int, .int, (.array .int), (.array .int), (.array .int), (.array (.object "com/example/orthogonal_layout/orthogonallayout/OrthogonalMap$Kind")), (.array .int), (.object "java/util/List"), (.object "java/util/List")]
  staticTypes := #[.int, .int, .int, .int]
  resolved := Array.replicate 224 none
  statics := none }

def pool3 : Array CpInfo := pool [(1, u "java/lang/Cloneable"), (0, .class_ 1), (0, u "java/lang/Object"), (0, .class_ 3)] 3

/-- java/lang/Cloneable -/
def k3 : Class := { plain "java/lang/Cloneable" (some 0) with
  accessFlags := 1537
  interfaces := #[]
  cf := some (fileOf pool3 2 #[] #[] 1537 4 #[] #[])
  fields := #[]
  methods := #[]
  instanceTypes := #[]
  staticTypes := #[]
  resolved := Array.replicate 8 none
  statics := none }

def pool4 : Array CpInfo := pool [(1, u "java/io/Serializable"), (0, .class_ 1), (0, u "java/lang/Object"), (0, .class_ 3)] 3

/-- java/io/Serializable -/
def k4 : Class := { plain "java/io/Serializable" (some 0) with
  accessFlags := 1537
  interfaces := #[]
  cf := some (fileOf pool4 2 #[] #[] 1537 4 #[] #[])
  fields := #[]
  methods := #[]
  instanceTypes := #[]
  staticTypes := #[]
  resolved := Array.replicate 8 none
  statics := none }

/-- the primitive byte -/
def k5 : Class := { plain "byte" none with kind := .primitive 'B', accessFlags := 0x411 }
/-- [B -/
def k6 : Class := { plain "[B" (some 0) with kind := .array 5 .byte, interfaces := #[3, 4], accessFlags := 1041 }

/-- the primitive int -/
def k7 : Class := { plain "int" none with kind := .primitive 'I', accessFlags := 0x411 }
/-- [I -/
def k8 : Class := { plain "[I" (some 0) with kind := .array 7 .int, interfaces := #[3, 4], accessFlags := 1041 }

def heap : Heap := #[]
def classes : Array Class := #[k0, k1, k2, k3, k4, k5, k6, k7, k8]
def interned : List (Array UInt16 × Addr) := []
def slotsUsed : Nat := 0
def theMethod : MethodId := ⟨1, 1⟩
def args0 : Array Value := #[.int 2]
def aboutOver (below : List Frame) : State where
  vm := { classes := classes, interned := interned.toArray }
  heap := heap
  slotsUsed := slotsUsed
  threads := #[{ frames := .invoking theMethod args0 :: below }]
def below0 : List Frame := [.native { method := ⟨0, 0⟩, args := #[] }]
def about1 : State := aboutOver below0
def p0 : Program := .bare "" "" ""
def e0 : Env := launch0.env 0 0 0
theorem w_frames : about1.frames = Frame.invoking theMethod args0 :: below0 := rfl
set_option maxRecDepth 65536 in
theorem w_args : argsFit about1.vm theMethod args0 = true := by decide +kernel
set_option maxRecDepth 65536 in
theorem w_heap : heapFits about1 = true := by decide +kernel
set_option maxRecDepth 65536 in
theorem w_runnable : about1.curStatus? = some .runnable := by decide +kernel
set_option maxRecDepth 65536 in
theorem w_alone : about1.alone = true := by decide +kernel
set_option maxRecDepth 65536 in
theorem w_named : about1.methodNamed? x = some theMethod := by decide +kernel
set_option maxRecDepth 65536 in
theorem w_hears : about1.hears theMethod below0 = true := by decide +kernel
set_option maxRecDepth 65536 in
theorem w_ripe : about1.ripe theMethod args0 below0 = true := by decide +kernel
theorem w_running : about1.status = .running := rfl
set_option maxRecDepth 65536 in
theorem w_room : about1.hasRoom e0.platform room_1 = true :=
  launch0.hasRoom_least _ room_1 (by decide +kernel) (by decide +kernel) (by decide +kernel) (by decide +kernel) (by decide +kernel) (by decide +kernel)
theorem allAtoms_all (ts : List Jvm.Cond) (a : Array Jvm.Value) (st : Jvm.State) : (allAtoms ts).before a st = ts.all (fun c => c.before a st) := by
  induction ts with
  | nil => rfl
  | cons c t ih =>
    show (Jvm.Cond.and c (allAtoms t)).before a st = _
    rw [Jvm.Cond.before_and, ih, List.all_cons]
def words1 : List Jvm.Cond := Jvm.Cond.code x code maxLocals ret :: tables_1
/-- a 'code' word, met by the world's own term for the bytes: nothing is compared byte by byte -/
theorem code_word {y : MethodName} {bytes : ByteArray} {mx : Nat} {rt : Option FieldType} {a : Array Value} {s : State} {m : MethodId} {meth : Method} {c : Code} (h1 : s.methodNamed? y = some m) (h2 : s.vm.method? m = some meth) (h3 : meth.code = some c) (h4 : c.code = bytes)
    (h5 : (c.maxLocals == mx && c.exceptionTable.isEmpty && decide (c.maxStack ≤ mostOperands) && decide (meth.sig.returnType = rt) && !meth.locks && decide (parseMethodDescriptor y.desc = some meth.sig)) = true) : (Jvm.Cond.code y bytes mx rt).before a s = true := by
  simp only [Bool.and_eq_true, beq_iff_eq, Bool.not_eq_true', decide_eq_true_eq] at h5
  obtain ⟨⟨⟨⟨⟨g1, g2⟩, g3⟩, g4⟩, g5⟩, g6⟩ := h5
  simp [Cond.before, Cond.holds, Cond.value, h1, h2, h3, h4, g1, g2, g3, g4, g5, g6]
def isCode : Jvm.Cond → Bool
  | .code _ _ _ _ => true
  | _ => false
theorem all_split {L : List Jvm.Cond} {P : Jvm.Cond → Bool} (h1 : L.all (fun c => isCode c || P c) = true) (h2 : ∀ c ∈ L.filter isCode, P c = true) : L.all P = true := by
  refine List.all_eq_true.mpr fun c hc => ?_
  have h := List.all_eq_true.mp h1 c hc
  rcases Bool.eq_false_or_eq_true (isCode c) with hi | hi
  · exact h2 c (List.mem_filter.mpr ⟨hc, hi⟩)
  · simpa [hi] using h
set_option maxRecDepth 65536 in
theorem w_c0 : (Jvm.Cond.code x code maxLocals ret).before args0 about1 = true := code_word (m := ⟨1, 1⟩) (meth := k1m1) (c := k1c1) (by decide +kernel) rfl rfl rfl (by decide +kernel)
set_option maxRecDepth 65536 in
theorem w_c1 : (Jvm.Cond.code ({ cls := "com/example/orthogonal_layout/orthogonallayout/OrthogonalMap", name := "horizontal", desc := "(I)Z" } : Jvm.MethodName) prog_28_method_3_code (1 : Nat) (Option.some Jvm.ClassFile.FieldType.boolean)).before args0 about1 = true := code_word (m := ⟨2, 1⟩) (meth := k2m1) (c := k2c1) (by decide +kernel) rfl rfl rfl (by decide +kernel)
def codes1 : List Jvm.Cond := [Jvm.Cond.code x code maxLocals ret, Jvm.Cond.code ({ cls := "com/example/orthogonal_layout/orthogonallayout/OrthogonalMap", name := "horizontal", desc := "(I)Z" } : Jvm.MethodName) prog_28_method_3_code (1 : Nat) (Option.some Jvm.ClassFile.FieldType.boolean)]
set_option maxRecDepth 65536 in
theorem codes_eq : words1.filter isCode = codes1 := rfl
theorem w_codes : ∀ c ∈ words1.filter isCode, c.before args0 about1 = true := by
  rw [codes_eq]
  intro c hc
  simp only [codes1, List.mem_cons, List.not_mem_nil, or_false] at hc
  rcases hc with rfl | rfl
  · exact w_c0
  · exact w_c1
set_option maxRecDepth 65536 in
theorem w_t1 : words1.all (fun c => isCode c || c.before args0 about1) = true := by decide +kernel
theorem w_tables : (allAtoms (Jvm.Cond.code x code maxLocals ret :: tables_1)).before args0 about1 = true := by
  rw [allAtoms_all]
  show words1.all (fun c => c.before args0 about1) = true
  refine all_split ?_ w_codes
  rw [w_t1]
set_option maxRecDepth 65536 in
theorem w_case : (Jvm.Cond.and given_1 narrow_1).before args0 about1 = true := by decide +kernel
theorem w_applies : (headSpec (Jvm.Cond.code x code maxLocals ret :: tables_1) room_1).applies x e0.platform about1 = true :=
  (Spec.applies_iff w_frames).mpr ⟨w_running, w_runnable, w_alone, w_named, w_hears, w_ripe, w_room, w_tables⟩
theorem atStart : AtStart classFile x code maxLocals ret World_1 tables_1 room_1 Calls_1 rest_1 Pre_1 launch0 p0 e0 about1 theMethod args0 below0 :=
  ⟨lists_1, trivial, launch0.admits_env _ _ _, launch0.least_env, fairChoices_fair.cas, fairChoices_fair.clock, w_frames, w_args, w_heap, w_applies, trivial, trivial, w_case⟩
end start1
theorem witness_1 : WitnessClaimed_1 := ⟨start1.p0, start1.e0, start1.about1, start1.theMethod, start1.args0, start1.below0, start1.atStart⟩
end Jvm.Pilot.@@N@@
