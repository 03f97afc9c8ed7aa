import JvmDerived
import JvmDerived.Pilot.@@N@@Statement
import JvmDerived.Pilot.@@N@@Code
set_option linter.unusedVariables false
set_option linter.unusedSimpArgs false
namespace Jvm.RoadKit
open Sem ClassFile Op Lib Jvm.Stand Jvm.Free Jvm.LawKit
section OwnRets
variable {p : Program} {l : Launch} {e : Env} {R : Room} {s : State} {m : MethodId} {args : Array Value} {below : List Frame} {meth : Method} {c : Code} {T : State} {locs : List Loc} {cells slots : Nat}
theorem own_retI (X : Stand p l e R s m args below meth c T locs cells slots) (hx : p.tables.exec = Jvm.exec) {pc : Nat} {Ls : Array Slot} {z z' : Int32} {rest : List Value} (hret : meth.sig.returnType = some .int) (hd : decode c.code pc = .ok (.ireturn, 1)) (hz : z' = z) {fs : List Frame}
    (hl : ∀ (f : JFrame) (acts : List Action), f.method = m → f.locked = none → f.entered = [] → (doReturn e (T.setTop f) acts (some (.int z'))).1 = T.setFrames fs) : Steps p.tables e below (T.setTop (mkF m pc Ls (.int z :: rest))) (T.setFrames fs) := by
  subst hz
  have hm' : T.vm.method? m = some meth := X.method'
  have hn : narrow .int (.int z') = .int z' := rfl
  show Steps p.tables e below (T.setTop { method := m, pc := pc, locals := Ls, stack := _ :: rest, locked := none }) _
  jvm_step X.here [X.here.top, hx, hd, hm', hret, hn]
  first | (intro acts; rw [hl _ acts rfl rfl rfl]) | rw [hl _ _ rfl rfl rfl]
  exact Steps.refl _
theorem own_retZ (X : Stand p l e R s m args below meth c T locs cells slots) (hx : p.tables.exec = Jvm.exec) {pc : Nat} {Ls : Array Slot} {z z' : Int32} {rest : List Value} (hret : meth.sig.returnType = some .boolean) (hd : decode c.code pc = .ok (.ireturn, 1)) (hz : z' = z) (hn : nar .boolean z = z) {fs : List Frame}
    (hl : ∀ (f : JFrame) (acts : List Action), f.method = m → f.locked = none → f.entered = [] → (doReturn e (T.setTop f) acts (some (.int z'))).1 = T.setFrames fs) : Steps p.tables e below (T.setTop (mkF m pc Ls (.int z :: rest))) (T.setFrames fs) := by
  subst hz
  refine retN X hx (t := .boolean) hret (by simp) hd ?_
  rw [hn]; exact hl
theorem own_retJ (X : Stand p l e R s m args below meth c T locs cells slots) (hx : p.tables.exec = Jvm.exec) {pc : Nat} {Ls : Array Slot} {z z' : Int64} (hret : meth.sig.returnType = some .long) (hd : decode c.code pc = .ok (.lreturn, 1)) (hz : z' = z) {fs : List Frame}
    (hl : ∀ (f : JFrame) (acts : List Action), f.method = m → f.locked = none → f.entered = [] → (doReturn e (T.setTop f) acts (some (.long z'))).1 = T.setFrames fs) : Steps p.tables e below (T.setTop (mkF m pc Ls [.long z])) (T.setFrames fs) := by
  subst hz
  exact X.lreturnOut hx hret hd hl
end OwnRets
theorem own_lw_eq_t {x y : Int64} (h : x = y) : ifCond.holds .eq (lcmpW x y) = true := (if0 _ _).trans (teq ((lw_eq x y).mpr h)).1
theorem own_lw_eq_f {x y : Int64} (h : ¬ x = y) : ifCond.holds .eq (lcmpW x y) = false := (if0 _ _).trans (feq (mt (lw_eq x y).mp h)).1
theorem own_lw_ne_t {x y : Int64} (h : ¬ x = y) : ifCond.holds .ne (lcmpW x y) = true := (if0 _ _).trans (feq (mt (lw_eq x y).mp h)).2
theorem own_lw_ne_f {x y : Int64} (h : x = y) : ifCond.holds .ne (lcmpW x y) = false := (if0 _ _).trans (teq ((lw_eq x y).mpr h)).2
theorem own_lw_lt_t {x y : Int64} (h : x < y) : ifCond.holds .lt (lcmpW x y) = true := (if0 _ _).trans (tlt ((lw_lt x y).mpr h)).1
theorem own_lw_lt_f {x y : Int64} (h : ¬ x < y) : ifCond.holds .lt (lcmpW x y) = false := (if0 _ _).trans (flt (mt (lw_lt x y).mp h)).1
theorem own_lw_ge_t {x y : Int64} (h : ¬ x < y) : ifCond.holds .ge (lcmpW x y) = true := (if0 _ _).trans (flt (mt (lw_lt x y).mp h)).2.1
theorem own_lw_ge_f {x y : Int64} (h : x < y) : ifCond.holds .ge (lcmpW x y) = false := (if0 _ _).trans (tlt ((lw_lt x y).mpr h)).2.1
end Jvm.RoadKit
namespace Jvm.Pilot.@@N@@
open Jvm Jvm.ClassFile Sem Op Lib Jvm.Free Jvm.Stand Jvm.LawKit Jvm.RoadKit Bundle Jvm.Pilot.@@N@@.Jvm.D
def own_lower (p1 : Int32) : Int32 := (if p1 < (65 : Int32) then p1 else (if (90 : Int32) < p1 then p1 else (p1 + (32 : Int32))))
theorem d1_0 : decode prog_16_method_6_code 0 = .ok (.iload_n 0, 1) := by decide +kernel
theorem d1_1 : decode prog_16_method_6_code 1 = .ok (.bipush 65, 2) := by decide +kernel
theorem d1_3 : decode prog_16_method_6_code 3 = .ok (.if_icmp .lt 16, 3) := by decide +kernel
theorem d1_6 : decode prog_16_method_6_code 6 = .ok (.iload_n 0, 1) := by decide +kernel
theorem d1_7 : decode prog_16_method_6_code 7 = .ok (.bipush 90, 2) := by decide +kernel
theorem d1_9 : decode prog_16_method_6_code 9 = .ok (.if_icmp .gt 10, 3) := by decide +kernel
theorem d1_12 : decode prog_16_method_6_code 12 = .ok (.iload_n 0, 1) := by decide +kernel
theorem d1_13 : decode prog_16_method_6_code 13 = .ok (.bipush 32, 2) := by decide +kernel
theorem d1_15 : decode prog_16_method_6_code 15 = .ok (.iadd, 1) := by decide +kernel
theorem d1_16 : decode prog_16_method_6_code 16 = .ok (.goto 4, 3) := by decide +kernel
theorem d1_19 : decode prog_16_method_6_code 19 = .ok (.iload_n 0, 1) := by decide +kernel
theorem d1_20 : decode prog_16_method_6_code 20 = .ok (.ireturn, 1) := by decide +kernel
theorem pn_1 : plainName "com/example/crawlscope/crawlscope/url/Ascii" = true := by first | (simp [plainName, overriddenIn]; done) | decide +kernel
theorem ef_1 (m : MethodId) (x0 : Int32) : entryFrame m #[(.int x0)] 1 = mkF m 0 #[.val (.int x0)] [] := by first | (simp [entryFrame, mkF, argsToLocals, Value.category]; done) | rfl
def Q1 (Z : State) (p1 : Int32) (h0 : Heap) (n0 : Nat) (v : Option Value) (h : Heap) (L : List Loc) : Prop := v = some (.int (own_lower p1)) ∧ Fr n0 L ∧ h = h0
set_option maxRecDepth 65536 in
set_option maxHeartbeats 40000000 in
theorem rm1 (l : Launch) (Z : State) (a0 : Array Value) (hw : ∀ d ∈ tables_1, d.before a0 Z = true) (ws : List Jvm.Cond) (p1 : Int32) (h0 : Heap) (n0 : Nat) (Z0 : n0 ≤ h0.size)  :
    MetFree l (⟨"com/example/crawlscope/crawlscope/url/Ascii", "toLowerCase", "(I)I"⟩ : MethodName) (head1 (Jvm.Cond.code (⟨"com/example/crawlscope/crawlscope/url/Ascii", "toLowerCase", "(I)I"⟩ : MethodName) prog_16_method_6_code 1 (some .int) :: ws) ({ frames := 0, cells := 0, slots := 0, locals := 0 } : Room)) (fun a U => a = #[(.int p1)] ∧ Z.Warmed39 U.vm ∧ U.heap = h0) (fun _ _ _ _ _ => True) (fun _ U o U' => ∃ v L, o = .returned v ∧ Q1 Z p1 h0 n0 v U'.heap L ∧ FrameEnd U o U' L ({ frames := 0, cells := 0, slots := 0, locals := 0 } : Room).cells ({ frames := 0, cells := 0, slots := 0, locals := 0 } : Room).slots) := by
  refine MetFree.of_bodySF (plainFor_of_name pn_1) hisR ?_
  intro p e s m args below meth c s₁ Bd hml0 hP hK
  obtain ⟨rfl, hZ, hh⟩ := hP
  have hx := Bd.exec
  have hby := Bd.bytes
  have hml : c.maxLocals = 1 := hml0
  have hown : s.vm.findClass "com/example/crawlscope/crawlscope/url/Ascii" = some m.cls := findClass_of_methodNamed Bd.named
  have hnm := (name_of_methodNamed Bd.named Bd.method).1
  have X0 : Stand p l e ({ frames := 0, cells := 0, slots := 0, locals := 0 } : Room) s m #[(.int p1)] below meth c s₁ [] 0 0 := Stand.of_body Bd
  have e0 : s₁.heap = h0 := by rw [← hh, Bd.state]; rfl
  have N0 := Fr.nil n0
  have pre0 : ∀ t, Steps p.tables e below (s₁.setTop (mkF m 0 #[.val (.int p1)] [])) t → Steps p.tables e below (s₁.setTop (entryFrame m #[(.int p1)] 1)) t := fun t k => castTop (ef_1 m p1) k
  obtain ⟨fs, hr, hrun, hended, hW, hsame⟩ := X0.leave (v := some (.int (own_lower p1))) (fun h => by rw [Bd.returns] at h; cases h)
  refine ⟨_, _, pre0 _ ?_, hrun, hended, _, _, rfl, ?_, ⟨_, rfl⟩, hW, hsame.mono (by decide) (by decide)⟩
  · show Steps p.tables e below (s₁.setTop (mkF m 0 #[.val (.int p1)] [])) _
    refine XS.iloadN X0.here hx rfl (hb hby d1_0) rfl ?_
    show Steps p.tables e below (s₁.setTop (mkF m 1 #[.val (.int p1)] [(.int p1)])) _
    refine XS.bipush X0.here hx rfl (hb hby d1_1) ?_
    show Steps p.tables e below (s₁.setTop (mkF m 3 #[.val (.int p1)] [(.int (65 : Int32)), (.int p1)])) _
    by_cases hc3 : p1 < (65 : Int32)
    · refine XS.icmpYes X0.here hx rfl (pc0 := 3) (pc' := 19) rfl (hb hby d1_3) rfl (Jvm.Free.XT.ii_lt_t hc3) (by decide) (by decide) ?_
      show Steps p.tables e below (s₁.setTop (mkF m 19 #[.val (.int p1)] [])) _
      refine XS.iloadN X0.here hx rfl (hb hby d1_19) rfl ?_
      show Steps p.tables e below (s₁.setTop (mkF m 20 #[.val (.int p1)] [(.int p1)])) _
      exact own_retI X0 hx Bd.returns (hb hby d1_20) (by rw [own_lower, if_pos hc3]) hr
    · refine XS.icmpNo X0.here hx rfl (hb hby d1_3) rfl (Jvm.Free.XT.ii_lt_f hc3) ?_
      show Steps p.tables e below (s₁.setTop (mkF m 6 #[.val (.int p1)] [])) _
      refine XS.iloadN X0.here hx rfl (hb hby d1_6) rfl ?_
      show Steps p.tables e below (s₁.setTop (mkF m 7 #[.val (.int p1)] [(.int p1)])) _
      refine XS.bipush X0.here hx rfl (hb hby d1_7) ?_
      show Steps p.tables e below (s₁.setTop (mkF m 9 #[.val (.int p1)] [(.int (90 : Int32)), (.int p1)])) _
      by_cases hc9 : (90 : Int32) < p1
      · refine XS.icmpYes X0.here hx rfl (pc0 := 9) (pc' := 19) rfl (hb hby d1_9) rfl (Jvm.Free.XT.ii_gt_t hc9) (by decide) (by decide) ?_
        show Steps p.tables e below (s₁.setTop (mkF m 19 #[.val (.int p1)] [])) _
        refine XS.iloadN X0.here hx rfl (hb hby d1_19) rfl ?_
        show Steps p.tables e below (s₁.setTop (mkF m 20 #[.val (.int p1)] [(.int p1)])) _
        exact own_retI X0 hx Bd.returns (hb hby d1_20) (by rw [own_lower, if_neg hc3, if_pos hc9]) hr
      · refine XS.icmpNo X0.here hx rfl (hb hby d1_9) rfl (Jvm.Free.XT.ii_gt_f hc9) ?_
        show Steps p.tables e below (s₁.setTop (mkF m 12 #[.val (.int p1)] [])) _
        refine XS.iloadN X0.here hx rfl (hb hby d1_12) rfl ?_
        show Steps p.tables e below (s₁.setTop (mkF m 13 #[.val (.int p1)] [(.int p1)])) _
        refine XS.bipush X0.here hx rfl (hb hby d1_13) ?_
        show Steps p.tables e below (s₁.setTop (mkF m 15 #[.val (.int p1)] [(.int (32 : Int32)), (.int p1)])) _
        refine XS.iadd X0.here hx rfl (hb hby d1_15) rfl ?_
        show Steps p.tables e below (s₁.setTop (mkF m 16 #[.val (.int p1)] [(.int (p1 + (32 : Int32)))])) _
        refine XS.goto X0.here hx rfl (pc0 := 16) (pc' := 20) rfl (hb hby d1_16) (by decide) (by decide) ?_
        show Steps p.tables e below (s₁.setTop (mkF m 20 #[.val (.int p1)] [(.int (p1 + (32 : Int32)))])) _
        exact own_retI X0 hx Bd.returns (hb hby d1_20) (by rw [own_lower, if_neg hc3, if_neg hc9]) hr
  · show Q1 Z p1 h0 n0 _ s₁.heap _
    rw [e0]
    exact ⟨rfl, N0, rfl⟩
theorem own_lower_c (c : Int32) : own_lower c = c ∨ (own_lower c = c + 32 ∧ 65 ≤ c.toInt ∧ c.toInt ≤ 90) := by
  unfold own_lower
  split
  · exact Or.inl rfl
  · split
    · exact Or.inl rfl
    · rename_i h1 h2
      rw [Int32.lt_iff_toInt_lt] at h1 h2
      refine Or.inr ⟨rfl, ?_, ?_⟩
      · simpa using h1
      · simpa using h2
theorem own_add32 (c : Int32) (h1 : 65 ≤ c.toInt) (h2 : c.toInt ≤ 90) : (c + 32).toInt = c.toInt + 32 := by
  rw [Int32.toInt_add]
  have : (32 : Int32).toInt = 32 := by decide
  rw [this]
  exact Int.bmod_eq_of_le (by omega) (by omega)
/-- no road to the answer false -/
theorem own_no_up (c : Int32) (h1 : ¬ own_lower c < 65) (h2 : ¬ (90 : Int32) < own_lower c) : False := by
  rcases own_lower_c c with h | ⟨h, a, b⟩
  · have hh : own_lower c = c + 32 := by
      unfold own_lower
      rw [h] at h1 h2
      rw [if_neg h1, if_neg h2]
    rw [h] at hh h1 h2
    rw [Int32.lt_iff_toInt_lt] at h1 h2
    have e1 : (65 : Int32).toInt = 65 := by decide
    have e2 : (90 : Int32).toInt = 90 := by decide
    rw [e1] at h1; rw [e2] at h2
    have q := own_add32 c (by omega) (by omega)
    rw [← hh] at q
    omega
  · rw [h, Int32.lt_iff_toInt_lt] at h1 h2
    rw [own_add32 c a b] at h1 h2
    have e2 : (90 : Int32).toInt = 90 := by decide
    rw [e2] at h2
    omega
theorem own_one (c : Int32) (h1 : ¬ own_lower c = c) (h2 : ¬ own_lower c = c + 32) : False := by
  rcases own_lower_c c with h | ⟨h, -⟩
  · exact h1 h
  · exact h2 h
theorem own_low (c : Int32) (h1 : ¬ own_lower c = c) (h2 : own_lower c < 97 ∨ (122 : Int32) < own_lower c) : False := by
  rcases own_lower_c c with h | ⟨h, a, b⟩
  · exact h1 h
  · rw [h, Int32.lt_iff_toInt_lt, Int32.lt_iff_toInt_lt, own_add32 c a b] at h2
    have e1 : (97 : Int32).toInt = 97 := by decide
    have e2 : (122 : Int32).toInt = 122 := by decide
    rw [e1, e2] at h2
    omega
def own_c (p1 p2 : Int32) : Int32 := if (p2 &&& 1) = 0 then p1 else 60 + ((p1 &&& 2147483647) - ((p1 &&& 2147483647) / 70) * 70)
theorem pn_0 : plainName "com/example/crawlscope/crawlscope/url/AsciiToLowerCasePinLaw" = true := by first | (simp [plainName, overriddenIn]; done) | decide +kernel
theorem ef_0 (m : MethodId) (x0 : Int32) (x1 : Int32) : entryFrame m #[(.int x0), (.int x1)] maxLocals = mkF m 0 #[.val (.int x0), .val (.int x1), .unset, .unset, .unset, .unset] [] := by first | (simp [entryFrame, mkF, argsToLocals, Value.category, maxLocals]; done) | rfl
theorem pd_0_1 : parseMethodDescriptor "(I)I" = some ⟨[.int], some .int⟩ := by decide +kernel
def Q0 (Z : State) (p1 : Int32) (p2 : Int32) (h0 : Heap) (n0 : Nat) (v : Option Value) (h : Heap) (L : List Loc) : Prop := v = some (.int 1) ∧ Fr n0 L
set_option maxRecDepth 65536 in
set_option maxHeartbeats 40000000 in
theorem rm0 (l : Launch) (Z : State) (a0 : Array Value) (hw : ∀ d ∈ tables_1, d.before a0 Z = true) (ws : List Jvm.Cond) (p1 : Int32) (p2 : Int32) (h0 : Heap) (n0 : Nat) (Z0 : n0 ≤ h0.size)  :
    MetFree l x (head1 (Jvm.Cond.code x code maxLocals ret :: ws) room_1) (fun a U => a = #[(.int p1), (.int p2)] ∧ Z.Warmed39 U.vm ∧ U.heap = h0) (fun _ _ _ _ _ => True) (fun _ U o U' => ∃ v L, o = .returned v ∧ Q0 Z p1 p2 h0 n0 v U'.heap L ∧ FrameEnd U o U' L room_1.cells room_1.slots) := by
  refine MetFree.of_bodySF (plainFor_of_name pn_0) hisR ?_
  intro p e s m args below meth c s₁ Bd hml0 hP hK
  obtain ⟨rfl, hZ, hh⟩ := hP
  have w0_ := hw _ (List.mem_of_getElem? (i := 0) rfl)
  have w1_ := hw _ (List.mem_of_getElem? (i := 1) rfl)
  have w2_ := hw _ (List.mem_of_getElem? (i := 2) rfl)
  have w3_ := hw _ (List.mem_of_getElem? (i := 3) rfl)
  have w4_ := hw _ (List.mem_of_getElem? (i := 4) rfl)
  have hx := Bd.exec
  have hby := Bd.bytes
  have hml : c.maxLocals = 6 := hml0
  have hown : s.vm.findClass "com/example/crawlscope/crawlscope/url/AsciiToLowerCasePinLaw" = some m.cls := findClass_of_methodNamed Bd.named
  have hnm := (name_of_methodNamed Bd.named Bd.method).1
  have X0 : Stand p l e room_1 s m #[(.int p1), (.int p2)] below meth c s₁ [] 0 0 := Stand.of_body Bd
  have e0 : s₁.heap = h0 := by rw [← hh, Bd.state]; rfl
  have N0 := Fr.nil n0
  have pre0 : ∀ t, Steps p.tables e below (s₁.setTop (mkF m 0 #[.val (.int p1), .val (.int p2), .unset, .unset, .unset, .unset] [])) t → Steps p.tables e below (s₁.setTop (entryFrame m #[(.int p1), (.int p2)] maxLocals)) t := fun t k => castTop (ef_0 m p1 p2) k
  obtain ⟨cc, hcc⟩ : ∃ z, z = own_c p1 p2 := ⟨_, rfl⟩
  let Lo1 : Array Slot := #[.val (.int p1), .val (.int p2), .val (.int cc), .unset, .unset, .unset]
  obtain ⟨_, _, ⟨T1, L1, k1, n1⟩, -, X1, ⟨Lc1, hQ1, l1, y1, z1⟩, st1⟩ := Jvm.LawKit.callS X0 hx (y := (⟨"com/example/crawlscope/crawlscope/url/Ascii", "toLowerCase", "(I)I"⟩ : MethodName)) hown (mvT hZ w1_) (mvT hZ w2_) (mvT hZ w3_) (mvT hZ w4_) (by decide) (backOf (W := 0) (rm1 l Z a0 hw [] cc h0 n0 Z0 ) hZ w4_ w3_ (by decide) (by decide)) (g := (mkF m 23 Lo1 [(.int cc)])) rfl (by rw [hml]; rfl) (argsL := [(.int cc)]) (rest := []) (lenOf pd_0_1 rfl) rfl (by show 2 * 0 + _ ≤ _; exact Nat.le_of_eq rfl) (hb hby at_23) (fun _ _ => ⟨rfl, e0, (by decide : 0 + 0 ≤ _), (by decide : 0 + 0 ≤ _)⟩)
  dsimp only [Pt.U, Pt.locs, Pt.cells, Pt.slots] at X1 l1 y1 z1 st1 hQ1
  subst l1 y1 z1
  obtain ⟨rfl, N1q, q1⟩ := hQ1
  have N1 := Fr.app N0 N1q
  have e1 : T1.heap = h0 := q1
  let Lo2 : Array Slot := #[.val (.int p1), .val (.int p2), .val (.int cc), .val (.int (own_lower cc)), .unset, .unset]
  let Lo3 : Array Slot := #[.val (.int p1), .val (.int p2), .val (.int cc), .val (.int (own_lower cc)), .val (.int (1 : Int32)), .unset]
  let Lo4 : Array Slot := #[.val (.int p1), .val (.int p2), .val (.int cc), .val (.int (own_lower cc)), .val (.int (1 : Int32)), .val (.int (1 : Int32))]
  let Lo5 : Array Slot := #[.val (.int p1), .val (.int p2), .val (.int cc), .val (.int (own_lower cc)), .val (.int (1 : Int32)), .val (.int (0 : Int32))]
  let Lo6 : Array Slot := #[.val (.int p1), .val (.int p2), .val (.int cc), .val (.int (own_lower cc)), .val (.int (0 : Int32)), .unset]
  let Lo7 : Array Slot := #[.val (.int p1), .val (.int p2), .val (.int cc), .val (.int (own_lower cc)), .val (.int (0 : Int32)), .val (.int (1 : Int32))]
  let Lo8 : Array Slot := #[.val (.int p1), .val (.int p2), .val (.int cc), .val (.int (own_lower cc)), .val (.int (0 : Int32)), .val (.int (0 : Int32))]
  let Lo9 : Array Slot := #[.val (.int p1), .val (.int p2), .unset, .unset, .unset, .unset]
  let Lo10 : Array Slot := #[.val (.int p1), .val (.int p2), .val (.int p1), .unset, .unset, .unset]
  let Lo11 : Array Slot := #[.val (.int p1), .val (.int p2), .val (.int ((60 : Int32) + ((p1 &&& (2147483647 : Int32)) - ((p1 &&& (2147483647 : Int32)) / (70 : Int32)) * (70 : Int32)))), .unset, .unset, .unset]
  obtain ⟨fs, hr, hrun, hended, hW, hsame⟩ := X1.leave (v := some (.int 1)) (fun h => by rw [Bd.returns] at h; cases h)
  have J22 : ∀ (u0 : Int32), u0 = cc → Steps p.tables e below (s₁.setTop (mkF m 22 #[.val (.int p1), .val (.int p2), .val (.int u0), .unset, .unset, .unset] [])) (T1.setFrames fs) := by
    intro u0 hu0
    rw [hu0]
    show Steps p.tables e below (s₁.setTop (mkF m 22 Lo1 [])) _
    refine XS.iloadN X0.here hx rfl (hb hby at_22) rfl ?_
    show Steps p.tables e below (s₁.setTop (mkF m 23 Lo1 [(.int cc)])) _
    refine st1 _ ?_
    show Steps p.tables e below (T1.setTop (mkF m 26 Lo1 [(.int (own_lower cc))])) _
    refine XS.istoreN X1.here hx rfl (hb hby at_26) rfl (l' := Lo2) rfl ?_
    show Steps p.tables e below (T1.setTop (mkF m 27 Lo2 [])) _
    refine XS.iloadN X1.here hx rfl (hb hby at_27) rfl ?_
    show Steps p.tables e below (T1.setTop (mkF m 28 Lo2 [(.int (own_lower cc))])) _
    refine XS.iloadN X1.here hx rfl (hb hby at_28) rfl ?_
    show Steps p.tables e below (T1.setTop (mkF m 29 Lo2 [(.int cc), (.int (own_lower cc))])) _
    by_cases hc29 : (own_lower cc) = cc
    · refine XS.icmpNo X1.here hx rfl (hb hby at_29) rfl (Jvm.Free.XT.ii_ne_f hc29) ?_
      show Steps p.tables e below (T1.setTop (mkF m 32 Lo2 [])) _
      refine XS.iconst X1.here hx rfl (hb hby at_32) ?_
      show Steps p.tables e below (T1.setTop (mkF m 33 Lo2 [(.int (1 : Int32))])) _
      refine XS.goto X1.here hx rfl (pc0 := 33) (pc' := 37) rfl (hb hby at_33) (by decide) (by decide) ?_
      show Steps p.tables e below (T1.setTop (mkF m 37 Lo2 [(.int (1 : Int32))])) _
      refine XS.istore X1.here hx rfl (hb hby at_37) rfl (l' := Lo3) rfl ?_
      show Steps p.tables e below (T1.setTop (mkF m 39 Lo3 [])) _
      refine XS.iloadN X1.here hx rfl (hb hby at_39) rfl ?_
      show Steps p.tables e below (T1.setTop (mkF m 40 Lo3 [(.int (own_lower cc))])) _
      refine XS.iloadN X1.here hx rfl (hb hby at_40) rfl ?_
      show Steps p.tables e below (T1.setTop (mkF m 41 Lo3 [(.int cc), (.int (own_lower cc))])) _
      refine XS.bipush X1.here hx rfl (hb hby at_41) ?_
      show Steps p.tables e below (T1.setTop (mkF m 43 Lo3 [(.int (32 : Int32)), (.int cc), (.int (own_lower cc))])) _
      refine XS.iadd X1.here hx rfl (hb hby at_43) rfl ?_
      show Steps p.tables e below (T1.setTop (mkF m 44 Lo3 [(.int (cc + (32 : Int32))), (.int (own_lower cc))])) _
      by_cases hc44 : (own_lower cc) = (cc + (32 : Int32))
      · refine XS.icmpNo X1.here hx rfl (hb hby at_44) rfl (Jvm.Free.XT.ii_ne_f hc44) ?_
        show Steps p.tables e below (T1.setTop (mkF m 47 Lo3 [])) _
        refine XS.iconst X1.here hx rfl (hb hby at_47) ?_
        show Steps p.tables e below (T1.setTop (mkF m 48 Lo3 [(.int (1 : Int32))])) _
        refine XS.goto X1.here hx rfl (pc0 := 48) (pc' := 52) rfl (hb hby at_48) (by decide) (by decide) ?_
        show Steps p.tables e below (T1.setTop (mkF m 52 Lo3 [(.int (1 : Int32))])) _
        refine XS.istore X1.here hx rfl (hb hby at_52) rfl (l' := Lo4) rfl ?_
        show Steps p.tables e below (T1.setTop (mkF m 54 Lo4 [])) _
        refine XS.iload X1.here hx rfl (hb hby at_54) rfl ?_
        show Steps p.tables e below (T1.setTop (mkF m 56 Lo4 [(.int (1 : Int32))])) _
        refine XS.ifYes X1.here hx rfl (pc0 := 56) (pc' := 66) rfl (hb hby at_56) rfl (by first | rfl | decide) (by decide) (by decide) ?_
        show Steps p.tables e below (T1.setTop (mkF m 66 Lo4 [])) _
        refine XS.iloadN X1.here hx rfl (hb hby at_66) rfl ?_
        show Steps p.tables e below (T1.setTop (mkF m 67 Lo4 [(.int (own_lower cc))])) _
        refine XS.bipush X1.here hx rfl (hb hby at_67) ?_
        show Steps p.tables e below (T1.setTop (mkF m 69 Lo4 [(.int (65 : Int32)), (.int (own_lower cc))])) _
        by_cases hc69 : (own_lower cc) < (65 : Int32)
        · refine XS.icmpYes X1.here hx rfl (pc0 := 69) (pc' := 80) rfl (hb hby at_69) rfl (Jvm.Free.XT.ii_lt_t hc69) (by decide) (by decide) ?_
          show Steps p.tables e below (T1.setTop (mkF m 80 Lo4 [])) _
          refine XS.iload X1.here hx rfl (hb hby at_80) rfl ?_
          show Steps p.tables e below (T1.setTop (mkF m 82 Lo4 [(.int (1 : Int32))])) _
          refine XS.ifYes X1.here hx rfl (pc0 := 82) (pc' := 99) rfl (hb hby at_82) rfl (by first | rfl | decide) (by decide) (by decide) ?_
          show Steps p.tables e below (T1.setTop (mkF m 99 Lo4 [])) _
          refine XS.iconst X1.here hx rfl (hb hby at_99) ?_
          show Steps p.tables e below (T1.setTop (mkF m 100 Lo4 [(.int (1 : Int32))])) _
          exact own_retZ X1 hx Bd.returns (hb hby at_100) rfl rfl hr
        · refine XS.icmpNo X1.here hx rfl (hb hby at_69) rfl (Jvm.Free.XT.ii_lt_f hc69) ?_
          show Steps p.tables e below (T1.setTop (mkF m 72 Lo4 [])) _
          refine XS.iloadN X1.here hx rfl (hb hby at_72) rfl ?_
          show Steps p.tables e below (T1.setTop (mkF m 73 Lo4 [(.int (own_lower cc))])) _
          refine XS.bipush X1.here hx rfl (hb hby at_73) ?_
          show Steps p.tables e below (T1.setTop (mkF m 75 Lo4 [(.int (90 : Int32)), (.int (own_lower cc))])) _
          by_cases hc75 : (90 : Int32) < (own_lower cc)
          · refine XS.icmpYes X1.here hx rfl (pc0 := 75) (pc' := 80) rfl (hb hby at_75) rfl (Jvm.Free.XT.ii_gt_t hc75) (by decide) (by decide) ?_
            show Steps p.tables e below (T1.setTop (mkF m 80 Lo4 [])) _
            refine XS.iload X1.here hx rfl (hb hby at_80) rfl ?_
            show Steps p.tables e below (T1.setTop (mkF m 82 Lo4 [(.int (1 : Int32))])) _
            refine XS.ifYes X1.here hx rfl (pc0 := 82) (pc' := 99) rfl (hb hby at_82) rfl (by first | rfl | decide) (by decide) (by decide) ?_
            show Steps p.tables e below (T1.setTop (mkF m 99 Lo4 [])) _
            refine XS.iconst X1.here hx rfl (hb hby at_99) ?_
            show Steps p.tables e below (T1.setTop (mkF m 100 Lo4 [(.int (1 : Int32))])) _
            exact own_retZ X1 hx Bd.returns (hb hby at_100) rfl rfl hr
          · refine XS.icmpNo X1.here hx rfl (hb hby at_75) rfl (Jvm.Free.XT.ii_gt_f hc75) ?_
            show Steps p.tables e below (T1.setTop (mkF m 78 Lo4 [])) _
            refine XS.iconst X1.here hx rfl (hb hby at_78) ?_
            show Steps p.tables e below (T1.setTop (mkF m 79 Lo4 [(.int (0 : Int32))])) _
            exact (own_no_up cc hc69 hc75).elim
      · refine XS.icmpYes X1.here hx rfl (pc0 := 44) (pc' := 51) rfl (hb hby at_44) rfl (Jvm.Free.XT.ii_ne_t hc44) (by decide) (by decide) ?_
        show Steps p.tables e below (T1.setTop (mkF m 51 Lo3 [])) _
        refine XS.iconst X1.here hx rfl (hb hby at_51) ?_
        show Steps p.tables e below (T1.setTop (mkF m 52 Lo3 [(.int (0 : Int32))])) _
        refine XS.istore X1.here hx rfl (hb hby at_52) rfl (l' := Lo5) rfl ?_
        show Steps p.tables e below (T1.setTop (mkF m 54 Lo5 [])) _
        refine XS.iload X1.here hx rfl (hb hby at_54) rfl ?_
        show Steps p.tables e below (T1.setTop (mkF m 56 Lo5 [(.int (1 : Int32))])) _
        refine XS.ifYes X1.here hx rfl (pc0 := 56) (pc' := 66) rfl (hb hby at_56) rfl (by first | rfl | decide) (by decide) (by decide) ?_
        show Steps p.tables e below (T1.setTop (mkF m 66 Lo5 [])) _
        refine XS.iloadN X1.here hx rfl (hb hby at_66) rfl ?_
        show Steps p.tables e below (T1.setTop (mkF m 67 Lo5 [(.int (own_lower cc))])) _
        refine XS.bipush X1.here hx rfl (hb hby at_67) ?_
        show Steps p.tables e below (T1.setTop (mkF m 69 Lo5 [(.int (65 : Int32)), (.int (own_lower cc))])) _
        by_cases hc69 : (own_lower cc) < (65 : Int32)
        · refine XS.icmpYes X1.here hx rfl (pc0 := 69) (pc' := 80) rfl (hb hby at_69) rfl (Jvm.Free.XT.ii_lt_t hc69) (by decide) (by decide) ?_
          show Steps p.tables e below (T1.setTop (mkF m 80 Lo5 [])) _
          refine XS.iload X1.here hx rfl (hb hby at_80) rfl ?_
          show Steps p.tables e below (T1.setTop (mkF m 82 Lo5 [(.int (1 : Int32))])) _
          refine XS.ifYes X1.here hx rfl (pc0 := 82) (pc' := 99) rfl (hb hby at_82) rfl (by first | rfl | decide) (by decide) (by decide) ?_
          show Steps p.tables e below (T1.setTop (mkF m 99 Lo5 [])) _
          refine XS.iconst X1.here hx rfl (hb hby at_99) ?_
          show Steps p.tables e below (T1.setTop (mkF m 100 Lo5 [(.int (1 : Int32))])) _
          exact own_retZ X1 hx Bd.returns (hb hby at_100) rfl rfl hr
        · refine XS.icmpNo X1.here hx rfl (hb hby at_69) rfl (Jvm.Free.XT.ii_lt_f hc69) ?_
          show Steps p.tables e below (T1.setTop (mkF m 72 Lo5 [])) _
          refine XS.iloadN X1.here hx rfl (hb hby at_72) rfl ?_
          show Steps p.tables e below (T1.setTop (mkF m 73 Lo5 [(.int (own_lower cc))])) _
          refine XS.bipush X1.here hx rfl (hb hby at_73) ?_
          show Steps p.tables e below (T1.setTop (mkF m 75 Lo5 [(.int (90 : Int32)), (.int (own_lower cc))])) _
          by_cases hc75 : (90 : Int32) < (own_lower cc)
          · refine XS.icmpYes X1.here hx rfl (pc0 := 75) (pc' := 80) rfl (hb hby at_75) rfl (Jvm.Free.XT.ii_gt_t hc75) (by decide) (by decide) ?_
            show Steps p.tables e below (T1.setTop (mkF m 80 Lo5 [])) _
            refine XS.iload X1.here hx rfl (hb hby at_80) rfl ?_
            show Steps p.tables e below (T1.setTop (mkF m 82 Lo5 [(.int (1 : Int32))])) _
            refine XS.ifYes X1.here hx rfl (pc0 := 82) (pc' := 99) rfl (hb hby at_82) rfl (by first | rfl | decide) (by decide) (by decide) ?_
            show Steps p.tables e below (T1.setTop (mkF m 99 Lo5 [])) _
            refine XS.iconst X1.here hx rfl (hb hby at_99) ?_
            show Steps p.tables e below (T1.setTop (mkF m 100 Lo5 [(.int (1 : Int32))])) _
            exact own_retZ X1 hx Bd.returns (hb hby at_100) rfl rfl hr
          · refine XS.icmpNo X1.here hx rfl (hb hby at_75) rfl (Jvm.Free.XT.ii_gt_f hc75) ?_
            show Steps p.tables e below (T1.setTop (mkF m 78 Lo5 [])) _
            refine XS.iconst X1.here hx rfl (hb hby at_78) ?_
            show Steps p.tables e below (T1.setTop (mkF m 79 Lo5 [(.int (0 : Int32))])) _
            exact (own_no_up cc hc69 hc75).elim
    · refine XS.icmpYes X1.here hx rfl (pc0 := 29) (pc' := 36) rfl (hb hby at_29) rfl (Jvm.Free.XT.ii_ne_t hc29) (by decide) (by decide) ?_
      show Steps p.tables e below (T1.setTop (mkF m 36 Lo2 [])) _
      refine XS.iconst X1.here hx rfl (hb hby at_36) ?_
      show Steps p.tables e below (T1.setTop (mkF m 37 Lo2 [(.int (0 : Int32))])) _
      refine XS.istore X1.here hx rfl (hb hby at_37) rfl (l' := Lo6) rfl ?_
      show Steps p.tables e below (T1.setTop (mkF m 39 Lo6 [])) _
      refine XS.iloadN X1.here hx rfl (hb hby at_39) rfl ?_
      show Steps p.tables e below (T1.setTop (mkF m 40 Lo6 [(.int (own_lower cc))])) _
      refine XS.iloadN X1.here hx rfl (hb hby at_40) rfl ?_
      show Steps p.tables e below (T1.setTop (mkF m 41 Lo6 [(.int cc), (.int (own_lower cc))])) _
      refine XS.bipush X1.here hx rfl (hb hby at_41) ?_
      show Steps p.tables e below (T1.setTop (mkF m 43 Lo6 [(.int (32 : Int32)), (.int cc), (.int (own_lower cc))])) _
      refine XS.iadd X1.here hx rfl (hb hby at_43) rfl ?_
      show Steps p.tables e below (T1.setTop (mkF m 44 Lo6 [(.int (cc + (32 : Int32))), (.int (own_lower cc))])) _
      by_cases hc44 : (own_lower cc) = (cc + (32 : Int32))
      · refine XS.icmpNo X1.here hx rfl (hb hby at_44) rfl (Jvm.Free.XT.ii_ne_f hc44) ?_
        show Steps p.tables e below (T1.setTop (mkF m 47 Lo6 [])) _
        refine XS.iconst X1.here hx rfl (hb hby at_47) ?_
        show Steps p.tables e below (T1.setTop (mkF m 48 Lo6 [(.int (1 : Int32))])) _
        refine XS.goto X1.here hx rfl (pc0 := 48) (pc' := 52) rfl (hb hby at_48) (by decide) (by decide) ?_
        show Steps p.tables e below (T1.setTop (mkF m 52 Lo6 [(.int (1 : Int32))])) _
        refine XS.istore X1.here hx rfl (hb hby at_52) rfl (l' := Lo7) rfl ?_
        show Steps p.tables e below (T1.setTop (mkF m 54 Lo7 [])) _
        refine XS.iload X1.here hx rfl (hb hby at_54) rfl ?_
        show Steps p.tables e below (T1.setTop (mkF m 56 Lo7 [(.int (0 : Int32))])) _
        refine XS.ifNo X1.here hx rfl (hb hby at_56) rfl (by first | rfl | decide) ?_
        show Steps p.tables e below (T1.setTop (mkF m 59 Lo7 [])) _
        refine XS.iload X1.here hx rfl (hb hby at_59) rfl ?_
        show Steps p.tables e below (T1.setTop (mkF m 61 Lo7 [(.int (1 : Int32))])) _
        refine XS.ifYes X1.here hx rfl (pc0 := 61) (pc' := 66) rfl (hb hby at_61) rfl (by first | rfl | decide) (by decide) (by decide) ?_
        show Steps p.tables e below (T1.setTop (mkF m 66 Lo7 [])) _
        refine XS.iloadN X1.here hx rfl (hb hby at_66) rfl ?_
        show Steps p.tables e below (T1.setTop (mkF m 67 Lo7 [(.int (own_lower cc))])) _
        refine XS.bipush X1.here hx rfl (hb hby at_67) ?_
        show Steps p.tables e below (T1.setTop (mkF m 69 Lo7 [(.int (65 : Int32)), (.int (own_lower cc))])) _
        by_cases hc69 : (own_lower cc) < (65 : Int32)
        · refine XS.icmpYes X1.here hx rfl (pc0 := 69) (pc' := 80) rfl (hb hby at_69) rfl (Jvm.Free.XT.ii_lt_t hc69) (by decide) (by decide) ?_
          show Steps p.tables e below (T1.setTop (mkF m 80 Lo7 [])) _
          refine XS.iload X1.here hx rfl (hb hby at_80) rfl ?_
          show Steps p.tables e below (T1.setTop (mkF m 82 Lo7 [(.int (0 : Int32))])) _
          refine XS.ifNo X1.here hx rfl (hb hby at_82) rfl (by first | rfl | decide) ?_
          show Steps p.tables e below (T1.setTop (mkF m 85 Lo7 [])) _
          refine XS.iloadN X1.here hx rfl (hb hby at_85) rfl ?_
          show Steps p.tables e below (T1.setTop (mkF m 86 Lo7 [(.int (own_lower cc))])) _
          refine XS.bipush X1.here hx rfl (hb hby at_86) ?_
          show Steps p.tables e below (T1.setTop (mkF m 88 Lo7 [(.int (97 : Int32)), (.int (own_lower cc))])) _
          by_cases hc88 : (own_lower cc) < (97 : Int32)
          · refine XS.icmpYes X1.here hx rfl (pc0 := 88) (pc' := 97) rfl (hb hby at_88) rfl (Jvm.Free.XT.ii_lt_t hc88) (by decide) (by decide) ?_
            show Steps p.tables e below (T1.setTop (mkF m 97 Lo7 [])) _
            refine XS.iconst X1.here hx rfl (hb hby at_97) ?_
            show Steps p.tables e below (T1.setTop (mkF m 98 Lo7 [(.int (0 : Int32))])) _
            exact (own_low cc hc29 (Or.inl hc88)).elim
          · refine XS.icmpNo X1.here hx rfl (hb hby at_88) rfl (Jvm.Free.XT.ii_lt_f hc88) ?_
            show Steps p.tables e below (T1.setTop (mkF m 91 Lo7 [])) _
            refine XS.iloadN X1.here hx rfl (hb hby at_91) rfl ?_
            show Steps p.tables e below (T1.setTop (mkF m 92 Lo7 [(.int (own_lower cc))])) _
            refine XS.bipush X1.here hx rfl (hb hby at_92) ?_
            show Steps p.tables e below (T1.setTop (mkF m 94 Lo7 [(.int (122 : Int32)), (.int (own_lower cc))])) _
            by_cases hc94 : (122 : Int32) < (own_lower cc)
            · refine XS.icmpNo X1.here hx rfl (hb hby at_94) rfl (Jvm.Free.XT.ii_le_f hc94) ?_
              show Steps p.tables e below (T1.setTop (mkF m 97 Lo7 [])) _
              refine XS.iconst X1.here hx rfl (hb hby at_97) ?_
              show Steps p.tables e below (T1.setTop (mkF m 98 Lo7 [(.int (0 : Int32))])) _
              exact (own_low cc hc29 (Or.inr hc94)).elim
            · refine XS.icmpYes X1.here hx rfl (pc0 := 94) (pc' := 99) rfl (hb hby at_94) rfl (Jvm.Free.XT.ii_le_t hc94) (by decide) (by decide) ?_
              show Steps p.tables e below (T1.setTop (mkF m 99 Lo7 [])) _
              refine XS.iconst X1.here hx rfl (hb hby at_99) ?_
              show Steps p.tables e below (T1.setTop (mkF m 100 Lo7 [(.int (1 : Int32))])) _
              exact own_retZ X1 hx Bd.returns (hb hby at_100) rfl rfl hr
        · refine XS.icmpNo X1.here hx rfl (hb hby at_69) rfl (Jvm.Free.XT.ii_lt_f hc69) ?_
          show Steps p.tables e below (T1.setTop (mkF m 72 Lo7 [])) _
          refine XS.iloadN X1.here hx rfl (hb hby at_72) rfl ?_
          show Steps p.tables e below (T1.setTop (mkF m 73 Lo7 [(.int (own_lower cc))])) _
          refine XS.bipush X1.here hx rfl (hb hby at_73) ?_
          show Steps p.tables e below (T1.setTop (mkF m 75 Lo7 [(.int (90 : Int32)), (.int (own_lower cc))])) _
          by_cases hc75 : (90 : Int32) < (own_lower cc)
          · refine XS.icmpYes X1.here hx rfl (pc0 := 75) (pc' := 80) rfl (hb hby at_75) rfl (Jvm.Free.XT.ii_gt_t hc75) (by decide) (by decide) ?_
            show Steps p.tables e below (T1.setTop (mkF m 80 Lo7 [])) _
            refine XS.iload X1.here hx rfl (hb hby at_80) rfl ?_
            show Steps p.tables e below (T1.setTop (mkF m 82 Lo7 [(.int (0 : Int32))])) _
            refine XS.ifNo X1.here hx rfl (hb hby at_82) rfl (by first | rfl | decide) ?_
            show Steps p.tables e below (T1.setTop (mkF m 85 Lo7 [])) _
            refine XS.iloadN X1.here hx rfl (hb hby at_85) rfl ?_
            show Steps p.tables e below (T1.setTop (mkF m 86 Lo7 [(.int (own_lower cc))])) _
            refine XS.bipush X1.here hx rfl (hb hby at_86) ?_
            show Steps p.tables e below (T1.setTop (mkF m 88 Lo7 [(.int (97 : Int32)), (.int (own_lower cc))])) _
            by_cases hc88 : (own_lower cc) < (97 : Int32)
            · refine XS.icmpYes X1.here hx rfl (pc0 := 88) (pc' := 97) rfl (hb hby at_88) rfl (Jvm.Free.XT.ii_lt_t hc88) (by decide) (by decide) ?_
              show Steps p.tables e below (T1.setTop (mkF m 97 Lo7 [])) _
              refine XS.iconst X1.here hx rfl (hb hby at_97) ?_
              show Steps p.tables e below (T1.setTop (mkF m 98 Lo7 [(.int (0 : Int32))])) _
              exact (own_low cc hc29 (Or.inl hc88)).elim
            · refine XS.icmpNo X1.here hx rfl (hb hby at_88) rfl (Jvm.Free.XT.ii_lt_f hc88) ?_
              show Steps p.tables e below (T1.setTop (mkF m 91 Lo7 [])) _
              refine XS.iloadN X1.here hx rfl (hb hby at_91) rfl ?_
              show Steps p.tables e below (T1.setTop (mkF m 92 Lo7 [(.int (own_lower cc))])) _
              refine XS.bipush X1.here hx rfl (hb hby at_92) ?_
              show Steps p.tables e below (T1.setTop (mkF m 94 Lo7 [(.int (122 : Int32)), (.int (own_lower cc))])) _
              by_cases hc94 : (122 : Int32) < (own_lower cc)
              · refine XS.icmpNo X1.here hx rfl (hb hby at_94) rfl (Jvm.Free.XT.ii_le_f hc94) ?_
                show Steps p.tables e below (T1.setTop (mkF m 97 Lo7 [])) _
                refine XS.iconst X1.here hx rfl (hb hby at_97) ?_
                show Steps p.tables e below (T1.setTop (mkF m 98 Lo7 [(.int (0 : Int32))])) _
                exact (own_low cc hc29 (Or.inr hc94)).elim
              · refine XS.icmpYes X1.here hx rfl (pc0 := 94) (pc' := 99) rfl (hb hby at_94) rfl (Jvm.Free.XT.ii_le_t hc94) (by decide) (by decide) ?_
                show Steps p.tables e below (T1.setTop (mkF m 99 Lo7 [])) _
                refine XS.iconst X1.here hx rfl (hb hby at_99) ?_
                show Steps p.tables e below (T1.setTop (mkF m 100 Lo7 [(.int (1 : Int32))])) _
                exact own_retZ X1 hx Bd.returns (hb hby at_100) rfl rfl hr
          · refine XS.icmpNo X1.here hx rfl (hb hby at_75) rfl (Jvm.Free.XT.ii_gt_f hc75) ?_
            show Steps p.tables e below (T1.setTop (mkF m 78 Lo7 [])) _
            refine XS.iconst X1.here hx rfl (hb hby at_78) ?_
            show Steps p.tables e below (T1.setTop (mkF m 79 Lo7 [(.int (0 : Int32))])) _
            exact (own_no_up cc hc69 hc75).elim
      · refine XS.icmpYes X1.here hx rfl (pc0 := 44) (pc' := 51) rfl (hb hby at_44) rfl (Jvm.Free.XT.ii_ne_t hc44) (by decide) (by decide) ?_
        show Steps p.tables e below (T1.setTop (mkF m 51 Lo6 [])) _
        refine XS.iconst X1.here hx rfl (hb hby at_51) ?_
        show Steps p.tables e below (T1.setTop (mkF m 52 Lo6 [(.int (0 : Int32))])) _
        refine XS.istore X1.here hx rfl (hb hby at_52) rfl (l' := Lo8) rfl ?_
        show Steps p.tables e below (T1.setTop (mkF m 54 Lo8 [])) _
        refine XS.iload X1.here hx rfl (hb hby at_54) rfl ?_
        show Steps p.tables e below (T1.setTop (mkF m 56 Lo8 [(.int (0 : Int32))])) _
        refine XS.ifNo X1.here hx rfl (hb hby at_56) rfl (by first | rfl | decide) ?_
        show Steps p.tables e below (T1.setTop (mkF m 59 Lo8 [])) _
        refine XS.iload X1.here hx rfl (hb hby at_59) rfl ?_
        show Steps p.tables e below (T1.setTop (mkF m 61 Lo8 [(.int (0 : Int32))])) _
        refine XS.ifNo X1.here hx rfl (hb hby at_61) rfl (by first | rfl | decide) ?_
        show Steps p.tables e below (T1.setTop (mkF m 64 Lo8 [])) _
        refine XS.iconst X1.here hx rfl (hb hby at_64) ?_
        show Steps p.tables e below (T1.setTop (mkF m 65 Lo8 [(.int (0 : Int32))])) _
        exact (own_one cc hc29 hc44).elim
  refine ⟨_, _, pre0 _ ?_, hrun, hended, _, _, rfl, ?_, ⟨_, rfl⟩, hW, hsame.mono (by decide) (by decide)⟩
  · show Steps p.tables e below (s₁.setTop (mkF m 0 Lo9 [])) _
    refine XS.iloadN X0.here hx rfl (hb hby at_0) rfl ?_
    show Steps p.tables e below (s₁.setTop (mkF m 1 Lo9 [(.int p2)])) _
    refine XS.iconst X0.here hx rfl (hb hby at_1) ?_
    show Steps p.tables e below (s₁.setTop (mkF m 2 Lo9 [(.int (1 : Int32)), (.int p2)])) _
    refine XS.iand X0.here hx rfl (hb hby at_2) rfl ?_
    show Steps p.tables e below (s₁.setTop (mkF m 3 Lo9 [(.int (p2 &&& (1 : Int32)))])) _
    by_cases hc3 : (p2 &&& (1 : Int32)) = (0 : Int32)
    · refine XS.ifYes X0.here hx rfl (pc0 := 3) (pc' := 20) rfl (hb hby at_3) rfl (Jvm.Free.XT.i0_eq_t hc3) (by decide) (by decide) ?_
      show Steps p.tables e below (s₁.setTop (mkF m 20 Lo9 [])) _
      refine XS.iloadN X0.here hx rfl (hb hby at_20) rfl ?_
      show Steps p.tables e below (s₁.setTop (mkF m 21 Lo9 [(.int p1)])) _
      refine XS.istoreN X0.here hx rfl (hb hby at_21) rfl (l' := Lo10) rfl ?_
      show Steps p.tables e below (s₁.setTop (mkF m 22 Lo10 [])) _
      exact J22 _ (by rw [hcc, own_c, if_pos hc3])
    · refine XS.ifNo X0.here hx rfl (hb hby at_3) rfl (Jvm.Free.XT.i0_eq_f hc3) ?_
      show Steps p.tables e below (s₁.setTop (mkF m 6 Lo9 [])) _
      refine XS.bipush X0.here hx rfl (hb hby at_6) ?_
      show Steps p.tables e below (s₁.setTop (mkF m 8 Lo9 [(.int (60 : Int32))])) _
      refine XS.iloadN X0.here hx rfl (hb hby at_8) rfl ?_
      show Steps p.tables e below (s₁.setTop (mkF m 9 Lo9 [(.int p1), (.int (60 : Int32))])) _
      refine X0.ldcInt hx hown (mvT hZ w0_) (g := (mkF m 9 Lo9 [(.int p1), (.int (60 : Int32))])) rfl (hb hby at_9) _ ?_
      show Steps p.tables e below (s₁.setTop (mkF m 11 Lo9 [(.int (2147483647 : Int32)), (.int p1), (.int (60 : Int32))])) _
      refine XS.iand X0.here hx rfl (hb hby at_11) rfl ?_
      show Steps p.tables e below (s₁.setTop (mkF m 12 Lo9 [(.int (p1 &&& (2147483647 : Int32))), (.int (60 : Int32))])) _
      refine XS.bipush X0.here hx rfl (hb hby at_12) ?_
      show Steps p.tables e below (s₁.setTop (mkF m 14 Lo9 [(.int (70 : Int32)), (.int (p1 &&& (2147483647 : Int32))), (.int (60 : Int32))])) _
      refine XS.irem X0.here hx rfl (hb hby at_14) rfl (by decide) ?_
      show Steps p.tables e below (s₁.setTop (mkF m 15 Lo9 [(.int ((p1 &&& (2147483647 : Int32)) - ((p1 &&& (2147483647 : Int32)) / (70 : Int32)) * (70 : Int32))), (.int (60 : Int32))])) _
      refine XS.iadd X0.here hx rfl (hb hby at_15) rfl ?_
      show Steps p.tables e below (s₁.setTop (mkF m 16 Lo9 [(.int ((60 : Int32) + ((p1 &&& (2147483647 : Int32)) - ((p1 &&& (2147483647 : Int32)) / (70 : Int32)) * (70 : Int32))))])) _
      refine XS.istoreN X0.here hx rfl (hb hby at_16) rfl (l' := Lo11) rfl ?_
      show Steps p.tables e below (s₁.setTop (mkF m 17 Lo11 [])) _
      refine XS.goto X0.here hx rfl (pc0 := 17) (pc' := 22) rfl (hb hby at_17) (by decide) (by decide) ?_
      show Steps p.tables e below (s₁.setTop (mkF m 22 Lo11 [])) _
      exact J22 _ (by rw [hcc, own_c, if_neg hc3])
  · show Q0 Z p1 p2 h0 n0 _ T1.heap _
    exact ⟨rfl, N1⟩
set_option maxRecDepth 65536 in
set_option maxHeartbeats 40000000 in
theorem comes_1 {Post : Tables → Env → Array Value → State → Outcome → State → Prop} (hpost : ∀ tb e args s v u, (limb_1_1.after args s (.returned v) u = true ∧ limb_1_2.after args s (.returned v) u = true ∧ True) → FrameEnd s (.returned v) u (Jvm.fieldLocs frame_1_writes args s ++ Jvm.arrayLocs frame_1_arrays args s ++ Jvm.staticLocs frame_1_statics s) 0 0 → Post tb e args s (.returned v) u) :
    ArmFor flags0 classFile x code maxLocals ret World_1 tables_1 room_1 Calls_1 rest_1 Pre_1 Post := by
  intro l hfl _ _ p e ha hc hk s m args below hf hA hF happ hP
  obtain ⟨hcalls, hrest, hpre⟩ := hP
  obtain ⟨-, -, -, hnamed, -, -, -, hat⟩ := (Spec.applies_iff hf).mp happ
  obtain ⟨hg, hn⟩ := and_e (Cond.before_iff.mp (show (Jvm.Cond.and given_1 narrow_1).before args s = true from hpre))
  obtain ⟨gc, g0⟩ := and_e hg
  obtain ⟨ga0, gb0⟩ := and_e g0
  obtain ⟨w0, w1, rfl⟩ : ∃ w0 w1 : Value, args = #[w0, w1] := by
    have hs : args.size = 2 := by simpa [Cond.value, given_1] using gc
    obtain ⟨L⟩ := args
    match L, hs with
    | [w0, w1], _ => exact ⟨w0, w1, rfl⟩
  have hw := fun d (hd : d ∈ tables_1) => atoms_spec (ws := Jvm.Cond.code x code maxLocals ret :: tables_1) hat d (List.mem_cons_of_mem _ hd)
  obtain ⟨i0, ei0⟩ := is_v ga0
  obtain rfl : w0 = (.int i0) := Option.some.inj ei0
  obtain ⟨i1, ei1⟩ := is_v gb0
  obtain rfl : w1 = (.int i1) := Option.some.inj ei1
  obtain ⟨n, o, h1, h2, h3, _, L, rfl, ⟨rfl, N⟩, hq⟩ := rm0 l s _ hw tables_1 i0 i1 s.heap s.heap.size (Nat.le_refl _) p e ha hc hk s m _ below hf ((Spec.applies_iff_loose hf).mp happ).1 ⟨rfl, State.Warmed39.refl s, rfl⟩ trivial
  refine ⟨n, _, h1, h2, h3, hpost _ _ _ _ _ _ ⟨Cond.after_iff.mpr rfl, Cond.after_iff.mpr (eq_i res_at (Term.int_eval (1)) rfl), trivial⟩ ⟨hq.1, hq.2.1, (hq.2.2.sift fun y hy => Or.inr (N y hy)).mono (by decide) (by decide)⟩⟩
theorem main_1_1 : Claimed_1_1 := comes_1 fun _ _ _ _ _ _ h hF => ⟨h.1, hF⟩
theorem main_1_2 : Claimed_1_2 := comes_1 fun _ _ _ _ _ _ h hF => ⟨h.2.1, hF⟩
end Jvm.Pilot.@@N@@
namespace Jvm.Pilot.@@N@@
open Jvm Jvm.ClassFile Sem Op Lib Jvm.Free Jvm.Stand Jvm.Pilot.@@N@@.Jvm.D
/-! MADE BY PROGRAM (witnessworld.py) out of the Statement's table words and the real class files: 9 classes; the members and pool entries that the words name. The judged class is class 1, her method 1. -/
namespace start1
open Jvm.ClassFile
def u (s : String) : CpInfo := .utf8 (stringToUtf16 s)
/-- a pool by its gaps: so many unusable entries, then the entry; so many at the end -/
def gap : Nat → List CpInfo → List CpInfo
  | 0, r => r
  | n + 1, r => .unusable :: gap n r
def poolList (es : List (Nat × CpInfo)) (last : Nat) : List CpInfo := es.foldr (fun e r => gap e.1 (e.2 :: r)) (gap last [])
def pool (es : List (Nat × CpInfo)) (last : Nat) : Array CpInfo := ⟨poolList es last⟩
def fileOf (pool : Array CpInfo) (this : Nat) (attrs : Array Attribute := #[]) (ms : Array MethodInfo := #[]) (fl : Nat := 33) (sup : Nat := 0) (ifs : Array Nat := #[]) (fds : Array FieldInfo := #[]) : ClassFile where
  minorVersion := 0
  majorVersion := 65
  constantPool := pool
  accessFlags := fl
  thisClass := this
  superClass := sup
  interfaces := ifs
  fields := fds
  methods := ms
  attributes := attrs
def plain (name : String) (sup : Option ClassId) : Class where
  name := name
  kind := .ordinary
  loader := none
  accessFlags := 33
  super := sup
  interfaces := #[]
  cf := none
  fields := #[]
  methods := #[]
  instanceTypes := #[]
  staticTypes := #[]
  resolved := #[]
  callSites := []
  init := .initialized
  statics := none
  mirror := none

def pool0 : Array CpInfo := pool [(5, u "<init>"), (0, u "()V"), (1, .class_ 10), (1, u "java/lang/Object")] 113

def k0m0 : Method := { name := "<init>", desc := "()V", sig := { parameters := [], returnType := none }, accessFlags := 1, code := none }
/-- java/lang/Object -/
def k0 : Class := { plain "java/lang/Object" none with
  accessFlags := 33
  interfaces := #[]
  cf := some (fileOf pool0 8 #[] #[{ accessFlags := 1, nameIndex := 5, descriptorIndex := 6, attributes := #[] }] 33 0 #[] #[])
  fields := #[]
  methods := #[k0m0]
  instanceTypes := #[]
  staticTypes := #[]
  resolved := Array.replicate 124 none
  statics := none }

def pool1 : Array CpInfo := pool [(2, .class_ 4), (1, u "java/lang/Object"), (0, u "<init>"), (0, u "()V"), (0, .integer 2147483647), (0, .methodref 9 10), (0, .class_ 11), (0, .nameAndType 12 13), (0, u "com/example/crawlscope/crawlscope/url/Ascii"), (0, u "toLowerCase"), (0, u "(I)I"), (0, .class_ 15), (0, u "com/example/crawlscope/crawlscope/url/AsciiToLowerCasePinLaw"), (2, u "law"), (0, u "(II)Z")] 3

def k1m0 : Method := { name := "<init>", desc := "()V", sig := { parameters := [], returnType := none }, accessFlags := 2, code := none }
def k1c1 : Code := { maxStack := 3, maxLocals := 6, code := code, exceptionTable := #[], attributes := #[] }
def k1m1 : Method := { name := "law", desc := "(II)Z", sig := { parameters := [.int, .int], returnType := some .boolean }, accessFlags := 9, code := some k1c1 }
/-- com/example/crawlscope/crawlscope/url/AsciiToLowerCasePinLaw -/
def k1 : Class := { plain "com/example/crawlscope/crawlscope/url/AsciiToLowerCasePinLaw" (some 0) with
  accessFlags := 49
  interfaces := #[]
  cf := some (fileOf pool1 14 #[] #[{ accessFlags := 2, nameIndex := 5, descriptorIndex := 6, attributes := #[] }, { accessFlags := 9, nameIndex := 18, descriptorIndex := 19, attributes := #[] }] 49 2 #[] #[])
  fields := #[]
  methods := #[k1m0, k1m1]
  instanceTypes := #[]
  staticTypes := #[]
  resolved := Array.replicate 23 none
  statics := none }

def pool2 : Array CpInfo := pool [(2, .class_ 4), (1, u "java/lang/Object"), (0, u "<init>"), (0, u "()V"), (1, .class_ 10), (1, u "com/example/crawlscope/crawlscope/url/Ascii"), (14, u "toLowerCase"), (0, u "(I)I")] 2

def k2m0 : Method := { name := "<init>", desc := "()V", sig := { parameters := [], returnType := none }, accessFlags := 2, code := none }
def k2c1 : Code := { maxStack := 2, maxLocals := 1, code := prog_16_method_6_code, exceptionTable := #[], attributes := #[] }
def k2m1 : Method := { name := "toLowerCase", desc := "(I)I", sig := { parameters := [.int], returnType := some .int }, accessFlags := 8, code := some k2c1 }
/-- com/example/crawlscope/crawlscope/url/Ascii -/
def k2 : Class := { plain "com/example/crawlscope/crawlscope/url/Ascii" (some 0) with
  accessFlags := 48
  interfaces := #[]
  cf := some (fileOf pool2 8 #[] #[{ accessFlags := 2, nameIndex := 5, descriptorIndex := 6, attributes := #[] }, { accessFlags := 8, nameIndex := 25, descriptorIndex := 26, attributes := #[] }] 48 2 #[] #[])
  fields := #[]
  methods := #[k2m0, k2m1]
  instanceTypes := #[]
  staticTypes := #[]
  resolved := Array.replicate 29 none
  statics := none }

def pool3 : Array CpInfo := pool [(1, u "java/lang/Cloneable"), (0, .class_ 1), (0, u "java/lang/Object"), (0, .class_ 3)] 3

/-- java/lang/Cloneable -/
def k3 : Class := { plain "java/lang/Cloneable" (some 0) with
  accessFlags := 1537
  interfaces := #[]
  cf := some (fileOf pool3 2 #[] #[] 1537 4 #[] #[])
  fields := #[]
  methods := #[]
  instanceTypes := #[]
  staticTypes := #[]
  resolved := Array.replicate 8 none
  statics := none }

def pool4 : Array CpInfo := pool [(1, u "java/io/Serializable"), (0, .class_ 1), (0, u "java/lang/Object"), (0, .class_ 3)] 3

/-- java/io/Serializable -/
def k4 : Class := { plain "java/io/Serializable" (some 0) with
  accessFlags := 1537
  interfaces := #[]
  cf := some (fileOf pool4 2 #[] #[] 1537 4 #[] #[])
  fields := #[]
  methods := #[]
  instanceTypes := #[]
  staticTypes := #[]
  resolved := Array.replicate 8 none
  statics := none }

/-- the primitive byte -/
def k5 : Class := { plain "byte" none with kind := .primitive 'B', accessFlags := 0x411 }
/-- [B -/
def k6 : Class := { plain "[B" (some 0) with kind := .array 5 .byte, interfaces := #[3, 4], accessFlags := 1041 }

/-- the primitive int -/
def k7 : Class := { plain "int" none with kind := .primitive 'I', accessFlags := 0x411 }
/-- [I -/
def k8 : Class := { plain "[I" (some 0) with kind := .array 7 .int, interfaces := #[3, 4], accessFlags := 1041 }

def heap : Heap := #[]
def classes : Array Class := #[k0, k1, k2, k3, k4, k5, k6, k7, k8]
def interned : List (Array UInt16 × Addr) := []
def slotsUsed : Nat := 0
def theMethod : MethodId := ⟨1, 1⟩
def args0 : Array Value := #[.int 70, .int 0]
def aboutOver (below : List Frame) : State where
  vm := { classes := classes, interned := interned.toArray }
  heap := heap
  slotsUsed := slotsUsed
  threads := #[{ frames := .invoking theMethod args0 :: below }]
def below0 : List Frame := [.native { method := ⟨0, 0⟩, args := #[] }]
def about1 : State := aboutOver below0
def p0 : Program := .bare "" "" ""
def e0 : Env := launch0.env 0 0 0
theorem w_frames : about1.frames = Frame.invoking theMethod args0 :: below0 := rfl
set_option maxRecDepth 65536 in
theorem w_args : argsFit about1.vm theMethod args0 = true := by decide +kernel
set_option maxRecDepth 65536 in
theorem w_heap : heapFits about1 = true := by decide +kernel
set_option maxRecDepth 65536 in
theorem w_runnable : about1.curStatus? = some .runnable := by decide +kernel
set_option maxRecDepth 65536 in
theorem w_alone : about1.alone = true := by decide +kernel
set_option maxRecDepth 65536 in
theorem w_named : about1.methodNamed? x = some theMethod := by decide +kernel
set_option maxRecDepth 65536 in
theorem w_hears : about1.hears theMethod below0 = true := by decide +kernel
set_option maxRecDepth 65536 in
theorem w_ripe : about1.ripe theMethod args0 below0 = true := by decide +kernel
theorem w_running : about1.status = .running := rfl
set_option maxRecDepth 65536 in
theorem w_room : about1.hasRoom e0.platform room_1 = true :=
  launch0.hasRoom_least _ room_1 (by decide +kernel) (by decide +kernel) (by decide +kernel) (by decide +kernel) (by decide +kernel) (by decide +kernel)
theorem allAtoms_all (ts : List Jvm.Cond) (a : Array Jvm.Value) (st : Jvm.State) : (allAtoms ts).before a st = ts.all (fun c => c.before a st) := by
  induction ts with
  | nil => rfl
  | cons c t ih =>
    show (Jvm.Cond.and c (allAtoms t)).before a st = _
    rw [Jvm.Cond.before_and, ih, List.all_cons]
def words1 : List Jvm.Cond := Jvm.Cond.code x code maxLocals ret :: tables_1
/-- a 'code' word, met by the world's own term for the bytes: nothing is compared byte by byte -/
theorem code_word {y : MethodName} {bytes : ByteArray} {mx : Nat} {rt : Option FieldType} {a : Array Value} {s : State} {m : MethodId} {meth : Method} {c : Code} (h1 : s.methodNamed? y = some m) (h2 : s.vm.method? m = some meth) (h3 : meth.code = some c) (h4 : c.code = bytes)
    (h5 : (c.maxLocals == mx && c.exceptionTable.isEmpty && decide (c.maxStack ≤ mostOperands) && decide (meth.sig.returnType = rt) && !meth.locks && decide (parseMethodDescriptor y.desc = some meth.sig)) = true) : (Jvm.Cond.code y bytes mx rt).before a s = true := by
  simp only [Bool.and_eq_true, beq_iff_eq, Bool.not_eq_true', decide_eq_true_eq] at h5
  obtain ⟨⟨⟨⟨⟨g1, g2⟩, g3⟩, g4⟩, g5⟩, g6⟩ := h5
  simp [Cond.before, Cond.holds, Cond.value, h1, h2, h3, h4, g1, g2, g3, g4, g5, g6]
def isCode : Jvm.Cond → Bool
  | .code _ _ _ _ => true
  | _ => false
theorem all_split {L : List Jvm.Cond} {P : Jvm.Cond → Bool} (h1 : L.all (fun c => isCode c || P c) = true) (h2 : ∀ c ∈ L.filter isCode, P c = true) : L.all P = true := by
  refine List.all_eq_true.mpr fun c hc => ?_
  have h := List.all_eq_true.mp h1 c hc
  rcases Bool.eq_false_or_eq_true (isCode c) with hi | hi
  · exact h2 c (List.mem_filter.mpr ⟨hc, hi⟩)
  · simpa [hi] using h
set_option maxRecDepth 65536 in
theorem w_c0 : (Jvm.Cond.code x code maxLocals ret).before args0 about1 = true := code_word (m := ⟨1, 1⟩) (meth := k1m1) (c := k1c1) (by decide +kernel) rfl rfl rfl (by decide +kernel)
set_option maxRecDepth 65536 in
theorem w_c1 : (Jvm.Cond.code ({ cls := "com/example/crawlscope/crawlscope/url/Ascii", name := "toLowerCase", desc := "(I)I" } : Jvm.MethodName) prog_16_method_6_code (1 : Nat) (Option.some Jvm.ClassFile.FieldType.int)).before args0 about1 = true := code_word (m := ⟨2, 1⟩) (meth := k2m1) (c := k2c1) (by decide +kernel) rfl rfl rfl (by decide +kernel)
def codes1 : List Jvm.Cond := [Jvm.Cond.code x code maxLocals ret, Jvm.Cond.code ({ cls := "com/example/crawlscope/crawlscope/url/Ascii", name := "toLowerCase", desc := "(I)I" } : Jvm.MethodName) prog_16_method_6_code (1 : Nat) (Option.some Jvm.ClassFile.FieldType.int)]
set_option maxRecDepth 65536 in
theorem codes_eq : words1.filter isCode = codes1 := rfl
theorem w_codes : ∀ c ∈ words1.filter isCode, c.before args0 about1 = true := by
  rw [codes_eq]
  intro c hc
  simp only [codes1, List.mem_cons, List.not_mem_nil, or_false] at hc
  rcases hc with rfl | rfl
  · exact w_c0
  · exact w_c1
set_option maxRecDepth 65536 in
theorem w_t1 : words1.all (fun c => isCode c || c.before args0 about1) = true := by decide +kernel
theorem w_tables : (allAtoms (Jvm.Cond.code x code maxLocals ret :: tables_1)).before args0 about1 = true := by
  rw [allAtoms_all]
  show words1.all (fun c => c.before args0 about1) = true
  refine all_split ?_ w_codes
  rw [w_t1]
set_option maxRecDepth 65536 in
theorem w_case : (Jvm.Cond.and given_1 narrow_1).before args0 about1 = true := by decide +kernel
theorem w_applies : (headSpec (Jvm.Cond.code x code maxLocals ret :: tables_1) room_1).applies x e0.platform about1 = true :=
  (Spec.applies_iff w_frames).mpr ⟨w_running, w_runnable, w_alone, w_named, w_hears, w_ripe, w_room, w_tables⟩
theorem atStart : AtStart classFile x code maxLocals ret World_1 tables_1 room_1 Calls_1 rest_1 Pre_1 launch0 p0 e0 about1 theMethod args0 below0 :=
  ⟨lists_1, trivial, launch0.admits_env _ _ _, launch0.least_env, fairChoices_fair.cas, fairChoices_fair.clock, w_frames, w_args, w_heap, w_applies, trivial, trivial, w_case⟩
end start1
theorem witness_1 : WitnessClaimed_1 := ⟨start1.p0, start1.e0, start1.about1, start1.theMethod, start1.args0, start1.below0, start1.atStart⟩
end Jvm.Pilot.@@N@@
