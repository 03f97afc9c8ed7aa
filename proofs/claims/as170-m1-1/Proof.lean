import JvmDerived
import JvmDerived.Pilot.@@N@@Statement
import JvmDerived.Pilot.@@N@@Code
set_option linter.unusedVariables false
set_option linter.unusedSimpArgs false
namespace Jvm.RoadKit
open Sem ClassFile Op Lib Jvm.Stand Jvm.Free Jvm.LawKit
section OwnRets
variable {p : Program} {l : Launch} {e : Env} {R : Room} {s : State} {m : MethodId} {args : Array Value} {below : List Frame} {meth : Method} {c : Code} {T : State} {locs : List Loc} {cells slots : Nat}
theorem own_retI (X : Stand p l e R s m args below meth c T locs cells slots) (hx : p.tables.exec = Jvm.exec) {pc : Nat} {Ls : Array Slot} {z z' : Int32} {rest : List Value} (hret : meth.sig.returnType = some .int) (hd : decode c.code pc = .ok (.ireturn, 1)) (hz : z' = z) {fs : List Frame}
    (hl : ∀ (f : JFrame) (acts : List Action), f.method = m → f.locked = none → f.entered = [] → (doReturn e (T.setTop f) acts (some (.int z'))).1 = T.setFrames fs) : Steps p.tables e below (T.setTop (mkF m pc Ls (.int z :: rest))) (T.setFrames fs) := by
  subst hz
  have hm' : T.vm.method? m = some meth := X.method'
  have hn : narrow .int (.int z') = .int z' := rfl
  show Steps p.tables e below (T.setTop { method := m, pc := pc, locals := Ls, stack := _ :: rest, locked := none }) _
  jvm_step X.here [X.here.top, hx, hd, hm', hret, hn]
  first | (intro acts; rw [hl _ acts rfl rfl rfl]) | rw [hl _ _ rfl rfl rfl]
  exact Steps.refl _
theorem own_retZ (X : Stand p l e R s m args below meth c T locs cells slots) (hx : p.tables.exec = Jvm.exec) {pc : Nat} {Ls : Array Slot} {z z' : Int32} {rest : List Value} (hret : meth.sig.returnType = some .boolean) (hd : decode c.code pc = .ok (.ireturn, 1)) (hz : z' = z) (hn : nar .boolean z = z) {fs : List Frame}
    (hl : ∀ (f : JFrame) (acts : List Action), f.method = m → f.locked = none → f.entered = [] → (doReturn e (T.setTop f) acts (some (.int z'))).1 = T.setFrames fs) : Steps p.tables e below (T.setTop (mkF m pc Ls (.int z :: rest))) (T.setFrames fs) := by
  subst hz
  refine retN X hx (t := .boolean) hret (by simp) hd ?_
  rw [hn]; exact hl
theorem own_retJ (X : Stand p l e R s m args below meth c T locs cells slots) (hx : p.tables.exec = Jvm.exec) {pc : Nat} {Ls : Array Slot} {z z' : Int64} (hret : meth.sig.returnType = some .long) (hd : decode c.code pc = .ok (.lreturn, 1)) (hz : z' = z) {fs : List Frame}
    (hl : ∀ (f : JFrame) (acts : List Action), f.method = m → f.locked = none → f.entered = [] → (doReturn e (T.setTop f) acts (some (.long z'))).1 = T.setFrames fs) : Steps p.tables e below (T.setTop (mkF m pc Ls [.long z])) (T.setFrames fs) := by
  subst hz
  exact X.lreturnOut hx hret hd hl
end OwnRets
theorem own_lw_eq_t {x y : Int64} (h : x = y) : ifCond.holds .eq (lcmpW x y) = true := (if0 _ _).trans (teq ((lw_eq x y).mpr h)).1
theorem own_lw_eq_f {x y : Int64} (h : ¬ x = y) : ifCond.holds .eq (lcmpW x y) = false := (if0 _ _).trans (feq (mt (lw_eq x y).mp h)).1
theorem own_lw_ne_t {x y : Int64} (h : ¬ x = y) : ifCond.holds .ne (lcmpW x y) = true := (if0 _ _).trans (feq (mt (lw_eq x y).mp h)).2
theorem own_lw_ne_f {x y : Int64} (h : x = y) : ifCond.holds .ne (lcmpW x y) = false := (if0 _ _).trans (teq ((lw_eq x y).mpr h)).2
theorem own_lw_lt_t {x y : Int64} (h : x < y) : ifCond.holds .lt (lcmpW x y) = true := (if0 _ _).trans (tlt ((lw_lt x y).mpr h)).1
theorem own_lw_lt_f {x y : Int64} (h : ¬ x < y) : ifCond.holds .lt (lcmpW x y) = false := (if0 _ _).trans (flt (mt (lw_lt x y).mp h)).1
theorem own_lw_ge_t {x y : Int64} (h : ¬ x < y) : ifCond.holds .ge (lcmpW x y) = true := (if0 _ _).trans (flt (mt (lw_lt x y).mp h)).2.1
theorem own_lw_ge_f {x y : Int64} (h : x < y) : ifCond.holds .ge (lcmpW x y) = false := (if0 _ _).trans (tlt ((lw_lt x y).mpr h)).2.1
end Jvm.RoadKit
namespace Jvm.Pilot.@@N@@
open Jvm Jvm.ClassFile Sem Op Lib Jvm.Free Jvm.Stand Jvm.LawKit Jvm.RoadKit Bundle Jvm.Pilot.@@N@@.Jvm.D
def own_us (p1 : Int64) : Int64 := (p1 ^^^ (((p1).toUInt64 >>> ((33 : Int32) &&& 0x3f).toInt64.toUInt64).toInt64))
theorem d5_0 : decode method_2_code 0 = .ok (.lload_n 0, 1) := by decide +kernel
theorem d5_1 : decode method_2_code 1 = .ok (.lload_n 0, 1) := by decide +kernel
theorem d5_2 : decode method_2_code 2 = .ok (.bipush 33, 2) := by decide +kernel
theorem d5_4 : decode method_2_code 4 = .ok (.lushr, 1) := by decide +kernel
theorem d5_5 : decode method_2_code 5 = .ok (.lxor, 1) := by decide +kernel
theorem d5_6 : decode method_2_code 6 = .ok (.lreturn, 1) := by decide +kernel
theorem pn_5 : plainName "com/example/cachelane/cachelane/cli/BenchKeysKeyPinLaw" = true := by first | (simp [plainName, overriddenIn]; done) | decide +kernel
theorem ef_5 (m : MethodId) (x0 : Int64) : entryFrame m #[(.long x0)] 2 = mkF m 0 #[.val (.long x0), .second] [] := by first | (simp [entryFrame, mkF, argsToLocals, Value.category]; done) | rfl
def Q5 (Z : State) (p1 : Int64) (h0 : Heap) (n0 : Nat) (v : Option Value) (h : Heap) (L : List Loc) : Prop := v = some (.long (own_us p1)) ∧ Fr n0 L ∧ h = h0
set_option maxRecDepth 65536 in
set_option maxHeartbeats 40000000 in
theorem rm5 (l : Launch) (Z : State) (a0 : Array Value) (hw : ∀ d ∈ tables_1, d.before a0 Z = true) (ws : List Jvm.Cond) (p1 : Int64) (h0 : Heap) (n0 : Nat) (Z0 : n0 ≤ h0.size)  :
    MetFree l (⟨"com/example/cachelane/cachelane/cli/BenchKeysKeyPinLaw", "unshift", "(J)J"⟩ : MethodName) (head1 (Jvm.Cond.code (⟨"com/example/cachelane/cachelane/cli/BenchKeysKeyPinLaw", "unshift", "(J)J"⟩ : MethodName) method_2_code 2 (some .long) :: ws) ({ frames := 0, cells := 0, slots := 0, locals := 0 } : Room)) (fun a U => a = #[(.long p1)] ∧ Z.Warmed39 U.vm ∧ U.heap = h0) (fun _ _ _ _ _ => True) (fun _ U o U' => ∃ v L, o = .returned v ∧ Q5 Z p1 h0 n0 v U'.heap L ∧ FrameEnd U o U' L ({ frames := 0, cells := 0, slots := 0, locals := 0 } : Room).cells ({ frames := 0, cells := 0, slots := 0, locals := 0 } : Room).slots) := by
  refine MetFree.of_bodySF (plainFor_of_name pn_5) hisR ?_
  intro p e s m args below meth c s₁ Bd hml0 hP hK
  obtain ⟨rfl, hZ, hh⟩ := hP
  have hx := Bd.exec
  have hby := Bd.bytes
  have hml : c.maxLocals = 2 := hml0
  have hown : s.vm.findClass "com/example/cachelane/cachelane/cli/BenchKeysKeyPinLaw" = some m.cls := findClass_of_methodNamed Bd.named
  have hnm := (name_of_methodNamed Bd.named Bd.method).1
  have X0 : Stand p l e ({ frames := 0, cells := 0, slots := 0, locals := 0 } : Room) s m #[(.long p1)] below meth c s₁ [] 0 0 := Stand.of_body Bd
  have e0 : s₁.heap = h0 := by rw [← hh, Bd.state]; rfl
  have N0 := Fr.nil n0
  have pre0 : ∀ t, Steps p.tables e below (s₁.setTop (mkF m 0 #[.val (.long p1), .second] [])) t → Steps p.tables e below (s₁.setTop (entryFrame m #[(.long p1)] 2)) t := fun t k => castTop (ef_5 m p1) k
  obtain ⟨fs, hr, hrun, hended, hW, hsame⟩ := X0.leave (v := some (.long (own_us p1))) (fun h => by rw [Bd.returns] at h; cases h)
  refine ⟨_, _, pre0 _ ?_, hrun, hended, _, _, rfl, ?_, ⟨_, rfl⟩, hW, hsame.mono (by decide) (by decide)⟩
  · show Steps p.tables e below (s₁.setTop (mkF m 0 #[.val (.long p1), .second] [])) _
    refine XS.lloadN X0.here hx rfl (hb hby d5_0) rfl ?_
    show Steps p.tables e below (s₁.setTop (mkF m 1 #[.val (.long p1), .second] [(.long p1)])) _
    refine XS.lloadN X0.here hx rfl (hb hby d5_1) rfl ?_
    show Steps p.tables e below (s₁.setTop (mkF m 2 #[.val (.long p1), .second] [(.long p1), (.long p1)])) _
    refine XS.bipush X0.here hx rfl (hb hby d5_2) ?_
    show Steps p.tables e below (s₁.setTop (mkF m 4 #[.val (.long p1), .second] [(.int (33 : Int32)), (.long p1), (.long p1)])) _
    refine XS.lushr X0.here hx rfl (hb hby d5_4) rfl ?_
    show Steps p.tables e below (s₁.setTop (mkF m 5 #[.val (.long p1), .second] [(.long (((p1).toUInt64 >>> ((33 : Int32) &&& 0x3f).toInt64.toUInt64).toInt64)), (.long p1)])) _
    refine XS.lxor X0.here hx rfl (hb hby d5_5) rfl ?_
    show Steps p.tables e below (s₁.setTop (mkF m 6 #[.val (.long p1), .second] [(.long (p1 ^^^ (((p1).toUInt64 >>> ((33 : Int32) &&& 0x3f).toInt64.toUInt64).toInt64)))])) _
    exact own_retJ X0 hx Bd.returns (hb hby d5_6) rfl hr
  · show Q5 Z p1 h0 n0 _ s₁.heap _
    rw [e0]
    exact ⟨rfl, N0, rfl⟩
def own_k0 (w q : Int64) : Int64 := w + q * (-7046029254386353131 : Int64)
def own_k1 (w q : Int64) : Int64 := own_us (own_k0 w q) * (-49064778989728563 : Int64)
def own_k2 (w q : Int64) : Int64 := own_us (own_k1 w q) * (-4265267296055464877 : Int64)
def own_key (w q : Int64) : Int64 := own_us (own_k2 w q)
theorem own_us_bv (z : Int64) : (own_us z).toBitVec = z.toBitVec ^^^ (z.toBitVec >>> 33) := rfl
theorem own_us_us (z : Int64) : own_us (own_us z) = z := by
  rw [← Int64.toBitVec_inj, own_us_bv, own_us_bv]
  generalize z.toBitVec = b
  have h0 : (b >>> 33) >>> 33 = 0#64 := by
    rw [← BitVec.shiftRight_add]
    exact BitVec.ushiftRight_eq_zero (by decide)
  rw [BitVec.ushiftRight_xor_distrib, h0, BitVec.xor_zero, BitVec.xor_assoc, BitVec.xor_self, BitVec.xor_zero]
theorem own_m (z a b : Int64) (h : a * b = 1) : z * a * b = z := by
  rw [Int64.mul_assoc, h, Int64.mul_one]
theorem own_back (w q : Int64) : (own_us (own_us (own_us (own_key w q) * (-7154897129451604005 : Int64)) * (5725274745694666757 : Int64)) - w) * (-1018231460777725123 : Int64) = q := by
  unfold own_key
  rw [own_us_us]
  unfold own_k2
  rw [own_m _ _ _ (by decide), own_us_us]
  unfold own_k1
  rw [own_m _ _ _ (by decide), own_us_us]
  unfold own_k0
  rw [Int64.add_comm, Int64.add_sub_cancel, own_m _ _ _ (by decide)]
theorem d2_0 : decode jdk_30_method_1_code 0 = .ok (.aload_n 0, 1) := by decide +kernel
theorem d2_1 : decode jdk_30_method_1_code 1 = .ok (.invokespecial 1, 3) := by decide +kernel
theorem d2_4 : decode jdk_30_method_1_code 4 = .ok (.return_, 1) := by decide +kernel
theorem pn_2 : plainName "java/lang/Record" = true := by first | (simp [plainName, overriddenIn]; done) | decide +kernel
theorem ef_2 (m : MethodId) (x0 : Addr) : entryFrame m #[(.ref x0)] 1 = mkF m 0 #[.val (.ref x0)] [] := by first | (simp [entryFrame, mkF, argsToLocals, Value.category]; done) | rfl
def Q2 (Z : State) (a1 : Addr) (h0 : Heap) (n0 : Nat) (v : Option Value) (h : Heap) (L : List Loc) : Prop := v = none ∧ Fr n0 L ∧ h = h0
set_option maxRecDepth 65536 in
set_option maxHeartbeats 40000000 in
theorem rm2 (l : Launch) (Z : State) (a0 : Array Value) (hw : ∀ d ∈ tables_1, d.before a0 Z = true) (ws : List Jvm.Cond) (a1 : Addr) (h0 : Heap) (n0 : Nat) (Z0 : n0 ≤ h0.size)  :
    MetFree l (⟨"java/lang/Record", "<init>", "()V"⟩ : MethodName) (head1 (Jvm.Cond.code (⟨"java/lang/Record", "<init>", "()V"⟩ : MethodName) jdk_30_method_1_code 1 none :: ws) ({ frames := 1, cells := 0, slots := 0, locals := 12 } : Room)) (fun a U => a = #[(.ref a1)] ∧ Z.Warmed39 U.vm ∧ U.heap = h0) (fun _ _ _ _ _ => True) (fun _ U o U' => ∃ v L, o = .returned v ∧ Q2 Z a1 h0 n0 v U'.heap L ∧ FrameEnd U o U' L ({ frames := 1, cells := 0, slots := 0, locals := 12 } : Room).cells ({ frames := 1, cells := 0, slots := 0, locals := 12 } : Room).slots) := by
  refine MetFree.of_bodySF (plainFor_of_name pn_2) hisR ?_
  intro p e s m args below meth c s₁ Bd hml0 hP hK
  obtain ⟨rfl, hZ, hh⟩ := hP
  have w11_ := hw _ (List.mem_of_getElem? (i := 11) rfl)
  have w12_ := hw _ (List.mem_of_getElem? (i := 12) rfl)
  have w13_ := hw _ (List.mem_of_getElem? (i := 13) rfl)
  have hx := Bd.exec
  have hby := Bd.bytes
  have hml : c.maxLocals = 1 := hml0
  have hown : s.vm.findClass "java/lang/Record" = some m.cls := findClass_of_methodNamed Bd.named
  have hnm := (name_of_methodNamed Bd.named Bd.method).1
  have X0 : Stand p l e ({ frames := 1, cells := 0, slots := 0, locals := 12 } : Room) s m #[(.ref a1)] below meth c s₁ [] 0 0 := Stand.of_body Bd
  have e0 : s₁.heap = h0 := by rw [← hh, Bd.state]; rfl
  have N0 := Fr.nil n0
  have pre0 : ∀ t, Steps p.tables e below (s₁.setTop (mkF m 0 #[.val (.ref a1)] [])) t → Steps p.tables e below (s₁.setTop (entryFrame m #[(.ref a1)] 1)) t := fun t k => castTop (ef_2 m a1) k
  obtain ⟨T1, X1, e1, st1⟩ := initO X0 hx hZ hown w11_ w12_ w13_ e0 (g := (mkF m 1 #[.val (.ref a1)] [(.ref a1)])) rfl (by rw [hml]; rfl) rfl (hb hby d2_1) (by decide) (W := 0) (by show 2 * 0 + _ ≤ _; exact Nat.le_of_eq rfl) (by decide)
  obtain ⟨fs, hr, hrun, hended, hW, hsame⟩ := X1.leave (v := none) (fun _ => rfl)
  refine ⟨_, _, pre0 _ ?_, hrun, hended, _, _, rfl, ?_, ⟨_, rfl⟩, hW, hsame.mono (by decide) (by decide)⟩
  · show Steps p.tables e below (s₁.setTop (mkF m 0 #[.val (.ref a1)] [])) _
    refine XS.aloadN X0.here hx rfl (hb hby d2_0) rfl rfl ?_
    show Steps p.tables e below (s₁.setTop (mkF m 1 #[.val (.ref a1)] [(.ref a1)])) _
    refine st1 _ ?_
    show Steps p.tables e below (T1.setTop (mkF m 4 #[.val (.ref a1)] [])) _
    exact X1.returnOut hx Bd.returns (hb hby d2_4) hr
  · show Q2 Z a1 h0 n0 _ T1.heap _
    rw [e1]
    exact ⟨rfl, N0, rfl⟩
theorem d1_0 : decode prog_30_method_1_code 0 = .ok (.aload_n 0, 1) := by decide +kernel
theorem d1_1 : decode prog_30_method_1_code 1 = .ok (.invokespecial 1, 3) := by decide +kernel
theorem d1_4 : decode prog_30_method_1_code 4 = .ok (.aload_n 0, 1) := by decide +kernel
theorem d1_5 : decode prog_30_method_1_code 5 = .ok (.lload_n 1, 1) := by decide +kernel
theorem d1_6 : decode prog_30_method_1_code 6 = .ok (.putfield 7, 3) := by decide +kernel
theorem d1_9 : decode prog_30_method_1_code 9 = .ok (.aload_n 0, 1) := by decide +kernel
theorem d1_10 : decode prog_30_method_1_code 10 = .ok (.lload_n 3, 1) := by decide +kernel
theorem d1_11 : decode prog_30_method_1_code 11 = .ok (.putfield 13, 3) := by decide +kernel
theorem d1_14 : decode prog_30_method_1_code 14 = .ok (.return_, 1) := by decide +kernel
theorem pn_1 : plainName "com/example/cachelane/cachelane/cli/BenchKeys" = true := by first | (simp [plainName, overriddenIn]; done) | decide +kernel
theorem ef_1 (m : MethodId) (x0 : Addr) (x1 : Int64) (x2 : Int64) : entryFrame m #[(.ref x0), (.long x1), (.long x2)] 5 = mkF m 0 #[.val (.ref x0), .val (.long x1), .second, .val (.long x2), .second] [] := by first | (simp [entryFrame, mkF, argsToLocals, Value.category]; done) | rfl
theorem pd_1_2 : parseMethodDescriptor "()V" = some ⟨[], none⟩ := by decide +kernel
def Q1 (Z : State) (a1 : Addr) (q2 : Int64) (q3 : Int64) (h0 : Heap) (n0 : Nat) (v : Option Value) (h : Heap) (L : List Loc) : Prop := v = none ∧ Fr n0 L ∧ Keep h0 h [a1] ∧ (Exa Z h a1 "com/example/cachelane/cachelane/cli/BenchKeys") ∧ (Fld Z h a1 "com/example/cachelane/cachelane/cli/BenchKeys" "base" "J" (.long q2))
set_option maxRecDepth 65536 in
set_option maxHeartbeats 40000000 in
theorem rm1 (l : Launch) (Z : State) (a0 : Array Value) (hw : ∀ d ∈ tables_1, d.before a0 Z = true) (ws : List Jvm.Cond) (a1 : Addr) (q2 : Int64) (q3 : Int64) (h0 : Heap) (n0 : Nat) (Z0 : n0 ≤ h0.size) (P0 : Exa Z h0 a1 "com/example/cachelane/cachelane/cli/BenchKeys") (P1 : Fld Z h0 a1 "com/example/cachelane/cachelane/cli/BenchKeys" "base" "J" (.long (0 : Int64))) (P2 : Fld Z h0 a1 "com/example/cachelane/cachelane/cli/BenchKeys" "count" "J" (.long (0 : Int64))) (g_a1 : n0 ≤ a1) :
    MetFree l (⟨"com/example/cachelane/cachelane/cli/BenchKeys", "<init>", "(JJ)V"⟩ : MethodName) (head1 (Jvm.Cond.code (⟨"com/example/cachelane/cachelane/cli/BenchKeys", "<init>", "(JJ)V"⟩ : MethodName) prog_30_method_1_code 5 none :: ws) ({ frames := 2, cells := 0, slots := 0, locals := 24 } : Room)) (fun a U => a = #[(.ref a1), (.long q2), (.long q3)] ∧ Z.Warmed39 U.vm ∧ U.heap = h0) (fun _ _ _ _ _ => True) (fun _ U o U' => ∃ v L, o = .returned v ∧ Q1 Z a1 q2 q3 h0 n0 v U'.heap L ∧ FrameEnd U o U' L ({ frames := 2, cells := 0, slots := 0, locals := 24 } : Room).cells ({ frames := 2, cells := 0, slots := 0, locals := 24 } : Room).slots) := by
  refine MetFree.of_bodySF (plainFor_of_name pn_1) hisR ?_
  intro p e s m args below meth c s₁ Bd hml0 hP hK
  obtain ⟨rfl, hZ, hh⟩ := hP
  have w1_ := hw _ (List.mem_of_getElem? (i := 1) rfl)
  have w6_ := hw _ (List.mem_of_getElem? (i := 6) rfl)
  have w7_ := hw _ (List.mem_of_getElem? (i := 7) rfl)
  have w9_ := hw _ (List.mem_of_getElem? (i := 9) rfl)
  have w10_ := hw _ (List.mem_of_getElem? (i := 10) rfl)
  have w14_ := hw _ (List.mem_of_getElem? (i := 14) rfl)
  have w15_ := hw _ (List.mem_of_getElem? (i := 15) rfl)
  have w16_ := hw _ (List.mem_of_getElem? (i := 16) rfl)
  have w17_ := hw _ (List.mem_of_getElem? (i := 17) rfl)
  have hx := Bd.exec
  have hby := Bd.bytes
  have hml : c.maxLocals = 5 := hml0
  have hown : s.vm.findClass "com/example/cachelane/cachelane/cli/BenchKeys" = some m.cls := findClass_of_methodNamed Bd.named
  have hnm := (name_of_methodNamed Bd.named Bd.method).1
  have X0 : Stand p l e ({ frames := 2, cells := 0, slots := 0, locals := 24 } : Room) s m #[(.ref a1), (.long q2), (.long q3)] below meth c s₁ [] 0 0 := Stand.of_body Bd
  have e0 : s₁.heap = h0 := by rw [← hh, Bd.state]; rfl
  have N0 := Fr.nil n0
  have pre0 : ∀ t, Steps p.tables e below (s₁.setTop (mkF m 0 #[.val (.ref a1), .val (.long q2), .second, .val (.long q3), .second] [])) t → Steps p.tables e below (s₁.setTop (entryFrame m #[(.ref a1), (.long q2), (.long q3)] 5)) t := fun t k => castTop (ef_1 m a1 q2 q3) k
  let Lo1 : Array Slot := #[.val (.ref a1), .val (.long q2), .second, .val (.long q3), .second]
  obtain ⟨_, _, ⟨T1, L1, k1, n1⟩, -, X1, ⟨Lc1, hQ1, l1, y1, z1⟩, st1⟩ := X0.specialBack hx (y := (⟨"java/lang/Record", "<init>", "()V"⟩ : MethodName)) rfl hown (mvT hZ w6_) (mvT hZ w7_) (mvT hZ w10_) (by decide) (backOf (W := 0) (rm2 l Z a0 hw [] a1 h0 n0 Z0 ) hZ w10_ w9_ (by decide) (by decide)) (g := (mkF m 1 Lo1 [(.ref a1)])) rfl (by rw [hml]; rfl) (Steps.refl _) (a := a1) (argsL := []) (rest := []) (lenOf pd_1_2 rfl) rfl (by show 2 * 0 + _ ≤ _; exact Nat.le_of_eq rfl) (hb hby d1_1) (fun _ _ => ⟨rfl, e0, (by decide : 0 + 0 ≤ _), (by decide : 0 + 0 ≤ _)⟩)
  dsimp only [Pt.U, Pt.locs, Pt.cells, Pt.slots] at X1 l1 y1 z1 st1 hQ1
  subst l1 y1 z1
  obtain ⟨rfl, N1q, qq1⟩ := hQ1
  have N1 := Fr.app N0 N1q
  have e1 : T1.heap = h0 := qq1
  obtain ⟨T2, h2, X2, e2, W2, st2⟩ := putF X1 hx hZ hown (host := "") (Or.inl w14_) Via.refl e1 P1 P0 (Or.inr ⟨w15_, rfl, hnm⟩) w1_ (ty := .long) (by decide) rfl rfl (g := (mkF m 6 Lo1 [(.long q2), (.ref a1)])) rfl rfl (hb hby d1_6)
  have F2_base_a1 := P1.same W2
  have F2_count_a1 := P2.other W2 (Or.inr (slot_ne (Or.inr w17_) (Or.inr w15_) (by decide) (t := .long) (t' := .long) (by decide) (by decide)))
  have E2_a1 := P0.wr W2
  have K2 : Keep h0 h2 [a1] := (Keep.refl h0 [a1]).wr W2 (Or.inl (List.mem_of_getElem? (i := 0) rfl))
  have Z2 : n0 ≤ h2.size := Nat.le_trans Z0 (Keep.of_wr W2).1
  have N2 := Fr.snoc X2 N1 g_a1
  obtain ⟨T3, h3, X3, e3, W3, st3⟩ := putF X2 hx hZ hown (host := "") (Or.inl w16_) Via.refl e2 F2_count_a1 E2_a1 (Or.inr ⟨w17_, rfl, hnm⟩) w1_ (ty := .long) (by decide) rfl rfl (g := (mkF m 11 Lo1 [(.long q3), (.ref a1)])) rfl rfl (hb hby d1_11)
  have F3_base_a1 := F2_base_a1.other W3 (Or.inr (slot_ne (Or.inr w15_) (Or.inr w17_) (by decide) (t := .long) (t' := .long) (by decide) (by decide)))
  have F3_count_a1 := F2_count_a1.same W3
  have E3_a1 := E2_a1.wr W3
  have K3 : Keep h0 h3 [a1] := K2.wr W3 (Or.inl (List.mem_of_getElem? (i := 0) rfl))
  have Z3 : n0 ≤ h3.size := Nat.le_trans Z2 (Keep.of_wr W3).1
  have N3 := Fr.snoc X3 N2 g_a1
  obtain ⟨fs, hr, hrun, hended, hW, hsame⟩ := X3.leave (v := none) (fun _ => rfl)
  refine ⟨_, _, pre0 _ ?_, hrun, hended, _, _, rfl, ?_, ⟨_, rfl⟩, hW, hsame.mono (by decide) (by decide)⟩
  · show Steps p.tables e below (s₁.setTop (mkF m 0 Lo1 [])) _
    refine XS.aloadN X0.here hx rfl (hb hby d1_0) rfl rfl ?_
    show Steps p.tables e below (s₁.setTop (mkF m 1 Lo1 [(.ref a1)])) _
    refine st1.trans ?_
    show Steps p.tables e below (T1.setTop (mkF m 4 Lo1 [])) _
    refine XS.aloadN X1.here hx rfl (hb hby d1_4) rfl rfl ?_
    show Steps p.tables e below (T1.setTop (mkF m 5 Lo1 [(.ref a1)])) _
    refine XS.lloadN X1.here hx rfl (hb hby d1_5) rfl ?_
    show Steps p.tables e below (T1.setTop (mkF m 6 Lo1 [(.long q2), (.ref a1)])) _
    refine st2 _ ?_
    show Steps p.tables e below (T2.setTop (mkF m 9 Lo1 [])) _
    refine XS.aloadN X2.here hx rfl (hb hby d1_9) rfl rfl ?_
    show Steps p.tables e below (T2.setTop (mkF m 10 Lo1 [(.ref a1)])) _
    refine XS.lloadN X2.here hx rfl (hb hby d1_10) rfl ?_
    show Steps p.tables e below (T2.setTop (mkF m 11 Lo1 [(.long q3), (.ref a1)])) _
    refine st3 _ ?_
    show Steps p.tables e below (T3.setTop (mkF m 14 Lo1 [])) _
    exact X3.returnOut hx Bd.returns (hb hby d1_14) hr
  · show Q1 Z a1 q2 q3 h0 n0 _ T3.heap _
    rw [e3]
    exact ⟨rfl, N3, K3, E3_a1, F3_base_a1⟩
theorem d4_0 : decode prog_30_method_2_code 0 = .ok (.aload_n 0, 1) := by decide +kernel
theorem d4_1 : decode prog_30_method_2_code 1 = .ok (.getfield 7, 3) := by decide +kernel
theorem d4_4 : decode prog_30_method_2_code 4 = .ok (.lload_n 1, 1) := by decide +kernel
theorem d4_5 : decode prog_30_method_2_code 5 = .ok (.ldc2_w 16, 3) := by decide +kernel
theorem d4_8 : decode prog_30_method_2_code 8 = .ok (.lmul, 1) := by decide +kernel
theorem d4_9 : decode prog_30_method_2_code 9 = .ok (.ladd, 1) := by decide +kernel
theorem d4_10 : decode prog_30_method_2_code 10 = .ok (.lstore_n 3, 1) := by decide +kernel
theorem d4_11 : decode prog_30_method_2_code 11 = .ok (.lload_n 3, 1) := by decide +kernel
theorem d4_12 : decode prog_30_method_2_code 12 = .ok (.lload_n 3, 1) := by decide +kernel
theorem d4_13 : decode prog_30_method_2_code 13 = .ok (.bipush 33, 2) := by decide +kernel
theorem d4_15 : decode prog_30_method_2_code 15 = .ok (.lushr, 1) := by decide +kernel
theorem d4_16 : decode prog_30_method_2_code 16 = .ok (.lxor, 1) := by decide +kernel
theorem d4_17 : decode prog_30_method_2_code 17 = .ok (.ldc2_w 18, 3) := by decide +kernel
theorem d4_20 : decode prog_30_method_2_code 20 = .ok (.lmul, 1) := by decide +kernel
theorem d4_21 : decode prog_30_method_2_code 21 = .ok (.lstore_n 3, 1) := by decide +kernel
theorem d4_22 : decode prog_30_method_2_code 22 = .ok (.lload_n 3, 1) := by decide +kernel
theorem d4_23 : decode prog_30_method_2_code 23 = .ok (.lload_n 3, 1) := by decide +kernel
theorem d4_24 : decode prog_30_method_2_code 24 = .ok (.bipush 33, 2) := by decide +kernel
theorem d4_26 : decode prog_30_method_2_code 26 = .ok (.lushr, 1) := by decide +kernel
theorem d4_27 : decode prog_30_method_2_code 27 = .ok (.lxor, 1) := by decide +kernel
theorem d4_28 : decode prog_30_method_2_code 28 = .ok (.ldc2_w 20, 3) := by decide +kernel
theorem d4_31 : decode prog_30_method_2_code 31 = .ok (.lmul, 1) := by decide +kernel
theorem d4_32 : decode prog_30_method_2_code 32 = .ok (.lstore_n 3, 1) := by decide +kernel
theorem d4_33 : decode prog_30_method_2_code 33 = .ok (.lload_n 3, 1) := by decide +kernel
theorem d4_34 : decode prog_30_method_2_code 34 = .ok (.lload_n 3, 1) := by decide +kernel
theorem d4_35 : decode prog_30_method_2_code 35 = .ok (.bipush 33, 2) := by decide +kernel
theorem d4_37 : decode prog_30_method_2_code 37 = .ok (.lushr, 1) := by decide +kernel
theorem d4_38 : decode prog_30_method_2_code 38 = .ok (.lxor, 1) := by decide +kernel
theorem d4_39 : decode prog_30_method_2_code 39 = .ok (.lreturn, 1) := by decide +kernel
theorem pn_4 : plainName "com/example/cachelane/cachelane/cli/BenchKeys" = true := by first | (simp [plainName, overriddenIn]; done) | decide +kernel
theorem ef_4 (m : MethodId) (x0 : Addr) (x1 : Int64) : entryFrame m #[(.ref x0), (.long x1)] 5 = mkF m 0 #[.val (.ref x0), .val (.long x1), .second, .unset, .unset] [] := by first | (simp [entryFrame, mkF, argsToLocals, Value.category]; done) | rfl
def Q4 (Z : State) (a1 : Addr) (q2 : Int64) (w3 : Int64) (h0 : Heap) (n0 : Nat) (v : Option Value) (h : Heap) (L : List Loc) : Prop := v = some (.long (own_key w3 q2)) ∧ Fr n0 L ∧ h = h0
set_option maxRecDepth 65536 in
set_option maxHeartbeats 40000000 in
theorem rm4 (l : Launch) (Z : State) (a0 : Array Value) (hw : ∀ d ∈ tables_1, d.before a0 Z = true) (ws : List Jvm.Cond) (a1 : Addr) (q2 : Int64) (w3 : Int64) (h0 : Heap) (n0 : Nat) (Z0 : n0 ≤ h0.size) (P0 : Fld Z h0 a1 "com/example/cachelane/cachelane/cli/BenchKeys" "base" "J" (.long w3)) :
    MetFree l (⟨"com/example/cachelane/cachelane/cli/BenchKeys", "key", "(J)J"⟩ : MethodName) (head1 (Jvm.Cond.code (⟨"com/example/cachelane/cachelane/cli/BenchKeys", "key", "(J)J"⟩ : MethodName) prog_30_method_2_code 5 (some .long) :: ws) ({ frames := 0, cells := 0, slots := 0, locals := 0 } : Room)) (fun a U => a = #[(.ref a1), (.long q2)] ∧ Z.Warmed39 U.vm ∧ U.heap = h0) (fun _ _ _ _ _ => True) (fun _ U o U' => ∃ v L, o = .returned v ∧ Q4 Z a1 q2 w3 h0 n0 v U'.heap L ∧ FrameEnd U o U' L ({ frames := 0, cells := 0, slots := 0, locals := 0 } : Room).cells ({ frames := 0, cells := 0, slots := 0, locals := 0 } : Room).slots) := by
  refine MetFree.of_bodySF (plainFor_of_name pn_4) hisR ?_
  intro p e s m args below meth c s₁ Bd hml0 hP hK
  obtain ⟨rfl, hZ, hh⟩ := hP
  have w14_ := hw _ (List.mem_of_getElem? (i := 14) rfl)
  have w23_ := hw _ (List.mem_of_getElem? (i := 23) rfl)
  have w24_ := hw _ (List.mem_of_getElem? (i := 24) rfl)
  have w25_ := hw _ (List.mem_of_getElem? (i := 25) rfl)
  have hx := Bd.exec
  have hby := Bd.bytes
  have hml : c.maxLocals = 5 := hml0
  have hown : s.vm.findClass "com/example/cachelane/cachelane/cli/BenchKeys" = some m.cls := findClass_of_methodNamed Bd.named
  have hnm := (name_of_methodNamed Bd.named Bd.method).1
  have X0 : Stand p l e ({ frames := 0, cells := 0, slots := 0, locals := 0 } : Room) s m #[(.ref a1), (.long q2)] below meth c s₁ [] 0 0 := Stand.of_body Bd
  have e0 : s₁.heap = h0 := by rw [← hh, Bd.state]; rfl
  have N0 := Fr.nil n0
  have pre0 : ∀ t, Steps p.tables e below (s₁.setTop (mkF m 0 #[.val (.ref a1), .val (.long q2), .second, .unset, .unset] [])) t → Steps p.tables e below (s₁.setTop (entryFrame m #[(.ref a1), (.long q2)] 5)) t := fun t k => castTop (ef_4 m a1 q2) k
  let Lo1 : Array Slot := #[.val (.ref a1), .val (.long q2), .second, .unset, .unset]
  obtain ⟨T1, X1, e1, st1⟩ := getF X0 hx hZ hown (host := "") (Or.inl w14_) Via.refl e0 P0 (g := (mkF m 1 Lo1 [(.ref a1)])) rfl rfl (hb hby d4_1)
  let Lo2 : Array Slot := #[.val (.ref a1), .val (.long q2), .second, .val (.long (own_k0 w3 q2)), .second]
  let Lo3 : Array Slot := #[.val (.ref a1), .val (.long q2), .second, .val (.long (own_k1 w3 q2)), .second]
  let Lo4 : Array Slot := #[.val (.ref a1), .val (.long q2), .second, .val (.long (own_k2 w3 q2)), .second]
  obtain ⟨fs, hr, hrun, hended, hW, hsame⟩ := X1.leave (v := some (.long (own_key w3 q2))) (fun h => by rw [Bd.returns] at h; cases h)
  refine ⟨_, _, pre0 _ ?_, hrun, hended, _, _, rfl, ?_, ⟨_, rfl⟩, hW, hsame.mono (by decide) (by decide)⟩
  · show Steps p.tables e below (s₁.setTop (mkF m 0 Lo1 [])) _
    refine XS.aloadN X0.here hx rfl (hb hby d4_0) rfl rfl ?_
    show Steps p.tables e below (s₁.setTop (mkF m 1 Lo1 [(.ref a1)])) _
    refine st1 _ ?_
    show Steps p.tables e below (T1.setTop (mkF m 4 Lo1 [(.long w3)])) _
    refine XS.lloadN X1.here hx rfl (hb hby d4_4) rfl ?_
    show Steps p.tables e below (T1.setTop (mkF m 5 Lo1 [(.long q2), (.long w3)])) _
    refine X1.ldc2Long hx hown (mvT hZ w23_) (g := (mkF m 5 Lo1 [(.long q2), (.long w3)])) rfl (hb hby d4_5) _ ?_
    show Steps p.tables e below (T1.setTop (mkF m 8 Lo1 [(.long (-7046029254386353131 : Int64)), (.long q2), (.long w3)])) _
    refine XS.lmul X1.here hx rfl (hb hby d4_8) rfl ?_
    show Steps p.tables e below (T1.setTop (mkF m 9 Lo1 [(.long (q2 * (-7046029254386353131 : Int64))), (.long w3)])) _
    refine XS.ladd X1.here hx rfl (hb hby d4_9) rfl ?_
    show Steps p.tables e below (T1.setTop (mkF m 10 Lo1 [(.long (w3 + (q2 * (-7046029254386353131 : Int64))))])) _
    refine XS.lstoreN X1.here hx rfl (hb hby d4_10) rfl (l' := Lo2) rfl ?_
    show Steps p.tables e below (T1.setTop (mkF m 11 Lo2 [])) _
    refine XS.lloadN X1.here hx rfl (hb hby d4_11) rfl ?_
    show Steps p.tables e below (T1.setTop (mkF m 12 Lo2 [(.long (own_k0 w3 q2))])) _
    refine XS.lloadN X1.here hx rfl (hb hby d4_12) rfl ?_
    show Steps p.tables e below (T1.setTop (mkF m 13 Lo2 [(.long (own_k0 w3 q2)), (.long (own_k0 w3 q2))])) _
    refine XS.bipush X1.here hx rfl (hb hby d4_13) ?_
    show Steps p.tables e below (T1.setTop (mkF m 15 Lo2 [(.int (33 : Int32)), (.long (own_k0 w3 q2)), (.long (own_k0 w3 q2))])) _
    refine XS.lushr X1.here hx rfl (hb hby d4_15) rfl ?_
    show Steps p.tables e below (T1.setTop (mkF m 16 Lo2 [(.long ((((own_k0 w3 q2)).toUInt64 >>> ((33 : Int32) &&& 0x3f).toInt64.toUInt64).toInt64)), (.long (own_k0 w3 q2))])) _
    refine XS.lxor X1.here hx rfl (hb hby d4_16) rfl ?_
    show Steps p.tables e below (T1.setTop (mkF m 17 Lo2 [(.long ((own_k0 w3 q2) ^^^ ((((own_k0 w3 q2)).toUInt64 >>> ((33 : Int32) &&& 0x3f).toInt64.toUInt64).toInt64)))])) _
    refine X1.ldc2Long hx hown (mvT hZ w24_) (g := (mkF m 17 Lo2 [(.long ((own_k0 w3 q2) ^^^ ((((own_k0 w3 q2)).toUInt64 >>> ((33 : Int32) &&& 0x3f).toInt64.toUInt64).toInt64)))])) rfl (hb hby d4_17) _ ?_
    show Steps p.tables e below (T1.setTop (mkF m 20 Lo2 [(.long (-49064778989728563 : Int64)), (.long ((own_k0 w3 q2) ^^^ ((((own_k0 w3 q2)).toUInt64 >>> ((33 : Int32) &&& 0x3f).toInt64.toUInt64).toInt64)))])) _
    refine XS.lmul X1.here hx rfl (hb hby d4_20) rfl ?_
    show Steps p.tables e below (T1.setTop (mkF m 21 Lo2 [(.long (((own_k0 w3 q2) ^^^ ((((own_k0 w3 q2)).toUInt64 >>> ((33 : Int32) &&& 0x3f).toInt64.toUInt64).toInt64)) * (-49064778989728563 : Int64)))])) _
    refine XS.lstoreN X1.here hx rfl (hb hby d4_21) rfl (l' := Lo3) rfl ?_
    show Steps p.tables e below (T1.setTop (mkF m 22 Lo3 [])) _
    refine XS.lloadN X1.here hx rfl (hb hby d4_22) rfl ?_
    show Steps p.tables e below (T1.setTop (mkF m 23 Lo3 [(.long (own_k1 w3 q2))])) _
    refine XS.lloadN X1.here hx rfl (hb hby d4_23) rfl ?_
    show Steps p.tables e below (T1.setTop (mkF m 24 Lo3 [(.long (own_k1 w3 q2)), (.long (own_k1 w3 q2))])) _
    refine XS.bipush X1.here hx rfl (hb hby d4_24) ?_
    show Steps p.tables e below (T1.setTop (mkF m 26 Lo3 [(.int (33 : Int32)), (.long (own_k1 w3 q2)), (.long (own_k1 w3 q2))])) _
    refine XS.lushr X1.here hx rfl (hb hby d4_26) rfl ?_
    show Steps p.tables e below (T1.setTop (mkF m 27 Lo3 [(.long ((((own_k1 w3 q2)).toUInt64 >>> ((33 : Int32) &&& 0x3f).toInt64.toUInt64).toInt64)), (.long (own_k1 w3 q2))])) _
    refine XS.lxor X1.here hx rfl (hb hby d4_27) rfl ?_
    show Steps p.tables e below (T1.setTop (mkF m 28 Lo3 [(.long ((own_k1 w3 q2) ^^^ ((((own_k1 w3 q2)).toUInt64 >>> ((33 : Int32) &&& 0x3f).toInt64.toUInt64).toInt64)))])) _
    refine X1.ldc2Long hx hown (mvT hZ w25_) (g := (mkF m 28 Lo3 [(.long ((own_k1 w3 q2) ^^^ ((((own_k1 w3 q2)).toUInt64 >>> ((33 : Int32) &&& 0x3f).toInt64.toUInt64).toInt64)))])) rfl (hb hby d4_28) _ ?_
    show Steps p.tables e below (T1.setTop (mkF m 31 Lo3 [(.long (-4265267296055464877 : Int64)), (.long ((own_k1 w3 q2) ^^^ ((((own_k1 w3 q2)).toUInt64 >>> ((33 : Int32) &&& 0x3f).toInt64.toUInt64).toInt64)))])) _
    refine XS.lmul X1.here hx rfl (hb hby d4_31) rfl ?_
    show Steps p.tables e below (T1.setTop (mkF m 32 Lo3 [(.long (((own_k1 w3 q2) ^^^ ((((own_k1 w3 q2)).toUInt64 >>> ((33 : Int32) &&& 0x3f).toInt64.toUInt64).toInt64)) * (-4265267296055464877 : Int64)))])) _
    refine XS.lstoreN X1.here hx rfl (hb hby d4_32) rfl (l' := Lo4) rfl ?_
    show Steps p.tables e below (T1.setTop (mkF m 33 Lo4 [])) _
    refine XS.lloadN X1.here hx rfl (hb hby d4_33) rfl ?_
    show Steps p.tables e below (T1.setTop (mkF m 34 Lo4 [(.long (own_k2 w3 q2))])) _
    refine XS.lloadN X1.here hx rfl (hb hby d4_34) rfl ?_
    show Steps p.tables e below (T1.setTop (mkF m 35 Lo4 [(.long (own_k2 w3 q2)), (.long (own_k2 w3 q2))])) _
    refine XS.bipush X1.here hx rfl (hb hby d4_35) ?_
    show Steps p.tables e below (T1.setTop (mkF m 37 Lo4 [(.int (33 : Int32)), (.long (own_k2 w3 q2)), (.long (own_k2 w3 q2))])) _
    refine XS.lushr X1.here hx rfl (hb hby d4_37) rfl ?_
    show Steps p.tables e below (T1.setTop (mkF m 38 Lo4 [(.long ((((own_k2 w3 q2)).toUInt64 >>> ((33 : Int32) &&& 0x3f).toInt64.toUInt64).toInt64)), (.long (own_k2 w3 q2))])) _
    refine XS.lxor X1.here hx rfl (hb hby d4_38) rfl ?_
    show Steps p.tables e below (T1.setTop (mkF m 39 Lo4 [(.long ((own_k2 w3 q2) ^^^ ((((own_k2 w3 q2)).toUInt64 >>> ((33 : Int32) &&& 0x3f).toInt64.toUInt64).toInt64)))])) _
    exact own_retJ X1 hx Bd.returns (hb hby d4_39) rfl hr
  · show Q4 Z a1 q2 w3 h0 n0 _ T1.heap _
    rw [e1]
    exact ⟨rfl, N0, rfl⟩
theorem pn_0 : plainName "com/example/cachelane/cachelane/cli/BenchKeysKeyPinLaw" = true := by first | (simp [plainName, overriddenIn]; done) | decide +kernel
theorem ef_0 (m : MethodId) (x0 : Int64) (x1 : Int64) (x2 : Int64) : entryFrame m #[(.long x0), (.long x1), (.long x2)] maxLocals = mkF m 0 #[.val (.long x0), .second, .val (.long x1), .second, .val (.long x2), .second, .unset, .unset, .unset, .unset, .unset, .unset, .unset] [] := by first | (simp [entryFrame, mkF, argsToLocals, Value.category, maxLocals]; done) | rfl
theorem pd_0_1 : parseMethodDescriptor "(JJ)V" = some ⟨[.long, .long], none⟩ := by decide +kernel
theorem pd_0_4 : parseMethodDescriptor "(J)J" = some ⟨[.long], some .long⟩ := by decide +kernel
def Q0 (Z : State) (q1 : Int64) (q2 : Int64) (q3 : Int64) (h0 : Heap) (n0 : Nat) (v : Option Value) (h : Heap) (L : List Loc) : Prop := v = some (.int 1) ∧ Fr n0 L
set_option maxRecDepth 65536 in
set_option maxHeartbeats 40000000 in
theorem rm0 (l : Launch) (Z : State) (a0 : Array Value) (hw : ∀ d ∈ tables_1, d.before a0 Z = true) (ws : List Jvm.Cond) (q1 : Int64) (q2 : Int64) (q3 : Int64) (h0 : Heap) (n0 : Nat) (Z0 : n0 ≤ h0.size)  :
    MetFree l x (head1 (Jvm.Cond.code x code maxLocals ret :: ws) room_1) (fun a U => a = #[(.long q1), (.long q2), (.long q3)] ∧ Z.Warmed39 U.vm ∧ U.heap = h0) (fun _ _ _ _ _ => True) (fun _ U o U' => ∃ v L, o = .returned v ∧ Q0 Z q1 q2 q3 h0 n0 v U'.heap L ∧ FrameEnd U o U' L room_1.cells room_1.slots) := by
  refine MetFree.of_bodySF (plainFor_of_name pn_0) hisR ?_
  intro p e s m args below meth c s₁ Bd hml0 hP hK
  obtain ⟨rfl, hZ, hh⟩ := hP
  have w0_ := hw _ (List.mem_of_getElem? (i := 0) rfl)
  have w1_ := hw _ (List.mem_of_getElem? (i := 1) rfl)
  have w2_ := hw _ (List.mem_of_getElem? (i := 2) rfl)
  have w3_ := hw _ (List.mem_of_getElem? (i := 3) rfl)
  have w4_ := hw _ (List.mem_of_getElem? (i := 4) rfl)
  have w5_ := hw _ (List.mem_of_getElem? (i := 5) rfl)
  have w15_ := hw _ (List.mem_of_getElem? (i := 15) rfl)
  have w17_ := hw _ (List.mem_of_getElem? (i := 17) rfl)
  have w18_ := hw _ (List.mem_of_getElem? (i := 18) rfl)
  have w19_ := hw _ (List.mem_of_getElem? (i := 19) rfl)
  have w20_ := hw _ (List.mem_of_getElem? (i := 20) rfl)
  have w21_ := hw _ (List.mem_of_getElem? (i := 21) rfl)
  have w22_ := hw _ (List.mem_of_getElem? (i := 22) rfl)
  have w26_ := hw _ (List.mem_of_getElem? (i := 26) rfl)
  have w27_ := hw _ (List.mem_of_getElem? (i := 27) rfl)
  have w28_ := hw _ (List.mem_of_getElem? (i := 28) rfl)
  have w29_ := hw _ (List.mem_of_getElem? (i := 29) rfl)
  have w30_ := hw _ (List.mem_of_getElem? (i := 30) rfl)
  have w31_ := hw _ (List.mem_of_getElem? (i := 31) rfl)
  have w32_ := hw _ (List.mem_of_getElem? (i := 32) rfl)
  have hx := Bd.exec
  have hby := Bd.bytes
  have hml : c.maxLocals = 13 := hml0
  have hown : s.vm.findClass "com/example/cachelane/cachelane/cli/BenchKeysKeyPinLaw" = some m.cls := findClass_of_methodNamed Bd.named
  have hnm := (name_of_methodNamed Bd.named Bd.method).1
  have X0 : Stand p l e room_1 s m #[(.long q1), (.long q2), (.long q3)] below meth c s₁ [] 0 0 := Stand.of_body Bd
  have e0 : s₁.heap = h0 := by rw [← hh, Bd.state]; rfl
  have N0 := Fr.nil n0
  have pre0 : ∀ t, Steps p.tables e below (s₁.setTop (mkF m 0 #[.val (.long q1), .second, .val (.long q2), .second, .val (.long q3), .second, .unset, .unset, .unset, .unset, .unset, .unset, .unset] [])) t → Steps p.tables e below (s₁.setTop (entryFrame m #[(.long q1), (.long q2), (.long q3)] maxLocals)) t := fun t k => castTop (ef_0 m q1 q2 q3) k
  let Lo1 : Array Slot := #[.val (.long q1), .second, .val (.long q2), .second, .val (.long q3), .second, .unset, .unset, .unset, .unset, .unset, .unset, .unset]
  obtain ⟨T1, h1, X1, e1, E1, A1, D1, -, st1⟩ := newO X0 hx hZ hown w0_ w1_ w2_ e0 (g := (mkF m 0 Lo1 [])) rfl (hb hby at_0) (by decide) (by decide)
  obtain ⟨b1, g1⟩ : ∃ z, z = h0.size := ⟨_, rfl⟩
  rw [← g1] at A1 D1 st1
  have g_b1 : n0 ≤ b1 := Nat.le_trans Z0 (Nat.le_of_eq g1.symm)
  have Z1 : n0 ≤ h1.size := Nat.le_trans Z0 E1.1
  have F1_base_b1 : Fld Z h1 b1 "com/example/cachelane/cachelane/cli/BenchKeys" "base" "J" (.long (0 : Int64)) := D1 (Or.inr w15_) (ty := .long) (by decide)
  have F1_count_b1 : Fld Z h1 b1 "com/example/cachelane/cachelane/cli/BenchKeys" "count" "J" (.long (0 : Int64)) := D1 (Or.inr w17_) (ty := .long) (by decide)
  obtain ⟨_, _, ⟨T2, L2, k2, n2⟩, -, X2, ⟨Lc2, hQ2, l2, y2, z2⟩, st2⟩ := X1.specialBack hx (y := (⟨"com/example/cachelane/cachelane/cli/BenchKeys", "<init>", "(JJ)V"⟩ : MethodName)) rfl hown (mvT hZ w3_) (mvT hZ w4_) (mvT hZ w5_) (by decide) (backOf (W := 1) (rm1 l Z a0 hw [] b1 q1 q2 h1 n0 Z1 A1 F1_base_b1 F1_count_b1 g_b1) hZ w5_ w2_ (by decide) (by decide)) (g := (mkF m 6 Lo1 [(.long q2), (.long q1), (.ref b1), (.ref b1)])) rfl (by rw [hml]; rfl) (Steps.refl _) (a := b1) (argsL := [(.long q1), (.long q2)]) (rest := [(.ref b1)]) (lenOf pd_0_1 rfl) rfl (by show 2 * 0 + _ ≤ _; exact Nat.le_of_eq rfl) (hb hby at_6) (fun _ _ => ⟨rfl, e1, (by decide : 1 + 0 ≤ _), (by decide : 2 + 0 ≤ _)⟩)
  dsimp only [Pt.U, Pt.locs, Pt.cells, Pt.slots] at X2 l2 y2 z2 st2 hQ2
  subst l2 y2 z2
  obtain ⟨rfl, N2q, qq2, p2_0, p2_1⟩ := hQ2
  have N2 := Fr.app N0 N2q
  have E2_b1 := A1.keep qq2
  have Z2 : n0 ≤ T2.heap.size := Nat.le_trans Z1 qq2.1
  let Lo2 : Array Slot := #[.val (.long q1), .second, .val (.long q2), .second, .val (.long q3), .second, .val (.ref b1), .unset, .unset, .unset, .unset, .unset, .unset]
  obtain ⟨cq3, kq3, q3a, q3b, q3c⟩ := isOf hZ rfl p2_0
  obtain ⟨_, _, ⟨T3, L3, k3, n3⟩, -, X3, ⟨Lc3, hQ3, l3, y3, z3⟩, st3⟩ := X2.virtualBack hx (y := (⟨"com/example/cachelane/cachelane/cli/BenchKeys", "key", "(J)J"⟩ : MethodName)) (z := (⟨"com/example/cachelane/cachelane/cli/BenchKeys", "key", "(J)J"⟩ : MethodName)) hown (mvT hZ w18_) (mvT hZ w19_) (notFace_of_selects (args := #[]) (mvT hZ w21_)) (mvT hZ w21_) (mvT hZ w20_) (by decide) (backOf (W := 0) (rm4 l Z a0 hw [] b1 q3 q1 T2.heap n0 Z2 p2_1) hZ w22_ w2_ (by decide) (by decide)) q3a q3c (g := (mkF m 15 Lo2 [(.long q3), (.ref b1)])) rfl (by rw [hml]; rfl) (Steps.refl _) (argsL := [(.long q3)]) (rest := []) (lenOf pd_0_4 rfl) rfl (by show 2 * 0 + _ ≤ _; exact Nat.le_of_eq rfl) (hb hby at_15) (fun _ _ => ⟨rfl, rfl, (by decide : 1 + 0 ≤ _), (by decide : 2 + 0 ≤ _)⟩)
  dsimp only [Pt.U, Pt.locs, Pt.cells, Pt.slots] at X3 l3 y3 z3 st3 hQ3
  subst l3 y3 z3
  obtain ⟨rfl, N3q, qq3⟩ := hQ3
  have N3 := Fr.app N2 N3q
  have e3 : T3.heap = T2.heap := qq3
  let Lo3 : Array Slot := #[.val (.long q1), .second, .val (.long q2), .second, .val (.long q3), .second, .val (.ref b1), .val (.long (own_key q1 q3)), .second, .unset, .unset, .unset, .unset]
  obtain ⟨_, _, ⟨T4, L4, k4, n4⟩, -, X4, ⟨Lc4, hQ4, l4, y4, z4⟩, st4⟩ := Jvm.LawKit.callS X3 hx (y := (⟨"com/example/cachelane/cachelane/cli/BenchKeysKeyPinLaw", "unshift", "(J)J"⟩ : MethodName)) hown (mvT hZ w26_) (mvT hZ w27_) (mvT hZ w28_) (mvT hZ w29_) (by decide) (backOf (W := 0) (rm5 l Z a0 hw [] (own_key q1 q3) T2.heap n0 Z2 ) hZ w29_ w28_ (by decide) (by decide)) (g := (mkF m 22 Lo3 [(.long (own_key q1 q3))])) rfl (by rw [hml]; rfl) (argsL := [(.long (own_key q1 q3))]) (rest := []) (lenOf pd_0_4 rfl) rfl (by show 2 * 0 + _ ≤ _; exact Nat.le_of_eq rfl) (hb hby at_22) (fun _ _ => ⟨rfl, e3, (by decide : 1 + 0 ≤ _), (by decide : 2 + 0 ≤ _)⟩)
  dsimp only [Pt.U, Pt.locs, Pt.cells, Pt.slots] at X4 l4 y4 z4 st4 hQ4
  subst l4 y4 z4
  obtain ⟨rfl, N4q, qq4⟩ := hQ4
  have N4 := Fr.app N3 N4q
  have e4 : T4.heap = T2.heap := qq4
  let Lo4 : Array Slot := #[.val (.long q1), .second, .val (.long q2), .second, .val (.long q3), .second, .val (.ref b1), .val (.long (own_key q1 q3)), .second, .val (.long (own_us (own_key q1 q3))), .second, .unset, .unset]
  obtain ⟨_, _, ⟨T5, L5, k5, n5⟩, -, X5, ⟨Lc5, hQ5, l5, y5, z5⟩, st5⟩ := Jvm.LawKit.callS X4 hx (y := (⟨"com/example/cachelane/cachelane/cli/BenchKeysKeyPinLaw", "unshift", "(J)J"⟩ : MethodName)) hown (mvT hZ w26_) (mvT hZ w27_) (mvT hZ w28_) (mvT hZ w29_) (by decide) (backOf (W := 0) (rm5 l Z a0 hw [] ((own_us (own_key q1 q3)) * (-7154897129451604005 : Int64)) T2.heap n0 Z2 ) hZ w29_ w28_ (by decide) (by decide)) (g := (mkF m 33 Lo4 [(.long ((own_us (own_key q1 q3)) * (-7154897129451604005 : Int64)))])) rfl (by rw [hml]; rfl) (argsL := [(.long ((own_us (own_key q1 q3)) * (-7154897129451604005 : Int64)))]) (rest := []) (lenOf pd_0_4 rfl) rfl (by show 2 * 0 + _ ≤ _; exact Nat.le_of_eq rfl) (hb hby at_33) (fun _ _ => ⟨rfl, e4, (by decide : 1 + 0 ≤ _), (by decide : 2 + 0 ≤ _)⟩)
  dsimp only [Pt.U, Pt.locs, Pt.cells, Pt.slots] at X5 l5 y5 z5 st5 hQ5
  subst l5 y5 z5
  obtain ⟨rfl, N5q, qq5⟩ := hQ5
  have N5 := Fr.app N4 N5q
  have e5 : T5.heap = T2.heap := qq5
  let Lo5 : Array Slot := #[.val (.long q1), .second, .val (.long q2), .second, .val (.long q3), .second, .val (.ref b1), .val (.long (own_key q1 q3)), .second, .val (.long (own_us ((own_us (own_key q1 q3)) * (-7154897129451604005 : Int64)))), .second, .unset, .unset]
  obtain ⟨_, _, ⟨T6, L6, k6, n6⟩, -, X6, ⟨Lc6, hQ6, l6, y6, z6⟩, st6⟩ := Jvm.LawKit.callS X5 hx (y := (⟨"com/example/cachelane/cachelane/cli/BenchKeysKeyPinLaw", "unshift", "(J)J"⟩ : MethodName)) hown (mvT hZ w26_) (mvT hZ w27_) (mvT hZ w28_) (mvT hZ w29_) (by decide) (backOf (W := 0) (rm5 l Z a0 hw [] ((own_us ((own_us (own_key q1 q3)) * (-7154897129451604005 : Int64))) * (5725274745694666757 : Int64)) T2.heap n0 Z2 ) hZ w29_ w28_ (by decide) (by decide)) (g := (mkF m 44 Lo5 [(.long ((own_us ((own_us (own_key q1 q3)) * (-7154897129451604005 : Int64))) * (5725274745694666757 : Int64)))])) rfl (by rw [hml]; rfl) (argsL := [(.long ((own_us ((own_us (own_key q1 q3)) * (-7154897129451604005 : Int64))) * (5725274745694666757 : Int64)))]) (rest := []) (lenOf pd_0_4 rfl) rfl (by show 2 * 0 + _ ≤ _; exact Nat.le_of_eq rfl) (hb hby at_44) (fun _ _ => ⟨rfl, e5, (by decide : 1 + 0 ≤ _), (by decide : 2 + 0 ≤ _)⟩)
  dsimp only [Pt.U, Pt.locs, Pt.cells, Pt.slots] at X6 l6 y6 z6 st6 hQ6
  subst l6 y6 z6
  obtain ⟨rfl, N6q, qq6⟩ := hQ6
  have N6 := Fr.app N5 N6q
  have e6 : T6.heap = T2.heap := qq6
  let Lo6 : Array Slot := #[.val (.long q1), .second, .val (.long q2), .second, .val (.long q3), .second, .val (.ref b1), .val (.long (own_key q1 q3)), .second, .val (.long (own_us ((own_us ((own_us (own_key q1 q3)) * (-7154897129451604005 : Int64))) * (5725274745694666757 : Int64)))), .second, .unset, .unset]
  let Lo7 : Array Slot := #[.val (.long q1), .second, .val (.long q2), .second, .val (.long q3), .second, .val (.ref b1), .val (.long (own_key q1 q3)), .second, .val (.long (own_us ((own_us ((own_us (own_key q1 q3)) * (-7154897129451604005 : Int64))) * (5725274745694666757 : Int64)))), .second, .val (.long (((own_us ((own_us ((own_us (own_key q1 q3)) * (-7154897129451604005 : Int64))) * (5725274745694666757 : Int64))) - q1) * (-1018231460777725123 : Int64))), .second]
  obtain ⟨fs, hr, hrun, hended, hW, hsame⟩ := X6.leave (v := some (.int 1)) (fun h => by rw [Bd.returns] at h; cases h)
  refine ⟨_, _, pre0 _ ?_, hrun, hended, _, _, rfl, ?_, ⟨_, rfl⟩, hW, hsame.mono (by decide) (by decide)⟩
  · show Steps p.tables e below (s₁.setTop (mkF m 0 Lo1 [])) _
    refine st1 _ ?_
    show Steps p.tables e below (T1.setTop (mkF m 3 Lo1 [(.ref b1)])) _
    refine XS.dup X1.here hx rfl (hb hby at_3) rfl rfl ?_
    show Steps p.tables e below (T1.setTop (mkF m 4 Lo1 [(.ref b1), (.ref b1)])) _
    refine XS.lloadN X1.here hx rfl (hb hby at_4) rfl ?_
    show Steps p.tables e below (T1.setTop (mkF m 5 Lo1 [(.long q1), (.ref b1), (.ref b1)])) _
    refine XS.lloadN X1.here hx rfl (hb hby at_5) rfl ?_
    show Steps p.tables e below (T1.setTop (mkF m 6 Lo1 [(.long q2), (.long q1), (.ref b1), (.ref b1)])) _
    refine st2.trans ?_
    show Steps p.tables e below (T2.setTop (mkF m 9 Lo1 [(.ref b1)])) _
    refine XS.astore X2.here hx rfl (hb hby at_9) rfl rfl (l' := Lo2) rfl ?_
    show Steps p.tables e below (T2.setTop (mkF m 11 Lo2 [])) _
    refine XS.aload X2.here hx rfl (hb hby at_11) rfl rfl ?_
    show Steps p.tables e below (T2.setTop (mkF m 13 Lo2 [(.ref b1)])) _
    refine XS.lload X2.here hx rfl (hb hby at_13) rfl ?_
    show Steps p.tables e below (T2.setTop (mkF m 15 Lo2 [(.long q3), (.ref b1)])) _
    refine st3.trans ?_
    show Steps p.tables e below (T3.setTop (mkF m 18 Lo2 [(.long (own_key q1 q3))])) _
    refine XS.lstore X3.here hx rfl (hb hby at_18) rfl (l' := Lo3) rfl ?_
    show Steps p.tables e below (T3.setTop (mkF m 20 Lo3 [])) _
    refine XS.lload X3.here hx rfl (hb hby at_20) rfl ?_
    show Steps p.tables e below (T3.setTop (mkF m 22 Lo3 [(.long (own_key q1 q3))])) _
    refine st4 _ ?_
    show Steps p.tables e below (T4.setTop (mkF m 25 Lo3 [(.long (own_us (own_key q1 q3)))])) _
    refine XS.lstore X4.here hx rfl (hb hby at_25) rfl (l' := Lo4) rfl ?_
    show Steps p.tables e below (T4.setTop (mkF m 27 Lo4 [])) _
    refine XS.lload X4.here hx rfl (hb hby at_27) rfl ?_
    show Steps p.tables e below (T4.setTop (mkF m 29 Lo4 [(.long (own_us (own_key q1 q3)))])) _
    refine X4.ldc2Long hx hown (mvT hZ w30_) (g := (mkF m 29 Lo4 [(.long (own_us (own_key q1 q3)))])) rfl (hb hby at_29) _ ?_
    show Steps p.tables e below (T4.setTop (mkF m 32 Lo4 [(.long (-7154897129451604005 : Int64)), (.long (own_us (own_key q1 q3)))])) _
    refine XS.lmul X4.here hx rfl (hb hby at_32) rfl ?_
    show Steps p.tables e below (T4.setTop (mkF m 33 Lo4 [(.long ((own_us (own_key q1 q3)) * (-7154897129451604005 : Int64)))])) _
    refine st5 _ ?_
    show Steps p.tables e below (T5.setTop (mkF m 36 Lo4 [(.long (own_us ((own_us (own_key q1 q3)) * (-7154897129451604005 : Int64))))])) _
    refine XS.lstore X5.here hx rfl (hb hby at_36) rfl (l' := Lo5) rfl ?_
    show Steps p.tables e below (T5.setTop (mkF m 38 Lo5 [])) _
    refine XS.lload X5.here hx rfl (hb hby at_38) rfl ?_
    show Steps p.tables e below (T5.setTop (mkF m 40 Lo5 [(.long (own_us ((own_us (own_key q1 q3)) * (-7154897129451604005 : Int64))))])) _
    refine X5.ldc2Long hx hown (mvT hZ w31_) (g := (mkF m 40 Lo5 [(.long (own_us ((own_us (own_key q1 q3)) * (-7154897129451604005 : Int64))))])) rfl (hb hby at_40) _ ?_
    show Steps p.tables e below (T5.setTop (mkF m 43 Lo5 [(.long (5725274745694666757 : Int64)), (.long (own_us ((own_us (own_key q1 q3)) * (-7154897129451604005 : Int64))))])) _
    refine XS.lmul X5.here hx rfl (hb hby at_43) rfl ?_
    show Steps p.tables e below (T5.setTop (mkF m 44 Lo5 [(.long ((own_us ((own_us (own_key q1 q3)) * (-7154897129451604005 : Int64))) * (5725274745694666757 : Int64)))])) _
    refine st6 _ ?_
    show Steps p.tables e below (T6.setTop (mkF m 47 Lo5 [(.long (own_us ((own_us ((own_us (own_key q1 q3)) * (-7154897129451604005 : Int64))) * (5725274745694666757 : Int64))))])) _
    refine XS.lstore X6.here hx rfl (hb hby at_47) rfl (l' := Lo6) rfl ?_
    show Steps p.tables e below (T6.setTop (mkF m 49 Lo6 [])) _
    refine XS.lload X6.here hx rfl (hb hby at_49) rfl ?_
    show Steps p.tables e below (T6.setTop (mkF m 51 Lo6 [(.long (own_us ((own_us ((own_us (own_key q1 q3)) * (-7154897129451604005 : Int64))) * (5725274745694666757 : Int64))))])) _
    refine XS.lloadN X6.here hx rfl (hb hby at_51) rfl ?_
    show Steps p.tables e below (T6.setTop (mkF m 52 Lo6 [(.long q1), (.long (own_us ((own_us ((own_us (own_key q1 q3)) * (-7154897129451604005 : Int64))) * (5725274745694666757 : Int64))))])) _
    refine XS.lsub X6.here hx rfl (hb hby at_52) rfl ?_
    show Steps p.tables e below (T6.setTop (mkF m 53 Lo6 [(.long ((own_us ((own_us ((own_us (own_key q1 q3)) * (-7154897129451604005 : Int64))) * (5725274745694666757 : Int64))) - q1))])) _
    refine X6.ldc2Long hx hown (mvT hZ w32_) (g := (mkF m 53 Lo6 [(.long ((own_us ((own_us ((own_us (own_key q1 q3)) * (-7154897129451604005 : Int64))) * (5725274745694666757 : Int64))) - q1))])) rfl (hb hby at_53) _ ?_
    show Steps p.tables e below (T6.setTop (mkF m 56 Lo6 [(.long (-1018231460777725123 : Int64)), (.long ((own_us ((own_us ((own_us (own_key q1 q3)) * (-7154897129451604005 : Int64))) * (5725274745694666757 : Int64))) - q1))])) _
    refine XS.lmul X6.here hx rfl (hb hby at_56) rfl ?_
    show Steps p.tables e below (T6.setTop (mkF m 57 Lo6 [(.long (((own_us ((own_us ((own_us (own_key q1 q3)) * (-7154897129451604005 : Int64))) * (5725274745694666757 : Int64))) - q1) * (-1018231460777725123 : Int64)))])) _
    refine XS.lstore X6.here hx rfl (hb hby at_57) rfl (l' := Lo7) rfl ?_
    show Steps p.tables e below (T6.setTop (mkF m 59 Lo7 [])) _
    refine XS.lload X6.here hx rfl (hb hby at_59) rfl ?_
    show Steps p.tables e below (T6.setTop (mkF m 61 Lo7 [(.long (((own_us ((own_us ((own_us (own_key q1 q3)) * (-7154897129451604005 : Int64))) * (5725274745694666757 : Int64))) - q1) * (-1018231460777725123 : Int64)))])) _
    refine XS.lload X6.here hx rfl (hb hby at_61) rfl ?_
    show Steps p.tables e below (T6.setTop (mkF m 63 Lo7 [(.long q3), (.long (((own_us ((own_us ((own_us (own_key q1 q3)) * (-7154897129451604005 : Int64))) * (5725274745694666757 : Int64))) - q1) * (-1018231460777725123 : Int64)))])) _
    refine XS.lcmp X6.here hx rfl (hb hby at_63) rfl ?_
    show Steps p.tables e below (T6.setTop (mkF m 64 Lo7 [(.int (lcmpW (((own_us ((own_us ((own_us (own_key q1 q3)) * (-7154897129451604005 : Int64))) * (5725274745694666757 : Int64))) - q1) * (-1018231460777725123 : Int64)) q3))])) _
    refine XS.ifNo X6.here hx rfl (hb hby at_64) rfl (own_lw_ne_f (own_back q1 q3)) ?_
    show Steps p.tables e below (T6.setTop (mkF m 67 Lo7 [])) _
    refine XS.iconst X6.here hx rfl (hb hby at_67) ?_
    show Steps p.tables e below (T6.setTop (mkF m 68 Lo7 [(.int (1 : Int32))])) _
    refine XS.goto X6.here hx rfl (pc0 := 68) (pc' := 72) rfl (hb hby at_68) (by decide) (by decide) ?_
    show Steps p.tables e below (T6.setTop (mkF m 72 Lo7 [(.int (1 : Int32))])) _
    exact own_retZ X6 hx Bd.returns (hb hby at_72) rfl rfl hr
  · show Q0 Z q1 q2 q3 h0 n0 _ T6.heap _
    exact ⟨rfl, N6⟩
set_option maxRecDepth 65536 in
set_option maxHeartbeats 40000000 in
theorem comes_1 {Post : Tables → Env → Array Value → State → Outcome → State → Prop} (hpost : ∀ tb e args s v u, (limb_1_1.after args s (.returned v) u = true ∧ limb_1_2.after args s (.returned v) u = true ∧ True) → FrameEnd s (.returned v) u (Jvm.fieldLocs frame_1_writes args s ++ Jvm.arrayLocs frame_1_arrays args s ++ Jvm.staticLocs frame_1_statics s) 16 128 → Post tb e args s (.returned v) u) :
    ArmFor flags0 classFile x code maxLocals ret World_1 tables_1 room_1 Calls_1 rest_1 Pre_1 Post := by
  intro l hfl _ _ p e ha hc hk s m args below hf hA hF happ hP
  obtain ⟨hcalls, hrest, hpre⟩ := hP
  obtain ⟨-, -, -, hnamed, -, -, -, hat⟩ := (Spec.applies_iff hf).mp happ
  obtain ⟨hg, hn⟩ := and_e (Cond.before_iff.mp (show (Jvm.Cond.and given_1 narrow_1).before args s = true from hpre))
  obtain ⟨gc, g0⟩ := and_e hg
  obtain ⟨ga0, gb0⟩ := and_e g0
  obtain ⟨ga1, gb1⟩ := and_e gb0
  obtain ⟨w0, w1, w2, rfl⟩ : ∃ w0 w1 w2 : Value, args = #[w0, w1, w2] := by
    have hs : args.size = 3 := by simpa [Cond.value, given_1] using gc
    obtain ⟨L⟩ := args
    match L, hs with
    | [w0, w1, w2], _ => exact ⟨w0, w1, w2, rfl⟩
  have hw := fun d (hd : d ∈ tables_1) => atoms_spec (ws := Jvm.Cond.code x code maxLocals ret :: tables_1) hat d (List.mem_cons_of_mem _ hd)
  obtain ⟨i0, ei0⟩ := isL_v ga0
  obtain rfl : w0 = (.long i0) := Option.some.inj ei0
  obtain ⟨i1, ei1⟩ := isL_v ga1
  obtain rfl : w1 = (.long i1) := Option.some.inj ei1
  obtain ⟨i2, ei2⟩ := isL_v gb1
  obtain rfl : w2 = (.long i2) := Option.some.inj ei2
  obtain ⟨n, o, h1, h2, h3, _, L, rfl, ⟨rfl, N⟩, hq⟩ := rm0 l s _ hw tables_1 i0 i1 i2 s.heap s.heap.size (Nat.le_refl _) p e ha hc hk s m _ below hf ((Spec.applies_iff_loose hf).mp happ).1 ⟨rfl, State.Warmed39.refl s, rfl⟩ trivial
  refine ⟨n, _, h1, h2, h3, hpost _ _ _ _ _ _ ⟨Cond.after_iff.mpr rfl, Cond.after_iff.mpr (eq_i res_at (Term.int_eval (1)) rfl), trivial⟩ ⟨hq.1, hq.2.1, (hq.2.2.sift fun y hy => Or.inr (N y hy)).mono (by decide) (by decide)⟩⟩
theorem main_1_1 : Claimed_1_1 := comes_1 fun _ _ _ _ _ _ h hF => ⟨h.1, hF⟩
theorem main_1_2 : Claimed_1_2 := comes_1 fun _ _ _ _ _ _ h hF => ⟨h.2.1, hF⟩
end Jvm.Pilot.@@N@@
namespace Jvm.Pilot.@@N@@
open Jvm Jvm.ClassFile Sem Op Lib Jvm.Free Jvm.Stand Jvm.Pilot.@@N@@.Jvm.D
/-! MADE BY PROGRAM (witnessworld.py) out of the Statement's table words and the real class files: 10 classes; the members and pool entries that the words name. The judged class is class 1, her method 2. -/
namespace start1
open Jvm.ClassFile
def u (s : String) : CpInfo := .utf8 (stringToUtf16 s)
/-- a pool by its gaps: so many unusable entries, then the entry; so many at the end -/
def gap : Nat → List CpInfo → List CpInfo
  | 0, r => r
  | n + 1, r => .unusable :: gap n r
def poolList (es : List (Nat × CpInfo)) (last : Nat) : List CpInfo := es.foldr (fun e r => gap e.1 (e.2 :: r)) (gap last [])
def pool (es : List (Nat × CpInfo)) (last : Nat) : Array CpInfo := ⟨poolList es last⟩
def fileOf (pool : Array CpInfo) (this : Nat) (attrs : Array Attribute := #[]) (ms : Array MethodInfo := #[]) (fl : Nat := 33) (sup : Nat := 0) (ifs : Array Nat := #[]) (fds : Array FieldInfo := #[]) : ClassFile where
  minorVersion := 0
  majorVersion := 65
  constantPool := pool
  accessFlags := fl
  thisClass := this
  superClass := sup
  interfaces := ifs
  fields := fds
  methods := ms
  attributes := attrs
def plain (name : String) (sup : Option ClassId) : Class where
  name := name
  kind := .ordinary
  loader := none
  accessFlags := 33
  super := sup
  interfaces := #[]
  cf := none
  fields := #[]
  methods := #[]
  instanceTypes := #[]
  staticTypes := #[]
  resolved := #[]
  callSites := []
  init := .initialized
  statics := none
  mirror := none

def pool0 : Array CpInfo := pool [(5, u "<init>"), (0, u "()V"), (1, .class_ 10), (1, u "java/lang/Object")] 113

def k0c0 : Code := { maxStack := 0, maxLocals := 1, code := object_method_1_code, exceptionTable := #[], attributes := #[] }
def k0m0 : Method := { name := "<init>", desc := "()V", sig := { parameters := [], returnType := none }, accessFlags := 1, code := some k0c0 }
/-- java/lang/Object -/
def k0 : Class := { plain "java/lang/Object" none with
  accessFlags := 33
  interfaces := #[]
  cf := some (fileOf pool0 8 #[] #[{ accessFlags := 1, nameIndex := 5, descriptorIndex := 6, attributes := #[] }] 33 0 #[] #[])
  fields := #[]
  methods := #[k0m0]
  instanceTypes := #[]
  staticTypes := #[]
  resolved := Array.replicate 124 none
  statics := none }

def pool1 : Array CpInfo := pool [(2, .class_ 4), (1, u "java/lang/Object"), (0, u "<init>"), (0, u "()V"), (0, .class_ 8), (0, u "com/example/cachelane/cachelane/cli/BenchKeys"), (0, .methodref 7 10), (0, .nameAndType 5 11), (0, u "(JJ)V"), (0, .methodref 7 13), (0, .nameAndType 14 15), (0, u "key"), (0, u "(J)J"), (0, .methodref 17 18), (0, .class_ 19), (0, .nameAndType 20 15), (0, u "com/example/cachelane/cachelane/cli/BenchKeysKeyPinLaw"), (0, u "unshift"), (0, .long 11291846944257947611), (1, .long 5725274745694666757), (1, .long 17428512612931826493), (3, u "law"), (0, u "(JJJ)Z")] 3

def k1m0 : Method := { name := "<init>", desc := "()V", sig := { parameters := [], returnType := none }, accessFlags := 1, code := none }
def k1c1 : Code := { maxStack := 5, maxLocals := 2, code := method_2_code, exceptionTable := #[], attributes := #[] }
def k1m1 : Method := { name := "unshift", desc := "(J)J", sig := { parameters := [.long], returnType := some .long }, accessFlags := 10, code := some k1c1 }
def k1c2 : Code := { maxStack := 6, maxLocals := 13, code := code, exceptionTable := #[], attributes := #[] }
def k1m2 : Method := { name := "law", desc := "(JJJ)Z", sig := { parameters := [.long, .long, .long], returnType := some .boolean }, accessFlags := 9, code := some k1c2 }
/-- com/example/cachelane/cachelane/cli/BenchKeysKeyPinLaw -/
def k1 : Class := { plain "com/example/cachelane/cachelane/cli/BenchKeysKeyPinLaw" (some 0) with
  accessFlags := 49
  interfaces := #[]
  cf := some (fileOf pool1 17 #[] #[{ accessFlags := 1, nameIndex := 5, descriptorIndex := 6, attributes := #[] }, { accessFlags := 10, nameIndex := 20, descriptorIndex := 15, attributes := #[] }, { accessFlags := 9, nameIndex := 29, descriptorIndex := 30, attributes := #[] }] 49 2 #[] #[])
  fields := #[]
  methods := #[k1m0, k1m1, k1m2]
  instanceTypes := #[]
  staticTypes := #[]
  resolved := Array.replicate 34 none
  statics := none }

def pool2 : Array CpInfo := pool [(1, .methodref 2 3), (0, .class_ 4), (0, .nameAndType 5 6), (0, u "java/lang/Object"), (0, u "<init>"), (0, u "()V"), (0, .class_ 8), (0, u "java/lang/Record")] 13

def k2c0 : Code := { maxStack := 1, maxLocals := 1, code := jdk_30_method_1_code, exceptionTable := #[], attributes := #[] }
def k2m0 : Method := { name := "<init>", desc := "()V", sig := { parameters := [], returnType := none }, accessFlags := 4, code := some k2c0 }
/-- java/lang/Record -/
def k2 : Class := { plain "java/lang/Record" (some 0) with
  accessFlags := 1057
  interfaces := #[]
  cf := some (fileOf pool2 7 #[] #[{ accessFlags := 4, nameIndex := 5, descriptorIndex := 6, attributes := #[] }] 1057 2 #[] #[])
  fields := #[]
  methods := #[k2m0]
  instanceTypes := #[]
  staticTypes := #[]
  resolved := Array.replicate 22 none
  statics := none }

def pool3 : Array CpInfo := pool [(1, .methodref 2 3), (0, .class_ 4), (0, .nameAndType 5 6), (0, u "java/lang/Record"), (0, u "<init>"), (0, u "()V"), (0, .fieldref 8 9), (0, .class_ 10), (0, .nameAndType 11 12), (0, u "com/example/cachelane/cachelane/cli/BenchKeys"), (0, u "base"), (0, u "J"), (0, .fieldref 8 14), (0, .nameAndType 15 12), (0, u "count"), (0, .long 11400714819323198485), (1, .long 18397679294719823053), (1, .long 14181476777654086739), (11, u "key"), (0, u "(J)J"), (32, u "BATCH"), (0, u "I"), (2, u "(JJ)V")] 44

def k3c0 : Code := { maxStack := 3, maxLocals := 5, code := prog_30_method_1_code, exceptionTable := #[], attributes := #[] }
def k3m0 : Method := { name := "<init>", desc := "(JJ)V", sig := { parameters := [.long, .long], returnType := none }, accessFlags := 0, code := some k3c0 }
def k3c1 : Code := { maxStack := 6, maxLocals := 5, code := prog_30_method_2_code, exceptionTable := #[], attributes := #[] }
def k3m1 : Method := { name := "key", desc := "(J)J", sig := { parameters := [.long], returnType := some .long }, accessFlags := 0, code := some k3c1 }
/-- com/example/cachelane/cachelane/cli/BenchKeys -/
def k3 : Class := { plain "com/example/cachelane/cachelane/cli/BenchKeys" (some 2) with
  accessFlags := 48
  interfaces := #[]
  cf := some (fileOf pool3 8 #[] #[{ accessFlags := 0, nameIndex := 5, descriptorIndex := 70, attributes := #[] }, { accessFlags := 0, nameIndex := 32, descriptorIndex := 33, attributes := #[] }] 48 2 #[] #[{ accessFlags := 18, nameIndex := 11, descriptorIndex := 12, attributes := #[] }, { accessFlags := 18, nameIndex := 15, descriptorIndex := 12, attributes := #[] }, { accessFlags := 26, nameIndex := 66, descriptorIndex := 67, attributes := #[] }])
  fields := #[{ name := "base", type := .long, accessFlags := 18, slot := 0, constantValue := 0 }, { name := "count", type := .long, accessFlags := 18, slot := 1, constantValue := 0 }, { name := "BATCH", type := .int, accessFlags := 26, slot := 0, constantValue := 0 }]
  methods := #[k3m0, k3m1]
  instanceTypes := #[.long, .long]
  staticTypes := #[.int]
  resolved := Array.replicate 115 none
  statics := none }

def pool4 : Array CpInfo := pool [(1, u "java/lang/Cloneable"), (0, .class_ 1), (0, u "java/lang/Object"), (0, .class_ 3)] 3

/-- java/lang/Cloneable -/
def k4 : Class := { plain "java/lang/Cloneable" (some 0) with
  accessFlags := 1537
  interfaces := #[]
  cf := some (fileOf pool4 2 #[] #[] 1537 4 #[] #[])
  fields := #[]
  methods := #[]
  instanceTypes := #[]
  staticTypes := #[]
  resolved := Array.replicate 8 none
  statics := none }

def pool5 : Array CpInfo := pool [(1, u "java/io/Serializable"), (0, .class_ 1), (0, u "java/lang/Object"), (0, .class_ 3)] 3

/-- java/io/Serializable -/
def k5 : Class := { plain "java/io/Serializable" (some 0) with
  accessFlags := 1537
  interfaces := #[]
  cf := some (fileOf pool5 2 #[] #[] 1537 4 #[] #[])
  fields := #[]
  methods := #[]
  instanceTypes := #[]
  staticTypes := #[]
  resolved := Array.replicate 8 none
  statics := none }

/-- the primitive byte -/
def k6 : Class := { plain "byte" none with kind := .primitive 'B', accessFlags := 0x411 }
/-- [B -/
def k7 : Class := { plain "[B" (some 0) with kind := .array 6 .byte, interfaces := #[4, 5], accessFlags := 1041 }

/-- the primitive int -/
def k8 : Class := { plain "int" none with kind := .primitive 'I', accessFlags := 0x411 }
/-- [I -/
def k9 : Class := { plain "[I" (some 0) with kind := .array 8 .int, interfaces := #[4, 5], accessFlags := 1041 }

def heap : Heap := #[]
def classes : Array Class := #[k0, k1, k2, k3, k4, k5, k6, k7, k8, k9]
def interned : List (Array UInt16 × Addr) := []
def slotsUsed : Nat := 0
def theMethod : MethodId := ⟨1, 2⟩
def args0 : Array Value := #[.long 3, .long 4, .long 5]
def aboutOver (below : List Frame) : State where
  vm := { classes := classes, interned := interned.toArray }
  heap := heap
  slotsUsed := slotsUsed
  threads := #[{ frames := .invoking theMethod args0 :: below }]
def below0 : List Frame := [.native { method := ⟨0, 0⟩, args := #[] }]
def about1 : State := aboutOver below0
def p0 : Program := .bare "" "" ""
def e0 : Env := launch0.env 0 0 0
theorem w_frames : about1.frames = Frame.invoking theMethod args0 :: below0 := rfl
set_option maxRecDepth 65536 in
theorem w_args : argsFit about1.vm theMethod args0 = true := by decide +kernel
set_option maxRecDepth 65536 in
theorem w_heap : heapFits about1 = true := by decide +kernel
set_option maxRecDepth 65536 in
theorem w_runnable : about1.curStatus? = some .runnable := by decide +kernel
set_option maxRecDepth 65536 in
theorem w_alone : about1.alone = true := by decide +kernel
set_option maxRecDepth 65536 in
theorem w_named : about1.methodNamed? x = some theMethod := by decide +kernel
set_option maxRecDepth 65536 in
theorem w_hears : about1.hears theMethod below0 = true := by decide +kernel
set_option maxRecDepth 65536 in
theorem w_ripe : about1.ripe theMethod args0 below0 = true := by decide +kernel
theorem w_running : about1.status = .running := rfl
set_option maxRecDepth 65536 in
theorem w_room : about1.hasRoom e0.platform room_1 = true :=
  launch0.hasRoom_least _ room_1 (by decide +kernel) (by decide +kernel) (by decide +kernel) (by decide +kernel) (by decide +kernel) (by decide +kernel)
theorem allAtoms_all (ts : List Jvm.Cond) (a : Array Jvm.Value) (st : Jvm.State) : (allAtoms ts).before a st = ts.all (fun c => c.before a st) := by
  induction ts with
  | nil => rfl
  | cons c t ih =>
    show (Jvm.Cond.and c (allAtoms t)).before a st = _
    rw [Jvm.Cond.before_and, ih, List.all_cons]
def words1 : List Jvm.Cond := Jvm.Cond.code x code maxLocals ret :: tables_1
/-- a 'code' word, met by the world's own term for the bytes: nothing is compared byte by byte -/
theorem code_word {y : MethodName} {bytes : ByteArray} {mx : Nat} {rt : Option FieldType} {a : Array Value} {s : State} {m : MethodId} {meth : Method} {c : Code} (h1 : s.methodNamed? y = some m) (h2 : s.vm.method? m = some meth) (h3 : meth.code = some c) (h4 : c.code = bytes)
    (h5 : (c.maxLocals == mx && c.exceptionTable.isEmpty && decide (c.maxStack ≤ mostOperands) && decide (meth.sig.returnType = rt) && !meth.locks && decide (parseMethodDescriptor y.desc = some meth.sig)) = true) : (Jvm.Cond.code y bytes mx rt).before a s = true := by
  simp only [Bool.and_eq_true, beq_iff_eq, Bool.not_eq_true', decide_eq_true_eq] at h5
  obtain ⟨⟨⟨⟨⟨g1, g2⟩, g3⟩, g4⟩, g5⟩, g6⟩ := h5
  simp [Cond.before, Cond.holds, Cond.value, h1, h2, h3, h4, g1, g2, g3, g4, g5, g6]
def isCode : Jvm.Cond → Bool
  | .code _ _ _ _ => true
  | _ => false
theorem all_split {L : List Jvm.Cond} {P : Jvm.Cond → Bool} (h1 : L.all (fun c => isCode c || P c) = true) (h2 : ∀ c ∈ L.filter isCode, P c = true) : L.all P = true := by
  refine List.all_eq_true.mpr fun c hc => ?_
  have h := List.all_eq_true.mp h1 c hc
  rcases Bool.eq_false_or_eq_true (isCode c) with hi | hi
  · exact h2 c (List.mem_filter.mpr ⟨hc, hi⟩)
  · simpa [hi] using h
set_option maxRecDepth 65536 in
theorem w_c0 : (Jvm.Cond.code x code maxLocals ret).before args0 about1 = true := code_word (m := ⟨1, 2⟩) (meth := k1m2) (c := k1c2) (by decide +kernel) rfl rfl rfl (by decide +kernel)
set_option maxRecDepth 65536 in
theorem w_c1 : (Jvm.Cond.code ({ cls := "com/example/cachelane/cachelane/cli/BenchKeys", name := "<init>", desc := "(JJ)V" } : Jvm.MethodName) prog_30_method_1_code (5 : Nat) (Option.none : Option Jvm.ClassFile.FieldType)).before args0 about1 = true := code_word (m := ⟨3, 0⟩) (meth := k3m0) (c := k3c0) (by decide +kernel) rfl rfl rfl (by decide +kernel)
set_option maxRecDepth 65536 in
theorem w_c2 : (Jvm.Cond.code ({ cls := "java/lang/Record", name := "<init>", desc := "()V" } : Jvm.MethodName) jdk_30_method_1_code (1 : Nat) (Option.none : Option Jvm.ClassFile.FieldType)).before args0 about1 = true := code_word (m := ⟨2, 0⟩) (meth := k2m0) (c := k2c0) (by decide +kernel) rfl rfl rfl (by decide +kernel)
set_option maxRecDepth 65536 in
theorem w_c3 : (Jvm.Cond.code ({ cls := "java/lang/Object", name := "<init>", desc := "()V" } : Jvm.MethodName) object_method_1_code (1 : Nat) (Option.none : Option Jvm.ClassFile.FieldType)).before args0 about1 = true := code_word (m := ⟨0, 0⟩) (meth := k0m0) (c := k0c0) (by decide +kernel) rfl rfl rfl (by decide +kernel)
set_option maxRecDepth 65536 in
theorem w_c4 : (Jvm.Cond.code ({ cls := "com/example/cachelane/cachelane/cli/BenchKeys", name := "key", desc := "(J)J" } : Jvm.MethodName) prog_30_method_2_code (5 : Nat) (Option.some Jvm.ClassFile.FieldType.long)).before args0 about1 = true := code_word (m := ⟨3, 1⟩) (meth := k3m1) (c := k3c1) (by decide +kernel) rfl rfl rfl (by decide +kernel)
set_option maxRecDepth 65536 in
theorem w_c5 : (Jvm.Cond.code ({ cls := "com/example/cachelane/cachelane/cli/BenchKeysKeyPinLaw", name := "unshift", desc := "(J)J" } : Jvm.MethodName) method_2_code (2 : Nat) (Option.some Jvm.ClassFile.FieldType.long)).before args0 about1 = true := code_word (m := ⟨1, 1⟩) (meth := k1m1) (c := k1c1) (by decide +kernel) rfl rfl rfl (by decide +kernel)
def codes1 : List Jvm.Cond := [Jvm.Cond.code x code maxLocals ret, Jvm.Cond.code ({ cls := "com/example/cachelane/cachelane/cli/BenchKeys", name := "<init>", desc := "(JJ)V" } : Jvm.MethodName) prog_30_method_1_code (5 : Nat) (Option.none : Option Jvm.ClassFile.FieldType), Jvm.Cond.code ({ cls := "java/lang/Record", name := "<init>", desc := "()V" } : Jvm.MethodName) jdk_30_method_1_code (1 : Nat) (Option.none : Option Jvm.ClassFile.FieldType), Jvm.Cond.code ({ cls := "java/lang/Object", name := "<init>", desc := "()V" } : Jvm.MethodName) object_method_1_code (1 : Nat) (Option.none : Option Jvm.ClassFile.FieldType), Jvm.Cond.code ({ cls := "com/example/cachelane/cachelane/cli/BenchKeys", name := "key", desc := "(J)J" } : Jvm.MethodName) prog_30_method_2_code (5 : Nat) (Option.some Jvm.ClassFile.FieldType.long), Jvm.Cond.code ({ cls := "com/example/cachelane/cachelane/cli/BenchKeysKeyPinLaw", name := "unshift", desc := "(J)J" } : Jvm.MethodName) method_2_code (2 : Nat) (Option.some Jvm.ClassFile.FieldType.long)]
set_option maxRecDepth 65536 in
theorem codes_eq : words1.filter isCode = codes1 := rfl
theorem w_codes : ∀ c ∈ words1.filter isCode, c.before args0 about1 = true := by
  rw [codes_eq]
  intro c hc
  simp only [codes1, List.mem_cons, List.not_mem_nil, or_false] at hc
  rcases hc with rfl | rfl | rfl | rfl | rfl | rfl
  · exact w_c0
  · exact w_c1
  · exact w_c2
  · exact w_c3
  · exact w_c4
  · exact w_c5
set_option maxRecDepth 65536 in
theorem w_t1 : (words1.take 24).all (fun c => isCode c || c.before args0 about1) = true := by decide +kernel
set_option maxRecDepth 65536 in
theorem w_t2 : (words1.drop 24).all (fun c => isCode c || c.before args0 about1) = true := by decide +kernel
theorem w_tables : (allAtoms (Jvm.Cond.code x code maxLocals ret :: tables_1)).before args0 about1 = true := by
  rw [allAtoms_all]
  show words1.all (fun c => c.before args0 about1) = true
  refine all_split ?_ w_codes
  rw [← List.take_append_drop 24 words1, List.all_append, w_t1, w_t2]
  rfl
set_option maxRecDepth 65536 in
theorem w_case : (Jvm.Cond.and given_1 narrow_1).before args0 about1 = true := by decide +kernel
theorem w_applies : (headSpec (Jvm.Cond.code x code maxLocals ret :: tables_1) room_1).applies x e0.platform about1 = true :=
  (Spec.applies_iff w_frames).mpr ⟨w_running, w_runnable, w_alone, w_named, w_hears, w_ripe, w_room, w_tables⟩
theorem atStart : AtStart classFile x code maxLocals ret World_1 tables_1 room_1 Calls_1 rest_1 Pre_1 launch0 p0 e0 about1 theMethod args0 below0 :=
  ⟨lists_1, trivial, launch0.admits_env _ _ _, launch0.least_env, fairChoices_fair.cas, fairChoices_fair.clock, w_frames, w_args, w_heap, w_applies, trivial, trivial, w_case⟩
end start1
theorem witness_1 : WitnessClaimed_1 := ⟨start1.p0, start1.e0, start1.about1, start1.theMethod, start1.args0, start1.below0, start1.atStart⟩
end Jvm.Pilot.@@N@@
