import JvmDerived
import JvmDerived.Pilot.@@N@@Statement
import JvmDerived.Pilot.@@N@@Code
set_option linter.unusedVariables false
set_option linter.unusedSimpArgs false
namespace Jvm.RoadKit
open Sem ClassFile Op Lib Jvm.Stand Jvm.Free Jvm.LawKit
section OwnRets
variable {p : Program} {l : Launch} {e : Env} {R : Room} {s : State} {m : MethodId} {args : Array Value} {below : List Frame} {meth : Method} {c : Code} {T : State} {locs : List Loc} {cells slots : Nat}
theorem own_retI (X : Stand p l e R s m args below meth c T locs cells slots) (hx : p.tables.exec = Jvm.exec) {pc : Nat} {Ls : Array Slot} {z z' : Int32} {rest : List Value} (hret : meth.sig.returnType = some .int) (hd : decode c.code pc = .ok (.ireturn, 1)) (hz : z' = z) {fs : List Frame}
    (hl : ∀ (f : JFrame) (acts : List Action), f.method = m → f.locked = none → f.entered = [] → (doReturn e (T.setTop f) acts (some (.int z'))).1 = T.setFrames fs) : Steps p.tables e below (T.setTop (mkF m pc Ls (.int z :: rest))) (T.setFrames fs) := by
  subst hz
  have hm' : T.vm.method? m = some meth := X.method'
  have hn : narrow .int (.int z') = .int z' := rfl
  show Steps p.tables e below (T.setTop { method := m, pc := pc, locals := Ls, stack := _ :: rest, locked := none }) _
  jvm_step X.here [X.here.top, hx, hd, hm', hret, hn]
  first | (intro acts; rw [hl _ acts rfl rfl rfl]) | rw [hl _ _ rfl rfl rfl]
  exact Steps.refl _
theorem own_retZ (X : Stand p l e R s m args below meth c T locs cells slots) (hx : p.tables.exec = Jvm.exec) {pc : Nat} {Ls : Array Slot} {z z' : Int32} {rest : List Value} (hret : meth.sig.returnType = some .boolean) (hd : decode c.code pc = .ok (.ireturn, 1)) (hz : z' = z) (hn : nar .boolean z = z) {fs : List Frame}
    (hl : ∀ (f : JFrame) (acts : List Action), f.method = m → f.locked = none → f.entered = [] → (doReturn e (T.setTop f) acts (some (.int z'))).1 = T.setFrames fs) : Steps p.tables e below (T.setTop (mkF m pc Ls (.int z :: rest))) (T.setFrames fs) := by
  subst hz
  refine retN X hx (t := .boolean) hret (by simp) hd ?_
  rw [hn]; exact hl
theorem own_retJ (X : Stand p l e R s m args below meth c T locs cells slots) (hx : p.tables.exec = Jvm.exec) {pc : Nat} {Ls : Array Slot} {z z' : Int64} (hret : meth.sig.returnType = some .long) (hd : decode c.code pc = .ok (.lreturn, 1)) (hz : z' = z) {fs : List Frame}
    (hl : ∀ (f : JFrame) (acts : List Action), f.method = m → f.locked = none → f.entered = [] → (doReturn e (T.setTop f) acts (some (.long z'))).1 = T.setFrames fs) : Steps p.tables e below (T.setTop (mkF m pc Ls [.long z])) (T.setFrames fs) := by
  subst hz
  exact X.lreturnOut hx hret hd hl
end OwnRets
theorem own_lw_eq_t {x y : Int64} (h : x = y) : ifCond.holds .eq (lcmpW x y) = true := (if0 _ _).trans (teq ((lw_eq x y).mpr h)).1
theorem own_lw_eq_f {x y : Int64} (h : ¬ x = y) : ifCond.holds .eq (lcmpW x y) = false := (if0 _ _).trans (feq (mt (lw_eq x y).mp h)).1
theorem own_lw_ne_t {x y : Int64} (h : ¬ x = y) : ifCond.holds .ne (lcmpW x y) = true := (if0 _ _).trans (feq (mt (lw_eq x y).mp h)).2
theorem own_lw_ne_f {x y : Int64} (h : x = y) : ifCond.holds .ne (lcmpW x y) = false := (if0 _ _).trans (teq ((lw_eq x y).mpr h)).2
theorem own_lw_lt_t {x y : Int64} (h : x < y) : ifCond.holds .lt (lcmpW x y) = true := (if0 _ _).trans (tlt ((lw_lt x y).mpr h)).1
theorem own_lw_lt_f {x y : Int64} (h : ¬ x < y) : ifCond.holds .lt (lcmpW x y) = false := (if0 _ _).trans (flt (mt (lw_lt x y).mp h)).1
theorem own_lw_ge_t {x y : Int64} (h : ¬ x < y) : ifCond.holds .ge (lcmpW x y) = true := (if0 _ _).trans (flt (mt (lw_lt x y).mp h)).2.1
theorem own_lw_ge_f {x y : Int64} (h : x < y) : ifCond.holds .ge (lcmpW x y) = false := (if0 _ _).trans (tlt ((lw_lt x y).mpr h)).2.1
end Jvm.RoadKit
namespace Jvm.Pilot.@@N@@
open Jvm Jvm.ClassFile Sem Op Lib Jvm.Free Jvm.Stand Jvm.LawKit Jvm.RoadKit Bundle Jvm.Pilot.@@N@@.Jvm.D
def own_nx (a x : Int64) : Int64 := x * (2 - a * x)
def own_of (a : Int64) : Int64 := own_nx a (own_nx a (own_nx a (own_nx a (own_nx a a))))
def own_nxI (a x : Int) : Int := x * (2 - a * x)
theorem own_nx_ofInt (a x : Int) : own_nx (Int64.ofInt a) (Int64.ofInt x) = Int64.ofInt (own_nxI a x) := by
  unfold own_nx own_nxI
  rw [Int64.ofInt_mul, Int64.ofInt_sub, Int64.ofInt_mul]
  rfl
theorem own_errI (a x : Int) : 1 - a * own_nxI a x = (1 - a * x) * (1 - a * x) := by
  unfold own_nxI
  grind
theorem own_ofInt_one {n : Int} (t : Int) (h : 1 - n = 18446744073709551616 * t) : Int64.ofInt n = 1 := by
  have e : n = 1 + 18446744073709551616 * (-t) := by omega
  rw [← Int64.toInt_inj, Int64.toInt_ofInt, e]
  show (1 + 18446744073709551616 * (-t)).bmod (2 ^ 64) = 1
  have := Int.add_mul_bmod_self_left 1 (2 ^ 64) (-t)
  rw [show (((2 : Nat) ^ 64 : Nat) : Int) = 18446744073709551616 from by decide] at this
  rw [this]
  decide
theorem own_odd (a : Int64) : (a ||| 1).toInt % 2 = 1 := by
  have h : (a ||| 1).toBitVec = a.toBitVec ||| 1#64 := rfl
  have q : (a ||| 1).toBitVec.toNat % 2 = 1 := by
    rw [h, BitVec.toNat_or]
    show (a.toBitVec.toNat ||| 1) % 2 = 1
    rw [Nat.or_mod_two_eq_one]
    exact Or.inr rfl
  have e : (a ||| 1).toInt = (a ||| 1).toBitVec.toInt := rfl
  rw [e, BitVec.toInt_eq_toNat_bmod]
  have b := Int.bmod_def ((a ||| 1).toBitVec.toNat : Int) (2 ^ 64)
  omega
theorem own_sq8 (n : Int) (h : n % 2 = 1) : ∃ t, 1 - n * n = 8 * t := by
  obtain ⟨k, hk⟩ : ∃ k, n = 2 * k + 1 := ⟨n / 2, by omega⟩
  have hj : ∃ j, k * (k + 1) = 2 * j := by
    rcases Int.emod_two_eq k with h0 | h0
    · exact ⟨k / 2 * (k + 1), by rw [← Int.mul_assoc]; congr 1; omega⟩
    · refine ⟨k * ((k + 1) / 2), ?_⟩
      rw [Int.mul_left_comm]; congr 1; omega
  obtain ⟨j, hj⟩ := hj
  refine ⟨-j, ?_⟩
  subst hk
  grind
theorem own_inv (a : Int64) : (a ||| 1) * own_of (a ||| 1) = 1 := by
  have ho := own_odd a
  generalize (a ||| 1) = o at *
  obtain ⟨n, hn⟩ : ∃ n, n = o.toInt := ⟨_, rfl⟩
  have ho' : o = Int64.ofInt n := by rw [hn, Int64.ofInt_toInt]
  rw [← hn] at ho
  obtain ⟨t, ht⟩ := own_sq8 n ho
  unfold own_of
  rw [ho', own_nx_ofInt, own_nx_ofInt, own_nx_ofInt, own_nx_ofInt, own_nx_ofInt, ← Int64.ofInt_mul]
  refine own_ofInt_one (4294967296 * (t * t * (t * t) * (t * t * (t * t)) * (t * t * (t * t) * (t * t * (t * t))) * (t * t * (t * t) * (t * t * (t * t)) * (t * t * (t * t) * (t * t * (t * t)))))) ?_
  rw [own_errI, own_errI, own_errI, own_errI, own_errI, ht]
  grind
theorem own_inv32 (a : Int64) : (a ||| 1).toInt32 * (own_of (a ||| 1)).toInt32 = 1 := by
  rw [← Int64.toInt32_mul, own_inv]
  rfl
theorem d1_0 : decode prog_56_method_2_code 0 = .ok (.lload_n 0, 1) := by decide +kernel
theorem d1_1 : decode prog_56_method_2_code 1 = .ok (.lstore_n 2, 1) := by decide +kernel
theorem d1_2 : decode prog_56_method_2_code 2 = .ok (.iconst 0, 1) := by decide +kernel
theorem d1_3 : decode prog_56_method_2_code 3 = .ok (.istore 4, 2) := by decide +kernel
theorem d1_5 : decode prog_56_method_2_code 5 = .ok (.iload 4, 2) := by decide +kernel
theorem d1_7 : decode prog_56_method_2_code 7 = .ok (.iconst 5, 1) := by decide +kernel
theorem d1_8 : decode prog_56_method_2_code 8 = .ok (.if_icmp .ge 19, 3) := by decide +kernel
theorem d1_11 : decode prog_56_method_2_code 11 = .ok (.lload_n 2, 1) := by decide +kernel
theorem d1_12 : decode prog_56_method_2_code 12 = .ok (.ldc2_w 7, 3) := by decide +kernel
theorem d1_15 : decode prog_56_method_2_code 15 = .ok (.lload_n 0, 1) := by decide +kernel
theorem d1_16 : decode prog_56_method_2_code 16 = .ok (.lload_n 2, 1) := by decide +kernel
theorem d1_17 : decode prog_56_method_2_code 17 = .ok (.lmul, 1) := by decide +kernel
theorem d1_18 : decode prog_56_method_2_code 18 = .ok (.lsub, 1) := by decide +kernel
theorem d1_19 : decode prog_56_method_2_code 19 = .ok (.lmul, 1) := by decide +kernel
theorem d1_20 : decode prog_56_method_2_code 20 = .ok (.lstore_n 2, 1) := by decide +kernel
theorem d1_21 : decode prog_56_method_2_code 21 = .ok (.iinc 4 1, 3) := by decide +kernel
theorem d1_24 : decode prog_56_method_2_code 24 = .ok (.goto (-19), 3) := by decide +kernel
theorem d1_27 : decode prog_56_method_2_code 27 = .ok (.lload_n 2, 1) := by decide +kernel
theorem d1_28 : decode prog_56_method_2_code 28 = .ok (.lreturn, 1) := by decide +kernel
theorem pn_1 : plainName "factorwright/WordInverse" = true := by first | (simp [plainName, overriddenIn]; done) | decide +kernel
theorem ef_1 (m : MethodId) (x0 : Int64) : entryFrame m #[(.long x0)] 5 = mkF m 0 #[.val (.long x0), .second, .unset, .unset, .unset] [] := by first | (simp [entryFrame, mkF, argsToLocals, Value.category]; done) | rfl
def Q1 (Z : State) (p1 : Int64) (h0 : Heap) (n0 : Nat) (v : Option Value) (h : Heap) (L : List Loc) : Prop := v = some (.long (own_of p1)) ∧ Fr n0 L ∧ h = h0
set_option maxRecDepth 65536 in
set_option maxHeartbeats 40000000 in
theorem rm1 (l : Launch) (Z : State) (a0 : Array Value) (hw : ∀ d ∈ tables_1, d.before a0 Z = true) (ws : List Jvm.Cond) (p1 : Int64) (h0 : Heap) (n0 : Nat) (Z0 : n0 ≤ h0.size)  :
    MetFree l (⟨"factorwright/WordInverse", "of", "(J)J"⟩ : MethodName) (head1 (Jvm.Cond.code (⟨"factorwright/WordInverse", "of", "(J)J"⟩ : MethodName) prog_56_method_2_code 5 (some .long) :: ws) ({ frames := 0, cells := 0, slots := 0, locals := 0 } : Room)) (fun a U => a = #[(.long p1)] ∧ Z.Warmed39 U.vm ∧ U.heap = h0) (fun _ _ _ _ _ => True) (fun _ U o U' => ∃ v L, o = .returned v ∧ Q1 Z p1 h0 n0 v U'.heap L ∧ FrameEnd U o U' L ({ frames := 0, cells := 0, slots := 0, locals := 0 } : Room).cells ({ frames := 0, cells := 0, slots := 0, locals := 0 } : Room).slots) := by
  refine MetFree.of_bodySF (plainFor_of_name pn_1) hisR ?_
  intro p e s m args below meth c s₁ Bd hml0 hP hK
  obtain ⟨rfl, hZ, hh⟩ := hP
  have w4_ := hw _ (List.mem_of_getElem? (i := 4) rfl)
  have hx := Bd.exec
  have hby := Bd.bytes
  have hml : c.maxLocals = 5 := hml0
  have hown : s.vm.findClass "factorwright/WordInverse" = some m.cls := findClass_of_methodNamed Bd.named
  have hnm := (name_of_methodNamed Bd.named Bd.method).1
  have X0 : Stand p l e ({ frames := 0, cells := 0, slots := 0, locals := 0 } : Room) s m #[(.long p1)] below meth c s₁ [] 0 0 := Stand.of_body Bd
  have e0 : s₁.heap = h0 := by rw [← hh, Bd.state]; rfl
  have N0 := Fr.nil n0
  have pre0 : ∀ t, Steps p.tables e below (s₁.setTop (mkF m 0 #[.val (.long p1), .second, .unset, .unset, .unset] [])) t → Steps p.tables e below (s₁.setTop (entryFrame m #[(.long p1)] 5)) t := fun t k => castTop (ef_1 m p1) k
  let Lo1 : Array Slot := #[.val (.long p1), .second, .unset, .unset, .unset]
  let Lo2 : Array Slot := #[.val (.long p1), .second, .val (.long p1), .second, .unset]
  let Lo3 : Array Slot := #[.val (.long p1), .second, .val (.long p1), .second, .val (.int (0 : Int32))]
  let Lo4 : Array Slot := #[.val (.long p1), .second, .val (.long (own_nx p1 p1)), .second, .val (.int (0 : Int32))]
  let Lo5 : Array Slot := #[.val (.long p1), .second, .val (.long (own_nx p1 p1)), .second, .val (.int (1 : Int32))]
  let Lo6 : Array Slot := #[.val (.long p1), .second, .val (.long (own_nx p1 (own_nx p1 p1))), .second, .val (.int (1 : Int32))]
  let Lo7 : Array Slot := #[.val (.long p1), .second, .val (.long (own_nx p1 (own_nx p1 p1))), .second, .val (.int (2 : Int32))]
  let Lo8 : Array Slot := #[.val (.long p1), .second, .val (.long (own_nx p1 (own_nx p1 (own_nx p1 p1)))), .second, .val (.int (2 : Int32))]
  let Lo9 : Array Slot := #[.val (.long p1), .second, .val (.long (own_nx p1 (own_nx p1 (own_nx p1 p1)))), .second, .val (.int (3 : Int32))]
  let Lo10 : Array Slot := #[.val (.long p1), .second, .val (.long (own_nx p1 (own_nx p1 (own_nx p1 (own_nx p1 p1))))), .second, .val (.int (3 : Int32))]
  let Lo11 : Array Slot := #[.val (.long p1), .second, .val (.long (own_nx p1 (own_nx p1 (own_nx p1 (own_nx p1 p1))))), .second, .val (.int (4 : Int32))]
  let Lo12 : Array Slot := #[.val (.long p1), .second, .val (.long (own_nx p1 (own_nx p1 (own_nx p1 (own_nx p1 (own_nx p1 p1)))))), .second, .val (.int (4 : Int32))]
  let Lo13 : Array Slot := #[.val (.long p1), .second, .val (.long (own_nx p1 (own_nx p1 (own_nx p1 (own_nx p1 (own_nx p1 p1)))))), .second, .val (.int (5 : Int32))]
  obtain ⟨fs, hr, hrun, hended, hW, hsame⟩ := X0.leave (v := some (.long (own_of p1))) (fun h => by rw [Bd.returns] at h; cases h)
  refine ⟨_, _, pre0 _ ?_, hrun, hended, _, _, rfl, ?_, ⟨_, rfl⟩, hW, hsame.mono (by decide) (by decide)⟩
  · show Steps p.tables e below (s₁.setTop (mkF m 0 Lo1 [])) _
    refine XS.lloadN X0.here hx rfl (hb hby d1_0) rfl ?_
    show Steps p.tables e below (s₁.setTop (mkF m 1 Lo1 [(.long p1)])) _
    refine XS.lstoreN X0.here hx rfl (hb hby d1_1) rfl (l' := Lo2) rfl ?_
    show Steps p.tables e below (s₁.setTop (mkF m 2 Lo2 [])) _
    refine XS.iconst X0.here hx rfl (hb hby d1_2) ?_
    show Steps p.tables e below (s₁.setTop (mkF m 3 Lo2 [(.int (0 : Int32))])) _
    refine XS.istore X0.here hx rfl (hb hby d1_3) rfl (l' := Lo3) rfl ?_
    show Steps p.tables e below (s₁.setTop (mkF m 5 Lo3 [])) _
    refine XS.iload X0.here hx rfl (hb hby d1_5) rfl ?_
    show Steps p.tables e below (s₁.setTop (mkF m 7 Lo3 [(.int (0 : Int32))])) _
    refine XS.iconst X0.here hx rfl (hb hby d1_7) ?_
    show Steps p.tables e below (s₁.setTop (mkF m 8 Lo3 [(.int (5 : Int32)), (.int (0 : Int32))])) _
    refine XS.icmpNo X0.here hx rfl (hb hby d1_8) rfl (by first | rfl | decide) ?_
    show Steps p.tables e below (s₁.setTop (mkF m 11 Lo3 [])) _
    refine XS.lloadN X0.here hx rfl (hb hby d1_11) rfl ?_
    show Steps p.tables e below (s₁.setTop (mkF m 12 Lo3 [(.long p1)])) _
    refine X0.ldc2Long hx hown (mvT hZ w4_) (g := (mkF m 12 Lo3 [(.long p1)])) rfl (hb hby d1_12) _ ?_
    show Steps p.tables e below (s₁.setTop (mkF m 15 Lo3 [(.long (2 : Int64)), (.long p1)])) _
    refine XS.lloadN X0.here hx rfl (hb hby d1_15) rfl ?_
    show Steps p.tables e below (s₁.setTop (mkF m 16 Lo3 [(.long p1), (.long (2 : Int64)), (.long p1)])) _
    refine XS.lloadN X0.here hx rfl (hb hby d1_16) rfl ?_
    show Steps p.tables e below (s₁.setTop (mkF m 17 Lo3 [(.long p1), (.long p1), (.long (2 : Int64)), (.long p1)])) _
    refine XS.lmul X0.here hx rfl (hb hby d1_17) rfl ?_
    show Steps p.tables e below (s₁.setTop (mkF m 18 Lo3 [(.long (p1 * p1)), (.long (2 : Int64)), (.long p1)])) _
    refine XS.lsub X0.here hx rfl (hb hby d1_18) rfl ?_
    show Steps p.tables e below (s₁.setTop (mkF m 19 Lo3 [(.long ((2 : Int64) - (p1 * p1))), (.long p1)])) _
    refine XS.lmul X0.here hx rfl (hb hby d1_19) rfl ?_
    show Steps p.tables e below (s₁.setTop (mkF m 20 Lo3 [(.long (p1 * ((2 : Int64) - (p1 * p1))))])) _
    refine XS.lstoreN X0.here hx rfl (hb hby d1_20) rfl (l' := Lo4) rfl ?_
    show Steps p.tables e below (s₁.setTop (mkF m 21 Lo4 [])) _
    refine XS.iinc X0.here hx rfl (hb hby d1_21) rfl (l' := Lo5) rfl ?_
    show Steps p.tables e below (s₁.setTop (mkF m 24 Lo5 [])) _
    refine XS.goto X0.here hx rfl (pc0 := 24) (pc' := 5) rfl (hb hby d1_24) (by decide) (by decide) ?_
    show Steps p.tables e below (s₁.setTop (mkF m 5 Lo5 [])) _
    refine XS.iload X0.here hx rfl (hb hby d1_5) rfl ?_
    show Steps p.tables e below (s₁.setTop (mkF m 7 Lo5 [(.int (1 : Int32))])) _
    refine XS.iconst X0.here hx rfl (hb hby d1_7) ?_
    show Steps p.tables e below (s₁.setTop (mkF m 8 Lo5 [(.int (5 : Int32)), (.int (1 : Int32))])) _
    refine XS.icmpNo X0.here hx rfl (hb hby d1_8) rfl (by first | rfl | decide) ?_
    show Steps p.tables e below (s₁.setTop (mkF m 11 Lo5 [])) _
    refine XS.lloadN X0.here hx rfl (hb hby d1_11) rfl ?_
    show Steps p.tables e below (s₁.setTop (mkF m 12 Lo5 [(.long (own_nx p1 p1))])) _
    refine X0.ldc2Long hx hown (mvT hZ w4_) (g := (mkF m 12 Lo5 [(.long (own_nx p1 p1))])) rfl (hb hby d1_12) _ ?_
    show Steps p.tables e below (s₁.setTop (mkF m 15 Lo5 [(.long (2 : Int64)), (.long (own_nx p1 p1))])) _
    refine XS.lloadN X0.here hx rfl (hb hby d1_15) rfl ?_
    show Steps p.tables e below (s₁.setTop (mkF m 16 Lo5 [(.long p1), (.long (2 : Int64)), (.long (own_nx p1 p1))])) _
    refine XS.lloadN X0.here hx rfl (hb hby d1_16) rfl ?_
    show Steps p.tables e below (s₁.setTop (mkF m 17 Lo5 [(.long (own_nx p1 p1)), (.long p1), (.long (2 : Int64)), (.long (own_nx p1 p1))])) _
    refine XS.lmul X0.here hx rfl (hb hby d1_17) rfl ?_
    show Steps p.tables e below (s₁.setTop (mkF m 18 Lo5 [(.long (p1 * (own_nx p1 p1))), (.long (2 : Int64)), (.long (own_nx p1 p1))])) _
    refine XS.lsub X0.here hx rfl (hb hby d1_18) rfl ?_
    show Steps p.tables e below (s₁.setTop (mkF m 19 Lo5 [(.long ((2 : Int64) - (p1 * (own_nx p1 p1)))), (.long (own_nx p1 p1))])) _
    refine XS.lmul X0.here hx rfl (hb hby d1_19) rfl ?_
    show Steps p.tables e below (s₁.setTop (mkF m 20 Lo5 [(.long ((own_nx p1 p1) * ((2 : Int64) - (p1 * (own_nx p1 p1)))))])) _
    refine XS.lstoreN X0.here hx rfl (hb hby d1_20) rfl (l' := Lo6) rfl ?_
    show Steps p.tables e below (s₁.setTop (mkF m 21 Lo6 [])) _
    refine XS.iinc X0.here hx rfl (hb hby d1_21) rfl (l' := Lo7) rfl ?_
    show Steps p.tables e below (s₁.setTop (mkF m 24 Lo7 [])) _
    refine XS.goto X0.here hx rfl (pc0 := 24) (pc' := 5) rfl (hb hby d1_24) (by decide) (by decide) ?_
    show Steps p.tables e below (s₁.setTop (mkF m 5 Lo7 [])) _
    refine XS.iload X0.here hx rfl (hb hby d1_5) rfl ?_
    show Steps p.tables e below (s₁.setTop (mkF m 7 Lo7 [(.int (2 : Int32))])) _
    refine XS.iconst X0.here hx rfl (hb hby d1_7) ?_
    show Steps p.tables e below (s₁.setTop (mkF m 8 Lo7 [(.int (5 : Int32)), (.int (2 : Int32))])) _
    refine XS.icmpNo X0.here hx rfl (hb hby d1_8) rfl (by first | rfl | decide) ?_
    show Steps p.tables e below (s₁.setTop (mkF m 11 Lo7 [])) _
    refine XS.lloadN X0.here hx rfl (hb hby d1_11) rfl ?_
    show Steps p.tables e below (s₁.setTop (mkF m 12 Lo7 [(.long (own_nx p1 (own_nx p1 p1)))])) _
    refine X0.ldc2Long hx hown (mvT hZ w4_) (g := (mkF m 12 Lo7 [(.long (own_nx p1 (own_nx p1 p1)))])) rfl (hb hby d1_12) _ ?_
    show Steps p.tables e below (s₁.setTop (mkF m 15 Lo7 [(.long (2 : Int64)), (.long (own_nx p1 (own_nx p1 p1)))])) _
    refine XS.lloadN X0.here hx rfl (hb hby d1_15) rfl ?_
    show Steps p.tables e below (s₁.setTop (mkF m 16 Lo7 [(.long p1), (.long (2 : Int64)), (.long (own_nx p1 (own_nx p1 p1)))])) _
    refine XS.lloadN X0.here hx rfl (hb hby d1_16) rfl ?_
    show Steps p.tables e below (s₁.setTop (mkF m 17 Lo7 [(.long (own_nx p1 (own_nx p1 p1))), (.long p1), (.long (2 : Int64)), (.long (own_nx p1 (own_nx p1 p1)))])) _
    refine XS.lmul X0.here hx rfl (hb hby d1_17) rfl ?_
    show Steps p.tables e below (s₁.setTop (mkF m 18 Lo7 [(.long (p1 * (own_nx p1 (own_nx p1 p1)))), (.long (2 : Int64)), (.long (own_nx p1 (own_nx p1 p1)))])) _
    refine XS.lsub X0.here hx rfl (hb hby d1_18) rfl ?_
    show Steps p.tables e below (s₁.setTop (mkF m 19 Lo7 [(.long ((2 : Int64) - (p1 * (own_nx p1 (own_nx p1 p1))))), (.long (own_nx p1 (own_nx p1 p1)))])) _
    refine XS.lmul X0.here hx rfl (hb hby d1_19) rfl ?_
    show Steps p.tables e below (s₁.setTop (mkF m 20 Lo7 [(.long ((own_nx p1 (own_nx p1 p1)) * ((2 : Int64) - (p1 * (own_nx p1 (own_nx p1 p1))))))])) _
    refine XS.lstoreN X0.here hx rfl (hb hby d1_20) rfl (l' := Lo8) rfl ?_
    show Steps p.tables e below (s₁.setTop (mkF m 21 Lo8 [])) _
    refine XS.iinc X0.here hx rfl (hb hby d1_21) rfl (l' := Lo9) rfl ?_
    show Steps p.tables e below (s₁.setTop (mkF m 24 Lo9 [])) _
    refine XS.goto X0.here hx rfl (pc0 := 24) (pc' := 5) rfl (hb hby d1_24) (by decide) (by decide) ?_
    show Steps p.tables e below (s₁.setTop (mkF m 5 Lo9 [])) _
    refine XS.iload X0.here hx rfl (hb hby d1_5) rfl ?_
    show Steps p.tables e below (s₁.setTop (mkF m 7 Lo9 [(.int (3 : Int32))])) _
    refine XS.iconst X0.here hx rfl (hb hby d1_7) ?_
    show Steps p.tables e below (s₁.setTop (mkF m 8 Lo9 [(.int (5 : Int32)), (.int (3 : Int32))])) _
    refine XS.icmpNo X0.here hx rfl (hb hby d1_8) rfl (by first | rfl | decide) ?_
    show Steps p.tables e below (s₁.setTop (mkF m 11 Lo9 [])) _
    refine XS.lloadN X0.here hx rfl (hb hby d1_11) rfl ?_
    show Steps p.tables e below (s₁.setTop (mkF m 12 Lo9 [(.long (own_nx p1 (own_nx p1 (own_nx p1 p1))))])) _
    refine X0.ldc2Long hx hown (mvT hZ w4_) (g := (mkF m 12 Lo9 [(.long (own_nx p1 (own_nx p1 (own_nx p1 p1))))])) rfl (hb hby d1_12) _ ?_
    show Steps p.tables e below (s₁.setTop (mkF m 15 Lo9 [(.long (2 : Int64)), (.long (own_nx p1 (own_nx p1 (own_nx p1 p1))))])) _
    refine XS.lloadN X0.here hx rfl (hb hby d1_15) rfl ?_
    show Steps p.tables e below (s₁.setTop (mkF m 16 Lo9 [(.long p1), (.long (2 : Int64)), (.long (own_nx p1 (own_nx p1 (own_nx p1 p1))))])) _
    refine XS.lloadN X0.here hx rfl (hb hby d1_16) rfl ?_
    show Steps p.tables e below (s₁.setTop (mkF m 17 Lo9 [(.long (own_nx p1 (own_nx p1 (own_nx p1 p1)))), (.long p1), (.long (2 : Int64)), (.long (own_nx p1 (own_nx p1 (own_nx p1 p1))))])) _
    refine XS.lmul X0.here hx rfl (hb hby d1_17) rfl ?_
    show Steps p.tables e below (s₁.setTop (mkF m 18 Lo9 [(.long (p1 * (own_nx p1 (own_nx p1 (own_nx p1 p1))))), (.long (2 : Int64)), (.long (own_nx p1 (own_nx p1 (own_nx p1 p1))))])) _
    refine XS.lsub X0.here hx rfl (hb hby d1_18) rfl ?_
    show Steps p.tables e below (s₁.setTop (mkF m 19 Lo9 [(.long ((2 : Int64) - (p1 * (own_nx p1 (own_nx p1 (own_nx p1 p1)))))), (.long (own_nx p1 (own_nx p1 (own_nx p1 p1))))])) _
    refine XS.lmul X0.here hx rfl (hb hby d1_19) rfl ?_
    show Steps p.tables e below (s₁.setTop (mkF m 20 Lo9 [(.long ((own_nx p1 (own_nx p1 (own_nx p1 p1))) * ((2 : Int64) - (p1 * (own_nx p1 (own_nx p1 (own_nx p1 p1)))))))])) _
    refine XS.lstoreN X0.here hx rfl (hb hby d1_20) rfl (l' := Lo10) rfl ?_
    show Steps p.tables e below (s₁.setTop (mkF m 21 Lo10 [])) _
    refine XS.iinc X0.here hx rfl (hb hby d1_21) rfl (l' := Lo11) rfl ?_
    show Steps p.tables e below (s₁.setTop (mkF m 24 Lo11 [])) _
    refine XS.goto X0.here hx rfl (pc0 := 24) (pc' := 5) rfl (hb hby d1_24) (by decide) (by decide) ?_
    show Steps p.tables e below (s₁.setTop (mkF m 5 Lo11 [])) _
    refine XS.iload X0.here hx rfl (hb hby d1_5) rfl ?_
    show Steps p.tables e below (s₁.setTop (mkF m 7 Lo11 [(.int (4 : Int32))])) _
    refine XS.iconst X0.here hx rfl (hb hby d1_7) ?_
    show Steps p.tables e below (s₁.setTop (mkF m 8 Lo11 [(.int (5 : Int32)), (.int (4 : Int32))])) _
    refine XS.icmpNo X0.here hx rfl (hb hby d1_8) rfl (by first | rfl | decide) ?_
    show Steps p.tables e below (s₁.setTop (mkF m 11 Lo11 [])) _
    refine XS.lloadN X0.here hx rfl (hb hby d1_11) rfl ?_
    show Steps p.tables e below (s₁.setTop (mkF m 12 Lo11 [(.long (own_nx p1 (own_nx p1 (own_nx p1 (own_nx p1 p1)))))])) _
    refine X0.ldc2Long hx hown (mvT hZ w4_) (g := (mkF m 12 Lo11 [(.long (own_nx p1 (own_nx p1 (own_nx p1 (own_nx p1 p1)))))])) rfl (hb hby d1_12) _ ?_
    show Steps p.tables e below (s₁.setTop (mkF m 15 Lo11 [(.long (2 : Int64)), (.long (own_nx p1 (own_nx p1 (own_nx p1 (own_nx p1 p1)))))])) _
    refine XS.lloadN X0.here hx rfl (hb hby d1_15) rfl ?_
    show Steps p.tables e below (s₁.setTop (mkF m 16 Lo11 [(.long p1), (.long (2 : Int64)), (.long (own_nx p1 (own_nx p1 (own_nx p1 (own_nx p1 p1)))))])) _
    refine XS.lloadN X0.here hx rfl (hb hby d1_16) rfl ?_
    show Steps p.tables e below (s₁.setTop (mkF m 17 Lo11 [(.long (own_nx p1 (own_nx p1 (own_nx p1 (own_nx p1 p1))))), (.long p1), (.long (2 : Int64)), (.long (own_nx p1 (own_nx p1 (own_nx p1 (own_nx p1 p1)))))])) _
    refine XS.lmul X0.here hx rfl (hb hby d1_17) rfl ?_
    show Steps p.tables e below (s₁.setTop (mkF m 18 Lo11 [(.long (p1 * (own_nx p1 (own_nx p1 (own_nx p1 (own_nx p1 p1)))))), (.long (2 : Int64)), (.long (own_nx p1 (own_nx p1 (own_nx p1 (own_nx p1 p1)))))])) _
    refine XS.lsub X0.here hx rfl (hb hby d1_18) rfl ?_
    show Steps p.tables e below (s₁.setTop (mkF m 19 Lo11 [(.long ((2 : Int64) - (p1 * (own_nx p1 (own_nx p1 (own_nx p1 (own_nx p1 p1))))))), (.long (own_nx p1 (own_nx p1 (own_nx p1 (own_nx p1 p1)))))])) _
    refine XS.lmul X0.here hx rfl (hb hby d1_19) rfl ?_
    show Steps p.tables e below (s₁.setTop (mkF m 20 Lo11 [(.long ((own_nx p1 (own_nx p1 (own_nx p1 (own_nx p1 p1)))) * ((2 : Int64) - (p1 * (own_nx p1 (own_nx p1 (own_nx p1 (own_nx p1 p1))))))))])) _
    refine XS.lstoreN X0.here hx rfl (hb hby d1_20) rfl (l' := Lo12) rfl ?_
    show Steps p.tables e below (s₁.setTop (mkF m 21 Lo12 [])) _
    refine XS.iinc X0.here hx rfl (hb hby d1_21) rfl (l' := Lo13) rfl ?_
    show Steps p.tables e below (s₁.setTop (mkF m 24 Lo13 [])) _
    refine XS.goto X0.here hx rfl (pc0 := 24) (pc' := 5) rfl (hb hby d1_24) (by decide) (by decide) ?_
    show Steps p.tables e below (s₁.setTop (mkF m 5 Lo13 [])) _
    refine XS.iload X0.here hx rfl (hb hby d1_5) rfl ?_
    show Steps p.tables e below (s₁.setTop (mkF m 7 Lo13 [(.int (5 : Int32))])) _
    refine XS.iconst X0.here hx rfl (hb hby d1_7) ?_
    show Steps p.tables e below (s₁.setTop (mkF m 8 Lo13 [(.int (5 : Int32)), (.int (5 : Int32))])) _
    refine XS.icmpYes X0.here hx rfl (pc0 := 8) (pc' := 27) rfl (hb hby d1_8) rfl (by first | rfl | decide) (by decide) (by decide) ?_
    show Steps p.tables e below (s₁.setTop (mkF m 27 Lo13 [])) _
    refine XS.lloadN X0.here hx rfl (hb hby d1_27) rfl ?_
    show Steps p.tables e below (s₁.setTop (mkF m 28 Lo13 [(.long (own_nx p1 (own_nx p1 (own_nx p1 (own_nx p1 (own_nx p1 p1))))))])) _
    exact own_retJ X0 hx Bd.returns (hb hby d1_28) rfl hr
  · show Q1 Z p1 h0 n0 _ s₁.heap _
    rw [e0]
    exact ⟨rfl, N0, rfl⟩
theorem pn_0 : plainName "factorwright/WordInverseOfPinLaw" = true := by first | (simp [plainName, overriddenIn]; done) | decide +kernel
theorem ef_0 (m : MethodId) (x0 : Int64) : entryFrame m #[(.long x0)] maxLocals = mkF m 0 #[.val (.long x0), .second, .unset, .unset, .unset, .unset, .unset, .unset] [] := by first | (simp [entryFrame, mkF, argsToLocals, Value.category, maxLocals]; done) | rfl
theorem pd_0_1 : parseMethodDescriptor "(J)J" = some ⟨[.long], some .long⟩ := by decide +kernel
def Q0 (Z : State) (p1 : Int64) (h0 : Heap) (n0 : Nat) (v : Option Value) (h : Heap) (L : List Loc) : Prop := v = some (.int 1) ∧ Fr n0 L
set_option maxRecDepth 65536 in
set_option maxHeartbeats 40000000 in
theorem rm0 (l : Launch) (Z : State) (a0 : Array Value) (hw : ∀ d ∈ tables_1, d.before a0 Z = true) (ws : List Jvm.Cond) (p1 : Int64) (h0 : Heap) (n0 : Nat) (Z0 : n0 ≤ h0.size)  :
    MetFree l x (head1 (Jvm.Cond.code x code maxLocals ret :: ws) room_1) (fun a U => a = #[(.long p1)] ∧ Z.Warmed39 U.vm ∧ U.heap = h0) (fun _ _ _ _ _ => True) (fun _ U o U' => ∃ v L, o = .returned v ∧ Q0 Z p1 h0 n0 v U'.heap L ∧ FrameEnd U o U' L room_1.cells room_1.slots) := by
  refine MetFree.of_bodySF (plainFor_of_name pn_0) hisR ?_
  intro p e s m args below meth c s₁ Bd hml0 hP hK
  obtain ⟨rfl, hZ, hh⟩ := hP
  have w0_ := hw _ (List.mem_of_getElem? (i := 0) rfl)
  have w1_ := hw _ (List.mem_of_getElem? (i := 1) rfl)
  have w2_ := hw _ (List.mem_of_getElem? (i := 2) rfl)
  have w3_ := hw _ (List.mem_of_getElem? (i := 3) rfl)
  have hx := Bd.exec
  have hby := Bd.bytes
  have hml : c.maxLocals = 8 := hml0
  have hown : s.vm.findClass "factorwright/WordInverseOfPinLaw" = some m.cls := findClass_of_methodNamed Bd.named
  have hnm := (name_of_methodNamed Bd.named Bd.method).1
  have X0 : Stand p l e room_1 s m #[(.long p1)] below meth c s₁ [] 0 0 := Stand.of_body Bd
  have e0 : s₁.heap = h0 := by rw [← hh, Bd.state]; rfl
  have N0 := Fr.nil n0
  have pre0 : ∀ t, Steps p.tables e below (s₁.setTop (mkF m 0 #[.val (.long p1), .second, .unset, .unset, .unset, .unset, .unset, .unset] [])) t → Steps p.tables e below (s₁.setTop (entryFrame m #[(.long p1)] maxLocals)) t := fun t k => castTop (ef_0 m p1) k
  have hfull : ((p1 ||| (1 : Int64)) * (own_of (p1 ||| (1 : Int64)))) = (1 : Int64) := own_inv p1
  have hlow : (((p1 ||| (1 : Int64))).toInt32 * ((own_of (p1 ||| (1 : Int64)))).toInt32) = (1 : Int32) := own_inv32 p1
  let Lo1 : Array Slot := #[.val (.long p1), .second, .unset, .unset, .unset, .unset, .unset, .unset]
  let Lo2 : Array Slot := #[.val (.long p1), .second, .val (.long (p1 ||| (1 : Int64))), .second, .unset, .unset, .unset, .unset]
  obtain ⟨_, _, ⟨T1, L1, k1, n1⟩, -, X1, ⟨Lc1, hQ1, l1, y1, z1⟩, st1⟩ := Jvm.LawKit.callS X0 hx (y := (⟨"factorwright/WordInverse", "of", "(J)J"⟩ : MethodName)) hown (mvT hZ w0_) (mvT hZ w1_) (mvT hZ w2_) (mvT hZ w3_) (by decide) (backOf (W := 0) (rm1 l Z a0 hw [] (p1 ||| (1 : Int64)) h0 n0 Z0 ) hZ w3_ w2_ (by decide) (by decide)) (g := (mkF m 5 Lo2 [(.long (p1 ||| (1 : Int64)))])) rfl (by rw [hml]; rfl) (argsL := [(.long (p1 ||| (1 : Int64)))]) (rest := []) (lenOf pd_0_1 rfl) rfl (by show 2 * 0 + _ ≤ _; exact Nat.le_of_eq rfl) (hb hby at_5) (fun _ _ => ⟨rfl, e0, (by decide : 0 + 0 ≤ _), (by decide : 0 + 0 ≤ _)⟩)
  dsimp only [Pt.U, Pt.locs, Pt.cells, Pt.slots] at X1 l1 y1 z1 st1 hQ1
  subst l1 y1 z1
  obtain ⟨rfl, N1q, q1⟩ := hQ1
  have N1 := Fr.app N0 N1q
  have e1 : T1.heap = h0 := q1
  let Lo3 : Array Slot := #[.val (.long p1), .second, .val (.long (p1 ||| (1 : Int64))), .second, .val (.long (own_of (p1 ||| (1 : Int64)))), .second, .unset, .unset]
  let Lo4 : Array Slot := #[.val (.long p1), .second, .val (.long (p1 ||| (1 : Int64))), .second, .val (.long (own_of (p1 ||| (1 : Int64)))), .second, .val (.int (1 : Int32)), .unset]
  let Lo5 : Array Slot := #[.val (.long p1), .second, .val (.long (p1 ||| (1 : Int64))), .second, .val (.long (own_of (p1 ||| (1 : Int64)))), .second, .val (.int (1 : Int32)), .val (.int (1 : Int32))]
  obtain ⟨fs, hr, hrun, hended, hW, hsame⟩ := X1.leave (v := some (.int 1)) (fun h => by rw [Bd.returns] at h; cases h)
  refine ⟨_, _, pre0 _ ?_, hrun, hended, _, _, rfl, ?_, ⟨_, rfl⟩, hW, hsame.mono (by decide) (by decide)⟩
  · show Steps p.tables e below (s₁.setTop (mkF m 0 Lo1 [])) _
    refine XS.lloadN X0.here hx rfl (hb hby at_0) rfl ?_
    show Steps p.tables e below (s₁.setTop (mkF m 1 Lo1 [(.long p1)])) _
    refine XS.lconst X0.here hx rfl (hb hby at_1) ?_
    show Steps p.tables e below (s₁.setTop (mkF m 2 Lo1 [(.long (1 : Int64)), (.long p1)])) _
    refine XS.lor X0.here hx rfl (hb hby at_2) rfl ?_
    show Steps p.tables e below (s₁.setTop (mkF m 3 Lo1 [(.long (p1 ||| (1 : Int64)))])) _
    refine XS.lstoreN X0.here hx rfl (hb hby at_3) rfl (l' := Lo2) rfl ?_
    show Steps p.tables e below (s₁.setTop (mkF m 4 Lo2 [])) _
    refine XS.lloadN X0.here hx rfl (hb hby at_4) rfl ?_
    show Steps p.tables e below (s₁.setTop (mkF m 5 Lo2 [(.long (p1 ||| (1 : Int64)))])) _
    refine st1 _ ?_
    show Steps p.tables e below (T1.setTop (mkF m 8 Lo2 [(.long (own_of (p1 ||| (1 : Int64))))])) _
    refine XS.lstore X1.here hx rfl (hb hby at_8) rfl (l' := Lo3) rfl ?_
    show Steps p.tables e below (T1.setTop (mkF m 10 Lo3 [])) _
    refine XS.lloadN X1.here hx rfl (hb hby at_10) rfl ?_
    show Steps p.tables e below (T1.setTop (mkF m 11 Lo3 [(.long (p1 ||| (1 : Int64)))])) _
    refine XS.lload X1.here hx rfl (hb hby at_11) rfl ?_
    show Steps p.tables e below (T1.setTop (mkF m 13 Lo3 [(.long (own_of (p1 ||| (1 : Int64)))), (.long (p1 ||| (1 : Int64)))])) _
    refine XS.lmul X1.here hx rfl (hb hby at_13) rfl ?_
    show Steps p.tables e below (T1.setTop (mkF m 14 Lo3 [(.long ((p1 ||| (1 : Int64)) * (own_of (p1 ||| (1 : Int64)))))])) _
    refine XS.lconst X1.here hx rfl (hb hby at_14) ?_
    show Steps p.tables e below (T1.setTop (mkF m 15 Lo3 [(.long (1 : Int64)), (.long ((p1 ||| (1 : Int64)) * (own_of (p1 ||| (1 : Int64)))))])) _
    refine XS.lcmp X1.here hx rfl (hb hby at_15) rfl ?_
    show Steps p.tables e below (T1.setTop (mkF m 16 Lo3 [(.int (lcmpW ((p1 ||| (1 : Int64)) * (own_of (p1 ||| (1 : Int64)))) (1 : Int64)))])) _
    refine XS.ifNo X1.here hx rfl (hb hby at_16) rfl (own_lw_ne_f hfull) ?_
    show Steps p.tables e below (T1.setTop (mkF m 19 Lo3 [])) _
    refine XS.iconst X1.here hx rfl (hb hby at_19) ?_
    show Steps p.tables e below (T1.setTop (mkF m 20 Lo3 [(.int (1 : Int32))])) _
    refine XS.goto X1.here hx rfl (pc0 := 20) (pc' := 24) rfl (hb hby at_20) (by decide) (by decide) ?_
    show Steps p.tables e below (T1.setTop (mkF m 24 Lo3 [(.int (1 : Int32))])) _
    refine XS.istore X1.here hx rfl (hb hby at_24) rfl (l' := Lo4) rfl ?_
    show Steps p.tables e below (T1.setTop (mkF m 26 Lo4 [])) _
    refine XS.lloadN X1.here hx rfl (hb hby at_26) rfl ?_
    show Steps p.tables e below (T1.setTop (mkF m 27 Lo4 [(.long (p1 ||| (1 : Int64)))])) _
    refine XS.l2i X1.here hx rfl (hb hby at_27) rfl ?_
    show Steps p.tables e below (T1.setTop (mkF m 28 Lo4 [(.int (((p1 ||| (1 : Int64))).toInt32))])) _
    refine XS.lload X1.here hx rfl (hb hby at_28) rfl ?_
    show Steps p.tables e below (T1.setTop (mkF m 30 Lo4 [(.long (own_of (p1 ||| (1 : Int64)))), (.int (((p1 ||| (1 : Int64))).toInt32))])) _
    refine XS.l2i X1.here hx rfl (hb hby at_30) rfl ?_
    show Steps p.tables e below (T1.setTop (mkF m 31 Lo4 [(.int (((own_of (p1 ||| (1 : Int64)))).toInt32)), (.int (((p1 ||| (1 : Int64))).toInt32))])) _
    refine XS.imul X1.here hx rfl (hb hby at_31) rfl ?_
    show Steps p.tables e below (T1.setTop (mkF m 32 Lo4 [(.int ((((p1 ||| (1 : Int64))).toInt32) * (((own_of (p1 ||| (1 : Int64)))).toInt32)))])) _
    refine XS.iconst X1.here hx rfl (hb hby at_32) ?_
    show Steps p.tables e below (T1.setTop (mkF m 33 Lo4 [(.int (1 : Int32)), (.int ((((p1 ||| (1 : Int64))).toInt32) * (((own_of (p1 ||| (1 : Int64)))).toInt32)))])) _
    refine XS.icmpNo X1.here hx rfl (hb hby at_33) rfl (Jvm.Free.XT.ii_ne_f hlow) ?_
    show Steps p.tables e below (T1.setTop (mkF m 36 Lo4 [])) _
    refine XS.iconst X1.here hx rfl (hb hby at_36) ?_
    show Steps p.tables e below (T1.setTop (mkF m 37 Lo4 [(.int (1 : Int32))])) _
    refine XS.goto X1.here hx rfl (pc0 := 37) (pc' := 41) rfl (hb hby at_37) (by decide) (by decide) ?_
    show Steps p.tables e below (T1.setTop (mkF m 41 Lo4 [(.int (1 : Int32))])) _
    refine XS.istore X1.here hx rfl (hb hby at_41) rfl (l' := Lo5) rfl ?_
    show Steps p.tables e below (T1.setTop (mkF m 43 Lo5 [])) _
    refine XS.iload X1.here hx rfl (hb hby at_43) rfl ?_
    show Steps p.tables e below (T1.setTop (mkF m 45 Lo5 [(.int (1 : Int32))])) _
    refine XS.ifNo X1.here hx rfl (hb hby at_45) rfl (by first | rfl | decide) ?_
    show Steps p.tables e below (T1.setTop (mkF m 48 Lo5 [])) _
    refine XS.iload X1.here hx rfl (hb hby at_48) rfl ?_
    show Steps p.tables e below (T1.setTop (mkF m 50 Lo5 [(.int (1 : Int32))])) _
    refine XS.ifNo X1.here hx rfl (hb hby at_50) rfl (by first | rfl | decide) ?_
    show Steps p.tables e below (T1.setTop (mkF m 53 Lo5 [])) _
    refine XS.iconst X1.here hx rfl (hb hby at_53) ?_
    show Steps p.tables e below (T1.setTop (mkF m 54 Lo5 [(.int (1 : Int32))])) _
    refine XS.goto X1.here hx rfl (pc0 := 54) (pc' := 58) rfl (hb hby at_54) (by decide) (by decide) ?_
    show Steps p.tables e below (T1.setTop (mkF m 58 Lo5 [(.int (1 : Int32))])) _
    exact own_retZ X1 hx Bd.returns (hb hby at_58) rfl rfl hr
  · show Q0 Z p1 h0 n0 _ T1.heap _
    exact ⟨rfl, N1⟩
set_option maxRecDepth 65536 in
set_option maxHeartbeats 40000000 in
theorem comes_1 {Post : Tables → Env → Array Value → State → Outcome → State → Prop} (hpost : ∀ tb e args s v u, (limb_1_1.after args s (.returned v) u = true ∧ limb_1_2.after args s (.returned v) u = true ∧ True) → FrameEnd s (.returned v) u (Jvm.fieldLocs frame_1_writes args s ++ Jvm.arrayLocs frame_1_arrays args s ++ Jvm.staticLocs frame_1_statics s) 0 0 → Post tb e args s (.returned v) u) :
    ArmFor flags0 classFile x code maxLocals ret World_1 tables_1 room_1 Calls_1 rest_1 Pre_1 Post := by
  intro l hfl _ _ p e ha hc hk s m args below hf hA hF happ hP
  obtain ⟨hcalls, hrest, hpre⟩ := hP
  obtain ⟨-, -, -, hnamed, -, -, -, hat⟩ := (Spec.applies_iff hf).mp happ
  obtain ⟨hg, hn⟩ := and_e (Cond.before_iff.mp (show (Jvm.Cond.and given_1 narrow_1).before args s = true from hpre))
  obtain ⟨gc, g0⟩ := and_e hg
  obtain ⟨w0, rfl⟩ : ∃ w0 : Value, args = #[w0] := by
    have hs : args.size = 1 := by simpa [Cond.value, given_1] using gc
    obtain ⟨L⟩ := args
    match L, hs with
    | [w0], _ => exact ⟨w0, rfl⟩
  have hw := fun d (hd : d ∈ tables_1) => atoms_spec (ws := Jvm.Cond.code x code maxLocals ret :: tables_1) hat d (List.mem_cons_of_mem _ hd)
  obtain ⟨i0, ei0⟩ := isL_v g0
  obtain rfl : w0 = (.long i0) := Option.some.inj ei0
  obtain ⟨n, o, h1, h2, h3, _, L, rfl, ⟨rfl, N⟩, hq⟩ := rm0 l s _ hw tables_1 i0 s.heap s.heap.size (Nat.le_refl _) p e ha hc hk s m _ below hf ((Spec.applies_iff_loose hf).mp happ).1 ⟨rfl, State.Warmed39.refl s, rfl⟩ trivial
  refine ⟨n, _, h1, h2, h3, hpost _ _ _ _ _ _ ⟨Cond.after_iff.mpr rfl, Cond.after_iff.mpr (eq_i res_at (Term.int_eval (1)) rfl), trivial⟩ ⟨hq.1, hq.2.1, (hq.2.2.sift fun y hy => Or.inr (N y hy)).mono (by decide) (by decide)⟩⟩
theorem main_1_1 : Claimed_1_1 := comes_1 fun _ _ _ _ _ _ h hF => ⟨h.1, hF⟩
theorem main_1_2 : Claimed_1_2 := comes_1 fun _ _ _ _ _ _ h hF => ⟨h.2.1, hF⟩
end Jvm.Pilot.@@N@@
namespace Jvm.Pilot.@@N@@
open Jvm Jvm.ClassFile Sem Op Lib Jvm.Free Jvm.Stand Jvm.Pilot.@@N@@.Jvm.D
/-! MADE BY PROGRAM (witnessworld.py) out of the Statement's table words and the real class files: 9 classes; the members and pool entries that the words name. The judged class is class 1, her method 1. -/
namespace start1
open Jvm.ClassFile
def u (s : String) : CpInfo := .utf8 (stringToUtf16 s)
/-- a pool by its gaps: so many unusable entries, then the entry; so many at the end -/
def gap : Nat → List CpInfo → List CpInfo
  | 0, r => r
  | n + 1, r => .unusable :: gap n r
def poolList (es : List (Nat × CpInfo)) (last : Nat) : List CpInfo := es.foldr (fun e r => gap e.1 (e.2 :: r)) (gap last [])
def pool (es : List (Nat × CpInfo)) (last : Nat) : Array CpInfo := ⟨poolList es last⟩
def fileOf (pool : Array CpInfo) (this : Nat) (attrs : Array Attribute := #[]) (ms : Array MethodInfo := #[]) (fl : Nat := 33) (sup : Nat := 0) (ifs : Array Nat := #[]) (fds : Array FieldInfo := #[]) : ClassFile where
  minorVersion := 0
  majorVersion := 65
  constantPool := pool
  accessFlags := fl
  thisClass := this
  superClass := sup
  interfaces := ifs
  fields := fds
  methods := ms
  attributes := attrs
def plain (name : String) (sup : Option ClassId) : Class where
  name := name
  kind := .ordinary
  loader := none
  accessFlags := 33
  super := sup
  interfaces := #[]
  cf := none
  fields := #[]
  methods := #[]
  instanceTypes := #[]
  staticTypes := #[]
  resolved := #[]
  callSites := []
  init := .initialized
  statics := none
  mirror := none

def pool0 : Array CpInfo := pool [(5, u "<init>"), (0, u "()V"), (1, .class_ 10), (1, u "java/lang/Object")] 113

def k0m0 : Method := { name := "<init>", desc := "()V", sig := { parameters := [], returnType := none }, accessFlags := 1, code := none }
/-- java/lang/Object -/
def k0 : Class := { plain "java/lang/Object" none with
  accessFlags := 33
  interfaces := #[]
  cf := some (fileOf pool0 8 #[] #[{ accessFlags := 1, nameIndex := 5, descriptorIndex := 6, attributes := #[] }] 33 0 #[] #[])
  fields := #[]
  methods := #[k0m0]
  instanceTypes := #[]
  staticTypes := #[]
  resolved := Array.replicate 124 none
  statics := none }

def pool1 : Array CpInfo := pool [(2, .class_ 4), (1, u "java/lang/Object"), (0, u "<init>"), (0, u "()V"), (0, .methodref 8 9), (0, .class_ 10), (0, .nameAndType 11 12), (0, u "factorwright/WordInverse"), (0, u "of"), (0, u "(J)J"), (0, .class_ 14), (0, u "factorwright/WordInverseOfPinLaw"), (2, u "law"), (0, u "(J)Z")] 3

def k1m0 : Method := { name := "<init>", desc := "()V", sig := { parameters := [], returnType := none }, accessFlags := 2, code := none }
def k1c1 : Code := { maxStack := 4, maxLocals := 8, code := code, exceptionTable := #[], attributes := #[] }
def k1m1 : Method := { name := "law", desc := "(J)Z", sig := { parameters := [.long], returnType := some .boolean }, accessFlags := 9, code := some k1c1 }
/-- factorwright/WordInverseOfPinLaw -/
def k1 : Class := { plain "factorwright/WordInverseOfPinLaw" (some 0) with
  accessFlags := 49
  interfaces := #[]
  cf := some (fileOf pool1 13 #[] #[{ accessFlags := 2, nameIndex := 5, descriptorIndex := 6, attributes := #[] }, { accessFlags := 9, nameIndex := 17, descriptorIndex := 18, attributes := #[] }] 49 2 #[] #[])
  fields := #[]
  methods := #[k1m0, k1m1]
  instanceTypes := #[]
  staticTypes := #[]
  resolved := Array.replicate 22 none
  statics := none }

def pool2 : Array CpInfo := pool [(2, .class_ 4), (1, u "java/lang/Object"), (0, u "<init>"), (0, u "()V"), (0, .long 2), (1, .class_ 10), (0, u "factorwright/WordInverse"), (2, u "of"), (0, u "(J)J")] 3

def k2m0 : Method := { name := "<init>", desc := "()V", sig := { parameters := [], returnType := none }, accessFlags := 2, code := none }
def k2c1 : Code := { maxStack := 8, maxLocals := 5, code := prog_56_method_2_code, exceptionTable := #[], attributes := #[] }
def k2m1 : Method := { name := "of", desc := "(J)J", sig := { parameters := [.long], returnType := some .long }, accessFlags := 8, code := some k2c1 }
/-- factorwright/WordInverse -/
def k2 : Class := { plain "factorwright/WordInverse" (some 0) with
  accessFlags := 48
  interfaces := #[]
  cf := some (fileOf pool2 9 #[] #[{ accessFlags := 2, nameIndex := 5, descriptorIndex := 6, attributes := #[] }, { accessFlags := 8, nameIndex := 13, descriptorIndex := 14, attributes := #[] }] 48 2 #[] #[])
  fields := #[]
  methods := #[k2m0, k2m1]
  instanceTypes := #[]
  staticTypes := #[]
  resolved := Array.replicate 18 none
  statics := none }

def pool3 : Array CpInfo := pool [(1, u "java/lang/Cloneable"), (0, .class_ 1), (0, u "java/lang/Object"), (0, .class_ 3)] 3

/-- java/lang/Cloneable -/
def k3 : Class := { plain "java/lang/Cloneable" (some 0) with
  accessFlags := 1537
  interfaces := #[]
  cf := some (fileOf pool3 2 #[] #[] 1537 4 #[] #[])
  fields := #[]
  methods := #[]
  instanceTypes := #[]
  staticTypes := #[]
  resolved := Array.replicate 8 none
  statics := none }

def pool4 : Array CpInfo := pool [(1, u "java/io/Serializable"), (0, .class_ 1), (0, u "java/lang/Object"), (0, .class_ 3)] 3

/-- java/io/Serializable -/
def k4 : Class := { plain "java/io/Serializable" (some 0) with
  accessFlags := 1537
  interfaces := #[]
  cf := some (fileOf pool4 2 #[] #[] 1537 4 #[] #[])
  fields := #[]
  methods := #[]
  instanceTypes := #[]
  staticTypes := #[]
  resolved := Array.replicate 8 none
  statics := none }

/-- the primitive byte -/
def k5 : Class := { plain "byte" none with kind := .primitive 'B', accessFlags := 0x411 }
/-- [B -/
def k6 : Class := { plain "[B" (some 0) with kind := .array 5 .byte, interfaces := #[3, 4], accessFlags := 1041 }

/-- the primitive int -/
def k7 : Class := { plain "int" none with kind := .primitive 'I', accessFlags := 0x411 }
/-- [I -/
def k8 : Class := { plain "[I" (some 0) with kind := .array 7 .int, interfaces := #[3, 4], accessFlags := 1041 }

def heap : Heap := #[]
def classes : Array Class := #[k0, k1, k2, k3, k4, k5, k6, k7, k8]
def interned : List (Array UInt16 × Addr) := []
def slotsUsed : Nat := 0
def theMethod : MethodId := ⟨1, 1⟩
def args0 : Array Value := #[.long 5]
def aboutOver (below : List Frame) : State where
  vm := { classes := classes, interned := interned.toArray }
  heap := heap
  slotsUsed := slotsUsed
  threads := #[{ frames := .invoking theMethod args0 :: below }]
def below0 : List Frame := [.native { method := ⟨0, 0⟩, args := #[] }]
def about1 : State := aboutOver below0
def p0 : Program := .bare "" "" ""
def e0 : Env := launch0.env 0 0 0
theorem w_frames : about1.frames = Frame.invoking theMethod args0 :: below0 := rfl
set_option maxRecDepth 65536 in
theorem w_args : argsFit about1.vm theMethod args0 = true := by decide +kernel
set_option maxRecDepth 65536 in
theorem w_heap : heapFits about1 = true := by decide +kernel
set_option maxRecDepth 65536 in
theorem w_runnable : about1.curStatus? = some .runnable := by decide +kernel
set_option maxRecDepth 65536 in
theorem w_alone : about1.alone = true := by decide +kernel
set_option maxRecDepth 65536 in
theorem w_named : about1.methodNamed? x = some theMethod := by decide +kernel
set_option maxRecDepth 65536 in
theorem w_hears : about1.hears theMethod below0 = true := by decide +kernel
set_option maxRecDepth 65536 in
theorem w_ripe : about1.ripe theMethod args0 below0 = true := by decide +kernel
theorem w_running : about1.status = .running := rfl
set_option maxRecDepth 65536 in
theorem w_room : about1.hasRoom e0.platform room_1 = true :=
  launch0.hasRoom_least _ room_1 (by decide +kernel) (by decide +kernel) (by decide +kernel) (by decide +kernel) (by decide +kernel) (by decide +kernel)
theorem allAtoms_all (ts : List Jvm.Cond) (a : Array Jvm.Value) (st : Jvm.State) : (allAtoms ts).before a st = ts.all (fun c => c.before a st) := by
  induction ts with
  | nil => rfl
  | cons c t ih =>
    show (Jvm.Cond.and c (allAtoms t)).before a st = _
    rw [Jvm.Cond.before_and, ih, List.all_cons]
def words1 : List Jvm.Cond := Jvm.Cond.code x code maxLocals ret :: tables_1
/-- a 'code' word, met by the world's own term for the bytes: nothing is compared byte by byte -/
theorem code_word {y : MethodName} {bytes : ByteArray} {mx : Nat} {rt : Option FieldType} {a : Array Value} {s : State} {m : MethodId} {meth : Method} {c : Code} (h1 : s.methodNamed? y = some m) (h2 : s.vm.method? m = some meth) (h3 : meth.code = some c) (h4 : c.code = bytes)
    (h5 : (c.maxLocals == mx && c.exceptionTable.isEmpty && decide (c.maxStack ≤ mostOperands) && decide (meth.sig.returnType = rt) && !meth.locks && decide (parseMethodDescriptor y.desc = some meth.sig)) = true) : (Jvm.Cond.code y bytes mx rt).before a s = true := by
  simp only [Bool.and_eq_true, beq_iff_eq, Bool.not_eq_true', decide_eq_true_eq] at h5
  obtain ⟨⟨⟨⟨⟨g1, g2⟩, g3⟩, g4⟩, g5⟩, g6⟩ := h5
  simp [Cond.before, Cond.holds, Cond.value, h1, h2, h3, h4, g1, g2, g3, g4, g5, g6]
def isCode : Jvm.Cond → Bool
  | .code _ _ _ _ => true
  | _ => false
theorem all_split {L : List Jvm.Cond} {P : Jvm.Cond → Bool} (h1 : L.all (fun c => isCode c || P c) = true) (h2 : ∀ c ∈ L.filter isCode, P c = true) : L.all P = true := by
  refine List.all_eq_true.mpr fun c hc => ?_
  have h := List.all_eq_true.mp h1 c hc
  rcases Bool.eq_false_or_eq_true (isCode c) with hi | hi
  · exact h2 c (List.mem_filter.mpr ⟨hc, hi⟩)
  · simpa [hi] using h
set_option maxRecDepth 65536 in
theorem w_c0 : (Jvm.Cond.code x code maxLocals ret).before args0 about1 = true := code_word (m := ⟨1, 1⟩) (meth := k1m1) (c := k1c1) (by decide +kernel) rfl rfl rfl (by decide +kernel)
set_option maxRecDepth 65536 in
theorem w_c1 : (Jvm.Cond.code ({ cls := "factorwright/WordInverse", name := "of", desc := "(J)J" } : Jvm.MethodName) prog_56_method_2_code (5 : Nat) (Option.some Jvm.ClassFile.FieldType.long)).before args0 about1 = true := code_word (m := ⟨2, 1⟩) (meth := k2m1) (c := k2c1) (by decide +kernel) rfl rfl rfl (by decide +kernel)
def codes1 : List Jvm.Cond := [Jvm.Cond.code x code maxLocals ret, Jvm.Cond.code ({ cls := "factorwright/WordInverse", name := "of", desc := "(J)J" } : Jvm.MethodName) prog_56_method_2_code (5 : Nat) (Option.some Jvm.ClassFile.FieldType.long)]
set_option maxRecDepth 65536 in
theorem codes_eq : words1.filter isCode = codes1 := rfl
theorem w_codes : ∀ c ∈ words1.filter isCode, c.before args0 about1 = true := by
  rw [codes_eq]
  intro c hc
  simp only [codes1, List.mem_cons, List.not_mem_nil, or_false] at hc
  rcases hc with rfl | rfl
  · exact w_c0
  · exact w_c1
set_option maxRecDepth 65536 in
theorem w_t1 : words1.all (fun c => isCode c || c.before args0 about1) = true := by decide +kernel
theorem w_tables : (allAtoms (Jvm.Cond.code x code maxLocals ret :: tables_1)).before args0 about1 = true := by
  rw [allAtoms_all]
  show words1.all (fun c => c.before args0 about1) = true
  refine all_split ?_ w_codes
  rw [w_t1]
set_option maxRecDepth 65536 in
theorem w_case : (Jvm.Cond.and given_1 narrow_1).before args0 about1 = true := by decide +kernel
theorem w_applies : (headSpec (Jvm.Cond.code x code maxLocals ret :: tables_1) room_1).applies x e0.platform about1 = true :=
  (Spec.applies_iff w_frames).mpr ⟨w_running, w_runnable, w_alone, w_named, w_hears, w_ripe, w_room, w_tables⟩
theorem atStart : AtStart classFile x code maxLocals ret World_1 tables_1 room_1 Calls_1 rest_1 Pre_1 launch0 p0 e0 about1 theMethod args0 below0 :=
  ⟨lists_1, trivial, launch0.admits_env _ _ _, launch0.least_env, fairChoices_fair.cas, fairChoices_fair.clock, w_frames, w_args, w_heap, w_applies, trivial, trivial, w_case⟩
end start1
theorem witness_1 : WitnessClaimed_1 := ⟨start1.p0, start1.e0, start1.about1, start1.theMethod, start1.args0, start1.below0, start1.atStart⟩
end Jvm.Pilot.@@N@@
