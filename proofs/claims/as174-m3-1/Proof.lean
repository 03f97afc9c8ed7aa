import JvmDerived
import JvmDerived.Pilot.@@N@@Statement
import JvmDerived.Pilot.@@N@@Code
set_option linter.unusedVariables false
set_option linter.unusedSimpArgs false
namespace Jvm.RoadKit
open Sem ClassFile Op Lib Jvm.Stand Jvm.Free Jvm.LawKit
section OwnRets
variable {p : Program} {l : Launch} {e : Env} {R : Room} {s : State} {m : MethodId} {args : Array Value} {below : List Frame} {meth : Method} {c : Code} {T : State} {locs : List Loc} {cells slots : Nat}
theorem own_retI (X : Stand p l e R s m args below meth c T locs cells slots) (hx : p.tables.exec = Jvm.exec) {pc : Nat} {Ls : Array Slot} {z z' : Int32} {rest : List Value} (hret : meth.sig.returnType = some .int) (hd : decode c.code pc = .ok (.ireturn, 1)) (hz : z' = z) {fs : List Frame}
    (hl : ∀ (f : JFrame) (acts : List Action), f.method = m → f.locked = none → f.entered = [] → (doReturn e (T.setTop f) acts (some (.int z'))).1 = T.setFrames fs) : Steps p.tables e below (T.setTop (mkF m pc Ls (.int z :: rest))) (T.setFrames fs) := by
  subst hz
  have hm' : T.vm.method? m = some meth := X.method'
  have hn : narrow .int (.int z') = .int z' := rfl
  show Steps p.tables e below (T.setTop { method := m, pc := pc, locals := Ls, stack := _ :: rest, locked := none }) _
  jvm_step X.here [X.here.top, hx, hd, hm', hret, hn]
  first | (intro acts; rw [hl _ acts rfl rfl rfl]) | rw [hl _ _ rfl rfl rfl]
  exact Steps.refl _
theorem own_retZ (X : Stand p l e R s m args below meth c T locs cells slots) (hx : p.tables.exec = Jvm.exec) {pc : Nat} {Ls : Array Slot} {z z' : Int32} {rest : List Value} (hret : meth.sig.returnType = some .boolean) (hd : decode c.code pc = .ok (.ireturn, 1)) (hz : z' = z) (hn : nar .boolean z = z) {fs : List Frame}
    (hl : ∀ (f : JFrame) (acts : List Action), f.method = m → f.locked = none → f.entered = [] → (doReturn e (T.setTop f) acts (some (.int z'))).1 = T.setFrames fs) : Steps p.tables e below (T.setTop (mkF m pc Ls (.int z :: rest))) (T.setFrames fs) := by
  subst hz
  refine retN X hx (t := .boolean) hret (by simp) hd ?_
  rw [hn]; exact hl
theorem own_retJ (X : Stand p l e R s m args below meth c T locs cells slots) (hx : p.tables.exec = Jvm.exec) {pc : Nat} {Ls : Array Slot} {z z' : Int64} (hret : meth.sig.returnType = some .long) (hd : decode c.code pc = .ok (.lreturn, 1)) (hz : z' = z) {fs : List Frame}
    (hl : ∀ (f : JFrame) (acts : List Action), f.method = m → f.locked = none → f.entered = [] → (doReturn e (T.setTop f) acts (some (.long z'))).1 = T.setFrames fs) : Steps p.tables e below (T.setTop (mkF m pc Ls [.long z])) (T.setFrames fs) := by
  subst hz
  exact X.lreturnOut hx hret hd hl
end OwnRets
theorem own_lw_eq_t {x y : Int64} (h : x = y) : ifCond.holds .eq (lcmpW x y) = true := (if0 _ _).trans (teq ((lw_eq x y).mpr h)).1
theorem own_lw_eq_f {x y : Int64} (h : ¬ x = y) : ifCond.holds .eq (lcmpW x y) = false := (if0 _ _).trans (feq (mt (lw_eq x y).mp h)).1
theorem own_lw_ne_t {x y : Int64} (h : ¬ x = y) : ifCond.holds .ne (lcmpW x y) = true := (if0 _ _).trans (feq (mt (lw_eq x y).mp h)).2
theorem own_lw_ne_f {x y : Int64} (h : x = y) : ifCond.holds .ne (lcmpW x y) = false := (if0 _ _).trans (teq ((lw_eq x y).mpr h)).2
theorem own_lw_lt_t {x y : Int64} (h : x < y) : ifCond.holds .lt (lcmpW x y) = true := (if0 _ _).trans (tlt ((lw_lt x y).mpr h)).1
theorem own_lw_lt_f {x y : Int64} (h : ¬ x < y) : ifCond.holds .lt (lcmpW x y) = false := (if0 _ _).trans (flt (mt (lw_lt x y).mp h)).1
theorem own_lw_ge_t {x y : Int64} (h : ¬ x < y) : ifCond.holds .ge (lcmpW x y) = true := (if0 _ _).trans (flt (mt (lw_lt x y).mp h)).2.1
theorem own_lw_ge_f {x y : Int64} (h : x < y) : ifCond.holds .ge (lcmpW x y) = false := (if0 _ _).trans (tlt ((lw_lt x y).mpr h)).2.1
end Jvm.RoadKit
namespace Jvm.RoadKit
open Sem ClassFile Op Lib Jvm.Stand Jvm.Free Jvm.LawKit
section OwnArrays
variable {p : Program} {l : Launch} {e : Env} {R : Room} {s : State} {m : MethodId} {args : Array Value} {below : List Frame} {meth : Method} {c : Code} {T : State} {locs : List Loc} {cells slots : Nat} {Z : State} {h : Heap} {a : Addr} {k : ClassId} {z j : Int32} {vs : List Value} {dv : Value}
theorem own_ldJ (X : Stand p l e R s m args below meth c T locs cells slots) (hx : p.tables.exec = Jvm.exec) (hZ : Z.Warmed39 s.vm) (eT : T.heap = h) (A : Arv Z h a k .long z vs dv) (hj : ¬ j < 0 ∧ j < z) {w : Int64} (hv : vs.getD j.toNatClampNeg dv = .long w) {g : JFrame} (hg : g.method = m) {rest : List Value} (hs : g.stack = .int j :: .ref a :: rest) (hd : decode c.code g.pc = .ok (.laload, 1)) (target : State)
    (hr : Steps p.tables e below (T.setTop { g with pc := g.pc + 1, stack := .long w :: rest }) target) : Steps p.tables e below (T.setTop g) target := by
  obtain ⟨cl, Ar, -, S, -, Hs, -⟩ := A
  have hin := inb_of S hj
  exact X.laload hx (j := j) (v := .long w) (by rw [eT]; exact Ar.1) (State.isArrayOf_alike hZ.alike Ar.2.1) Ar.2.2 hin (Hs.at hin hv) hg hs hd target hr
theorem own_stJ (X : Stand p l e R s m args below meth c T locs cells slots) (hx : p.tables.exec = Jvm.exec) (hZ : Z.Warmed39 s.vm) (eT : T.heap = h) (A : Arv Z h a k .long z vs dv) {x : Int64} (hj : ¬ j < 0 ∧ j < z) {i : Nat} (hi : j.toNatClampNeg = i) (hl : i < vs.length) {g : JFrame} (hg : g.method = m) {rest : List Value} (hs : g.stack = .long x :: .int j :: .ref a :: rest) (hd : decode c.code g.pc = .ok (.lastore, 1)) :
    ∃ T' h', Stand p l e R s m args below meth c T' (locs ++ [⟨a, j.toNatClampNeg⟩]) cells slots ∧ T'.heap = h' ∧ Wr h h' a j.toNatClampNeg (.long x) ∧ Arv Z h' a k .long z (vs.set i (.long x)) dv ∧
      ∀ target, Steps p.tables e below (T'.setTop { g with pc := g.pc + 1, stack := rest }) target → Steps p.tables e below (T.setTop g) target := by
  obtain ⟨cl, Ar, q1, S, q3, Hs, G⟩ := A
  have hin := inb_of S hj
  obtain ⟨T', h', X', e', W, st⟩ := stJ X hx hZ eT Ar hin hg hs hd
  exact ⟨T', h', X', e', W, Arv.set Ar q1 S q3 Hs G rfl W i hi hl, st⟩
theorem own_len (X : Stand p l e R s m args below meth c T locs cells slots) (hx : p.tables.exec = Jvm.exec) (hZ : Z.Warmed39 s.vm) (eT : T.heap = h) (A : Arv Z h a k .long z vs dv) {g : JFrame} (hg : g.method = m) {rest : List Value} (hs : g.stack = .ref a :: rest) (hd : decode c.code g.pc = .ok (.arraylength, 1)) (target : State)
    (hr : Steps p.tables e below (T.setTop { g with pc := g.pc + 1, stack := .int z :: rest }) target) : Steps p.tables e below (T.setTop g) target := by
  obtain ⟨cl, Ar, -, S, q3, -, -⟩ := A
  refine X.arraylength hx (by rw [eT]; exact Ar.1) (State.isArrayOf_alike hZ.alike Ar.2.1) hg hs hd target ?_
  rw [len_of S q3]
  exact hr
end OwnArrays
end Jvm.RoadKit
namespace Jvm.Pilot.@@N@@
open Jvm Jvm.ClassFile Sem Op Lib Jvm.Free Jvm.Stand Jvm.LawKit Jvm.RoadKit Bundle Jvm.Pilot.@@N@@.Jvm.D
theorem d1_0 : decode prog_347_method_1_code 0 = .ok (.aload_n 0, 1) := by decide +kernel
theorem d1_1 : decode prog_347_method_1_code 1 = .ok (.invokespecial 3, 3) := by decide +kernel
theorem d1_4 : decode prog_347_method_1_code 4 = .ok (.aload_n 0, 1) := by decide +kernel
theorem d1_5 : decode prog_347_method_1_code 5 = .ok (.iload_n 1, 1) := by decide +kernel
theorem d1_6 : decode prog_347_method_1_code 6 = .ok (.iconst 1, 1) := by decide +kernel
theorem d1_7 : decode prog_347_method_1_code 7 = .ok (.iadd, 1) := by decide +kernel
theorem d1_8 : decode prog_347_method_1_code 8 = .ok (.putfield 9, 3) := by decide +kernel
theorem d1_11 : decode prog_347_method_1_code 11 = .ok (.aload_n 0, 1) := by decide +kernel
theorem d1_12 : decode prog_347_method_1_code 12 = .ok (.aload_n 0, 1) := by decide +kernel
theorem d1_13 : decode prog_347_method_1_code 13 = .ok (.getfield 9, 3) := by decide +kernel
theorem d1_16 : decode prog_347_method_1_code 16 = .ok (.aload_n 0, 1) := by decide +kernel
theorem d1_17 : decode prog_347_method_1_code 17 = .ok (.getfield 9, 3) := by decide +kernel
theorem d1_20 : decode prog_347_method_1_code 20 = .ok (.imul, 1) := by decide +kernel
theorem d1_21 : decode prog_347_method_1_code 21 = .ok (.newarray .long, 2) := by decide +kernel
theorem d1_23 : decode prog_347_method_1_code 23 = .ok (.putfield 15, 3) := by decide +kernel
theorem d1_26 : decode prog_347_method_1_code 26 = .ok (.return_, 1) := by decide +kernel
theorem pn_1 : plainName "com/example/chronoscope/chronoscope/sim/Zone" = true := by first | (simp [plainName, overriddenIn]; done) | decide +kernel
theorem ef_1 (m : MethodId) (x0 : Addr) (x1 : Int32) : entryFrame m #[(.ref x0), (.int x1)] 2 = mkF m 0 #[.val (.ref x0), .val (.int x1)] [] := by first | (simp [entryFrame, mkF, argsToLocals, Value.category]; done) | rfl
def Q1 (Z : State) (a1 : Addr) (h0 : Heap) (n0 : Nat) (v : Option Value) (h : Heap) (L : List Loc) : Prop := ∃ (bb : Addr) (kk : ClassId), v = none ∧ Fr n0 L ∧ Keep h0 h [a1] ∧ (Exa Z h a1 "com/example/chronoscope/chronoscope/sim/Zone") ∧ (Fld Z h a1 "com/example/chronoscope/chronoscope/sim/Zone" "size" "I" (.int (3 : Int32))) ∧ (Fld Z h a1 "com/example/chronoscope/chronoscope/sim/Zone" "bounds" "[J" (.ref bb)) ∧ (Fld Z h a1 "com/example/chronoscope/chronoscope/sim/Zone" "empty" "Z" (.int (0 : Int32))) ∧ (Arv Z h bb kk .long (9 : Int32) [(.long (0 : Int64)), (.long (0 : Int64)), (.long (0 : Int64)), (.long (0 : Int64)), (.long (0 : Int64)), (.long (0 : Int64)), (.long (0 : Int64)), (.long (0 : Int64)), (.long (0 : Int64))] (.long (0 : Int64))) ∧ (h0.size ≤ bb)
set_option maxRecDepth 65536 in
set_option maxHeartbeats 40000000 in
theorem rm1 (l : Launch) (Z : State) (a0 : Array Value) (hw : ∀ d ∈ tables_1, d.before a0 Z = true) (ws : List Jvm.Cond) (a1 : Addr) (h0 : Heap) (n0 : Nat) (Z0 : n0 ≤ h0.size) (P0 : Exa Z h0 a1 "com/example/chronoscope/chronoscope/sim/Zone") (P1 : Fld Z h0 a1 "com/example/chronoscope/chronoscope/sim/Zone" "size" "I" (.int (0 : Int32))) (P2 : Fld Z h0 a1 "com/example/chronoscope/chronoscope/sim/Zone" "bounds" "[J" .null) (P3 : Fld Z h0 a1 "com/example/chronoscope/chronoscope/sim/Zone" "empty" "Z" (.int (0 : Int32))) (g_a1 : n0 ≤ a1) :
    MetFree l (⟨"com/example/chronoscope/chronoscope/sim/Zone", "<init>", "(I)V"⟩ : MethodName) (head1 (Jvm.Cond.code (⟨"com/example/chronoscope/chronoscope/sim/Zone", "<init>", "(I)V"⟩ : MethodName) prog_347_method_1_code 2 none :: ws) ({ frames := 1, cells := 1, slots := 9, locals := 12 } : Room)) (fun a U => a = #[(.ref a1), (.int (2 : Int32))] ∧ Z.Warmed39 U.vm ∧ U.heap = h0) (fun _ _ _ _ _ => True) (fun _ U o U' => ∃ v L, o = .returned v ∧ Q1 Z a1 h0 n0 v U'.heap L ∧ FrameEnd U o U' L ({ frames := 1, cells := 1, slots := 9, locals := 12 } : Room).cells ({ frames := 1, cells := 1, slots := 9, locals := 12 } : Room).slots) := by
  refine MetFree.of_bodySF (plainFor_of_name pn_1) hisR ?_
  intro p e s m args below meth c s₁ Bd hml0 hP hK
  obtain ⟨rfl, hZ, hh⟩ := hP
  have w0_ := hw _ (List.mem_of_getElem? (i := 0) rfl)
  have w4_ := hw _ (List.mem_of_getElem? (i := 4) rfl)
  have w9_ := hw _ (List.mem_of_getElem? (i := 9) rfl)
  have w10_ := hw _ (List.mem_of_getElem? (i := 10) rfl)
  have w11_ := hw _ (List.mem_of_getElem? (i := 11) rfl)
  have w12_ := hw _ (List.mem_of_getElem? (i := 12) rfl)
  have w13_ := hw _ (List.mem_of_getElem? (i := 13) rfl)
  have w14_ := hw _ (List.mem_of_getElem? (i := 14) rfl)
  have w15_ := hw _ (List.mem_of_getElem? (i := 15) rfl)
  have w33_ := hw _ (List.mem_of_getElem? (i := 33) rfl)
  have hx := Bd.exec
  have hby := Bd.bytes
  have hml : c.maxLocals = 2 := hml0
  have hown : s.vm.findClass "com/example/chronoscope/chronoscope/sim/Zone" = some m.cls := findClass_of_methodNamed Bd.named
  have hnm := (name_of_methodNamed Bd.named Bd.method).1
  have X0 : Stand p l e ({ frames := 1, cells := 1, slots := 9, locals := 12 } : Room) s m #[(.ref a1), (.int (2 : Int32))] below meth c s₁ [] 0 0 := Stand.of_body Bd
  have e0 : s₁.heap = h0 := by rw [← hh, Bd.state]; rfl
  have N0 := Fr.nil n0
  have pre0 : ∀ t, Steps p.tables e below (s₁.setTop (mkF m 0 #[.val (.ref a1), .val (.int (2 : Int32))] [])) t → Steps p.tables e below (s₁.setTop (entryFrame m #[(.ref a1), (.int (2 : Int32))] 2)) t := fun t k => castTop (ef_1 m a1 (2 : Int32)) k
  let Lo1 : Array Slot := #[.val (.ref a1), .val (.int (2 : Int32))]
  obtain ⟨T1, X1, e1, st1⟩ := initO X0 hx hZ hown w9_ w10_ w11_ e0 (g := (mkF m 1 Lo1 [(.ref a1)])) rfl (by rw [hml]; rfl) rfl (hb hby d1_1) (by decide) (W := 0) (by show 2 * 0 + _ ≤ _; exact Nat.le_of_eq rfl) (by decide)
  obtain ⟨T2, h2, X2, e2, W2, st2⟩ := putF X1 hx hZ hown (host := "") (Or.inl w12_) Via.refl e1 P1 P0 (Or.inr ⟨w13_, rfl, hnm⟩) w4_ (ty := .int) (by decide) rfl rfl (g := (mkF m 8 Lo1 [(.int (3 : Int32)), (.ref a1)])) rfl rfl (hb hby d1_8)
  have F2_size_a1 := P1.same W2
  have F2_bounds_a1 := P2.other W2 (Or.inr (slot_ne (Or.inr w15_) (Or.inr w13_) (by decide) (t := (.array .long)) (t' := .int) (by decide) (by decide)))
  have F2_empty_a1 := P3.other W2 (Or.inr (slot_ne (Or.inl w33_) (Or.inr w13_) (by decide) (t := .boolean) (t' := .int) (by decide) (by decide)))
  have E2_a1 := P0.wr W2
  have K2 : Keep h0 h2 [a1] := (Keep.refl h0 [a1]).wr W2 (Or.inl (List.mem_of_getElem? (i := 0) rfl))
  have Z2 : n0 ≤ h2.size := Nat.le_trans Z0 (Keep.of_wr W2).1
  have N2 := Fr.snoc X2 N0 g_a1
  obtain ⟨T3, X3, e3, st3⟩ := getF X2 hx hZ hown (host := "") (Or.inl w12_) Via.refl e2 F2_size_a1 (g := (mkF m 13 Lo1 [(.ref a1), (.ref a1)])) rfl rfl (hb hby d1_13)
  obtain ⟨T4, X4, e4, st4⟩ := getF X3 hx hZ hown (host := "") (Or.inl w12_) Via.refl e3 F2_size_a1 (g := (mkF m 17 Lo1 [(.ref a1), (.int (3 : Int32)), (.ref a1)])) rfl rfl (hb hby d1_17)
  obtain ⟨T5, h5, c5, X5, e5, E5, A5, st5⟩ := newP (aty := .long) X4 hx hZ w0_ e4 (g := (mkF m 21 Lo1 [(.int (9 : Int32)), (.ref a1)])) rfl (hb hby d1_21) rfl (by decide : ¬ ((9 : Int32) < (0 : Int32))) (cap := 9) (by decide : (9 : Int32).toNatClampNeg ≤ 9) (by decide) (by decide) (by decide)
  obtain ⟨b5, g5⟩ : ∃ z, z = h2.size := ⟨_, rfl⟩
  rw [← g5] at A5 st5
  have ne_a1_b5 : a1 ≠ b5 := Nat.ne_of_lt (Nat.lt_of_lt_of_le E2_a1.lt (Nat.le_of_eq g5.symm))
  have g_b5 : n0 ≤ b5 := Nat.le_trans Z2 (Nat.le_of_eq g5.symm)
  have sz_b5 : h0.size ≤ b5 := Nat.le_trans K2.1 (Nat.le_of_eq g5.symm)
  have F5_size_a1 := F2_size_a1.ext E5
  have F5_bounds_a1 := F2_bounds_a1.ext E5
  have F5_empty_a1 := F2_empty_a1.ext E5
  have E5_a1 := E2_a1.ext E5
  have K5 : Keep h0 h5 [a1] := K2.ext E5
  have Z5 : n0 ≤ h5.size := Nat.le_trans Z2 E5.1
  have V5 : Arv Z h5 b5 c5 .long (9 : Int32) [(.long (0 : Int64)), (.long (0 : Int64)), (.long (0 : Int64)), (.long (0 : Int64)), (.long (0 : Int64)), (.long (0 : Int64)), (.long (0 : Int64)), (.long (0 : Int64)), (.long (0 : Int64))] (.long (0 : Int64)) := (Arv.new A5 (by decide)).pad (pad_rep [] _ 9)
  obtain ⟨T6, h6, X6, e6, W6, st6⟩ := putF X5 hx hZ hown (host := "") (Or.inl w14_) Via.refl e5 F5_bounds_a1 E5_a1 (Or.inr ⟨w15_, rfl, hnm⟩) w4_ (ty := (.array .long)) (by decide) rfl rfl (g := (mkF m 23 Lo1 [(.ref b5), (.ref a1)])) rfl rfl (hb hby d1_23)
  have F6_size_a1 := F5_size_a1.other W6 (Or.inr (slot_ne (Or.inr w13_) (Or.inr w15_) (by decide) (t := .int) (t' := (.array .long)) (by decide) (by decide)))
  have F6_bounds_a1 := F5_bounds_a1.same W6
  have F6_empty_a1 := F5_empty_a1.other W6 (Or.inr (slot_ne (Or.inl w33_) (Or.inr w15_) (by decide) (t := .boolean) (t' := (.array .long)) (by decide) (by decide)))
  have E6_a1 := E5_a1.wr W6
  have A6_b5 := V5.other W6 (Ne.symm ne_a1_b5)
  have K6 : Keep h0 h6 [a1] := K5.wr W6 (Or.inl (List.mem_of_getElem? (i := 0) rfl))
  have Z6 : n0 ≤ h6.size := Nat.le_trans Z5 (Keep.of_wr W6).1
  have N6 := Fr.snoc X6 N2 g_a1
  obtain ⟨fs, hr, hrun, hended, hW, hsame⟩ := X6.leave (v := none) (fun _ => rfl)
  refine ⟨_, _, pre0 _ ?_, hrun, hended, _, _, rfl, ?_, ⟨_, rfl⟩, hW, hsame.mono (by decide) (by decide)⟩
  · show Steps p.tables e below (s₁.setTop (mkF m 0 Lo1 [])) _
    refine XS.aloadN X0.here hx rfl (hb hby d1_0) rfl rfl ?_
    show Steps p.tables e below (s₁.setTop (mkF m 1 Lo1 [(.ref a1)])) _
    refine st1 _ ?_
    show Steps p.tables e below (T1.setTop (mkF m 4 Lo1 [])) _
    refine XS.aloadN X1.here hx rfl (hb hby d1_4) rfl rfl ?_
    show Steps p.tables e below (T1.setTop (mkF m 5 Lo1 [(.ref a1)])) _
    refine XS.iloadN X1.here hx rfl (hb hby d1_5) rfl ?_
    show Steps p.tables e below (T1.setTop (mkF m 6 Lo1 [(.int (2 : Int32)), (.ref a1)])) _
    refine XS.iconst X1.here hx rfl (hb hby d1_6) ?_
    show Steps p.tables e below (T1.setTop (mkF m 7 Lo1 [(.int (1 : Int32)), (.int (2 : Int32)), (.ref a1)])) _
    refine XS.iadd X1.here hx rfl (hb hby d1_7) rfl ?_
    show Steps p.tables e below (T1.setTop (mkF m 8 Lo1 [(.int (3 : Int32)), (.ref a1)])) _
    refine st2 _ ?_
    show Steps p.tables e below (T2.setTop (mkF m 11 Lo1 [])) _
    refine XS.aloadN X2.here hx rfl (hb hby d1_11) rfl rfl ?_
    show Steps p.tables e below (T2.setTop (mkF m 12 Lo1 [(.ref a1)])) _
    refine XS.aloadN X2.here hx rfl (hb hby d1_12) rfl rfl ?_
    show Steps p.tables e below (T2.setTop (mkF m 13 Lo1 [(.ref a1), (.ref a1)])) _
    refine st3 _ ?_
    show Steps p.tables e below (T3.setTop (mkF m 16 Lo1 [(.int (3 : Int32)), (.ref a1)])) _
    refine XS.aloadN X3.here hx rfl (hb hby d1_16) rfl rfl ?_
    show Steps p.tables e below (T3.setTop (mkF m 17 Lo1 [(.ref a1), (.int (3 : Int32)), (.ref a1)])) _
    refine st4 _ ?_
    show Steps p.tables e below (T4.setTop (mkF m 20 Lo1 [(.int (3 : Int32)), (.int (3 : Int32)), (.ref a1)])) _
    refine XS.imul X4.here hx rfl (hb hby d1_20) rfl ?_
    show Steps p.tables e below (T4.setTop (mkF m 21 Lo1 [(.int (9 : Int32)), (.ref a1)])) _
    refine st5 _ ?_
    show Steps p.tables e below (T5.setTop (mkF m 23 Lo1 [(.ref b5), (.ref a1)])) _
    refine st6 _ ?_
    show Steps p.tables e below (T6.setTop (mkF m 26 Lo1 [])) _
    exact X6.returnOut hx Bd.returns (hb hby d1_26) hr
  · show Q1 Z a1 h0 n0 _ T6.heap _
    rw [e6]
    exact ⟨b5, c5, rfl, N6, K6, E6_a1, F6_size_a1, F6_bounds_a1, F6_empty_a1, A6_b5, sz_b5⟩
theorem d3_0 : decode prog_347_method_13_code 0 = .ok (.iconst 1, 1) := by decide +kernel
theorem d3_1 : decode prog_347_method_13_code 1 = .ok (.istore_n 3, 1) := by decide +kernel
theorem d3_2 : decode prog_347_method_13_code 2 = .ok (.iload_n 3, 1) := by decide +kernel
theorem d3_3 : decode prog_347_method_13_code 3 = .ok (.aload_n 0, 1) := by decide +kernel
theorem d3_4 : decode prog_347_method_13_code 4 = .ok (.getfield 9, 3) := by decide +kernel
theorem d3_7 : decode prog_347_method_13_code 7 = .ok (.if_icmp .ge 33, 3) := by decide +kernel
theorem d3_10 : decode prog_347_method_13_code 10 = .ok (.aload_n 0, 1) := by decide +kernel
theorem d3_11 : decode prog_347_method_13_code 11 = .ok (.getfield 15, 3) := by decide +kernel
theorem d3_14 : decode prog_347_method_13_code 14 = .ok (.iload_n 3, 1) := by decide +kernel
theorem d3_15 : decode prog_347_method_13_code 15 = .ok (.aload_n 0, 1) := by decide +kernel
theorem d3_16 : decode prog_347_method_13_code 16 = .ok (.getfield 9, 3) := by decide +kernel
theorem d3_19 : decode prog_347_method_13_code 19 = .ok (.imul, 1) := by decide +kernel
theorem d3_20 : decode prog_347_method_13_code 20 = .ok (.ldc2_w 31, 3) := by decide +kernel
theorem d3_23 : decode prog_347_method_13_code 23 = .ok (.lastore, 1) := by decide +kernel
theorem d3_24 : decode prog_347_method_13_code 24 = .ok (.aload_n 0, 1) := by decide +kernel
theorem d3_25 : decode prog_347_method_13_code 25 = .ok (.getfield 15, 3) := by decide +kernel
theorem d3_28 : decode prog_347_method_13_code 28 = .ok (.iload_n 3, 1) := by decide +kernel
theorem d3_29 : decode prog_347_method_13_code 29 = .ok (.dup2, 1) := by decide +kernel
theorem d3_30 : decode prog_347_method_13_code 30 = .ok (.laload, 1) := by decide +kernel
theorem d3_31 : decode prog_347_method_13_code 31 = .ok (.lload_n 1, 1) := by decide +kernel
theorem d3_32 : decode prog_347_method_13_code 32 = .ok (.lsub, 1) := by decide +kernel
theorem d3_33 : decode prog_347_method_13_code 33 = .ok (.lastore, 1) := by decide +kernel
theorem d3_34 : decode prog_347_method_13_code 34 = .ok (.iinc 3 1, 3) := by decide +kernel
theorem d3_37 : decode prog_347_method_13_code 37 = .ok (.goto (-35), 3) := by decide +kernel
theorem d3_40 : decode prog_347_method_13_code 40 = .ok (.return_, 1) := by decide +kernel
theorem pn_3 : plainName "com/example/chronoscope/chronoscope/sim/Zone" = true := by first | (simp [plainName, overriddenIn]; done) | decide +kernel
theorem ef_3 (m : MethodId) (x0 : Addr) (x1 : Int64) : entryFrame m #[(.ref x0), (.long x1)] 4 = mkF m 0 #[.val (.ref x0), .val (.long x1), .second, .unset] [] := by first | (simp [entryFrame, mkF, argsToLocals, Value.category]; done) | rfl
def Q3 (Z : State) (a1 : Addr) (q2 : Int64) (bb : Addr) (kk : ClassId) (x0 : Int64) (x1 : Int64) (x2 : Int64) (x3 : Int64) (x4 : Int64) (x5 : Int64) (x6 : Int64) (x7 : Int64) (x8 : Int64) (h0 : Heap) (n0 : Nat) (v : Option Value) (h : Heap) (L : List Loc) : Prop := v = none ∧ Fr n0 L ∧ Keep h0 h [bb] ∧ (Arv Z h bb kk .long (9 : Int32) [(.long x0), (.long (x1 - q2)), (.long (x2 - q2)), (.long (9223372036854775807 : Int64)), (.long x4), (.long x5), (.long (9223372036854775807 : Int64)), (.long x7), (.long x8)] (.long (0 : Int64)))
set_option maxRecDepth 65536 in
set_option maxHeartbeats 40000000 in
theorem rm3 (l : Launch) (Z : State) (a0 : Array Value) (hw : ∀ d ∈ tables_1, d.before a0 Z = true) (ws : List Jvm.Cond) (a1 : Addr) (q2 : Int64) (bb : Addr) (kk : ClassId) (x0 : Int64) (x1 : Int64) (x2 : Int64) (x3 : Int64) (x4 : Int64) (x5 : Int64) (x6 : Int64) (x7 : Int64) (x8 : Int64) (h0 : Heap) (n0 : Nat) (Z0 : n0 ≤ h0.size) (P0 : Exa Z h0 a1 "com/example/chronoscope/chronoscope/sim/Zone") (P1 : Fld Z h0 a1 "com/example/chronoscope/chronoscope/sim/Zone" "size" "I" (.int (3 : Int32))) (P2 : Fld Z h0 a1 "com/example/chronoscope/chronoscope/sim/Zone" "bounds" "[J" (.ref bb)) (P3 : Arv Z h0 bb kk .long (9 : Int32) [(.long x0), (.long x1), (.long x2), (.long x3), (.long x4), (.long x5), (.long x6), (.long x7), (.long x8)] (.long (0 : Int64))) (g_bb : n0 ≤ bb) (ne_a1_bb : a1 ≠ bb) :
    MetFree l (⟨"com/example/chronoscope/chronoscope/sim/Zone", "delay", "(J)V"⟩ : MethodName) (head1 (Jvm.Cond.code (⟨"com/example/chronoscope/chronoscope/sim/Zone", "delay", "(J)V"⟩ : MethodName) prog_347_method_13_code 4 none :: ws) ({ frames := 0, cells := 0, slots := 0, locals := 0 } : Room)) (fun a U => a = #[(.ref a1), (.long q2)] ∧ Z.Warmed39 U.vm ∧ U.heap = h0) (fun _ _ _ _ _ => True) (fun _ U o U' => ∃ v L, o = .returned v ∧ Q3 Z a1 q2 bb kk x0 x1 x2 x3 x4 x5 x6 x7 x8 h0 n0 v U'.heap L ∧ FrameEnd U o U' L ({ frames := 0, cells := 0, slots := 0, locals := 0 } : Room).cells ({ frames := 0, cells := 0, slots := 0, locals := 0 } : Room).slots) := by
  refine MetFree.of_bodySF (plainFor_of_name pn_3) hisR ?_
  intro p e s m args below meth c s₁ Bd hml0 hP hK
  obtain ⟨rfl, hZ, hh⟩ := hP
  have w12_ := hw _ (List.mem_of_getElem? (i := 12) rfl)
  have w14_ := hw _ (List.mem_of_getElem? (i := 14) rfl)
  have w21_ := hw _ (List.mem_of_getElem? (i := 21) rfl)
  have hx := Bd.exec
  have hby := Bd.bytes
  have hml : c.maxLocals = 4 := hml0
  have hown : s.vm.findClass "com/example/chronoscope/chronoscope/sim/Zone" = some m.cls := findClass_of_methodNamed Bd.named
  have hnm := (name_of_methodNamed Bd.named Bd.method).1
  have X0 : Stand p l e ({ frames := 0, cells := 0, slots := 0, locals := 0 } : Room) s m #[(.ref a1), (.long q2)] below meth c s₁ [] 0 0 := Stand.of_body Bd
  have e0 : s₁.heap = h0 := by rw [← hh, Bd.state]; rfl
  have N0 := Fr.nil n0
  have pre0 : ∀ t, Steps p.tables e below (s₁.setTop (mkF m 0 #[.val (.ref a1), .val (.long q2), .second, .unset] [])) t → Steps p.tables e below (s₁.setTop (entryFrame m #[(.ref a1), (.long q2)] 4)) t := fun t k => castTop (ef_3 m a1 q2) k
  let Lo1 : Array Slot := #[.val (.ref a1), .val (.long q2), .second, .unset]
  let Lo2 : Array Slot := #[.val (.ref a1), .val (.long q2), .second, .val (.int (1 : Int32))]
  obtain ⟨T1, X1, e1, st1⟩ := getF X0 hx hZ hown (host := "") (Or.inl w12_) Via.refl e0 P1 (g := (mkF m 4 Lo2 [(.ref a1), (.int (1 : Int32))])) rfl rfl (hb hby d3_4)
  obtain ⟨T2, X2, e2, st2⟩ := getF X1 hx hZ hown (host := "") (Or.inl w14_) Via.refl e1 P2 (g := (mkF m 11 Lo2 [(.ref a1)])) rfl rfl (hb hby d3_11)
  obtain ⟨T3, X3, e3, st3⟩ := getF X2 hx hZ hown (host := "") (Or.inl w12_) Via.refl e2 P1 (g := (mkF m 16 Lo2 [(.ref a1), (.int (1 : Int32)), (.ref bb)])) rfl rfl (hb hby d3_16)
  obtain ⟨T4, h4, X4, e4, W4, V4, st4⟩ := own_stJ X3 hx hZ e3 P3 (j := (3 : Int32)) (x := (9223372036854775807 : Int64)) (by decide) (i := 3) (by decide) (by show 3 < 9; decide) (g := (mkF m 23 Lo2 [(.long (9223372036854775807 : Int64)), (.int (3 : Int32)), (.ref bb)])) rfl rfl (hb hby d3_23)
  have A4 : Arv Z h4 bb kk .long (9 : Int32) [(.long x0), (.long x1), (.long x2), (.long (9223372036854775807 : Int64)), (.long x4), (.long x5), (.long x6), (.long x7), (.long x8)] (.long (0 : Int64)) := V4
  have F4_size_a1 := P1.other W4 (Or.inl ne_a1_bb)
  have F4_bounds_a1 := P2.other W4 (Or.inl ne_a1_bb)
  have E4_a1 := P0.wr W4
  have K4 : Keep h0 h4 [bb] := (Keep.refl h0 [bb]).wr W4 (Or.inl (List.mem_of_getElem? (i := 0) rfl))
  have Z4 : n0 ≤ h4.size := Nat.le_trans Z0 (Keep.of_wr W4).1
  have N4 := Fr.snoc X4 N0 g_bb
  obtain ⟨T5, X5, e5, st5⟩ := getF X4 hx hZ hown (host := "") (Or.inl w14_) Via.refl e4 F4_bounds_a1 (g := (mkF m 25 Lo2 [(.ref a1)])) rfl rfl (hb hby d3_25)
  obtain ⟨T6, h6, X6, e6, W6, V6, st6⟩ := own_stJ X5 hx hZ e5 A4 (j := (1 : Int32)) (x := (x1 - q2)) (by decide) (i := 1) (by decide) (by show 1 < 9; decide) (g := (mkF m 33 Lo2 [(.long (x1 - q2)), (.int (1 : Int32)), (.ref bb)])) rfl rfl (hb hby d3_33)
  have A6 : Arv Z h6 bb kk .long (9 : Int32) [(.long x0), (.long (x1 - q2)), (.long x2), (.long (9223372036854775807 : Int64)), (.long x4), (.long x5), (.long x6), (.long x7), (.long x8)] (.long (0 : Int64)) := V6
  have F6_size_a1 := F4_size_a1.other W6 (Or.inl ne_a1_bb)
  have F6_bounds_a1 := F4_bounds_a1.other W6 (Or.inl ne_a1_bb)
  have E6_a1 := E4_a1.wr W6
  have K6 : Keep h0 h6 [bb] := K4.wr W6 (Or.inl (List.mem_of_getElem? (i := 0) rfl))
  have Z6 : n0 ≤ h6.size := Nat.le_trans Z4 (Keep.of_wr W6).1
  have N6 := Fr.snoc X6 N4 g_bb
  let Lo3 : Array Slot := #[.val (.ref a1), .val (.long q2), .second, .val (.int (2 : Int32))]
  obtain ⟨T7, X7, e7, st7⟩ := getF X6 hx hZ hown (host := "") (Or.inl w12_) Via.refl e6 F6_size_a1 (g := (mkF m 4 Lo3 [(.ref a1), (.int (2 : Int32))])) rfl rfl (hb hby d3_4)
  obtain ⟨T8, X8, e8, st8⟩ := getF X7 hx hZ hown (host := "") (Or.inl w14_) Via.refl e7 F6_bounds_a1 (g := (mkF m 11 Lo3 [(.ref a1)])) rfl rfl (hb hby d3_11)
  obtain ⟨T9, X9, e9, st9⟩ := getF X8 hx hZ hown (host := "") (Or.inl w12_) Via.refl e8 F6_size_a1 (g := (mkF m 16 Lo3 [(.ref a1), (.int (2 : Int32)), (.ref bb)])) rfl rfl (hb hby d3_16)
  obtain ⟨T10, h10, X10, e10, W10, V10, st10⟩ := own_stJ X9 hx hZ e9 A6 (j := (6 : Int32)) (x := (9223372036854775807 : Int64)) (by decide) (i := 6) (by decide) (by show 6 < 9; decide) (g := (mkF m 23 Lo3 [(.long (9223372036854775807 : Int64)), (.int (6 : Int32)), (.ref bb)])) rfl rfl (hb hby d3_23)
  have A10 : Arv Z h10 bb kk .long (9 : Int32) [(.long x0), (.long (x1 - q2)), (.long x2), (.long (9223372036854775807 : Int64)), (.long x4), (.long x5), (.long (9223372036854775807 : Int64)), (.long x7), (.long x8)] (.long (0 : Int64)) := V10
  have F10_size_a1 := F6_size_a1.other W10 (Or.inl ne_a1_bb)
  have F10_bounds_a1 := F6_bounds_a1.other W10 (Or.inl ne_a1_bb)
  have E10_a1 := E6_a1.wr W10
  have K10 : Keep h0 h10 [bb] := K6.wr W10 (Or.inl (List.mem_of_getElem? (i := 0) rfl))
  have Z10 : n0 ≤ h10.size := Nat.le_trans Z6 (Keep.of_wr W10).1
  have N10 := Fr.snoc X10 N6 g_bb
  obtain ⟨T11, X11, e11, st11⟩ := getF X10 hx hZ hown (host := "") (Or.inl w14_) Via.refl e10 F10_bounds_a1 (g := (mkF m 25 Lo3 [(.ref a1)])) rfl rfl (hb hby d3_25)
  obtain ⟨T12, h12, X12, e12, W12, V12, st12⟩ := own_stJ X11 hx hZ e11 A10 (j := (2 : Int32)) (x := (x2 - q2)) (by decide) (i := 2) (by decide) (by show 2 < 9; decide) (g := (mkF m 33 Lo3 [(.long (x2 - q2)), (.int (2 : Int32)), (.ref bb)])) rfl rfl (hb hby d3_33)
  have A12 : Arv Z h12 bb kk .long (9 : Int32) [(.long x0), (.long (x1 - q2)), (.long (x2 - q2)), (.long (9223372036854775807 : Int64)), (.long x4), (.long x5), (.long (9223372036854775807 : Int64)), (.long x7), (.long x8)] (.long (0 : Int64)) := V12
  have F12_size_a1 := F10_size_a1.other W12 (Or.inl ne_a1_bb)
  have F12_bounds_a1 := F10_bounds_a1.other W12 (Or.inl ne_a1_bb)
  have E12_a1 := E10_a1.wr W12
  have K12 : Keep h0 h12 [bb] := K10.wr W12 (Or.inl (List.mem_of_getElem? (i := 0) rfl))
  have Z12 : n0 ≤ h12.size := Nat.le_trans Z10 (Keep.of_wr W12).1
  have N12 := Fr.snoc X12 N10 g_bb
  let Lo4 : Array Slot := #[.val (.ref a1), .val (.long q2), .second, .val (.int (3 : Int32))]
  obtain ⟨T13, X13, e13, st13⟩ := getF X12 hx hZ hown (host := "") (Or.inl w12_) Via.refl e12 F12_size_a1 (g := (mkF m 4 Lo4 [(.ref a1), (.int (3 : Int32))])) rfl rfl (hb hby d3_4)
  obtain ⟨fs, hr, hrun, hended, hW, hsame⟩ := X13.leave (v := none) (fun _ => rfl)
  refine ⟨_, _, pre0 _ ?_, hrun, hended, _, _, rfl, ?_, ⟨_, rfl⟩, hW, hsame.mono (by decide) (by decide)⟩
  · show Steps p.tables e below (s₁.setTop (mkF m 0 Lo1 [])) _
    refine XS.iconst X0.here hx rfl (hb hby d3_0) ?_
    show Steps p.tables e below (s₁.setTop (mkF m 1 Lo1 [(.int (1 : Int32))])) _
    refine XS.istoreN X0.here hx rfl (hb hby d3_1) rfl (l' := Lo2) rfl ?_
    show Steps p.tables e below (s₁.setTop (mkF m 2 Lo2 [])) _
    refine XS.iloadN X0.here hx rfl (hb hby d3_2) rfl ?_
    show Steps p.tables e below (s₁.setTop (mkF m 3 Lo2 [(.int (1 : Int32))])) _
    refine XS.aloadN X0.here hx rfl (hb hby d3_3) rfl rfl ?_
    show Steps p.tables e below (s₁.setTop (mkF m 4 Lo2 [(.ref a1), (.int (1 : Int32))])) _
    refine st1 _ ?_
    show Steps p.tables e below (T1.setTop (mkF m 7 Lo2 [(.int (3 : Int32)), (.int (1 : Int32))])) _
    refine XS.icmpNo X1.here hx rfl (hb hby d3_7) rfl (by first | rfl | decide) ?_
    show Steps p.tables e below (T1.setTop (mkF m 10 Lo2 [])) _
    refine XS.aloadN X1.here hx rfl (hb hby d3_10) rfl rfl ?_
    show Steps p.tables e below (T1.setTop (mkF m 11 Lo2 [(.ref a1)])) _
    refine st2 _ ?_
    show Steps p.tables e below (T2.setTop (mkF m 14 Lo2 [(.ref bb)])) _
    refine XS.iloadN X2.here hx rfl (hb hby d3_14) rfl ?_
    show Steps p.tables e below (T2.setTop (mkF m 15 Lo2 [(.int (1 : Int32)), (.ref bb)])) _
    refine XS.aloadN X2.here hx rfl (hb hby d3_15) rfl rfl ?_
    show Steps p.tables e below (T2.setTop (mkF m 16 Lo2 [(.ref a1), (.int (1 : Int32)), (.ref bb)])) _
    refine st3 _ ?_
    show Steps p.tables e below (T3.setTop (mkF m 19 Lo2 [(.int (3 : Int32)), (.int (1 : Int32)), (.ref bb)])) _
    refine XS.imul X3.here hx rfl (hb hby d3_19) rfl ?_
    show Steps p.tables e below (T3.setTop (mkF m 20 Lo2 [(.int (3 : Int32)), (.ref bb)])) _
    refine X3.ldc2Long hx hown (mvT hZ w21_) (g := (mkF m 20 Lo2 [(.int (3 : Int32)), (.ref bb)])) rfl (hb hby d3_20) _ ?_
    show Steps p.tables e below (T3.setTop (mkF m 23 Lo2 [(.long (9223372036854775807 : Int64)), (.int (3 : Int32)), (.ref bb)])) _
    refine st4 _ ?_
    show Steps p.tables e below (T4.setTop (mkF m 24 Lo2 [])) _
    refine XS.aloadN X4.here hx rfl (hb hby d3_24) rfl rfl ?_
    show Steps p.tables e below (T4.setTop (mkF m 25 Lo2 [(.ref a1)])) _
    refine st5 _ ?_
    show Steps p.tables e below (T5.setTop (mkF m 28 Lo2 [(.ref bb)])) _
    refine XS.iloadN X5.here hx rfl (hb hby d3_28) rfl ?_
    show Steps p.tables e below (T5.setTop (mkF m 29 Lo2 [(.int (1 : Int32)), (.ref bb)])) _
    refine Jvm.Free.XT.dup2 X5.here hx rfl (hb hby d3_29) rfl rfl rfl ?_
    show Steps p.tables e below (T5.setTop (mkF m 30 Lo2 [(.int (1 : Int32)), (.ref bb), (.int (1 : Int32)), (.ref bb)])) _
    refine own_ldJ X5 hx hZ e5 A4 (j := (1 : Int32)) (by decide) (w := x1) rfl (g := (mkF m 30 Lo2 [(.int (1 : Int32)), (.ref bb), (.int (1 : Int32)), (.ref bb)])) rfl rfl (hb hby d3_30) _ ?_
    show Steps p.tables e below (T5.setTop (mkF m 31 Lo2 [(.long x1), (.int (1 : Int32)), (.ref bb)])) _
    refine XS.lloadN X5.here hx rfl (hb hby d3_31) rfl ?_
    show Steps p.tables e below (T5.setTop (mkF m 32 Lo2 [(.long q2), (.long x1), (.int (1 : Int32)), (.ref bb)])) _
    refine XS.lsub X5.here hx rfl (hb hby d3_32) rfl ?_
    show Steps p.tables e below (T5.setTop (mkF m 33 Lo2 [(.long (x1 - q2)), (.int (1 : Int32)), (.ref bb)])) _
    refine st6 _ ?_
    show Steps p.tables e below (T6.setTop (mkF m 34 Lo2 [])) _
    refine XS.iinc X6.here hx rfl (hb hby d3_34) rfl (l' := Lo3) rfl ?_
    show Steps p.tables e below (T6.setTop (mkF m 37 Lo3 [])) _
    refine XS.goto X6.here hx rfl (pc0 := 37) (pc' := 2) rfl (hb hby d3_37) (by decide) (by decide) ?_
    show Steps p.tables e below (T6.setTop (mkF m 2 Lo3 [])) _
    refine XS.iloadN X6.here hx rfl (hb hby d3_2) rfl ?_
    show Steps p.tables e below (T6.setTop (mkF m 3 Lo3 [(.int (2 : Int32))])) _
    refine XS.aloadN X6.here hx rfl (hb hby d3_3) rfl rfl ?_
    show Steps p.tables e below (T6.setTop (mkF m 4 Lo3 [(.ref a1), (.int (2 : Int32))])) _
    refine st7 _ ?_
    show Steps p.tables e below (T7.setTop (mkF m 7 Lo3 [(.int (3 : Int32)), (.int (2 : Int32))])) _
    refine XS.icmpNo X7.here hx rfl (hb hby d3_7) rfl (by first | rfl | decide) ?_
    show Steps p.tables e below (T7.setTop (mkF m 10 Lo3 [])) _
    refine XS.aloadN X7.here hx rfl (hb hby d3_10) rfl rfl ?_
    show Steps p.tables e below (T7.setTop (mkF m 11 Lo3 [(.ref a1)])) _
    refine st8 _ ?_
    show Steps p.tables e below (T8.setTop (mkF m 14 Lo3 [(.ref bb)])) _
    refine XS.iloadN X8.here hx rfl (hb hby d3_14) rfl ?_
    show Steps p.tables e below (T8.setTop (mkF m 15 Lo3 [(.int (2 : Int32)), (.ref bb)])) _
    refine XS.aloadN X8.here hx rfl (hb hby d3_15) rfl rfl ?_
    show Steps p.tables e below (T8.setTop (mkF m 16 Lo3 [(.ref a1), (.int (2 : Int32)), (.ref bb)])) _
    refine st9 _ ?_
    show Steps p.tables e below (T9.setTop (mkF m 19 Lo3 [(.int (3 : Int32)), (.int (2 : Int32)), (.ref bb)])) _
    refine XS.imul X9.here hx rfl (hb hby d3_19) rfl ?_
    show Steps p.tables e below (T9.setTop (mkF m 20 Lo3 [(.int (6 : Int32)), (.ref bb)])) _
    refine X9.ldc2Long hx hown (mvT hZ w21_) (g := (mkF m 20 Lo3 [(.int (6 : Int32)), (.ref bb)])) rfl (hb hby d3_20) _ ?_
    show Steps p.tables e below (T9.setTop (mkF m 23 Lo3 [(.long (9223372036854775807 : Int64)), (.int (6 : Int32)), (.ref bb)])) _
    refine st10 _ ?_
    show Steps p.tables e below (T10.setTop (mkF m 24 Lo3 [])) _
    refine XS.aloadN X10.here hx rfl (hb hby d3_24) rfl rfl ?_
    show Steps p.tables e below (T10.setTop (mkF m 25 Lo3 [(.ref a1)])) _
    refine st11 _ ?_
    show Steps p.tables e below (T11.setTop (mkF m 28 Lo3 [(.ref bb)])) _
    refine XS.iloadN X11.here hx rfl (hb hby d3_28) rfl ?_
    show Steps p.tables e below (T11.setTop (mkF m 29 Lo3 [(.int (2 : Int32)), (.ref bb)])) _
    refine Jvm.Free.XT.dup2 X11.here hx rfl (hb hby d3_29) rfl rfl rfl ?_
    show Steps p.tables e below (T11.setTop (mkF m 30 Lo3 [(.int (2 : Int32)), (.ref bb), (.int (2 : Int32)), (.ref bb)])) _
    refine own_ldJ X11 hx hZ e11 A10 (j := (2 : Int32)) (by decide) (w := x2) rfl (g := (mkF m 30 Lo3 [(.int (2 : Int32)), (.ref bb), (.int (2 : Int32)), (.ref bb)])) rfl rfl (hb hby d3_30) _ ?_
    show Steps p.tables e below (T11.setTop (mkF m 31 Lo3 [(.long x2), (.int (2 : Int32)), (.ref bb)])) _
    refine XS.lloadN X11.here hx rfl (hb hby d3_31) rfl ?_
    show Steps p.tables e below (T11.setTop (mkF m 32 Lo3 [(.long q2), (.long x2), (.int (2 : Int32)), (.ref bb)])) _
    refine XS.lsub X11.here hx rfl (hb hby d3_32) rfl ?_
    show Steps p.tables e below (T11.setTop (mkF m 33 Lo3 [(.long (x2 - q2)), (.int (2 : Int32)), (.ref bb)])) _
    refine st12 _ ?_
    show Steps p.tables e below (T12.setTop (mkF m 34 Lo3 [])) _
    refine XS.iinc X12.here hx rfl (hb hby d3_34) rfl (l' := Lo4) rfl ?_
    show Steps p.tables e below (T12.setTop (mkF m 37 Lo4 [])) _
    refine XS.goto X12.here hx rfl (pc0 := 37) (pc' := 2) rfl (hb hby d3_37) (by decide) (by decide) ?_
    show Steps p.tables e below (T12.setTop (mkF m 2 Lo4 [])) _
    refine XS.iloadN X12.here hx rfl (hb hby d3_2) rfl ?_
    show Steps p.tables e below (T12.setTop (mkF m 3 Lo4 [(.int (3 : Int32))])) _
    refine XS.aloadN X12.here hx rfl (hb hby d3_3) rfl rfl ?_
    show Steps p.tables e below (T12.setTop (mkF m 4 Lo4 [(.ref a1), (.int (3 : Int32))])) _
    refine st13 _ ?_
    show Steps p.tables e below (T13.setTop (mkF m 7 Lo4 [(.int (3 : Int32)), (.int (3 : Int32))])) _
    refine XS.icmpYes X13.here hx rfl (pc0 := 7) (pc' := 40) rfl (hb hby d3_7) rfl (by first | rfl | decide) (by decide) (by decide) ?_
    show Steps p.tables e below (T13.setTop (mkF m 40 Lo4 [])) _
    exact X13.returnOut hx Bd.returns (hb hby d3_40) hr
  · show Q3 Z a1 q2 bb kk x0 x1 x2 x3 x4 x5 x6 x7 x8 h0 n0 _ T13.heap _
    rw [e13]
    exact ⟨rfl, N12, K12, A12⟩
theorem d4_1_0 : decode prog_347_method_10_code 0 = .ok (.iconst 0, 1) := by decide +kernel
theorem d4_1_1 : decode prog_347_method_10_code 1 = .ok (.istore_n 2, 1) := by decide +kernel
theorem d4_1_2 : decode prog_347_method_10_code 2 = .ok (.iload_n 2, 1) := by decide +kernel
theorem d4_1_3 : decode prog_347_method_10_code 3 = .ok (.aload_n 0, 1) := by decide +kernel
theorem d4_1_4 : decode prog_347_method_10_code 4 = .ok (.getfield 9, 3) := by decide +kernel
theorem d4_1_7 : decode prog_347_method_10_code 7 = .ok (.if_icmp .ge 52, 3) := by decide +kernel
theorem d4_1_10 : decode prog_347_method_10_code 10 = .ok (.aload_n 0, 1) := by decide +kernel
theorem d4_1_11 : decode prog_347_method_10_code 11 = .ok (.getfield 15, 3) := by decide +kernel
theorem d4_1_14 : decode prog_347_method_10_code 14 = .ok (.iload_n 1, 1) := by decide +kernel
theorem d4_1_15 : decode prog_347_method_10_code 15 = .ok (.aload_n 0, 1) := by decide +kernel
theorem d4_1_16 : decode prog_347_method_10_code 16 = .ok (.getfield 9, 3) := by decide +kernel
theorem d4_1_19 : decode prog_347_method_10_code 19 = .ok (.imul, 1) := by decide +kernel
theorem d4_1_20 : decode prog_347_method_10_code 20 = .ok (.iload_n 2, 1) := by decide +kernel
theorem d4_1_21 : decode prog_347_method_10_code 21 = .ok (.iadd, 1) := by decide +kernel
theorem d4_1_22 : decode prog_347_method_10_code 22 = .ok (.aload_n 0, 1) := by decide +kernel
theorem d4_1_23 : decode prog_347_method_10_code 23 = .ok (.getfield 15, 3) := by decide +kernel
theorem d4_1_26 : decode prog_347_method_10_code 26 = .ok (.iload_n 2, 1) := by decide +kernel
theorem d4_1_27 : decode prog_347_method_10_code 27 = .ok (.laload, 1) := by decide +kernel
theorem d4_1_28 : decode prog_347_method_10_code 28 = .ok (.lastore, 1) := by decide +kernel
theorem d4_1_29 : decode prog_347_method_10_code 29 = .ok (.aload_n 0, 1) := by decide +kernel
theorem d4_1_30 : decode prog_347_method_10_code 30 = .ok (.getfield 15, 3) := by decide +kernel
theorem d4_1_33 : decode prog_347_method_10_code 33 = .ok (.iload_n 2, 1) := by decide +kernel
theorem d4_1_34 : decode prog_347_method_10_code 34 = .ok (.aload_n 0, 1) := by decide +kernel
theorem d4_1_35 : decode prog_347_method_10_code 35 = .ok (.getfield 9, 3) := by decide +kernel
theorem d4_1_38 : decode prog_347_method_10_code 38 = .ok (.imul, 1) := by decide +kernel
theorem d4_1_39 : decode prog_347_method_10_code 39 = .ok (.iload_n 1, 1) := by decide +kernel
theorem d4_1_40 : decode prog_347_method_10_code 40 = .ok (.iadd, 1) := by decide +kernel
theorem d4_1_41 : decode prog_347_method_10_code 41 = .ok (.aload_n 0, 1) := by decide +kernel
theorem d4_1_42 : decode prog_347_method_10_code 42 = .ok (.getfield 15, 3) := by decide +kernel
theorem d4_1_45 : decode prog_347_method_10_code 45 = .ok (.iload_n 2, 1) := by decide +kernel
theorem d4_1_46 : decode prog_347_method_10_code 46 = .ok (.aload_n 0, 1) := by decide +kernel
theorem d4_1_47 : decode prog_347_method_10_code 47 = .ok (.getfield 9, 3) := by decide +kernel
theorem d4_1_50 : decode prog_347_method_10_code 50 = .ok (.imul, 1) := by decide +kernel
theorem d4_1_51 : decode prog_347_method_10_code 51 = .ok (.laload, 1) := by decide +kernel
theorem d4_1_52 : decode prog_347_method_10_code 52 = .ok (.lastore, 1) := by decide +kernel
theorem d4_1_53 : decode prog_347_method_10_code 53 = .ok (.iinc 2 1, 3) := by decide +kernel
theorem d4_1_56 : decode prog_347_method_10_code 56 = .ok (.goto (-54), 3) := by decide +kernel
theorem d4_1_59 : decode prog_347_method_10_code 59 = .ok (.aload_n 0, 1) := by decide +kernel
theorem d4_1_60 : decode prog_347_method_10_code 60 = .ok (.getfield 15, 3) := by decide +kernel
theorem d4_1_63 : decode prog_347_method_10_code 63 = .ok (.iload_n 1, 1) := by decide +kernel
theorem d4_1_64 : decode prog_347_method_10_code 64 = .ok (.aload_n 0, 1) := by decide +kernel
theorem d4_1_65 : decode prog_347_method_10_code 65 = .ok (.getfield 9, 3) := by decide +kernel
theorem d4_1_68 : decode prog_347_method_10_code 68 = .ok (.imul, 1) := by decide +kernel
theorem d4_1_69 : decode prog_347_method_10_code 69 = .ok (.iload_n 1, 1) := by decide +kernel
theorem d4_1_70 : decode prog_347_method_10_code 70 = .ok (.iadd, 1) := by decide +kernel
theorem d4_1_71 : decode prog_347_method_10_code 71 = .ok (.lconst 0, 1) := by decide +kernel
theorem d4_1_72 : decode prog_347_method_10_code 72 = .ok (.lastore, 1) := by decide +kernel
theorem d4_1_73 : decode prog_347_method_10_code 73 = .ok (.return_, 1) := by decide +kernel
theorem pn_4_1 : plainName "com/example/chronoscope/chronoscope/sim/Zone" = true := by first | (simp [plainName, overriddenIn]; done) | decide +kernel
theorem ef_4_1 (m : MethodId) (x0 : Addr) (x1 : Int32) : entryFrame m #[(.ref x0), (.int x1)] 3 = mkF m 0 #[.val (.ref x0), .val (.int x1), .unset] [] := by first | (simp [entryFrame, mkF, argsToLocals, Value.category]; done) | rfl
def Q4_1 (Z : State) (a1 : Addr) (bb : Addr) (kk : ClassId) (x0 : Int64) (x1 : Int64) (x2 : Int64) (x3 : Int64) (x4 : Int64) (x5 : Int64) (x6 : Int64) (x7 : Int64) (x8 : Int64) (h0 : Heap) (n0 : Nat) (v : Option Value) (h : Heap) (L : List Loc) : Prop := ∃ (y0 : Int64) (y1 : Int64) (y2 : Int64) (y3 : Int64) (y4 : Int64) (y5 : Int64) (y6 : Int64) (y7 : Int64) (y8 : Int64), v = none ∧ Fr n0 L ∧ Keep h0 h [bb] ∧ (Arv Z h bb kk .long (9 : Int32) [(.long y0), (.long y1), (.long y2), (.long y3), (.long y4), (.long y5), (.long y6), (.long y7), (.long y8)] (.long (0 : Int64))) ∧ (y0 = x0) ∧ (y1 = (if (1 : Int32) = (1 : Int32) then x0 else x1)) ∧ (y2 = (if (1 : Int32) = (1 : Int32) then x2 else x0)) ∧ (y3 = (if (1 : Int32) = (1 : Int32) then x0 else x3)) ∧ (y4 = (if (1 : Int32) = (1 : Int32) then (0 : Int64) else x4)) ∧ (y5 = (if (1 : Int32) = (1 : Int32) then x2 else x3)) ∧ (y6 = (if (1 : Int32) = (1 : Int32) then x6 else x0)) ∧ (y7 = (if (1 : Int32) = (1 : Int32) then x6 else x1)) ∧ (y8 = (if (1 : Int32) = (1 : Int32) then x8 else (0 : Int64)))
set_option maxRecDepth 65536 in
set_option maxHeartbeats 40000000 in
theorem rm4_1 (l : Launch) (Z : State) (a0 : Array Value) (hw : ∀ d ∈ tables_1, d.before a0 Z = true) (ws : List Jvm.Cond) (a1 : Addr) (bb : Addr) (kk : ClassId) (x0 : Int64) (x1 : Int64) (x2 : Int64) (x3 : Int64) (x4 : Int64) (x5 : Int64) (x6 : Int64) (x7 : Int64) (x8 : Int64) (h0 : Heap) (n0 : Nat) (Z0 : n0 ≤ h0.size) (P0 : Exa Z h0 a1 "com/example/chronoscope/chronoscope/sim/Zone") (P1 : Fld Z h0 a1 "com/example/chronoscope/chronoscope/sim/Zone" "size" "I" (.int (3 : Int32))) (P2 : Fld Z h0 a1 "com/example/chronoscope/chronoscope/sim/Zone" "bounds" "[J" (.ref bb)) (P3 : Arv Z h0 bb kk .long (9 : Int32) [(.long x0), (.long x1), (.long x2), (.long x3), (.long x4), (.long x5), (.long x6), (.long x7), (.long x8)] (.long (0 : Int64))) (g_bb : n0 ≤ bb) (ne_a1_bb : a1 ≠ bb) :
    MetFree l (⟨"com/example/chronoscope/chronoscope/sim/Zone", "reset", "(I)V"⟩ : MethodName) (head1 (Jvm.Cond.code (⟨"com/example/chronoscope/chronoscope/sim/Zone", "reset", "(I)V"⟩ : MethodName) prog_347_method_10_code 3 none :: ws) ({ frames := 0, cells := 0, slots := 0, locals := 0 } : Room)) (fun a U => a = #[(.ref a1), (.int (1 : Int32))] ∧ Z.Warmed39 U.vm ∧ U.heap = h0) (fun _ _ _ _ _ => True) (fun _ U o U' => ∃ v L, o = .returned v ∧ Q4_1 Z a1 bb kk x0 x1 x2 x3 x4 x5 x6 x7 x8 h0 n0 v U'.heap L ∧ FrameEnd U o U' L ({ frames := 0, cells := 0, slots := 0, locals := 0 } : Room).cells ({ frames := 0, cells := 0, slots := 0, locals := 0 } : Room).slots) := by
  refine MetFree.of_bodySF (plainFor_of_name pn_4_1) hisR ?_
  intro p e s m args below meth c s₁ Bd hml0 hP hK
  obtain ⟨rfl, hZ, hh⟩ := hP
  have w12_ := hw _ (List.mem_of_getElem? (i := 12) rfl)
  have w14_ := hw _ (List.mem_of_getElem? (i := 14) rfl)
  have hx := Bd.exec
  have hby := Bd.bytes
  have hml : c.maxLocals = 3 := hml0
  have hown : s.vm.findClass "com/example/chronoscope/chronoscope/sim/Zone" = some m.cls := findClass_of_methodNamed Bd.named
  have hnm := (name_of_methodNamed Bd.named Bd.method).1
  have X0 : Stand p l e ({ frames := 0, cells := 0, slots := 0, locals := 0 } : Room) s m #[(.ref a1), (.int (1 : Int32))] below meth c s₁ [] 0 0 := Stand.of_body Bd
  have e0 : s₁.heap = h0 := by rw [← hh, Bd.state]; rfl
  have N0 := Fr.nil n0
  have pre0 : ∀ t, Steps p.tables e below (s₁.setTop (mkF m 0 #[.val (.ref a1), .val (.int (1 : Int32)), .unset] [])) t → Steps p.tables e below (s₁.setTop (entryFrame m #[(.ref a1), (.int (1 : Int32))] 3)) t := fun t k => castTop (ef_4_1 m a1 (1 : Int32)) k
  let Lo1 : Array Slot := #[.val (.ref a1), .val (.int (1 : Int32)), .unset]
  let Lo2 : Array Slot := #[.val (.ref a1), .val (.int (1 : Int32)), .val (.int (0 : Int32))]
  obtain ⟨T1, X1, e1, st1⟩ := getF X0 hx hZ hown (host := "") (Or.inl w12_) Via.refl e0 P1 (g := (mkF m 4 Lo2 [(.ref a1), (.int (0 : Int32))])) rfl rfl (hb hby d4_1_4)
  obtain ⟨T2, X2, e2, st2⟩ := getF X1 hx hZ hown (host := "") (Or.inl w14_) Via.refl e1 P2 (g := (mkF m 11 Lo2 [(.ref a1)])) rfl rfl (hb hby d4_1_11)
  obtain ⟨T3, X3, e3, st3⟩ := getF X2 hx hZ hown (host := "") (Or.inl w12_) Via.refl e2 P1 (g := (mkF m 16 Lo2 [(.ref a1), (.int (1 : Int32)), (.ref bb)])) rfl rfl (hb hby d4_1_16)
  obtain ⟨T4, X4, e4, st4⟩ := getF X3 hx hZ hown (host := "") (Or.inl w14_) Via.refl e3 P2 (g := (mkF m 23 Lo2 [(.ref a1), (.int (3 : Int32)), (.ref bb)])) rfl rfl (hb hby d4_1_23)
  obtain ⟨T5, h5, X5, e5, W5, V5, st5⟩ := own_stJ X4 hx hZ e4 P3 (j := (3 : Int32)) (x := x0) (by decide) (i := 3) (by decide) (by show 3 < 9; decide) (g := (mkF m 28 Lo2 [(.long x0), (.int (3 : Int32)), (.ref bb)])) rfl rfl (hb hby d4_1_28)
  have A5 : Arv Z h5 bb kk .long (9 : Int32) [(.long x0), (.long x1), (.long x2), (.long x0), (.long x4), (.long x5), (.long x6), (.long x7), (.long x8)] (.long (0 : Int64)) := V5
  have F5_size_a1 := P1.other W5 (Or.inl ne_a1_bb)
  have F5_bounds_a1 := P2.other W5 (Or.inl ne_a1_bb)
  have E5_a1 := P0.wr W5
  have K5 : Keep h0 h5 [bb] := (Keep.refl h0 [bb]).wr W5 (Or.inl (List.mem_of_getElem? (i := 0) rfl))
  have Z5 : n0 ≤ h5.size := Nat.le_trans Z0 (Keep.of_wr W5).1
  have N5 := Fr.snoc X5 N0 g_bb
  obtain ⟨T6, X6, e6, st6⟩ := getF X5 hx hZ hown (host := "") (Or.inl w14_) Via.refl e5 F5_bounds_a1 (g := (mkF m 30 Lo2 [(.ref a1)])) rfl rfl (hb hby d4_1_30)
  obtain ⟨T7, X7, e7, st7⟩ := getF X6 hx hZ hown (host := "") (Or.inl w12_) Via.refl e6 F5_size_a1 (g := (mkF m 35 Lo2 [(.ref a1), (.int (0 : Int32)), (.ref bb)])) rfl rfl (hb hby d4_1_35)
  obtain ⟨T8, X8, e8, st8⟩ := getF X7 hx hZ hown (host := "") (Or.inl w14_) Via.refl e7 F5_bounds_a1 (g := (mkF m 42 Lo2 [(.ref a1), (.int (1 : Int32)), (.ref bb)])) rfl rfl (hb hby d4_1_42)
  obtain ⟨T9, X9, e9, st9⟩ := getF X8 hx hZ hown (host := "") (Or.inl w12_) Via.refl e8 F5_size_a1 (g := (mkF m 47 Lo2 [(.ref a1), (.int (0 : Int32)), (.ref bb), (.int (1 : Int32)), (.ref bb)])) rfl rfl (hb hby d4_1_47)
  obtain ⟨T10, h10, X10, e10, W10, V10, st10⟩ := own_stJ X9 hx hZ e9 A5 (j := (1 : Int32)) (x := x0) (by decide) (i := 1) (by decide) (by show 1 < 9; decide) (g := (mkF m 52 Lo2 [(.long x0), (.int (1 : Int32)), (.ref bb)])) rfl rfl (hb hby d4_1_52)
  have A10 : Arv Z h10 bb kk .long (9 : Int32) [(.long x0), (.long x0), (.long x2), (.long x0), (.long x4), (.long x5), (.long x6), (.long x7), (.long x8)] (.long (0 : Int64)) := V10
  have F10_size_a1 := F5_size_a1.other W10 (Or.inl ne_a1_bb)
  have F10_bounds_a1 := F5_bounds_a1.other W10 (Or.inl ne_a1_bb)
  have E10_a1 := E5_a1.wr W10
  have K10 : Keep h0 h10 [bb] := K5.wr W10 (Or.inl (List.mem_of_getElem? (i := 0) rfl))
  have Z10 : n0 ≤ h10.size := Nat.le_trans Z5 (Keep.of_wr W10).1
  have N10 := Fr.snoc X10 N5 g_bb
  let Lo3 : Array Slot := #[.val (.ref a1), .val (.int (1 : Int32)), .val (.int (1 : Int32))]
  obtain ⟨T11, X11, e11, st11⟩ := getF X10 hx hZ hown (host := "") (Or.inl w12_) Via.refl e10 F10_size_a1 (g := (mkF m 4 Lo3 [(.ref a1), (.int (1 : Int32))])) rfl rfl (hb hby d4_1_4)
  obtain ⟨T12, X12, e12, st12⟩ := getF X11 hx hZ hown (host := "") (Or.inl w14_) Via.refl e11 F10_bounds_a1 (g := (mkF m 11 Lo3 [(.ref a1)])) rfl rfl (hb hby d4_1_11)
  obtain ⟨T13, X13, e13, st13⟩ := getF X12 hx hZ hown (host := "") (Or.inl w12_) Via.refl e12 F10_size_a1 (g := (mkF m 16 Lo3 [(.ref a1), (.int (1 : Int32)), (.ref bb)])) rfl rfl (hb hby d4_1_16)
  obtain ⟨T14, X14, e14, st14⟩ := getF X13 hx hZ hown (host := "") (Or.inl w14_) Via.refl e13 F10_bounds_a1 (g := (mkF m 23 Lo3 [(.ref a1), (.int (4 : Int32)), (.ref bb)])) rfl rfl (hb hby d4_1_23)
  obtain ⟨T15, h15, X15, e15, W15, V15, st15⟩ := own_stJ X14 hx hZ e14 A10 (j := (4 : Int32)) (x := x0) (by decide) (i := 4) (by decide) (by show 4 < 9; decide) (g := (mkF m 28 Lo3 [(.long x0), (.int (4 : Int32)), (.ref bb)])) rfl rfl (hb hby d4_1_28)
  have A15 : Arv Z h15 bb kk .long (9 : Int32) [(.long x0), (.long x0), (.long x2), (.long x0), (.long x0), (.long x5), (.long x6), (.long x7), (.long x8)] (.long (0 : Int64)) := V15
  have F15_size_a1 := F10_size_a1.other W15 (Or.inl ne_a1_bb)
  have F15_bounds_a1 := F10_bounds_a1.other W15 (Or.inl ne_a1_bb)
  have E15_a1 := E10_a1.wr W15
  have K15 : Keep h0 h15 [bb] := K10.wr W15 (Or.inl (List.mem_of_getElem? (i := 0) rfl))
  have Z15 : n0 ≤ h15.size := Nat.le_trans Z10 (Keep.of_wr W15).1
  have N15 := Fr.snoc X15 N10 g_bb
  obtain ⟨T16, X16, e16, st16⟩ := getF X15 hx hZ hown (host := "") (Or.inl w14_) Via.refl e15 F15_bounds_a1 (g := (mkF m 30 Lo3 [(.ref a1)])) rfl rfl (hb hby d4_1_30)
  obtain ⟨T17, X17, e17, st17⟩ := getF X16 hx hZ hown (host := "") (Or.inl w12_) Via.refl e16 F15_size_a1 (g := (mkF m 35 Lo3 [(.ref a1), (.int (1 : Int32)), (.ref bb)])) rfl rfl (hb hby d4_1_35)
  obtain ⟨T18, X18, e18, st18⟩ := getF X17 hx hZ hown (host := "") (Or.inl w14_) Via.refl e17 F15_bounds_a1 (g := (mkF m 42 Lo3 [(.ref a1), (.int (4 : Int32)), (.ref bb)])) rfl rfl (hb hby d4_1_42)
  obtain ⟨T19, X19, e19, st19⟩ := getF X18 hx hZ hown (host := "") (Or.inl w12_) Via.refl e18 F15_size_a1 (g := (mkF m 47 Lo3 [(.ref a1), (.int (1 : Int32)), (.ref bb), (.int (4 : Int32)), (.ref bb)])) rfl rfl (hb hby d4_1_47)
  obtain ⟨T20, h20, X20, e20, W20, V20, st20⟩ := own_stJ X19 hx hZ e19 A15 (j := (4 : Int32)) (x := x0) (by decide) (i := 4) (by decide) (by show 4 < 9; decide) (g := (mkF m 52 Lo3 [(.long x0), (.int (4 : Int32)), (.ref bb)])) rfl rfl (hb hby d4_1_52)
  have A20 : Arv Z h20 bb kk .long (9 : Int32) [(.long x0), (.long x0), (.long x2), (.long x0), (.long x0), (.long x5), (.long x6), (.long x7), (.long x8)] (.long (0 : Int64)) := V20
  have F20_size_a1 := F15_size_a1.other W20 (Or.inl ne_a1_bb)
  have F20_bounds_a1 := F15_bounds_a1.other W20 (Or.inl ne_a1_bb)
  have E20_a1 := E15_a1.wr W20
  have K20 : Keep h0 h20 [bb] := K15.wr W20 (Or.inl (List.mem_of_getElem? (i := 0) rfl))
  have Z20 : n0 ≤ h20.size := Nat.le_trans Z15 (Keep.of_wr W20).1
  have N20 := Fr.snoc X20 N15 g_bb
  let Lo4 : Array Slot := #[.val (.ref a1), .val (.int (1 : Int32)), .val (.int (2 : Int32))]
  obtain ⟨T21, X21, e21, st21⟩ := getF X20 hx hZ hown (host := "") (Or.inl w12_) Via.refl e20 F20_size_a1 (g := (mkF m 4 Lo4 [(.ref a1), (.int (2 : Int32))])) rfl rfl (hb hby d4_1_4)
  obtain ⟨T22, X22, e22, st22⟩ := getF X21 hx hZ hown (host := "") (Or.inl w14_) Via.refl e21 F20_bounds_a1 (g := (mkF m 11 Lo4 [(.ref a1)])) rfl rfl (hb hby d4_1_11)
  obtain ⟨T23, X23, e23, st23⟩ := getF X22 hx hZ hown (host := "") (Or.inl w12_) Via.refl e22 F20_size_a1 (g := (mkF m 16 Lo4 [(.ref a1), (.int (1 : Int32)), (.ref bb)])) rfl rfl (hb hby d4_1_16)
  obtain ⟨T24, X24, e24, st24⟩ := getF X23 hx hZ hown (host := "") (Or.inl w14_) Via.refl e23 F20_bounds_a1 (g := (mkF m 23 Lo4 [(.ref a1), (.int (5 : Int32)), (.ref bb)])) rfl rfl (hb hby d4_1_23)
  obtain ⟨T25, h25, X25, e25, W25, V25, st25⟩ := own_stJ X24 hx hZ e24 A20 (j := (5 : Int32)) (x := x2) (by decide) (i := 5) (by decide) (by show 5 < 9; decide) (g := (mkF m 28 Lo4 [(.long x2), (.int (5 : Int32)), (.ref bb)])) rfl rfl (hb hby d4_1_28)
  have A25 : Arv Z h25 bb kk .long (9 : Int32) [(.long x0), (.long x0), (.long x2), (.long x0), (.long x0), (.long x2), (.long x6), (.long x7), (.long x8)] (.long (0 : Int64)) := V25
  have F25_size_a1 := F20_size_a1.other W25 (Or.inl ne_a1_bb)
  have F25_bounds_a1 := F20_bounds_a1.other W25 (Or.inl ne_a1_bb)
  have E25_a1 := E20_a1.wr W25
  have K25 : Keep h0 h25 [bb] := K20.wr W25 (Or.inl (List.mem_of_getElem? (i := 0) rfl))
  have Z25 : n0 ≤ h25.size := Nat.le_trans Z20 (Keep.of_wr W25).1
  have N25 := Fr.snoc X25 N20 g_bb
  obtain ⟨T26, X26, e26, st26⟩ := getF X25 hx hZ hown (host := "") (Or.inl w14_) Via.refl e25 F25_bounds_a1 (g := (mkF m 30 Lo4 [(.ref a1)])) rfl rfl (hb hby d4_1_30)
  obtain ⟨T27, X27, e27, st27⟩ := getF X26 hx hZ hown (host := "") (Or.inl w12_) Via.refl e26 F25_size_a1 (g := (mkF m 35 Lo4 [(.ref a1), (.int (2 : Int32)), (.ref bb)])) rfl rfl (hb hby d4_1_35)
  obtain ⟨T28, X28, e28, st28⟩ := getF X27 hx hZ hown (host := "") (Or.inl w14_) Via.refl e27 F25_bounds_a1 (g := (mkF m 42 Lo4 [(.ref a1), (.int (7 : Int32)), (.ref bb)])) rfl rfl (hb hby d4_1_42)
  obtain ⟨T29, X29, e29, st29⟩ := getF X28 hx hZ hown (host := "") (Or.inl w12_) Via.refl e28 F25_size_a1 (g := (mkF m 47 Lo4 [(.ref a1), (.int (2 : Int32)), (.ref bb), (.int (7 : Int32)), (.ref bb)])) rfl rfl (hb hby d4_1_47)
  obtain ⟨T30, h30, X30, e30, W30, V30, st30⟩ := own_stJ X29 hx hZ e29 A25 (j := (7 : Int32)) (x := x6) (by decide) (i := 7) (by decide) (by show 7 < 9; decide) (g := (mkF m 52 Lo4 [(.long x6), (.int (7 : Int32)), (.ref bb)])) rfl rfl (hb hby d4_1_52)
  have A30 : Arv Z h30 bb kk .long (9 : Int32) [(.long x0), (.long x0), (.long x2), (.long x0), (.long x0), (.long x2), (.long x6), (.long x6), (.long x8)] (.long (0 : Int64)) := V30
  have F30_size_a1 := F25_size_a1.other W30 (Or.inl ne_a1_bb)
  have F30_bounds_a1 := F25_bounds_a1.other W30 (Or.inl ne_a1_bb)
  have E30_a1 := E25_a1.wr W30
  have K30 : Keep h0 h30 [bb] := K25.wr W30 (Or.inl (List.mem_of_getElem? (i := 0) rfl))
  have Z30 : n0 ≤ h30.size := Nat.le_trans Z25 (Keep.of_wr W30).1
  have N30 := Fr.snoc X30 N25 g_bb
  let Lo5 : Array Slot := #[.val (.ref a1), .val (.int (1 : Int32)), .val (.int (3 : Int32))]
  obtain ⟨T31, X31, e31, st31⟩ := getF X30 hx hZ hown (host := "") (Or.inl w12_) Via.refl e30 F30_size_a1 (g := (mkF m 4 Lo5 [(.ref a1), (.int (3 : Int32))])) rfl rfl (hb hby d4_1_4)
  obtain ⟨T32, X32, e32, st32⟩ := getF X31 hx hZ hown (host := "") (Or.inl w14_) Via.refl e31 F30_bounds_a1 (g := (mkF m 60 Lo5 [(.ref a1)])) rfl rfl (hb hby d4_1_60)
  obtain ⟨T33, X33, e33, st33⟩ := getF X32 hx hZ hown (host := "") (Or.inl w12_) Via.refl e32 F30_size_a1 (g := (mkF m 65 Lo5 [(.ref a1), (.int (1 : Int32)), (.ref bb)])) rfl rfl (hb hby d4_1_65)
  obtain ⟨T34, h34, X34, e34, W34, V34, st34⟩ := own_stJ X33 hx hZ e33 A30 (j := (4 : Int32)) (x := (0 : Int64)) (by decide) (i := 4) (by decide) (by show 4 < 9; decide) (g := (mkF m 72 Lo5 [(.long (0 : Int64)), (.int (4 : Int32)), (.ref bb)])) rfl rfl (hb hby d4_1_72)
  have A34 : Arv Z h34 bb kk .long (9 : Int32) [(.long x0), (.long x0), (.long x2), (.long x0), (.long (0 : Int64)), (.long x2), (.long x6), (.long x6), (.long x8)] (.long (0 : Int64)) := V34
  have F34_size_a1 := F30_size_a1.other W34 (Or.inl ne_a1_bb)
  have F34_bounds_a1 := F30_bounds_a1.other W34 (Or.inl ne_a1_bb)
  have E34_a1 := E30_a1.wr W34
  have K34 : Keep h0 h34 [bb] := K30.wr W34 (Or.inl (List.mem_of_getElem? (i := 0) rfl))
  have Z34 : n0 ≤ h34.size := Nat.le_trans Z30 (Keep.of_wr W34).1
  have N34 := Fr.snoc X34 N30 g_bb
  obtain ⟨fs, hr, hrun, hended, hW, hsame⟩ := X34.leave (v := none) (fun _ => rfl)
  refine ⟨_, _, pre0 _ ?_, hrun, hended, _, _, rfl, ?_, ⟨_, rfl⟩, hW, hsame.mono (by decide) (by decide)⟩
  · show Steps p.tables e below (s₁.setTop (mkF m 0 Lo1 [])) _
    refine XS.iconst X0.here hx rfl (hb hby d4_1_0) ?_
    show Steps p.tables e below (s₁.setTop (mkF m 1 Lo1 [(.int (0 : Int32))])) _
    refine XS.istoreN X0.here hx rfl (hb hby d4_1_1) rfl (l' := Lo2) rfl ?_
    show Steps p.tables e below (s₁.setTop (mkF m 2 Lo2 [])) _
    refine XS.iloadN X0.here hx rfl (hb hby d4_1_2) rfl ?_
    show Steps p.tables e below (s₁.setTop (mkF m 3 Lo2 [(.int (0 : Int32))])) _
    refine XS.aloadN X0.here hx rfl (hb hby d4_1_3) rfl rfl ?_
    show Steps p.tables e below (s₁.setTop (mkF m 4 Lo2 [(.ref a1), (.int (0 : Int32))])) _
    refine st1 _ ?_
    show Steps p.tables e below (T1.setTop (mkF m 7 Lo2 [(.int (3 : Int32)), (.int (0 : Int32))])) _
    refine XS.icmpNo X1.here hx rfl (hb hby d4_1_7) rfl (by first | rfl | decide) ?_
    show Steps p.tables e below (T1.setTop (mkF m 10 Lo2 [])) _
    refine XS.aloadN X1.here hx rfl (hb hby d4_1_10) rfl rfl ?_
    show Steps p.tables e below (T1.setTop (mkF m 11 Lo2 [(.ref a1)])) _
    refine st2 _ ?_
    show Steps p.tables e below (T2.setTop (mkF m 14 Lo2 [(.ref bb)])) _
    refine XS.iloadN X2.here hx rfl (hb hby d4_1_14) rfl ?_
    show Steps p.tables e below (T2.setTop (mkF m 15 Lo2 [(.int (1 : Int32)), (.ref bb)])) _
    refine XS.aloadN X2.here hx rfl (hb hby d4_1_15) rfl rfl ?_
    show Steps p.tables e below (T2.setTop (mkF m 16 Lo2 [(.ref a1), (.int (1 : Int32)), (.ref bb)])) _
    refine st3 _ ?_
    show Steps p.tables e below (T3.setTop (mkF m 19 Lo2 [(.int (3 : Int32)), (.int (1 : Int32)), (.ref bb)])) _
    refine XS.imul X3.here hx rfl (hb hby d4_1_19) rfl ?_
    show Steps p.tables e below (T3.setTop (mkF m 20 Lo2 [(.int (3 : Int32)), (.ref bb)])) _
    refine XS.iloadN X3.here hx rfl (hb hby d4_1_20) rfl ?_
    show Steps p.tables e below (T3.setTop (mkF m 21 Lo2 [(.int (0 : Int32)), (.int (3 : Int32)), (.ref bb)])) _
    refine XS.iadd X3.here hx rfl (hb hby d4_1_21) rfl ?_
    show Steps p.tables e below (T3.setTop (mkF m 22 Lo2 [(.int (3 : Int32)), (.ref bb)])) _
    refine XS.aloadN X3.here hx rfl (hb hby d4_1_22) rfl rfl ?_
    show Steps p.tables e below (T3.setTop (mkF m 23 Lo2 [(.ref a1), (.int (3 : Int32)), (.ref bb)])) _
    refine st4 _ ?_
    show Steps p.tables e below (T4.setTop (mkF m 26 Lo2 [(.ref bb), (.int (3 : Int32)), (.ref bb)])) _
    refine XS.iloadN X4.here hx rfl (hb hby d4_1_26) rfl ?_
    show Steps p.tables e below (T4.setTop (mkF m 27 Lo2 [(.int (0 : Int32)), (.ref bb), (.int (3 : Int32)), (.ref bb)])) _
    refine own_ldJ X4 hx hZ e4 P3 (j := (0 : Int32)) (by decide) (w := x0) rfl (g := (mkF m 27 Lo2 [(.int (0 : Int32)), (.ref bb), (.int (3 : Int32)), (.ref bb)])) rfl rfl (hb hby d4_1_27) _ ?_
    show Steps p.tables e below (T4.setTop (mkF m 28 Lo2 [(.long x0), (.int (3 : Int32)), (.ref bb)])) _
    refine st5 _ ?_
    show Steps p.tables e below (T5.setTop (mkF m 29 Lo2 [])) _
    refine XS.aloadN X5.here hx rfl (hb hby d4_1_29) rfl rfl ?_
    show Steps p.tables e below (T5.setTop (mkF m 30 Lo2 [(.ref a1)])) _
    refine st6 _ ?_
    show Steps p.tables e below (T6.setTop (mkF m 33 Lo2 [(.ref bb)])) _
    refine XS.iloadN X6.here hx rfl (hb hby d4_1_33) rfl ?_
    show Steps p.tables e below (T6.setTop (mkF m 34 Lo2 [(.int (0 : Int32)), (.ref bb)])) _
    refine XS.aloadN X6.here hx rfl (hb hby d4_1_34) rfl rfl ?_
    show Steps p.tables e below (T6.setTop (mkF m 35 Lo2 [(.ref a1), (.int (0 : Int32)), (.ref bb)])) _
    refine st7 _ ?_
    show Steps p.tables e below (T7.setTop (mkF m 38 Lo2 [(.int (3 : Int32)), (.int (0 : Int32)), (.ref bb)])) _
    refine XS.imul X7.here hx rfl (hb hby d4_1_38) rfl ?_
    show Steps p.tables e below (T7.setTop (mkF m 39 Lo2 [(.int (0 : Int32)), (.ref bb)])) _
    refine XS.iloadN X7.here hx rfl (hb hby d4_1_39) rfl ?_
    show Steps p.tables e below (T7.setTop (mkF m 40 Lo2 [(.int (1 : Int32)), (.int (0 : Int32)), (.ref bb)])) _
    refine XS.iadd X7.here hx rfl (hb hby d4_1_40) rfl ?_
    show Steps p.tables e below (T7.setTop (mkF m 41 Lo2 [(.int (1 : Int32)), (.ref bb)])) _
    refine XS.aloadN X7.here hx rfl (hb hby d4_1_41) rfl rfl ?_
    show Steps p.tables e below (T7.setTop (mkF m 42 Lo2 [(.ref a1), (.int (1 : Int32)), (.ref bb)])) _
    refine st8 _ ?_
    show Steps p.tables e below (T8.setTop (mkF m 45 Lo2 [(.ref bb), (.int (1 : Int32)), (.ref bb)])) _
    refine XS.iloadN X8.here hx rfl (hb hby d4_1_45) rfl ?_
    show Steps p.tables e below (T8.setTop (mkF m 46 Lo2 [(.int (0 : Int32)), (.ref bb), (.int (1 : Int32)), (.ref bb)])) _
    refine XS.aloadN X8.here hx rfl (hb hby d4_1_46) rfl rfl ?_
    show Steps p.tables e below (T8.setTop (mkF m 47 Lo2 [(.ref a1), (.int (0 : Int32)), (.ref bb), (.int (1 : Int32)), (.ref bb)])) _
    refine st9 _ ?_
    show Steps p.tables e below (T9.setTop (mkF m 50 Lo2 [(.int (3 : Int32)), (.int (0 : Int32)), (.ref bb), (.int (1 : Int32)), (.ref bb)])) _
    refine XS.imul X9.here hx rfl (hb hby d4_1_50) rfl ?_
    show Steps p.tables e below (T9.setTop (mkF m 51 Lo2 [(.int (0 : Int32)), (.ref bb), (.int (1 : Int32)), (.ref bb)])) _
    refine own_ldJ X9 hx hZ e9 A5 (j := (0 : Int32)) (by decide) (w := x0) rfl (g := (mkF m 51 Lo2 [(.int (0 : Int32)), (.ref bb), (.int (1 : Int32)), (.ref bb)])) rfl rfl (hb hby d4_1_51) _ ?_
    show Steps p.tables e below (T9.setTop (mkF m 52 Lo2 [(.long x0), (.int (1 : Int32)), (.ref bb)])) _
    refine st10 _ ?_
    show Steps p.tables e below (T10.setTop (mkF m 53 Lo2 [])) _
    refine XS.iinc X10.here hx rfl (hb hby d4_1_53) rfl (l' := Lo3) rfl ?_
    show Steps p.tables e below (T10.setTop (mkF m 56 Lo3 [])) _
    refine XS.goto X10.here hx rfl (pc0 := 56) (pc' := 2) rfl (hb hby d4_1_56) (by decide) (by decide) ?_
    show Steps p.tables e below (T10.setTop (mkF m 2 Lo3 [])) _
    refine XS.iloadN X10.here hx rfl (hb hby d4_1_2) rfl ?_
    show Steps p.tables e below (T10.setTop (mkF m 3 Lo3 [(.int (1 : Int32))])) _
    refine XS.aloadN X10.here hx rfl (hb hby d4_1_3) rfl rfl ?_
    show Steps p.tables e below (T10.setTop (mkF m 4 Lo3 [(.ref a1), (.int (1 : Int32))])) _
    refine st11 _ ?_
    show Steps p.tables e below (T11.setTop (mkF m 7 Lo3 [(.int (3 : Int32)), (.int (1 : Int32))])) _
    refine XS.icmpNo X11.here hx rfl (hb hby d4_1_7) rfl (by first | rfl | decide) ?_
    show Steps p.tables e below (T11.setTop (mkF m 10 Lo3 [])) _
    refine XS.aloadN X11.here hx rfl (hb hby d4_1_10) rfl rfl ?_
    show Steps p.tables e below (T11.setTop (mkF m 11 Lo3 [(.ref a1)])) _
    refine st12 _ ?_
    show Steps p.tables e below (T12.setTop (mkF m 14 Lo3 [(.ref bb)])) _
    refine XS.iloadN X12.here hx rfl (hb hby d4_1_14) rfl ?_
    show Steps p.tables e below (T12.setTop (mkF m 15 Lo3 [(.int (1 : Int32)), (.ref bb)])) _
    refine XS.aloadN X12.here hx rfl (hb hby d4_1_15) rfl rfl ?_
    show Steps p.tables e below (T12.setTop (mkF m 16 Lo3 [(.ref a1), (.int (1 : Int32)), (.ref bb)])) _
    refine st13 _ ?_
    show Steps p.tables e below (T13.setTop (mkF m 19 Lo3 [(.int (3 : Int32)), (.int (1 : Int32)), (.ref bb)])) _
    refine XS.imul X13.here hx rfl (hb hby d4_1_19) rfl ?_
    show Steps p.tables e below (T13.setTop (mkF m 20 Lo3 [(.int (3 : Int32)), (.ref bb)])) _
    refine XS.iloadN X13.here hx rfl (hb hby d4_1_20) rfl ?_
    show Steps p.tables e below (T13.setTop (mkF m 21 Lo3 [(.int (1 : Int32)), (.int (3 : Int32)), (.ref bb)])) _
    refine XS.iadd X13.here hx rfl (hb hby d4_1_21) rfl ?_
    show Steps p.tables e below (T13.setTop (mkF m 22 Lo3 [(.int (4 : Int32)), (.ref bb)])) _
    refine XS.aloadN X13.here hx rfl (hb hby d4_1_22) rfl rfl ?_
    show Steps p.tables e below (T13.setTop (mkF m 23 Lo3 [(.ref a1), (.int (4 : Int32)), (.ref bb)])) _
    refine st14 _ ?_
    show Steps p.tables e below (T14.setTop (mkF m 26 Lo3 [(.ref bb), (.int (4 : Int32)), (.ref bb)])) _
    refine XS.iloadN X14.here hx rfl (hb hby d4_1_26) rfl ?_
    show Steps p.tables e below (T14.setTop (mkF m 27 Lo3 [(.int (1 : Int32)), (.ref bb), (.int (4 : Int32)), (.ref bb)])) _
    refine own_ldJ X14 hx hZ e14 A10 (j := (1 : Int32)) (by decide) (w := x0) rfl (g := (mkF m 27 Lo3 [(.int (1 : Int32)), (.ref bb), (.int (4 : Int32)), (.ref bb)])) rfl rfl (hb hby d4_1_27) _ ?_
    show Steps p.tables e below (T14.setTop (mkF m 28 Lo3 [(.long x0), (.int (4 : Int32)), (.ref bb)])) _
    refine st15 _ ?_
    show Steps p.tables e below (T15.setTop (mkF m 29 Lo3 [])) _
    refine XS.aloadN X15.here hx rfl (hb hby d4_1_29) rfl rfl ?_
    show Steps p.tables e below (T15.setTop (mkF m 30 Lo3 [(.ref a1)])) _
    refine st16 _ ?_
    show Steps p.tables e below (T16.setTop (mkF m 33 Lo3 [(.ref bb)])) _
    refine XS.iloadN X16.here hx rfl (hb hby d4_1_33) rfl ?_
    show Steps p.tables e below (T16.setTop (mkF m 34 Lo3 [(.int (1 : Int32)), (.ref bb)])) _
    refine XS.aloadN X16.here hx rfl (hb hby d4_1_34) rfl rfl ?_
    show Steps p.tables e below (T16.setTop (mkF m 35 Lo3 [(.ref a1), (.int (1 : Int32)), (.ref bb)])) _
    refine st17 _ ?_
    show Steps p.tables e below (T17.setTop (mkF m 38 Lo3 [(.int (3 : Int32)), (.int (1 : Int32)), (.ref bb)])) _
    refine XS.imul X17.here hx rfl (hb hby d4_1_38) rfl ?_
    show Steps p.tables e below (T17.setTop (mkF m 39 Lo3 [(.int (3 : Int32)), (.ref bb)])) _
    refine XS.iloadN X17.here hx rfl (hb hby d4_1_39) rfl ?_
    show Steps p.tables e below (T17.setTop (mkF m 40 Lo3 [(.int (1 : Int32)), (.int (3 : Int32)), (.ref bb)])) _
    refine XS.iadd X17.here hx rfl (hb hby d4_1_40) rfl ?_
    show Steps p.tables e below (T17.setTop (mkF m 41 Lo3 [(.int (4 : Int32)), (.ref bb)])) _
    refine XS.aloadN X17.here hx rfl (hb hby d4_1_41) rfl rfl ?_
    show Steps p.tables e below (T17.setTop (mkF m 42 Lo3 [(.ref a1), (.int (4 : Int32)), (.ref bb)])) _
    refine st18 _ ?_
    show Steps p.tables e below (T18.setTop (mkF m 45 Lo3 [(.ref bb), (.int (4 : Int32)), (.ref bb)])) _
    refine XS.iloadN X18.here hx rfl (hb hby d4_1_45) rfl ?_
    show Steps p.tables e below (T18.setTop (mkF m 46 Lo3 [(.int (1 : Int32)), (.ref bb), (.int (4 : Int32)), (.ref bb)])) _
    refine XS.aloadN X18.here hx rfl (hb hby d4_1_46) rfl rfl ?_
    show Steps p.tables e below (T18.setTop (mkF m 47 Lo3 [(.ref a1), (.int (1 : Int32)), (.ref bb), (.int (4 : Int32)), (.ref bb)])) _
    refine st19 _ ?_
    show Steps p.tables e below (T19.setTop (mkF m 50 Lo3 [(.int (3 : Int32)), (.int (1 : Int32)), (.ref bb), (.int (4 : Int32)), (.ref bb)])) _
    refine XS.imul X19.here hx rfl (hb hby d4_1_50) rfl ?_
    show Steps p.tables e below (T19.setTop (mkF m 51 Lo3 [(.int (3 : Int32)), (.ref bb), (.int (4 : Int32)), (.ref bb)])) _
    refine own_ldJ X19 hx hZ e19 A15 (j := (3 : Int32)) (by decide) (w := x0) rfl (g := (mkF m 51 Lo3 [(.int (3 : Int32)), (.ref bb), (.int (4 : Int32)), (.ref bb)])) rfl rfl (hb hby d4_1_51) _ ?_
    show Steps p.tables e below (T19.setTop (mkF m 52 Lo3 [(.long x0), (.int (4 : Int32)), (.ref bb)])) _
    refine st20 _ ?_
    show Steps p.tables e below (T20.setTop (mkF m 53 Lo3 [])) _
    refine XS.iinc X20.here hx rfl (hb hby d4_1_53) rfl (l' := Lo4) rfl ?_
    show Steps p.tables e below (T20.setTop (mkF m 56 Lo4 [])) _
    refine XS.goto X20.here hx rfl (pc0 := 56) (pc' := 2) rfl (hb hby d4_1_56) (by decide) (by decide) ?_
    show Steps p.tables e below (T20.setTop (mkF m 2 Lo4 [])) _
    refine XS.iloadN X20.here hx rfl (hb hby d4_1_2) rfl ?_
    show Steps p.tables e below (T20.setTop (mkF m 3 Lo4 [(.int (2 : Int32))])) _
    refine XS.aloadN X20.here hx rfl (hb hby d4_1_3) rfl rfl ?_
    show Steps p.tables e below (T20.setTop (mkF m 4 Lo4 [(.ref a1), (.int (2 : Int32))])) _
    refine st21 _ ?_
    show Steps p.tables e below (T21.setTop (mkF m 7 Lo4 [(.int (3 : Int32)), (.int (2 : Int32))])) _
    refine XS.icmpNo X21.here hx rfl (hb hby d4_1_7) rfl (by first | rfl | decide) ?_
    show Steps p.tables e below (T21.setTop (mkF m 10 Lo4 [])) _
    refine XS.aloadN X21.here hx rfl (hb hby d4_1_10) rfl rfl ?_
    show Steps p.tables e below (T21.setTop (mkF m 11 Lo4 [(.ref a1)])) _
    refine st22 _ ?_
    show Steps p.tables e below (T22.setTop (mkF m 14 Lo4 [(.ref bb)])) _
    refine XS.iloadN X22.here hx rfl (hb hby d4_1_14) rfl ?_
    show Steps p.tables e below (T22.setTop (mkF m 15 Lo4 [(.int (1 : Int32)), (.ref bb)])) _
    refine XS.aloadN X22.here hx rfl (hb hby d4_1_15) rfl rfl ?_
    show Steps p.tables e below (T22.setTop (mkF m 16 Lo4 [(.ref a1), (.int (1 : Int32)), (.ref bb)])) _
    refine st23 _ ?_
    show Steps p.tables e below (T23.setTop (mkF m 19 Lo4 [(.int (3 : Int32)), (.int (1 : Int32)), (.ref bb)])) _
    refine XS.imul X23.here hx rfl (hb hby d4_1_19) rfl ?_
    show Steps p.tables e below (T23.setTop (mkF m 20 Lo4 [(.int (3 : Int32)), (.ref bb)])) _
    refine XS.iloadN X23.here hx rfl (hb hby d4_1_20) rfl ?_
    show Steps p.tables e below (T23.setTop (mkF m 21 Lo4 [(.int (2 : Int32)), (.int (3 : Int32)), (.ref bb)])) _
    refine XS.iadd X23.here hx rfl (hb hby d4_1_21) rfl ?_
    show Steps p.tables e below (T23.setTop (mkF m 22 Lo4 [(.int (5 : Int32)), (.ref bb)])) _
    refine XS.aloadN X23.here hx rfl (hb hby d4_1_22) rfl rfl ?_
    show Steps p.tables e below (T23.setTop (mkF m 23 Lo4 [(.ref a1), (.int (5 : Int32)), (.ref bb)])) _
    refine st24 _ ?_
    show Steps p.tables e below (T24.setTop (mkF m 26 Lo4 [(.ref bb), (.int (5 : Int32)), (.ref bb)])) _
    refine XS.iloadN X24.here hx rfl (hb hby d4_1_26) rfl ?_
    show Steps p.tables e below (T24.setTop (mkF m 27 Lo4 [(.int (2 : Int32)), (.ref bb), (.int (5 : Int32)), (.ref bb)])) _
    refine own_ldJ X24 hx hZ e24 A20 (j := (2 : Int32)) (by decide) (w := x2) rfl (g := (mkF m 27 Lo4 [(.int (2 : Int32)), (.ref bb), (.int (5 : Int32)), (.ref bb)])) rfl rfl (hb hby d4_1_27) _ ?_
    show Steps p.tables e below (T24.setTop (mkF m 28 Lo4 [(.long x2), (.int (5 : Int32)), (.ref bb)])) _
    refine st25 _ ?_
    show Steps p.tables e below (T25.setTop (mkF m 29 Lo4 [])) _
    refine XS.aloadN X25.here hx rfl (hb hby d4_1_29) rfl rfl ?_
    show Steps p.tables e below (T25.setTop (mkF m 30 Lo4 [(.ref a1)])) _
    refine st26 _ ?_
    show Steps p.tables e below (T26.setTop (mkF m 33 Lo4 [(.ref bb)])) _
    refine XS.iloadN X26.here hx rfl (hb hby d4_1_33) rfl ?_
    show Steps p.tables e below (T26.setTop (mkF m 34 Lo4 [(.int (2 : Int32)), (.ref bb)])) _
    refine XS.aloadN X26.here hx rfl (hb hby d4_1_34) rfl rfl ?_
    show Steps p.tables e below (T26.setTop (mkF m 35 Lo4 [(.ref a1), (.int (2 : Int32)), (.ref bb)])) _
    refine st27 _ ?_
    show Steps p.tables e below (T27.setTop (mkF m 38 Lo4 [(.int (3 : Int32)), (.int (2 : Int32)), (.ref bb)])) _
    refine XS.imul X27.here hx rfl (hb hby d4_1_38) rfl ?_
    show Steps p.tables e below (T27.setTop (mkF m 39 Lo4 [(.int (6 : Int32)), (.ref bb)])) _
    refine XS.iloadN X27.here hx rfl (hb hby d4_1_39) rfl ?_
    show Steps p.tables e below (T27.setTop (mkF m 40 Lo4 [(.int (1 : Int32)), (.int (6 : Int32)), (.ref bb)])) _
    refine XS.iadd X27.here hx rfl (hb hby d4_1_40) rfl ?_
    show Steps p.tables e below (T27.setTop (mkF m 41 Lo4 [(.int (7 : Int32)), (.ref bb)])) _
    refine XS.aloadN X27.here hx rfl (hb hby d4_1_41) rfl rfl ?_
    show Steps p.tables e below (T27.setTop (mkF m 42 Lo4 [(.ref a1), (.int (7 : Int32)), (.ref bb)])) _
    refine st28 _ ?_
    show Steps p.tables e below (T28.setTop (mkF m 45 Lo4 [(.ref bb), (.int (7 : Int32)), (.ref bb)])) _
    refine XS.iloadN X28.here hx rfl (hb hby d4_1_45) rfl ?_
    show Steps p.tables e below (T28.setTop (mkF m 46 Lo4 [(.int (2 : Int32)), (.ref bb), (.int (7 : Int32)), (.ref bb)])) _
    refine XS.aloadN X28.here hx rfl (hb hby d4_1_46) rfl rfl ?_
    show Steps p.tables e below (T28.setTop (mkF m 47 Lo4 [(.ref a1), (.int (2 : Int32)), (.ref bb), (.int (7 : Int32)), (.ref bb)])) _
    refine st29 _ ?_
    show Steps p.tables e below (T29.setTop (mkF m 50 Lo4 [(.int (3 : Int32)), (.int (2 : Int32)), (.ref bb), (.int (7 : Int32)), (.ref bb)])) _
    refine XS.imul X29.here hx rfl (hb hby d4_1_50) rfl ?_
    show Steps p.tables e below (T29.setTop (mkF m 51 Lo4 [(.int (6 : Int32)), (.ref bb), (.int (7 : Int32)), (.ref bb)])) _
    refine own_ldJ X29 hx hZ e29 A25 (j := (6 : Int32)) (by decide) (w := x6) rfl (g := (mkF m 51 Lo4 [(.int (6 : Int32)), (.ref bb), (.int (7 : Int32)), (.ref bb)])) rfl rfl (hb hby d4_1_51) _ ?_
    show Steps p.tables e below (T29.setTop (mkF m 52 Lo4 [(.long x6), (.int (7 : Int32)), (.ref bb)])) _
    refine st30 _ ?_
    show Steps p.tables e below (T30.setTop (mkF m 53 Lo4 [])) _
    refine XS.iinc X30.here hx rfl (hb hby d4_1_53) rfl (l' := Lo5) rfl ?_
    show Steps p.tables e below (T30.setTop (mkF m 56 Lo5 [])) _
    refine XS.goto X30.here hx rfl (pc0 := 56) (pc' := 2) rfl (hb hby d4_1_56) (by decide) (by decide) ?_
    show Steps p.tables e below (T30.setTop (mkF m 2 Lo5 [])) _
    refine XS.iloadN X30.here hx rfl (hb hby d4_1_2) rfl ?_
    show Steps p.tables e below (T30.setTop (mkF m 3 Lo5 [(.int (3 : Int32))])) _
    refine XS.aloadN X30.here hx rfl (hb hby d4_1_3) rfl rfl ?_
    show Steps p.tables e below (T30.setTop (mkF m 4 Lo5 [(.ref a1), (.int (3 : Int32))])) _
    refine st31 _ ?_
    show Steps p.tables e below (T31.setTop (mkF m 7 Lo5 [(.int (3 : Int32)), (.int (3 : Int32))])) _
    refine XS.icmpYes X31.here hx rfl (pc0 := 7) (pc' := 59) rfl (hb hby d4_1_7) rfl (by first | rfl | decide) (by decide) (by decide) ?_
    show Steps p.tables e below (T31.setTop (mkF m 59 Lo5 [])) _
    refine XS.aloadN X31.here hx rfl (hb hby d4_1_59) rfl rfl ?_
    show Steps p.tables e below (T31.setTop (mkF m 60 Lo5 [(.ref a1)])) _
    refine st32 _ ?_
    show Steps p.tables e below (T32.setTop (mkF m 63 Lo5 [(.ref bb)])) _
    refine XS.iloadN X32.here hx rfl (hb hby d4_1_63) rfl ?_
    show Steps p.tables e below (T32.setTop (mkF m 64 Lo5 [(.int (1 : Int32)), (.ref bb)])) _
    refine XS.aloadN X32.here hx rfl (hb hby d4_1_64) rfl rfl ?_
    show Steps p.tables e below (T32.setTop (mkF m 65 Lo5 [(.ref a1), (.int (1 : Int32)), (.ref bb)])) _
    refine st33 _ ?_
    show Steps p.tables e below (T33.setTop (mkF m 68 Lo5 [(.int (3 : Int32)), (.int (1 : Int32)), (.ref bb)])) _
    refine XS.imul X33.here hx rfl (hb hby d4_1_68) rfl ?_
    show Steps p.tables e below (T33.setTop (mkF m 69 Lo5 [(.int (3 : Int32)), (.ref bb)])) _
    refine XS.iloadN X33.here hx rfl (hb hby d4_1_69) rfl ?_
    show Steps p.tables e below (T33.setTop (mkF m 70 Lo5 [(.int (1 : Int32)), (.int (3 : Int32)), (.ref bb)])) _
    refine XS.iadd X33.here hx rfl (hb hby d4_1_70) rfl ?_
    show Steps p.tables e below (T33.setTop (mkF m 71 Lo5 [(.int (4 : Int32)), (.ref bb)])) _
    refine XS.lconst X33.here hx rfl (hb hby d4_1_71) ?_
    show Steps p.tables e below (T33.setTop (mkF m 72 Lo5 [(.long (0 : Int64)), (.int (4 : Int32)), (.ref bb)])) _
    refine st34 _ ?_
    show Steps p.tables e below (T34.setTop (mkF m 73 Lo5 [])) _
    exact X34.returnOut hx Bd.returns (hb hby d4_1_73) hr
  · show Q4_1 Z a1 bb kk x0 x1 x2 x3 x4 x5 x6 x7 x8 h0 n0 _ T34.heap _
    rw [e34]
    exact ⟨(x0), (x0), (x2), (x0), ((0 : Int64)), (x2), (x6), (x6), (x8), rfl, N34, K34, A34, rfl, rfl, rfl, rfl, rfl, rfl, rfl, rfl, rfl⟩
theorem d4_2_0 : decode prog_347_method_10_code 0 = .ok (.iconst 0, 1) := by decide +kernel
theorem d4_2_1 : decode prog_347_method_10_code 1 = .ok (.istore_n 2, 1) := by decide +kernel
theorem d4_2_2 : decode prog_347_method_10_code 2 = .ok (.iload_n 2, 1) := by decide +kernel
theorem d4_2_3 : decode prog_347_method_10_code 3 = .ok (.aload_n 0, 1) := by decide +kernel
theorem d4_2_4 : decode prog_347_method_10_code 4 = .ok (.getfield 9, 3) := by decide +kernel
theorem d4_2_7 : decode prog_347_method_10_code 7 = .ok (.if_icmp .ge 52, 3) := by decide +kernel
theorem d4_2_10 : decode prog_347_method_10_code 10 = .ok (.aload_n 0, 1) := by decide +kernel
theorem d4_2_11 : decode prog_347_method_10_code 11 = .ok (.getfield 15, 3) := by decide +kernel
theorem d4_2_14 : decode prog_347_method_10_code 14 = .ok (.iload_n 1, 1) := by decide +kernel
theorem d4_2_15 : decode prog_347_method_10_code 15 = .ok (.aload_n 0, 1) := by decide +kernel
theorem d4_2_16 : decode prog_347_method_10_code 16 = .ok (.getfield 9, 3) := by decide +kernel
theorem d4_2_19 : decode prog_347_method_10_code 19 = .ok (.imul, 1) := by decide +kernel
theorem d4_2_20 : decode prog_347_method_10_code 20 = .ok (.iload_n 2, 1) := by decide +kernel
theorem d4_2_21 : decode prog_347_method_10_code 21 = .ok (.iadd, 1) := by decide +kernel
theorem d4_2_22 : decode prog_347_method_10_code 22 = .ok (.aload_n 0, 1) := by decide +kernel
theorem d4_2_23 : decode prog_347_method_10_code 23 = .ok (.getfield 15, 3) := by decide +kernel
theorem d4_2_26 : decode prog_347_method_10_code 26 = .ok (.iload_n 2, 1) := by decide +kernel
theorem d4_2_27 : decode prog_347_method_10_code 27 = .ok (.laload, 1) := by decide +kernel
theorem d4_2_28 : decode prog_347_method_10_code 28 = .ok (.lastore, 1) := by decide +kernel
theorem d4_2_29 : decode prog_347_method_10_code 29 = .ok (.aload_n 0, 1) := by decide +kernel
theorem d4_2_30 : decode prog_347_method_10_code 30 = .ok (.getfield 15, 3) := by decide +kernel
theorem d4_2_33 : decode prog_347_method_10_code 33 = .ok (.iload_n 2, 1) := by decide +kernel
theorem d4_2_34 : decode prog_347_method_10_code 34 = .ok (.aload_n 0, 1) := by decide +kernel
theorem d4_2_35 : decode prog_347_method_10_code 35 = .ok (.getfield 9, 3) := by decide +kernel
theorem d4_2_38 : decode prog_347_method_10_code 38 = .ok (.imul, 1) := by decide +kernel
theorem d4_2_39 : decode prog_347_method_10_code 39 = .ok (.iload_n 1, 1) := by decide +kernel
theorem d4_2_40 : decode prog_347_method_10_code 40 = .ok (.iadd, 1) := by decide +kernel
theorem d4_2_41 : decode prog_347_method_10_code 41 = .ok (.aload_n 0, 1) := by decide +kernel
theorem d4_2_42 : decode prog_347_method_10_code 42 = .ok (.getfield 15, 3) := by decide +kernel
theorem d4_2_45 : decode prog_347_method_10_code 45 = .ok (.iload_n 2, 1) := by decide +kernel
theorem d4_2_46 : decode prog_347_method_10_code 46 = .ok (.aload_n 0, 1) := by decide +kernel
theorem d4_2_47 : decode prog_347_method_10_code 47 = .ok (.getfield 9, 3) := by decide +kernel
theorem d4_2_50 : decode prog_347_method_10_code 50 = .ok (.imul, 1) := by decide +kernel
theorem d4_2_51 : decode prog_347_method_10_code 51 = .ok (.laload, 1) := by decide +kernel
theorem d4_2_52 : decode prog_347_method_10_code 52 = .ok (.lastore, 1) := by decide +kernel
theorem d4_2_53 : decode prog_347_method_10_code 53 = .ok (.iinc 2 1, 3) := by decide +kernel
theorem d4_2_56 : decode prog_347_method_10_code 56 = .ok (.goto (-54), 3) := by decide +kernel
theorem d4_2_59 : decode prog_347_method_10_code 59 = .ok (.aload_n 0, 1) := by decide +kernel
theorem d4_2_60 : decode prog_347_method_10_code 60 = .ok (.getfield 15, 3) := by decide +kernel
theorem d4_2_63 : decode prog_347_method_10_code 63 = .ok (.iload_n 1, 1) := by decide +kernel
theorem d4_2_64 : decode prog_347_method_10_code 64 = .ok (.aload_n 0, 1) := by decide +kernel
theorem d4_2_65 : decode prog_347_method_10_code 65 = .ok (.getfield 9, 3) := by decide +kernel
theorem d4_2_68 : decode prog_347_method_10_code 68 = .ok (.imul, 1) := by decide +kernel
theorem d4_2_69 : decode prog_347_method_10_code 69 = .ok (.iload_n 1, 1) := by decide +kernel
theorem d4_2_70 : decode prog_347_method_10_code 70 = .ok (.iadd, 1) := by decide +kernel
theorem d4_2_71 : decode prog_347_method_10_code 71 = .ok (.lconst 0, 1) := by decide +kernel
theorem d4_2_72 : decode prog_347_method_10_code 72 = .ok (.lastore, 1) := by decide +kernel
theorem d4_2_73 : decode prog_347_method_10_code 73 = .ok (.return_, 1) := by decide +kernel
theorem pn_4_2 : plainName "com/example/chronoscope/chronoscope/sim/Zone" = true := by first | (simp [plainName, overriddenIn]; done) | decide +kernel
theorem ef_4_2 (m : MethodId) (x0 : Addr) (x1 : Int32) : entryFrame m #[(.ref x0), (.int x1)] 3 = mkF m 0 #[.val (.ref x0), .val (.int x1), .unset] [] := by first | (simp [entryFrame, mkF, argsToLocals, Value.category]; done) | rfl
def Q4_2 (Z : State) (a1 : Addr) (bb : Addr) (kk : ClassId) (x0 : Int64) (x1 : Int64) (x2 : Int64) (x3 : Int64) (x4 : Int64) (x5 : Int64) (x6 : Int64) (x7 : Int64) (x8 : Int64) (h0 : Heap) (n0 : Nat) (v : Option Value) (h : Heap) (L : List Loc) : Prop := ∃ (y0 : Int64) (y1 : Int64) (y2 : Int64) (y3 : Int64) (y4 : Int64) (y5 : Int64) (y6 : Int64) (y7 : Int64) (y8 : Int64), v = none ∧ Fr n0 L ∧ Keep h0 h [bb] ∧ (Arv Z h bb kk .long (9 : Int32) [(.long y0), (.long y1), (.long y2), (.long y3), (.long y4), (.long y5), (.long y6), (.long y7), (.long y8)] (.long (0 : Int64))) ∧ (y0 = x0) ∧ (y1 = (if (2 : Int32) = (1 : Int32) then x0 else x1)) ∧ (y2 = (if (2 : Int32) = (1 : Int32) then x2 else x0)) ∧ (y3 = (if (2 : Int32) = (1 : Int32) then x0 else x3)) ∧ (y4 = (if (2 : Int32) = (1 : Int32) then (0 : Int64) else x4)) ∧ (y5 = (if (2 : Int32) = (1 : Int32) then x2 else x3)) ∧ (y6 = (if (2 : Int32) = (1 : Int32) then x6 else x0)) ∧ (y7 = (if (2 : Int32) = (1 : Int32) then x6 else x1)) ∧ (y8 = (if (2 : Int32) = (1 : Int32) then x8 else (0 : Int64)))
set_option maxRecDepth 65536 in
set_option maxHeartbeats 40000000 in
theorem rm4_2 (l : Launch) (Z : State) (a0 : Array Value) (hw : ∀ d ∈ tables_1, d.before a0 Z = true) (ws : List Jvm.Cond) (a1 : Addr) (bb : Addr) (kk : ClassId) (x0 : Int64) (x1 : Int64) (x2 : Int64) (x3 : Int64) (x4 : Int64) (x5 : Int64) (x6 : Int64) (x7 : Int64) (x8 : Int64) (h0 : Heap) (n0 : Nat) (Z0 : n0 ≤ h0.size) (P0 : Exa Z h0 a1 "com/example/chronoscope/chronoscope/sim/Zone") (P1 : Fld Z h0 a1 "com/example/chronoscope/chronoscope/sim/Zone" "size" "I" (.int (3 : Int32))) (P2 : Fld Z h0 a1 "com/example/chronoscope/chronoscope/sim/Zone" "bounds" "[J" (.ref bb)) (P3 : Arv Z h0 bb kk .long (9 : Int32) [(.long x0), (.long x1), (.long x2), (.long x3), (.long x4), (.long x5), (.long x6), (.long x7), (.long x8)] (.long (0 : Int64))) (g_bb : n0 ≤ bb) (ne_a1_bb : a1 ≠ bb) :
    MetFree l (⟨"com/example/chronoscope/chronoscope/sim/Zone", "reset", "(I)V"⟩ : MethodName) (head1 (Jvm.Cond.code (⟨"com/example/chronoscope/chronoscope/sim/Zone", "reset", "(I)V"⟩ : MethodName) prog_347_method_10_code 3 none :: ws) ({ frames := 0, cells := 0, slots := 0, locals := 0 } : Room)) (fun a U => a = #[(.ref a1), (.int (2 : Int32))] ∧ Z.Warmed39 U.vm ∧ U.heap = h0) (fun _ _ _ _ _ => True) (fun _ U o U' => ∃ v L, o = .returned v ∧ Q4_2 Z a1 bb kk x0 x1 x2 x3 x4 x5 x6 x7 x8 h0 n0 v U'.heap L ∧ FrameEnd U o U' L ({ frames := 0, cells := 0, slots := 0, locals := 0 } : Room).cells ({ frames := 0, cells := 0, slots := 0, locals := 0 } : Room).slots) := by
  refine MetFree.of_bodySF (plainFor_of_name pn_4_2) hisR ?_
  intro p e s m args below meth c s₁ Bd hml0 hP hK
  obtain ⟨rfl, hZ, hh⟩ := hP
  have w12_ := hw _ (List.mem_of_getElem? (i := 12) rfl)
  have w14_ := hw _ (List.mem_of_getElem? (i := 14) rfl)
  have hx := Bd.exec
  have hby := Bd.bytes
  have hml : c.maxLocals = 3 := hml0
  have hown : s.vm.findClass "com/example/chronoscope/chronoscope/sim/Zone" = some m.cls := findClass_of_methodNamed Bd.named
  have hnm := (name_of_methodNamed Bd.named Bd.method).1
  have X0 : Stand p l e ({ frames := 0, cells := 0, slots := 0, locals := 0 } : Room) s m #[(.ref a1), (.int (2 : Int32))] below meth c s₁ [] 0 0 := Stand.of_body Bd
  have e0 : s₁.heap = h0 := by rw [← hh, Bd.state]; rfl
  have N0 := Fr.nil n0
  have pre0 : ∀ t, Steps p.tables e below (s₁.setTop (mkF m 0 #[.val (.ref a1), .val (.int (2 : Int32)), .unset] [])) t → Steps p.tables e below (s₁.setTop (entryFrame m #[(.ref a1), (.int (2 : Int32))] 3)) t := fun t k => castTop (ef_4_2 m a1 (2 : Int32)) k
  let Lo1 : Array Slot := #[.val (.ref a1), .val (.int (2 : Int32)), .unset]
  let Lo2 : Array Slot := #[.val (.ref a1), .val (.int (2 : Int32)), .val (.int (0 : Int32))]
  obtain ⟨T1, X1, e1, st1⟩ := getF X0 hx hZ hown (host := "") (Or.inl w12_) Via.refl e0 P1 (g := (mkF m 4 Lo2 [(.ref a1), (.int (0 : Int32))])) rfl rfl (hb hby d4_2_4)
  obtain ⟨T2, X2, e2, st2⟩ := getF X1 hx hZ hown (host := "") (Or.inl w14_) Via.refl e1 P2 (g := (mkF m 11 Lo2 [(.ref a1)])) rfl rfl (hb hby d4_2_11)
  obtain ⟨T3, X3, e3, st3⟩ := getF X2 hx hZ hown (host := "") (Or.inl w12_) Via.refl e2 P1 (g := (mkF m 16 Lo2 [(.ref a1), (.int (2 : Int32)), (.ref bb)])) rfl rfl (hb hby d4_2_16)
  obtain ⟨T4, X4, e4, st4⟩ := getF X3 hx hZ hown (host := "") (Or.inl w14_) Via.refl e3 P2 (g := (mkF m 23 Lo2 [(.ref a1), (.int (6 : Int32)), (.ref bb)])) rfl rfl (hb hby d4_2_23)
  obtain ⟨T5, h5, X5, e5, W5, V5, st5⟩ := own_stJ X4 hx hZ e4 P3 (j := (6 : Int32)) (x := x0) (by decide) (i := 6) (by decide) (by show 6 < 9; decide) (g := (mkF m 28 Lo2 [(.long x0), (.int (6 : Int32)), (.ref bb)])) rfl rfl (hb hby d4_2_28)
  have A5 : Arv Z h5 bb kk .long (9 : Int32) [(.long x0), (.long x1), (.long x2), (.long x3), (.long x4), (.long x5), (.long x0), (.long x7), (.long x8)] (.long (0 : Int64)) := V5
  have F5_size_a1 := P1.other W5 (Or.inl ne_a1_bb)
  have F5_bounds_a1 := P2.other W5 (Or.inl ne_a1_bb)
  have E5_a1 := P0.wr W5
  have K5 : Keep h0 h5 [bb] := (Keep.refl h0 [bb]).wr W5 (Or.inl (List.mem_of_getElem? (i := 0) rfl))
  have Z5 : n0 ≤ h5.size := Nat.le_trans Z0 (Keep.of_wr W5).1
  have N5 := Fr.snoc X5 N0 g_bb
  obtain ⟨T6, X6, e6, st6⟩ := getF X5 hx hZ hown (host := "") (Or.inl w14_) Via.refl e5 F5_bounds_a1 (g := (mkF m 30 Lo2 [(.ref a1)])) rfl rfl (hb hby d4_2_30)
  obtain ⟨T7, X7, e7, st7⟩ := getF X6 hx hZ hown (host := "") (Or.inl w12_) Via.refl e6 F5_size_a1 (g := (mkF m 35 Lo2 [(.ref a1), (.int (0 : Int32)), (.ref bb)])) rfl rfl (hb hby d4_2_35)
  obtain ⟨T8, X8, e8, st8⟩ := getF X7 hx hZ hown (host := "") (Or.inl w14_) Via.refl e7 F5_bounds_a1 (g := (mkF m 42 Lo2 [(.ref a1), (.int (2 : Int32)), (.ref bb)])) rfl rfl (hb hby d4_2_42)
  obtain ⟨T9, X9, e9, st9⟩ := getF X8 hx hZ hown (host := "") (Or.inl w12_) Via.refl e8 F5_size_a1 (g := (mkF m 47 Lo2 [(.ref a1), (.int (0 : Int32)), (.ref bb), (.int (2 : Int32)), (.ref bb)])) rfl rfl (hb hby d4_2_47)
  obtain ⟨T10, h10, X10, e10, W10, V10, st10⟩ := own_stJ X9 hx hZ e9 A5 (j := (2 : Int32)) (x := x0) (by decide) (i := 2) (by decide) (by show 2 < 9; decide) (g := (mkF m 52 Lo2 [(.long x0), (.int (2 : Int32)), (.ref bb)])) rfl rfl (hb hby d4_2_52)
  have A10 : Arv Z h10 bb kk .long (9 : Int32) [(.long x0), (.long x1), (.long x0), (.long x3), (.long x4), (.long x5), (.long x0), (.long x7), (.long x8)] (.long (0 : Int64)) := V10
  have F10_size_a1 := F5_size_a1.other W10 (Or.inl ne_a1_bb)
  have F10_bounds_a1 := F5_bounds_a1.other W10 (Or.inl ne_a1_bb)
  have E10_a1 := E5_a1.wr W10
  have K10 : Keep h0 h10 [bb] := K5.wr W10 (Or.inl (List.mem_of_getElem? (i := 0) rfl))
  have Z10 : n0 ≤ h10.size := Nat.le_trans Z5 (Keep.of_wr W10).1
  have N10 := Fr.snoc X10 N5 g_bb
  let Lo3 : Array Slot := #[.val (.ref a1), .val (.int (2 : Int32)), .val (.int (1 : Int32))]
  obtain ⟨T11, X11, e11, st11⟩ := getF X10 hx hZ hown (host := "") (Or.inl w12_) Via.refl e10 F10_size_a1 (g := (mkF m 4 Lo3 [(.ref a1), (.int (1 : Int32))])) rfl rfl (hb hby d4_2_4)
  obtain ⟨T12, X12, e12, st12⟩ := getF X11 hx hZ hown (host := "") (Or.inl w14_) Via.refl e11 F10_bounds_a1 (g := (mkF m 11 Lo3 [(.ref a1)])) rfl rfl (hb hby d4_2_11)
  obtain ⟨T13, X13, e13, st13⟩ := getF X12 hx hZ hown (host := "") (Or.inl w12_) Via.refl e12 F10_size_a1 (g := (mkF m 16 Lo3 [(.ref a1), (.int (2 : Int32)), (.ref bb)])) rfl rfl (hb hby d4_2_16)
  obtain ⟨T14, X14, e14, st14⟩ := getF X13 hx hZ hown (host := "") (Or.inl w14_) Via.refl e13 F10_bounds_a1 (g := (mkF m 23 Lo3 [(.ref a1), (.int (7 : Int32)), (.ref bb)])) rfl rfl (hb hby d4_2_23)
  obtain ⟨T15, h15, X15, e15, W15, V15, st15⟩ := own_stJ X14 hx hZ e14 A10 (j := (7 : Int32)) (x := x1) (by decide) (i := 7) (by decide) (by show 7 < 9; decide) (g := (mkF m 28 Lo3 [(.long x1), (.int (7 : Int32)), (.ref bb)])) rfl rfl (hb hby d4_2_28)
  have A15 : Arv Z h15 bb kk .long (9 : Int32) [(.long x0), (.long x1), (.long x0), (.long x3), (.long x4), (.long x5), (.long x0), (.long x1), (.long x8)] (.long (0 : Int64)) := V15
  have F15_size_a1 := F10_size_a1.other W15 (Or.inl ne_a1_bb)
  have F15_bounds_a1 := F10_bounds_a1.other W15 (Or.inl ne_a1_bb)
  have E15_a1 := E10_a1.wr W15
  have K15 : Keep h0 h15 [bb] := K10.wr W15 (Or.inl (List.mem_of_getElem? (i := 0) rfl))
  have Z15 : n0 ≤ h15.size := Nat.le_trans Z10 (Keep.of_wr W15).1
  have N15 := Fr.snoc X15 N10 g_bb
  obtain ⟨T16, X16, e16, st16⟩ := getF X15 hx hZ hown (host := "") (Or.inl w14_) Via.refl e15 F15_bounds_a1 (g := (mkF m 30 Lo3 [(.ref a1)])) rfl rfl (hb hby d4_2_30)
  obtain ⟨T17, X17, e17, st17⟩ := getF X16 hx hZ hown (host := "") (Or.inl w12_) Via.refl e16 F15_size_a1 (g := (mkF m 35 Lo3 [(.ref a1), (.int (1 : Int32)), (.ref bb)])) rfl rfl (hb hby d4_2_35)
  obtain ⟨T18, X18, e18, st18⟩ := getF X17 hx hZ hown (host := "") (Or.inl w14_) Via.refl e17 F15_bounds_a1 (g := (mkF m 42 Lo3 [(.ref a1), (.int (5 : Int32)), (.ref bb)])) rfl rfl (hb hby d4_2_42)
  obtain ⟨T19, X19, e19, st19⟩ := getF X18 hx hZ hown (host := "") (Or.inl w12_) Via.refl e18 F15_size_a1 (g := (mkF m 47 Lo3 [(.ref a1), (.int (1 : Int32)), (.ref bb), (.int (5 : Int32)), (.ref bb)])) rfl rfl (hb hby d4_2_47)
  obtain ⟨T20, h20, X20, e20, W20, V20, st20⟩ := own_stJ X19 hx hZ e19 A15 (j := (5 : Int32)) (x := x3) (by decide) (i := 5) (by decide) (by show 5 < 9; decide) (g := (mkF m 52 Lo3 [(.long x3), (.int (5 : Int32)), (.ref bb)])) rfl rfl (hb hby d4_2_52)
  have A20 : Arv Z h20 bb kk .long (9 : Int32) [(.long x0), (.long x1), (.long x0), (.long x3), (.long x4), (.long x3), (.long x0), (.long x1), (.long x8)] (.long (0 : Int64)) := V20
  have F20_size_a1 := F15_size_a1.other W20 (Or.inl ne_a1_bb)
  have F20_bounds_a1 := F15_bounds_a1.other W20 (Or.inl ne_a1_bb)
  have E20_a1 := E15_a1.wr W20
  have K20 : Keep h0 h20 [bb] := K15.wr W20 (Or.inl (List.mem_of_getElem? (i := 0) rfl))
  have Z20 : n0 ≤ h20.size := Nat.le_trans Z15 (Keep.of_wr W20).1
  have N20 := Fr.snoc X20 N15 g_bb
  let Lo4 : Array Slot := #[.val (.ref a1), .val (.int (2 : Int32)), .val (.int (2 : Int32))]
  obtain ⟨T21, X21, e21, st21⟩ := getF X20 hx hZ hown (host := "") (Or.inl w12_) Via.refl e20 F20_size_a1 (g := (mkF m 4 Lo4 [(.ref a1), (.int (2 : Int32))])) rfl rfl (hb hby d4_2_4)
  obtain ⟨T22, X22, e22, st22⟩ := getF X21 hx hZ hown (host := "") (Or.inl w14_) Via.refl e21 F20_bounds_a1 (g := (mkF m 11 Lo4 [(.ref a1)])) rfl rfl (hb hby d4_2_11)
  obtain ⟨T23, X23, e23, st23⟩ := getF X22 hx hZ hown (host := "") (Or.inl w12_) Via.refl e22 F20_size_a1 (g := (mkF m 16 Lo4 [(.ref a1), (.int (2 : Int32)), (.ref bb)])) rfl rfl (hb hby d4_2_16)
  obtain ⟨T24, X24, e24, st24⟩ := getF X23 hx hZ hown (host := "") (Or.inl w14_) Via.refl e23 F20_bounds_a1 (g := (mkF m 23 Lo4 [(.ref a1), (.int (8 : Int32)), (.ref bb)])) rfl rfl (hb hby d4_2_23)
  obtain ⟨T25, h25, X25, e25, W25, V25, st25⟩ := own_stJ X24 hx hZ e24 A20 (j := (8 : Int32)) (x := x0) (by decide) (i := 8) (by decide) (by show 8 < 9; decide) (g := (mkF m 28 Lo4 [(.long x0), (.int (8 : Int32)), (.ref bb)])) rfl rfl (hb hby d4_2_28)
  have A25 : Arv Z h25 bb kk .long (9 : Int32) [(.long x0), (.long x1), (.long x0), (.long x3), (.long x4), (.long x3), (.long x0), (.long x1), (.long x0)] (.long (0 : Int64)) := V25
  have F25_size_a1 := F20_size_a1.other W25 (Or.inl ne_a1_bb)
  have F25_bounds_a1 := F20_bounds_a1.other W25 (Or.inl ne_a1_bb)
  have E25_a1 := E20_a1.wr W25
  have K25 : Keep h0 h25 [bb] := K20.wr W25 (Or.inl (List.mem_of_getElem? (i := 0) rfl))
  have Z25 : n0 ≤ h25.size := Nat.le_trans Z20 (Keep.of_wr W25).1
  have N25 := Fr.snoc X25 N20 g_bb
  obtain ⟨T26, X26, e26, st26⟩ := getF X25 hx hZ hown (host := "") (Or.inl w14_) Via.refl e25 F25_bounds_a1 (g := (mkF m 30 Lo4 [(.ref a1)])) rfl rfl (hb hby d4_2_30)
  obtain ⟨T27, X27, e27, st27⟩ := getF X26 hx hZ hown (host := "") (Or.inl w12_) Via.refl e26 F25_size_a1 (g := (mkF m 35 Lo4 [(.ref a1), (.int (2 : Int32)), (.ref bb)])) rfl rfl (hb hby d4_2_35)
  obtain ⟨T28, X28, e28, st28⟩ := getF X27 hx hZ hown (host := "") (Or.inl w14_) Via.refl e27 F25_bounds_a1 (g := (mkF m 42 Lo4 [(.ref a1), (.int (8 : Int32)), (.ref bb)])) rfl rfl (hb hby d4_2_42)
  obtain ⟨T29, X29, e29, st29⟩ := getF X28 hx hZ hown (host := "") (Or.inl w12_) Via.refl e28 F25_size_a1 (g := (mkF m 47 Lo4 [(.ref a1), (.int (2 : Int32)), (.ref bb), (.int (8 : Int32)), (.ref bb)])) rfl rfl (hb hby d4_2_47)
  obtain ⟨T30, h30, X30, e30, W30, V30, st30⟩ := own_stJ X29 hx hZ e29 A25 (j := (8 : Int32)) (x := x0) (by decide) (i := 8) (by decide) (by show 8 < 9; decide) (g := (mkF m 52 Lo4 [(.long x0), (.int (8 : Int32)), (.ref bb)])) rfl rfl (hb hby d4_2_52)
  have A30 : Arv Z h30 bb kk .long (9 : Int32) [(.long x0), (.long x1), (.long x0), (.long x3), (.long x4), (.long x3), (.long x0), (.long x1), (.long x0)] (.long (0 : Int64)) := V30
  have F30_size_a1 := F25_size_a1.other W30 (Or.inl ne_a1_bb)
  have F30_bounds_a1 := F25_bounds_a1.other W30 (Or.inl ne_a1_bb)
  have E30_a1 := E25_a1.wr W30
  have K30 : Keep h0 h30 [bb] := K25.wr W30 (Or.inl (List.mem_of_getElem? (i := 0) rfl))
  have Z30 : n0 ≤ h30.size := Nat.le_trans Z25 (Keep.of_wr W30).1
  have N30 := Fr.snoc X30 N25 g_bb
  let Lo5 : Array Slot := #[.val (.ref a1), .val (.int (2 : Int32)), .val (.int (3 : Int32))]
  obtain ⟨T31, X31, e31, st31⟩ := getF X30 hx hZ hown (host := "") (Or.inl w12_) Via.refl e30 F30_size_a1 (g := (mkF m 4 Lo5 [(.ref a1), (.int (3 : Int32))])) rfl rfl (hb hby d4_2_4)
  obtain ⟨T32, X32, e32, st32⟩ := getF X31 hx hZ hown (host := "") (Or.inl w14_) Via.refl e31 F30_bounds_a1 (g := (mkF m 60 Lo5 [(.ref a1)])) rfl rfl (hb hby d4_2_60)
  obtain ⟨T33, X33, e33, st33⟩ := getF X32 hx hZ hown (host := "") (Or.inl w12_) Via.refl e32 F30_size_a1 (g := (mkF m 65 Lo5 [(.ref a1), (.int (2 : Int32)), (.ref bb)])) rfl rfl (hb hby d4_2_65)
  obtain ⟨T34, h34, X34, e34, W34, V34, st34⟩ := own_stJ X33 hx hZ e33 A30 (j := (8 : Int32)) (x := (0 : Int64)) (by decide) (i := 8) (by decide) (by show 8 < 9; decide) (g := (mkF m 72 Lo5 [(.long (0 : Int64)), (.int (8 : Int32)), (.ref bb)])) rfl rfl (hb hby d4_2_72)
  have A34 : Arv Z h34 bb kk .long (9 : Int32) [(.long x0), (.long x1), (.long x0), (.long x3), (.long x4), (.long x3), (.long x0), (.long x1), (.long (0 : Int64))] (.long (0 : Int64)) := V34
  have F34_size_a1 := F30_size_a1.other W34 (Or.inl ne_a1_bb)
  have F34_bounds_a1 := F30_bounds_a1.other W34 (Or.inl ne_a1_bb)
  have E34_a1 := E30_a1.wr W34
  have K34 : Keep h0 h34 [bb] := K30.wr W34 (Or.inl (List.mem_of_getElem? (i := 0) rfl))
  have Z34 : n0 ≤ h34.size := Nat.le_trans Z30 (Keep.of_wr W34).1
  have N34 := Fr.snoc X34 N30 g_bb
  obtain ⟨fs, hr, hrun, hended, hW, hsame⟩ := X34.leave (v := none) (fun _ => rfl)
  refine ⟨_, _, pre0 _ ?_, hrun, hended, _, _, rfl, ?_, ⟨_, rfl⟩, hW, hsame.mono (by decide) (by decide)⟩
  · show Steps p.tables e below (s₁.setTop (mkF m 0 Lo1 [])) _
    refine XS.iconst X0.here hx rfl (hb hby d4_2_0) ?_
    show Steps p.tables e below (s₁.setTop (mkF m 1 Lo1 [(.int (0 : Int32))])) _
    refine XS.istoreN X0.here hx rfl (hb hby d4_2_1) rfl (l' := Lo2) rfl ?_
    show Steps p.tables e below (s₁.setTop (mkF m 2 Lo2 [])) _
    refine XS.iloadN X0.here hx rfl (hb hby d4_2_2) rfl ?_
    show Steps p.tables e below (s₁.setTop (mkF m 3 Lo2 [(.int (0 : Int32))])) _
    refine XS.aloadN X0.here hx rfl (hb hby d4_2_3) rfl rfl ?_
    show Steps p.tables e below (s₁.setTop (mkF m 4 Lo2 [(.ref a1), (.int (0 : Int32))])) _
    refine st1 _ ?_
    show Steps p.tables e below (T1.setTop (mkF m 7 Lo2 [(.int (3 : Int32)), (.int (0 : Int32))])) _
    refine XS.icmpNo X1.here hx rfl (hb hby d4_2_7) rfl (by first | rfl | decide) ?_
    show Steps p.tables e below (T1.setTop (mkF m 10 Lo2 [])) _
    refine XS.aloadN X1.here hx rfl (hb hby d4_2_10) rfl rfl ?_
    show Steps p.tables e below (T1.setTop (mkF m 11 Lo2 [(.ref a1)])) _
    refine st2 _ ?_
    show Steps p.tables e below (T2.setTop (mkF m 14 Lo2 [(.ref bb)])) _
    refine XS.iloadN X2.here hx rfl (hb hby d4_2_14) rfl ?_
    show Steps p.tables e below (T2.setTop (mkF m 15 Lo2 [(.int (2 : Int32)), (.ref bb)])) _
    refine XS.aloadN X2.here hx rfl (hb hby d4_2_15) rfl rfl ?_
    show Steps p.tables e below (T2.setTop (mkF m 16 Lo2 [(.ref a1), (.int (2 : Int32)), (.ref bb)])) _
    refine st3 _ ?_
    show Steps p.tables e below (T3.setTop (mkF m 19 Lo2 [(.int (3 : Int32)), (.int (2 : Int32)), (.ref bb)])) _
    refine XS.imul X3.here hx rfl (hb hby d4_2_19) rfl ?_
    show Steps p.tables e below (T3.setTop (mkF m 20 Lo2 [(.int (6 : Int32)), (.ref bb)])) _
    refine XS.iloadN X3.here hx rfl (hb hby d4_2_20) rfl ?_
    show Steps p.tables e below (T3.setTop (mkF m 21 Lo2 [(.int (0 : Int32)), (.int (6 : Int32)), (.ref bb)])) _
    refine XS.iadd X3.here hx rfl (hb hby d4_2_21) rfl ?_
    show Steps p.tables e below (T3.setTop (mkF m 22 Lo2 [(.int (6 : Int32)), (.ref bb)])) _
    refine XS.aloadN X3.here hx rfl (hb hby d4_2_22) rfl rfl ?_
    show Steps p.tables e below (T3.setTop (mkF m 23 Lo2 [(.ref a1), (.int (6 : Int32)), (.ref bb)])) _
    refine st4 _ ?_
    show Steps p.tables e below (T4.setTop (mkF m 26 Lo2 [(.ref bb), (.int (6 : Int32)), (.ref bb)])) _
    refine XS.iloadN X4.here hx rfl (hb hby d4_2_26) rfl ?_
    show Steps p.tables e below (T4.setTop (mkF m 27 Lo2 [(.int (0 : Int32)), (.ref bb), (.int (6 : Int32)), (.ref bb)])) _
    refine own_ldJ X4 hx hZ e4 P3 (j := (0 : Int32)) (by decide) (w := x0) rfl (g := (mkF m 27 Lo2 [(.int (0 : Int32)), (.ref bb), (.int (6 : Int32)), (.ref bb)])) rfl rfl (hb hby d4_2_27) _ ?_
    show Steps p.tables e below (T4.setTop (mkF m 28 Lo2 [(.long x0), (.int (6 : Int32)), (.ref bb)])) _
    refine st5 _ ?_
    show Steps p.tables e below (T5.setTop (mkF m 29 Lo2 [])) _
    refine XS.aloadN X5.here hx rfl (hb hby d4_2_29) rfl rfl ?_
    show Steps p.tables e below (T5.setTop (mkF m 30 Lo2 [(.ref a1)])) _
    refine st6 _ ?_
    show Steps p.tables e below (T6.setTop (mkF m 33 Lo2 [(.ref bb)])) _
    refine XS.iloadN X6.here hx rfl (hb hby d4_2_33) rfl ?_
    show Steps p.tables e below (T6.setTop (mkF m 34 Lo2 [(.int (0 : Int32)), (.ref bb)])) _
    refine XS.aloadN X6.here hx rfl (hb hby d4_2_34) rfl rfl ?_
    show Steps p.tables e below (T6.setTop (mkF m 35 Lo2 [(.ref a1), (.int (0 : Int32)), (.ref bb)])) _
    refine st7 _ ?_
    show Steps p.tables e below (T7.setTop (mkF m 38 Lo2 [(.int (3 : Int32)), (.int (0 : Int32)), (.ref bb)])) _
    refine XS.imul X7.here hx rfl (hb hby d4_2_38) rfl ?_
    show Steps p.tables e below (T7.setTop (mkF m 39 Lo2 [(.int (0 : Int32)), (.ref bb)])) _
    refine XS.iloadN X7.here hx rfl (hb hby d4_2_39) rfl ?_
    show Steps p.tables e below (T7.setTop (mkF m 40 Lo2 [(.int (2 : Int32)), (.int (0 : Int32)), (.ref bb)])) _
    refine XS.iadd X7.here hx rfl (hb hby d4_2_40) rfl ?_
    show Steps p.tables e below (T7.setTop (mkF m 41 Lo2 [(.int (2 : Int32)), (.ref bb)])) _
    refine XS.aloadN X7.here hx rfl (hb hby d4_2_41) rfl rfl ?_
    show Steps p.tables e below (T7.setTop (mkF m 42 Lo2 [(.ref a1), (.int (2 : Int32)), (.ref bb)])) _
    refine st8 _ ?_
    show Steps p.tables e below (T8.setTop (mkF m 45 Lo2 [(.ref bb), (.int (2 : Int32)), (.ref bb)])) _
    refine XS.iloadN X8.here hx rfl (hb hby d4_2_45) rfl ?_
    show Steps p.tables e below (T8.setTop (mkF m 46 Lo2 [(.int (0 : Int32)), (.ref bb), (.int (2 : Int32)), (.ref bb)])) _
    refine XS.aloadN X8.here hx rfl (hb hby d4_2_46) rfl rfl ?_
    show Steps p.tables e below (T8.setTop (mkF m 47 Lo2 [(.ref a1), (.int (0 : Int32)), (.ref bb), (.int (2 : Int32)), (.ref bb)])) _
    refine st9 _ ?_
    show Steps p.tables e below (T9.setTop (mkF m 50 Lo2 [(.int (3 : Int32)), (.int (0 : Int32)), (.ref bb), (.int (2 : Int32)), (.ref bb)])) _
    refine XS.imul X9.here hx rfl (hb hby d4_2_50) rfl ?_
    show Steps p.tables e below (T9.setTop (mkF m 51 Lo2 [(.int (0 : Int32)), (.ref bb), (.int (2 : Int32)), (.ref bb)])) _
    refine own_ldJ X9 hx hZ e9 A5 (j := (0 : Int32)) (by decide) (w := x0) rfl (g := (mkF m 51 Lo2 [(.int (0 : Int32)), (.ref bb), (.int (2 : Int32)), (.ref bb)])) rfl rfl (hb hby d4_2_51) _ ?_
    show Steps p.tables e below (T9.setTop (mkF m 52 Lo2 [(.long x0), (.int (2 : Int32)), (.ref bb)])) _
    refine st10 _ ?_
    show Steps p.tables e below (T10.setTop (mkF m 53 Lo2 [])) _
    refine XS.iinc X10.here hx rfl (hb hby d4_2_53) rfl (l' := Lo3) rfl ?_
    show Steps p.tables e below (T10.setTop (mkF m 56 Lo3 [])) _
    refine XS.goto X10.here hx rfl (pc0 := 56) (pc' := 2) rfl (hb hby d4_2_56) (by decide) (by decide) ?_
    show Steps p.tables e below (T10.setTop (mkF m 2 Lo3 [])) _
    refine XS.iloadN X10.here hx rfl (hb hby d4_2_2) rfl ?_
    show Steps p.tables e below (T10.setTop (mkF m 3 Lo3 [(.int (1 : Int32))])) _
    refine XS.aloadN X10.here hx rfl (hb hby d4_2_3) rfl rfl ?_
    show Steps p.tables e below (T10.setTop (mkF m 4 Lo3 [(.ref a1), (.int (1 : Int32))])) _
    refine st11 _ ?_
    show Steps p.tables e below (T11.setTop (mkF m 7 Lo3 [(.int (3 : Int32)), (.int (1 : Int32))])) _
    refine XS.icmpNo X11.here hx rfl (hb hby d4_2_7) rfl (by first | rfl | decide) ?_
    show Steps p.tables e below (T11.setTop (mkF m 10 Lo3 [])) _
    refine XS.aloadN X11.here hx rfl (hb hby d4_2_10) rfl rfl ?_
    show Steps p.tables e below (T11.setTop (mkF m 11 Lo3 [(.ref a1)])) _
    refine st12 _ ?_
    show Steps p.tables e below (T12.setTop (mkF m 14 Lo3 [(.ref bb)])) _
    refine XS.iloadN X12.here hx rfl (hb hby d4_2_14) rfl ?_
    show Steps p.tables e below (T12.setTop (mkF m 15 Lo3 [(.int (2 : Int32)), (.ref bb)])) _
    refine XS.aloadN X12.here hx rfl (hb hby d4_2_15) rfl rfl ?_
    show Steps p.tables e below (T12.setTop (mkF m 16 Lo3 [(.ref a1), (.int (2 : Int32)), (.ref bb)])) _
    refine st13 _ ?_
    show Steps p.tables e below (T13.setTop (mkF m 19 Lo3 [(.int (3 : Int32)), (.int (2 : Int32)), (.ref bb)])) _
    refine XS.imul X13.here hx rfl (hb hby d4_2_19) rfl ?_
    show Steps p.tables e below (T13.setTop (mkF m 20 Lo3 [(.int (6 : Int32)), (.ref bb)])) _
    refine XS.iloadN X13.here hx rfl (hb hby d4_2_20) rfl ?_
    show Steps p.tables e below (T13.setTop (mkF m 21 Lo3 [(.int (1 : Int32)), (.int (6 : Int32)), (.ref bb)])) _
    refine XS.iadd X13.here hx rfl (hb hby d4_2_21) rfl ?_
    show Steps p.tables e below (T13.setTop (mkF m 22 Lo3 [(.int (7 : Int32)), (.ref bb)])) _
    refine XS.aloadN X13.here hx rfl (hb hby d4_2_22) rfl rfl ?_
    show Steps p.tables e below (T13.setTop (mkF m 23 Lo3 [(.ref a1), (.int (7 : Int32)), (.ref bb)])) _
    refine st14 _ ?_
    show Steps p.tables e below (T14.setTop (mkF m 26 Lo3 [(.ref bb), (.int (7 : Int32)), (.ref bb)])) _
    refine XS.iloadN X14.here hx rfl (hb hby d4_2_26) rfl ?_
    show Steps p.tables e below (T14.setTop (mkF m 27 Lo3 [(.int (1 : Int32)), (.ref bb), (.int (7 : Int32)), (.ref bb)])) _
    refine own_ldJ X14 hx hZ e14 A10 (j := (1 : Int32)) (by decide) (w := x1) rfl (g := (mkF m 27 Lo3 [(.int (1 : Int32)), (.ref bb), (.int (7 : Int32)), (.ref bb)])) rfl rfl (hb hby d4_2_27) _ ?_
    show Steps p.tables e below (T14.setTop (mkF m 28 Lo3 [(.long x1), (.int (7 : Int32)), (.ref bb)])) _
    refine st15 _ ?_
    show Steps p.tables e below (T15.setTop (mkF m 29 Lo3 [])) _
    refine XS.aloadN X15.here hx rfl (hb hby d4_2_29) rfl rfl ?_
    show Steps p.tables e below (T15.setTop (mkF m 30 Lo3 [(.ref a1)])) _
    refine st16 _ ?_
    show Steps p.tables e below (T16.setTop (mkF m 33 Lo3 [(.ref bb)])) _
    refine XS.iloadN X16.here hx rfl (hb hby d4_2_33) rfl ?_
    show Steps p.tables e below (T16.setTop (mkF m 34 Lo3 [(.int (1 : Int32)), (.ref bb)])) _
    refine XS.aloadN X16.here hx rfl (hb hby d4_2_34) rfl rfl ?_
    show Steps p.tables e below (T16.setTop (mkF m 35 Lo3 [(.ref a1), (.int (1 : Int32)), (.ref bb)])) _
    refine st17 _ ?_
    show Steps p.tables e below (T17.setTop (mkF m 38 Lo3 [(.int (3 : Int32)), (.int (1 : Int32)), (.ref bb)])) _
    refine XS.imul X17.here hx rfl (hb hby d4_2_38) rfl ?_
    show Steps p.tables e below (T17.setTop (mkF m 39 Lo3 [(.int (3 : Int32)), (.ref bb)])) _
    refine XS.iloadN X17.here hx rfl (hb hby d4_2_39) rfl ?_
    show Steps p.tables e below (T17.setTop (mkF m 40 Lo3 [(.int (2 : Int32)), (.int (3 : Int32)), (.ref bb)])) _
    refine XS.iadd X17.here hx rfl (hb hby d4_2_40) rfl ?_
    show Steps p.tables e below (T17.setTop (mkF m 41 Lo3 [(.int (5 : Int32)), (.ref bb)])) _
    refine XS.aloadN X17.here hx rfl (hb hby d4_2_41) rfl rfl ?_
    show Steps p.tables e below (T17.setTop (mkF m 42 Lo3 [(.ref a1), (.int (5 : Int32)), (.ref bb)])) _
    refine st18 _ ?_
    show Steps p.tables e below (T18.setTop (mkF m 45 Lo3 [(.ref bb), (.int (5 : Int32)), (.ref bb)])) _
    refine XS.iloadN X18.here hx rfl (hb hby d4_2_45) rfl ?_
    show Steps p.tables e below (T18.setTop (mkF m 46 Lo3 [(.int (1 : Int32)), (.ref bb), (.int (5 : Int32)), (.ref bb)])) _
    refine XS.aloadN X18.here hx rfl (hb hby d4_2_46) rfl rfl ?_
    show Steps p.tables e below (T18.setTop (mkF m 47 Lo3 [(.ref a1), (.int (1 : Int32)), (.ref bb), (.int (5 : Int32)), (.ref bb)])) _
    refine st19 _ ?_
    show Steps p.tables e below (T19.setTop (mkF m 50 Lo3 [(.int (3 : Int32)), (.int (1 : Int32)), (.ref bb), (.int (5 : Int32)), (.ref bb)])) _
    refine XS.imul X19.here hx rfl (hb hby d4_2_50) rfl ?_
    show Steps p.tables e below (T19.setTop (mkF m 51 Lo3 [(.int (3 : Int32)), (.ref bb), (.int (5 : Int32)), (.ref bb)])) _
    refine own_ldJ X19 hx hZ e19 A15 (j := (3 : Int32)) (by decide) (w := x3) rfl (g := (mkF m 51 Lo3 [(.int (3 : Int32)), (.ref bb), (.int (5 : Int32)), (.ref bb)])) rfl rfl (hb hby d4_2_51) _ ?_
    show Steps p.tables e below (T19.setTop (mkF m 52 Lo3 [(.long x3), (.int (5 : Int32)), (.ref bb)])) _
    refine st20 _ ?_
    show Steps p.tables e below (T20.setTop (mkF m 53 Lo3 [])) _
    refine XS.iinc X20.here hx rfl (hb hby d4_2_53) rfl (l' := Lo4) rfl ?_
    show Steps p.tables e below (T20.setTop (mkF m 56 Lo4 [])) _
    refine XS.goto X20.here hx rfl (pc0 := 56) (pc' := 2) rfl (hb hby d4_2_56) (by decide) (by decide) ?_
    show Steps p.tables e below (T20.setTop (mkF m 2 Lo4 [])) _
    refine XS.iloadN X20.here hx rfl (hb hby d4_2_2) rfl ?_
    show Steps p.tables e below (T20.setTop (mkF m 3 Lo4 [(.int (2 : Int32))])) _
    refine XS.aloadN X20.here hx rfl (hb hby d4_2_3) rfl rfl ?_
    show Steps p.tables e below (T20.setTop (mkF m 4 Lo4 [(.ref a1), (.int (2 : Int32))])) _
    refine st21 _ ?_
    show Steps p.tables e below (T21.setTop (mkF m 7 Lo4 [(.int (3 : Int32)), (.int (2 : Int32))])) _
    refine XS.icmpNo X21.here hx rfl (hb hby d4_2_7) rfl (by first | rfl | decide) ?_
    show Steps p.tables e below (T21.setTop (mkF m 10 Lo4 [])) _
    refine XS.aloadN X21.here hx rfl (hb hby d4_2_10) rfl rfl ?_
    show Steps p.tables e below (T21.setTop (mkF m 11 Lo4 [(.ref a1)])) _
    refine st22 _ ?_
    show Steps p.tables e below (T22.setTop (mkF m 14 Lo4 [(.ref bb)])) _
    refine XS.iloadN X22.here hx rfl (hb hby d4_2_14) rfl ?_
    show Steps p.tables e below (T22.setTop (mkF m 15 Lo4 [(.int (2 : Int32)), (.ref bb)])) _
    refine XS.aloadN X22.here hx rfl (hb hby d4_2_15) rfl rfl ?_
    show Steps p.tables e below (T22.setTop (mkF m 16 Lo4 [(.ref a1), (.int (2 : Int32)), (.ref bb)])) _
    refine st23 _ ?_
    show Steps p.tables e below (T23.setTop (mkF m 19 Lo4 [(.int (3 : Int32)), (.int (2 : Int32)), (.ref bb)])) _
    refine XS.imul X23.here hx rfl (hb hby d4_2_19) rfl ?_
    show Steps p.tables e below (T23.setTop (mkF m 20 Lo4 [(.int (6 : Int32)), (.ref bb)])) _
    refine XS.iloadN X23.here hx rfl (hb hby d4_2_20) rfl ?_
    show Steps p.tables e below (T23.setTop (mkF m 21 Lo4 [(.int (2 : Int32)), (.int (6 : Int32)), (.ref bb)])) _
    refine XS.iadd X23.here hx rfl (hb hby d4_2_21) rfl ?_
    show Steps p.tables e below (T23.setTop (mkF m 22 Lo4 [(.int (8 : Int32)), (.ref bb)])) _
    refine XS.aloadN X23.here hx rfl (hb hby d4_2_22) rfl rfl ?_
    show Steps p.tables e below (T23.setTop (mkF m 23 Lo4 [(.ref a1), (.int (8 : Int32)), (.ref bb)])) _
    refine st24 _ ?_
    show Steps p.tables e below (T24.setTop (mkF m 26 Lo4 [(.ref bb), (.int (8 : Int32)), (.ref bb)])) _
    refine XS.iloadN X24.here hx rfl (hb hby d4_2_26) rfl ?_
    show Steps p.tables e below (T24.setTop (mkF m 27 Lo4 [(.int (2 : Int32)), (.ref bb), (.int (8 : Int32)), (.ref bb)])) _
    refine own_ldJ X24 hx hZ e24 A20 (j := (2 : Int32)) (by decide) (w := x0) rfl (g := (mkF m 27 Lo4 [(.int (2 : Int32)), (.ref bb), (.int (8 : Int32)), (.ref bb)])) rfl rfl (hb hby d4_2_27) _ ?_
    show Steps p.tables e below (T24.setTop (mkF m 28 Lo4 [(.long x0), (.int (8 : Int32)), (.ref bb)])) _
    refine st25 _ ?_
    show Steps p.tables e below (T25.setTop (mkF m 29 Lo4 [])) _
    refine XS.aloadN X25.here hx rfl (hb hby d4_2_29) rfl rfl ?_
    show Steps p.tables e below (T25.setTop (mkF m 30 Lo4 [(.ref a1)])) _
    refine st26 _ ?_
    show Steps p.tables e below (T26.setTop (mkF m 33 Lo4 [(.ref bb)])) _
    refine XS.iloadN X26.here hx rfl (hb hby d4_2_33) rfl ?_
    show Steps p.tables e below (T26.setTop (mkF m 34 Lo4 [(.int (2 : Int32)), (.ref bb)])) _
    refine XS.aloadN X26.here hx rfl (hb hby d4_2_34) rfl rfl ?_
    show Steps p.tables e below (T26.setTop (mkF m 35 Lo4 [(.ref a1), (.int (2 : Int32)), (.ref bb)])) _
    refine st27 _ ?_
    show Steps p.tables e below (T27.setTop (mkF m 38 Lo4 [(.int (3 : Int32)), (.int (2 : Int32)), (.ref bb)])) _
    refine XS.imul X27.here hx rfl (hb hby d4_2_38) rfl ?_
    show Steps p.tables e below (T27.setTop (mkF m 39 Lo4 [(.int (6 : Int32)), (.ref bb)])) _
    refine XS.iloadN X27.here hx rfl (hb hby d4_2_39) rfl ?_
    show Steps p.tables e below (T27.setTop (mkF m 40 Lo4 [(.int (2 : Int32)), (.int (6 : Int32)), (.ref bb)])) _
    refine XS.iadd X27.here hx rfl (hb hby d4_2_40) rfl ?_
    show Steps p.tables e below (T27.setTop (mkF m 41 Lo4 [(.int (8 : Int32)), (.ref bb)])) _
    refine XS.aloadN X27.here hx rfl (hb hby d4_2_41) rfl rfl ?_
    show Steps p.tables e below (T27.setTop (mkF m 42 Lo4 [(.ref a1), (.int (8 : Int32)), (.ref bb)])) _
    refine st28 _ ?_
    show Steps p.tables e below (T28.setTop (mkF m 45 Lo4 [(.ref bb), (.int (8 : Int32)), (.ref bb)])) _
    refine XS.iloadN X28.here hx rfl (hb hby d4_2_45) rfl ?_
    show Steps p.tables e below (T28.setTop (mkF m 46 Lo4 [(.int (2 : Int32)), (.ref bb), (.int (8 : Int32)), (.ref bb)])) _
    refine XS.aloadN X28.here hx rfl (hb hby d4_2_46) rfl rfl ?_
    show Steps p.tables e below (T28.setTop (mkF m 47 Lo4 [(.ref a1), (.int (2 : Int32)), (.ref bb), (.int (8 : Int32)), (.ref bb)])) _
    refine st29 _ ?_
    show Steps p.tables e below (T29.setTop (mkF m 50 Lo4 [(.int (3 : Int32)), (.int (2 : Int32)), (.ref bb), (.int (8 : Int32)), (.ref bb)])) _
    refine XS.imul X29.here hx rfl (hb hby d4_2_50) rfl ?_
    show Steps p.tables e below (T29.setTop (mkF m 51 Lo4 [(.int (6 : Int32)), (.ref bb), (.int (8 : Int32)), (.ref bb)])) _
    refine own_ldJ X29 hx hZ e29 A25 (j := (6 : Int32)) (by decide) (w := x0) rfl (g := (mkF m 51 Lo4 [(.int (6 : Int32)), (.ref bb), (.int (8 : Int32)), (.ref bb)])) rfl rfl (hb hby d4_2_51) _ ?_
    show Steps p.tables e below (T29.setTop (mkF m 52 Lo4 [(.long x0), (.int (8 : Int32)), (.ref bb)])) _
    refine st30 _ ?_
    show Steps p.tables e below (T30.setTop (mkF m 53 Lo4 [])) _
    refine XS.iinc X30.here hx rfl (hb hby d4_2_53) rfl (l' := Lo5) rfl ?_
    show Steps p.tables e below (T30.setTop (mkF m 56 Lo5 [])) _
    refine XS.goto X30.here hx rfl (pc0 := 56) (pc' := 2) rfl (hb hby d4_2_56) (by decide) (by decide) ?_
    show Steps p.tables e below (T30.setTop (mkF m 2 Lo5 [])) _
    refine XS.iloadN X30.here hx rfl (hb hby d4_2_2) rfl ?_
    show Steps p.tables e below (T30.setTop (mkF m 3 Lo5 [(.int (3 : Int32))])) _
    refine XS.aloadN X30.here hx rfl (hb hby d4_2_3) rfl rfl ?_
    show Steps p.tables e below (T30.setTop (mkF m 4 Lo5 [(.ref a1), (.int (3 : Int32))])) _
    refine st31 _ ?_
    show Steps p.tables e below (T31.setTop (mkF m 7 Lo5 [(.int (3 : Int32)), (.int (3 : Int32))])) _
    refine XS.icmpYes X31.here hx rfl (pc0 := 7) (pc' := 59) rfl (hb hby d4_2_7) rfl (by first | rfl | decide) (by decide) (by decide) ?_
    show Steps p.tables e below (T31.setTop (mkF m 59 Lo5 [])) _
    refine XS.aloadN X31.here hx rfl (hb hby d4_2_59) rfl rfl ?_
    show Steps p.tables e below (T31.setTop (mkF m 60 Lo5 [(.ref a1)])) _
    refine st32 _ ?_
    show Steps p.tables e below (T32.setTop (mkF m 63 Lo5 [(.ref bb)])) _
    refine XS.iloadN X32.here hx rfl (hb hby d4_2_63) rfl ?_
    show Steps p.tables e below (T32.setTop (mkF m 64 Lo5 [(.int (2 : Int32)), (.ref bb)])) _
    refine XS.aloadN X32.here hx rfl (hb hby d4_2_64) rfl rfl ?_
    show Steps p.tables e below (T32.setTop (mkF m 65 Lo5 [(.ref a1), (.int (2 : Int32)), (.ref bb)])) _
    refine st33 _ ?_
    show Steps p.tables e below (T33.setTop (mkF m 68 Lo5 [(.int (3 : Int32)), (.int (2 : Int32)), (.ref bb)])) _
    refine XS.imul X33.here hx rfl (hb hby d4_2_68) rfl ?_
    show Steps p.tables e below (T33.setTop (mkF m 69 Lo5 [(.int (6 : Int32)), (.ref bb)])) _
    refine XS.iloadN X33.here hx rfl (hb hby d4_2_69) rfl ?_
    show Steps p.tables e below (T33.setTop (mkF m 70 Lo5 [(.int (2 : Int32)), (.int (6 : Int32)), (.ref bb)])) _
    refine XS.iadd X33.here hx rfl (hb hby d4_2_70) rfl ?_
    show Steps p.tables e below (T33.setTop (mkF m 71 Lo5 [(.int (8 : Int32)), (.ref bb)])) _
    refine XS.lconst X33.here hx rfl (hb hby d4_2_71) ?_
    show Steps p.tables e below (T33.setTop (mkF m 72 Lo5 [(.long (0 : Int64)), (.int (8 : Int32)), (.ref bb)])) _
    refine st34 _ ?_
    show Steps p.tables e below (T34.setTop (mkF m 73 Lo5 [])) _
    exact X34.returnOut hx Bd.returns (hb hby d4_2_73) hr
  · show Q4_2 Z a1 bb kk x0 x1 x2 x3 x4 x5 x6 x7 x8 h0 n0 _ T34.heap _
    rw [e34]
    exact ⟨(x0), (x1), (x0), (x3), (x4), (x3), (x0), (x1), ((0 : Int64)), rfl, N34, K34, A34, rfl, rfl, rfl, rfl, rfl, rfl, rfl, rfl, rfl⟩
def Q4 (Z : State) (a1 : Addr) (r : Int32) (bb : Addr) (kk : ClassId) (x0 : Int64) (x1 : Int64) (x2 : Int64) (x3 : Int64) (x4 : Int64) (x5 : Int64) (x6 : Int64) (x7 : Int64) (x8 : Int64) (h0 : Heap) (n0 : Nat) (v : Option Value) (h : Heap) (L : List Loc) : Prop := ∃ (y0 : Int64) (y1 : Int64) (y2 : Int64) (y3 : Int64) (y4 : Int64) (y5 : Int64) (y6 : Int64) (y7 : Int64) (y8 : Int64), v = none ∧ Fr n0 L ∧ Keep h0 h [bb] ∧ (Arv Z h bb kk .long (9 : Int32) [(.long y0), (.long y1), (.long y2), (.long y3), (.long y4), (.long y5), (.long y6), (.long y7), (.long y8)] (.long (0 : Int64))) ∧ (y0 = x0) ∧ (y1 = (if r = (1 : Int32) then x0 else x1)) ∧ (y2 = (if r = (1 : Int32) then x2 else x0)) ∧ (y3 = (if r = (1 : Int32) then x0 else x3)) ∧ (y4 = (if r = (1 : Int32) then (0 : Int64) else x4)) ∧ (y5 = (if r = (1 : Int32) then x2 else x3)) ∧ (y6 = (if r = (1 : Int32) then x6 else x0)) ∧ (y7 = (if r = (1 : Int32) then x6 else x1)) ∧ (y8 = (if r = (1 : Int32) then x8 else (0 : Int64)))
set_option maxRecDepth 65536 in
set_option maxHeartbeats 40000000 in
theorem rm4 (l : Launch) (Z : State) (a0 : Array Value) (hw : ∀ d ∈ tables_1, d.before a0 Z = true) (ws : List Jvm.Cond) (a1 : Addr) (r : Int32) (bb : Addr) (kk : ClassId) (x0 : Int64) (x1 : Int64) (x2 : Int64) (x3 : Int64) (x4 : Int64) (x5 : Int64) (x6 : Int64) (x7 : Int64) (x8 : Int64) (h0 : Heap) (n0 : Nat) (Z0 : n0 ≤ h0.size) (P0 : Exa Z h0 a1 "com/example/chronoscope/chronoscope/sim/Zone") (P1 : Fld Z h0 a1 "com/example/chronoscope/chronoscope/sim/Zone" "size" "I" (.int (3 : Int32))) (P2 : Fld Z h0 a1 "com/example/chronoscope/chronoscope/sim/Zone" "bounds" "[J" (.ref bb)) (P3 : Arv Z h0 bb kk .long (9 : Int32) [(.long x0), (.long x1), (.long x2), (.long x3), (.long x4), (.long x5), (.long x6), (.long x7), (.long x8)] (.long (0 : Int64))) (g_bb : n0 ≤ bb) (ne_a1_bb : a1 ≠ bb) (hr : r = (1 : Int32) ∨ r = (2 : Int32)) :
    MetFree l (⟨"com/example/chronoscope/chronoscope/sim/Zone", "reset", "(I)V"⟩ : MethodName) (head1 (Jvm.Cond.code (⟨"com/example/chronoscope/chronoscope/sim/Zone", "reset", "(I)V"⟩ : MethodName) prog_347_method_10_code 3 none :: ws) ({ frames := 0, cells := 0, slots := 0, locals := 0 } : Room)) (fun a U => a = #[(.ref a1), (.int r)] ∧ Z.Warmed39 U.vm ∧ U.heap = h0) (fun _ _ _ _ _ => True) (fun _ U o U' => ∃ v L, o = .returned v ∧ Q4 Z a1 r bb kk x0 x1 x2 x3 x4 x5 x6 x7 x8 h0 n0 v U'.heap L ∧ FrameEnd U o U' L ({ frames := 0, cells := 0, slots := 0, locals := 0 } : Room).cells ({ frames := 0, cells := 0, slots := 0, locals := 0 } : Room).slots) := by
  rcases hr with rfl | rfl
  · exact rm4_1 l Z a0 hw ws a1 bb kk x0 x1 x2 x3 x4 x5 x6 x7 x8 h0 n0 Z0 P0 P1 P2 P3 g_bb ne_a1_bb
  · exact rm4_2 l Z a0 hw ws a1 bb kk x0 x1 x2 x3 x4 x5 x6 x7 x8 h0 n0 Z0 P0 P1 P2 P3 g_bb ne_a1_bb
def own_sig (p1 : Int32) (p2 : Int32) (p3 : Int32) : Int32 := (if p1 = p2 then p3 else p1)
theorem d9_0 : decode method_3_code 0 = .ok (.iload_n 0, 1) := by decide +kernel
theorem d9_1 : decode method_3_code 1 = .ok (.iload_n 1, 1) := by decide +kernel
theorem d9_2 : decode method_3_code 2 = .ok (.if_icmp .ne 7, 3) := by decide +kernel
theorem d9_5 : decode method_3_code 5 = .ok (.iload_n 2, 1) := by decide +kernel
theorem d9_6 : decode method_3_code 6 = .ok (.goto 4, 3) := by decide +kernel
theorem d9_9 : decode method_3_code 9 = .ok (.iload_n 0, 1) := by decide +kernel
theorem d9_10 : decode method_3_code 10 = .ok (.ireturn, 1) := by decide +kernel
theorem pn_9 : plainName "com/example/chronoscope/chronoscope/sim/ZoneAssignPinLaw" = true := by first | (simp [plainName, overriddenIn]; done) | decide +kernel
theorem ef_9 (m : MethodId) (x0 : Int32) (x1 : Int32) (x2 : Int32) : entryFrame m #[(.int x0), (.int x1), (.int x2)] 3 = mkF m 0 #[.val (.int x0), .val (.int x1), .val (.int x2)] [] := by first | (simp [entryFrame, mkF, argsToLocals, Value.category]; done) | rfl
def Q9 (Z : State) (p1 : Int32) (p2 : Int32) (p3 : Int32) (h0 : Heap) (n0 : Nat) (v : Option Value) (h : Heap) (L : List Loc) : Prop := v = some (.int (own_sig p1 p2 p3)) ∧ Fr n0 L ∧ h = h0
set_option maxRecDepth 65536 in
set_option maxHeartbeats 40000000 in
theorem rm9 (l : Launch) (Z : State) (a0 : Array Value) (hw : ∀ d ∈ tables_1, d.before a0 Z = true) (ws : List Jvm.Cond) (p1 : Int32) (p2 : Int32) (p3 : Int32) (h0 : Heap) (n0 : Nat) (Z0 : n0 ≤ h0.size)  :
    MetFree l (⟨"com/example/chronoscope/chronoscope/sim/ZoneAssignPinLaw", "sigma", "(III)I"⟩ : MethodName) (head1 (Jvm.Cond.code (⟨"com/example/chronoscope/chronoscope/sim/ZoneAssignPinLaw", "sigma", "(III)I"⟩ : MethodName) method_3_code 3 (some .int) :: ws) ({ frames := 0, cells := 0, slots := 0, locals := 0 } : Room)) (fun a U => a = #[(.int p1), (.int p2), (.int p3)] ∧ Z.Warmed39 U.vm ∧ U.heap = h0) (fun _ _ _ _ _ => True) (fun _ U o U' => ∃ v L, o = .returned v ∧ Q9 Z p1 p2 p3 h0 n0 v U'.heap L ∧ FrameEnd U o U' L ({ frames := 0, cells := 0, slots := 0, locals := 0 } : Room).cells ({ frames := 0, cells := 0, slots := 0, locals := 0 } : Room).slots) := by
  refine MetFree.of_bodySF (plainFor_of_name pn_9) hisR ?_
  intro p e s m args below meth c s₁ Bd hml0 hP hK
  obtain ⟨rfl, hZ, hh⟩ := hP
  have hx := Bd.exec
  have hby := Bd.bytes
  have hml : c.maxLocals = 3 := hml0
  have hown : s.vm.findClass "com/example/chronoscope/chronoscope/sim/ZoneAssignPinLaw" = some m.cls := findClass_of_methodNamed Bd.named
  have hnm := (name_of_methodNamed Bd.named Bd.method).1
  have X0 : Stand p l e ({ frames := 0, cells := 0, slots := 0, locals := 0 } : Room) s m #[(.int p1), (.int p2), (.int p3)] below meth c s₁ [] 0 0 := Stand.of_body Bd
  have e0 : s₁.heap = h0 := by rw [← hh, Bd.state]; rfl
  have N0 := Fr.nil n0
  have pre0 : ∀ t, Steps p.tables e below (s₁.setTop (mkF m 0 #[.val (.int p1), .val (.int p2), .val (.int p3)] [])) t → Steps p.tables e below (s₁.setTop (entryFrame m #[(.int p1), (.int p2), (.int p3)] 3)) t := fun t k => castTop (ef_9 m p1 p2 p3) k
  let Lo1 : Array Slot := #[.val (.int p1), .val (.int p2), .val (.int p3)]
  obtain ⟨fs, hr, hrun, hended, hW, hsame⟩ := X0.leave (v := some (.int (own_sig p1 p2 p3))) (fun h => by rw [Bd.returns] at h; cases h)
  refine ⟨_, _, pre0 _ ?_, hrun, hended, _, _, rfl, ?_, ⟨_, rfl⟩, hW, hsame.mono (by decide) (by decide)⟩
  · show Steps p.tables e below (s₁.setTop (mkF m 0 Lo1 [])) _
    refine XS.iloadN X0.here hx rfl (hb hby d9_0) rfl ?_
    show Steps p.tables e below (s₁.setTop (mkF m 1 Lo1 [(.int p1)])) _
    refine XS.iloadN X0.here hx rfl (hb hby d9_1) rfl ?_
    show Steps p.tables e below (s₁.setTop (mkF m 2 Lo1 [(.int p2), (.int p1)])) _
    by_cases hc2 : p1 = p2
    · refine XS.icmpNo X0.here hx rfl (hb hby d9_2) rfl (Jvm.Free.XT.ii_ne_f hc2) ?_
      show Steps p.tables e below (s₁.setTop (mkF m 5 Lo1 [])) _
      refine XS.iloadN X0.here hx rfl (hb hby d9_5) rfl ?_
      show Steps p.tables e below (s₁.setTop (mkF m 6 Lo1 [(.int p3)])) _
      refine XS.goto X0.here hx rfl (pc0 := 6) (pc' := 10) rfl (hb hby d9_6) (by decide) (by decide) ?_
      show Steps p.tables e below (s₁.setTop (mkF m 10 Lo1 [(.int p3)])) _
      exact own_retI X0 hx Bd.returns (hb hby d9_10) (by rw [own_sig, if_pos hc2]) hr
    · refine XS.icmpYes X0.here hx rfl (pc0 := 2) (pc' := 9) rfl (hb hby d9_2) rfl (Jvm.Free.XT.ii_ne_t hc2) (by decide) (by decide) ?_
      show Steps p.tables e below (s₁.setTop (mkF m 9 Lo1 [])) _
      refine XS.iloadN X0.here hx rfl (hb hby d9_9) rfl ?_
      show Steps p.tables e below (s₁.setTop (mkF m 10 Lo1 [(.int p1)])) _
      exact own_retI X0 hx Bd.returns (hb hby d9_10) (by rw [own_sig, if_neg hc2]) hr
  · show Q9 Z p1 p2 p3 h0 n0 _ s₁.heap _
    rw [e0]
    exact ⟨rfl, N0, rfl⟩
def own_cellok (p3 p4 p5 p6 : Int32) (vb va : List Value) : Prop := ((own_sig p5 p3 p4) = (own_sig p6 p3 p4) ∧ (¬ ((p5 * (3 : Int32)) + p6) < 0 ∧ ((p5 * (3 : Int32)) + p6) < 9) ∧ va.getD ((p5 * (3 : Int32)) + p6).toNatClampNeg (.long (0 : Int64)) = .long (0 : Int64)) ∨ (¬ (own_sig p5 p3 p4) = (own_sig p6 p3 p4) ∧ (¬ (((own_sig p5 p3 p4) * (3 : Int32)) + (own_sig p6 p3 p4)) < 0 ∧ (((own_sig p5 p3 p4) * (3 : Int32)) + (own_sig p6 p3 p4)) < 9) ∧ (¬ ((p5 * (3 : Int32)) + p6) < 0 ∧ ((p5 * (3 : Int32)) + p6) < 9) ∧ ∃ w : Int64, vb.getD (((own_sig p5 p3 p4) * (3 : Int32)) + (own_sig p6 p3 p4)).toNatClampNeg (.long (0 : Int64)) = .long w ∧ va.getD ((p5 * (3 : Int32)) + p6).toNatClampNeg (.long (0 : Int64)) = .long w)
def own_nine (i j : Int32) (x0 x1 x2 x3 x4 x5 x6 x7 x8 : Int64) (y0 y1 y2 y3 y4 y5 y6 y7 y8 : Int64) : Prop := own_cellok i j (0 : Int32) (0 : Int32) [(.long x0), (.long x1), (.long x2), (.long x3), (.long x4), (.long x5), (.long x6), (.long x7), (.long x8)] [(.long y0), (.long y1), (.long y2), (.long y3), (.long y4), (.long y5), (.long y6), (.long y7), (.long y8)] ∧ own_cellok i j (0 : Int32) (1 : Int32) [(.long x0), (.long x1), (.long x2), (.long x3), (.long x4), (.long x5), (.long x6), (.long x7), (.long x8)] [(.long y0), (.long y1), (.long y2), (.long y3), (.long y4), (.long y5), (.long y6), (.long y7), (.long y8)] ∧ own_cellok i j (0 : Int32) (2 : Int32) [(.long x0), (.long x1), (.long x2), (.long x3), (.long x4), (.long x5), (.long x6), (.long x7), (.long x8)] [(.long y0), (.long y1), (.long y2), (.long y3), (.long y4), (.long y5), (.long y6), (.long y7), (.long y8)] ∧ own_cellok i j (1 : Int32) (0 : Int32) [(.long x0), (.long x1), (.long x2), (.long x3), (.long x4), (.long x5), (.long x6), (.long x7), (.long x8)] [(.long y0), (.long y1), (.long y2), (.long y3), (.long y4), (.long y5), (.long y6), (.long y7), (.long y8)] ∧ own_cellok i j (1 : Int32) (1 : Int32) [(.long x0), (.long x1), (.long x2), (.long x3), (.long x4), (.long x5), (.long x6), (.long x7), (.long x8)] [(.long y0), (.long y1), (.long y2), (.long y3), (.long y4), (.long y5), (.long y6), (.long y7), (.long y8)] ∧ own_cellok i j (1 : Int32) (2 : Int32) [(.long x0), (.long x1), (.long x2), (.long x3), (.long x4), (.long x5), (.long x6), (.long x7), (.long x8)] [(.long y0), (.long y1), (.long y2), (.long y3), (.long y4), (.long y5), (.long y6), (.long y7), (.long y8)] ∧ own_cellok i j (2 : Int32) (0 : Int32) [(.long x0), (.long x1), (.long x2), (.long x3), (.long x4), (.long x5), (.long x6), (.long x7), (.long x8)] [(.long y0), (.long y1), (.long y2), (.long y3), (.long y4), (.long y5), (.long y6), (.long y7), (.long y8)] ∧ own_cellok i j (2 : Int32) (1 : Int32) [(.long x0), (.long x1), (.long x2), (.long x3), (.long x4), (.long x5), (.long x6), (.long x7), (.long x8)] [(.long y0), (.long y1), (.long y2), (.long y3), (.long y4), (.long y5), (.long y6), (.long y7), (.long y8)] ∧ own_cellok i j (2 : Int32) (2 : Int32) [(.long x0), (.long x1), (.long x2), (.long x3), (.long x4), (.long x5), (.long x6), (.long x7), (.long x8)] [(.long y0), (.long y1), (.long y2), (.long y3), (.long y4), (.long y5), (.long y6), (.long y7), (.long y8)]
theorem own_as_10 (x0 x1 x2 x3 x4 x5 x6 x7 x8 : Int64) (hx0 : x0 = (0 : Int64)) (hx4 : x4 = (0 : Int64)) (hx8 : x8 = (0 : Int64)) : own_nine (1 : Int32) (0 : Int32) x0 x1 x2 x3 x4 x5 x6 x7 x8 (x0) (x0) (x2) (x0) ((0 : Int64)) (x2) (x6) (x6) (x8) := by
  subst hx0 hx4 hx8
  exact ⟨Or.inl ⟨by decide, by decide, rfl⟩, Or.inl ⟨by decide, by decide, rfl⟩, Or.inr ⟨by decide, by decide, by decide, _, rfl, rfl⟩, Or.inl ⟨by decide, by decide, rfl⟩, Or.inl ⟨by decide, by decide, rfl⟩, Or.inr ⟨by decide, by decide, by decide, _, rfl, rfl⟩, Or.inr ⟨by decide, by decide, by decide, _, rfl, rfl⟩, Or.inr ⟨by decide, by decide, by decide, _, rfl, rfl⟩, Or.inl ⟨by decide, by decide, rfl⟩⟩
theorem d7_10_0 : decode prog_347_method_11_code 0 = .ok (.iconst 0, 1) := by decide +kernel
theorem d7_10_1 : decode prog_347_method_11_code 1 = .ok (.istore_n 3, 1) := by decide +kernel
theorem d7_10_2 : decode prog_347_method_11_code 2 = .ok (.iload_n 3, 1) := by decide +kernel
theorem d7_10_3 : decode prog_347_method_11_code 3 = .ok (.aload_n 0, 1) := by decide +kernel
theorem d7_10_4 : decode prog_347_method_11_code 4 = .ok (.getfield 9, 3) := by decide +kernel
theorem d7_10_7 : decode prog_347_method_11_code 7 = .ok (.if_icmp .ge 61, 3) := by decide +kernel
theorem d7_10_10 : decode prog_347_method_11_code 10 = .ok (.aload_n 0, 1) := by decide +kernel
theorem d7_10_11 : decode prog_347_method_11_code 11 = .ok (.getfield 15, 3) := by decide +kernel
theorem d7_10_14 : decode prog_347_method_11_code 14 = .ok (.iload_n 1, 1) := by decide +kernel
theorem d7_10_15 : decode prog_347_method_11_code 15 = .ok (.aload_n 0, 1) := by decide +kernel
theorem d7_10_16 : decode prog_347_method_11_code 16 = .ok (.getfield 9, 3) := by decide +kernel
theorem d7_10_19 : decode prog_347_method_11_code 19 = .ok (.imul, 1) := by decide +kernel
theorem d7_10_20 : decode prog_347_method_11_code 20 = .ok (.iload_n 3, 1) := by decide +kernel
theorem d7_10_21 : decode prog_347_method_11_code 21 = .ok (.iadd, 1) := by decide +kernel
theorem d7_10_22 : decode prog_347_method_11_code 22 = .ok (.aload_n 0, 1) := by decide +kernel
theorem d7_10_23 : decode prog_347_method_11_code 23 = .ok (.getfield 15, 3) := by decide +kernel
theorem d7_10_26 : decode prog_347_method_11_code 26 = .ok (.iload_n 2, 1) := by decide +kernel
theorem d7_10_27 : decode prog_347_method_11_code 27 = .ok (.aload_n 0, 1) := by decide +kernel
theorem d7_10_28 : decode prog_347_method_11_code 28 = .ok (.getfield 9, 3) := by decide +kernel
theorem d7_10_31 : decode prog_347_method_11_code 31 = .ok (.imul, 1) := by decide +kernel
theorem d7_10_32 : decode prog_347_method_11_code 32 = .ok (.iload_n 3, 1) := by decide +kernel
theorem d7_10_33 : decode prog_347_method_11_code 33 = .ok (.iadd, 1) := by decide +kernel
theorem d7_10_34 : decode prog_347_method_11_code 34 = .ok (.laload, 1) := by decide +kernel
theorem d7_10_35 : decode prog_347_method_11_code 35 = .ok (.lastore, 1) := by decide +kernel
theorem d7_10_36 : decode prog_347_method_11_code 36 = .ok (.aload_n 0, 1) := by decide +kernel
theorem d7_10_37 : decode prog_347_method_11_code 37 = .ok (.getfield 15, 3) := by decide +kernel
theorem d7_10_40 : decode prog_347_method_11_code 40 = .ok (.iload_n 3, 1) := by decide +kernel
theorem d7_10_41 : decode prog_347_method_11_code 41 = .ok (.aload_n 0, 1) := by decide +kernel
theorem d7_10_42 : decode prog_347_method_11_code 42 = .ok (.getfield 9, 3) := by decide +kernel
theorem d7_10_45 : decode prog_347_method_11_code 45 = .ok (.imul, 1) := by decide +kernel
theorem d7_10_46 : decode prog_347_method_11_code 46 = .ok (.iload_n 1, 1) := by decide +kernel
theorem d7_10_47 : decode prog_347_method_11_code 47 = .ok (.iadd, 1) := by decide +kernel
theorem d7_10_48 : decode prog_347_method_11_code 48 = .ok (.aload_n 0, 1) := by decide +kernel
theorem d7_10_49 : decode prog_347_method_11_code 49 = .ok (.getfield 15, 3) := by decide +kernel
theorem d7_10_52 : decode prog_347_method_11_code 52 = .ok (.iload_n 3, 1) := by decide +kernel
theorem d7_10_53 : decode prog_347_method_11_code 53 = .ok (.aload_n 0, 1) := by decide +kernel
theorem d7_10_54 : decode prog_347_method_11_code 54 = .ok (.getfield 9, 3) := by decide +kernel
theorem d7_10_57 : decode prog_347_method_11_code 57 = .ok (.imul, 1) := by decide +kernel
theorem d7_10_58 : decode prog_347_method_11_code 58 = .ok (.iload_n 2, 1) := by decide +kernel
theorem d7_10_59 : decode prog_347_method_11_code 59 = .ok (.iadd, 1) := by decide +kernel
theorem d7_10_60 : decode prog_347_method_11_code 60 = .ok (.laload, 1) := by decide +kernel
theorem d7_10_61 : decode prog_347_method_11_code 61 = .ok (.lastore, 1) := by decide +kernel
theorem d7_10_62 : decode prog_347_method_11_code 62 = .ok (.iinc 3 1, 3) := by decide +kernel
theorem d7_10_65 : decode prog_347_method_11_code 65 = .ok (.goto (-63), 3) := by decide +kernel
theorem d7_10_68 : decode prog_347_method_11_code 68 = .ok (.aload_n 0, 1) := by decide +kernel
theorem d7_10_69 : decode prog_347_method_11_code 69 = .ok (.getfield 15, 3) := by decide +kernel
theorem d7_10_72 : decode prog_347_method_11_code 72 = .ok (.iload_n 1, 1) := by decide +kernel
theorem d7_10_73 : decode prog_347_method_11_code 73 = .ok (.aload_n 0, 1) := by decide +kernel
theorem d7_10_74 : decode prog_347_method_11_code 74 = .ok (.getfield 9, 3) := by decide +kernel
theorem d7_10_77 : decode prog_347_method_11_code 77 = .ok (.imul, 1) := by decide +kernel
theorem d7_10_78 : decode prog_347_method_11_code 78 = .ok (.iload_n 1, 1) := by decide +kernel
theorem d7_10_79 : decode prog_347_method_11_code 79 = .ok (.iadd, 1) := by decide +kernel
theorem d7_10_80 : decode prog_347_method_11_code 80 = .ok (.lconst 0, 1) := by decide +kernel
theorem d7_10_81 : decode prog_347_method_11_code 81 = .ok (.lastore, 1) := by decide +kernel
theorem d7_10_82 : decode prog_347_method_11_code 82 = .ok (.return_, 1) := by decide +kernel
theorem pn_7_10 : plainName "com/example/chronoscope/chronoscope/sim/Zone" = true := by first | (simp [plainName, overriddenIn]; done) | decide +kernel
theorem ef_7_10 (m : MethodId) (x0 : Addr) (x1 : Int32) (x2 : Int32) : entryFrame m #[(.ref x0), (.int x1), (.int x2)] 4 = mkF m 0 #[.val (.ref x0), .val (.int x1), .val (.int x2), .unset] [] := by first | (simp [entryFrame, mkF, argsToLocals, Value.category]; done) | rfl
def Q7_10 (Z : State) (a1 : Addr) (bb : Addr) (kk : ClassId) (x0 : Int64) (x1 : Int64) (x2 : Int64) (x3 : Int64) (x4 : Int64) (x5 : Int64) (x6 : Int64) (x7 : Int64) (x8 : Int64) (h0 : Heap) (n0 : Nat) (v : Option Value) (h : Heap) (L : List Loc) : Prop := ∃ (y0 : Int64) (y1 : Int64) (y2 : Int64) (y3 : Int64) (y4 : Int64) (y5 : Int64) (y6 : Int64) (y7 : Int64) (y8 : Int64), v = none ∧ Fr n0 L ∧ Keep h0 h [bb] ∧ (Arv Z h bb kk .long (9 : Int32) [(.long y0), (.long y1), (.long y2), (.long y3), (.long y4), (.long y5), (.long y6), (.long y7), (.long y8)] (.long (0 : Int64))) ∧ (own_nine (1 : Int32) (0 : Int32) x0 x1 x2 x3 x4 x5 x6 x7 x8 y0 y1 y2 y3 y4 y5 y6 y7 y8)
set_option maxRecDepth 65536 in
set_option maxHeartbeats 40000000 in
theorem rm7_10 (l : Launch) (Z : State) (a0 : Array Value) (hw : ∀ d ∈ tables_1, d.before a0 Z = true) (ws : List Jvm.Cond) (a1 : Addr) (bb : Addr) (kk : ClassId) (x0 : Int64) (x1 : Int64) (x2 : Int64) (x3 : Int64) (x4 : Int64) (x5 : Int64) (x6 : Int64) (x7 : Int64) (x8 : Int64) (h0 : Heap) (n0 : Nat) (Z0 : n0 ≤ h0.size) (P0 : Exa Z h0 a1 "com/example/chronoscope/chronoscope/sim/Zone") (P1 : Fld Z h0 a1 "com/example/chronoscope/chronoscope/sim/Zone" "size" "I" (.int (3 : Int32))) (P2 : Fld Z h0 a1 "com/example/chronoscope/chronoscope/sim/Zone" "bounds" "[J" (.ref bb)) (P3 : Arv Z h0 bb kk .long (9 : Int32) [(.long x0), (.long x1), (.long x2), (.long x3), (.long x4), (.long x5), (.long x6), (.long x7), (.long x8)] (.long (0 : Int64))) (g_bb : n0 ≤ bb) (ne_a1_bb : a1 ≠ bb) (hx0 : x0 = (0 : Int64)) (hx4 : x4 = (0 : Int64)) (hx8 : x8 = (0 : Int64)) :
    MetFree l (⟨"com/example/chronoscope/chronoscope/sim/Zone", "assign", "(II)V"⟩ : MethodName) (head1 (Jvm.Cond.code (⟨"com/example/chronoscope/chronoscope/sim/Zone", "assign", "(II)V"⟩ : MethodName) prog_347_method_11_code 4 none :: ws) ({ frames := 0, cells := 0, slots := 0, locals := 0 } : Room)) (fun a U => a = #[(.ref a1), (.int (1 : Int32)), (.int (0 : Int32))] ∧ Z.Warmed39 U.vm ∧ U.heap = h0) (fun _ _ _ _ _ => True) (fun _ U o U' => ∃ v L, o = .returned v ∧ Q7_10 Z a1 bb kk x0 x1 x2 x3 x4 x5 x6 x7 x8 h0 n0 v U'.heap L ∧ FrameEnd U o U' L ({ frames := 0, cells := 0, slots := 0, locals := 0 } : Room).cells ({ frames := 0, cells := 0, slots := 0, locals := 0 } : Room).slots) := by
  refine MetFree.of_bodySF (plainFor_of_name pn_7_10) hisR ?_
  intro p e s m args below meth c s₁ Bd hml0 hP hK
  obtain ⟨rfl, hZ, hh⟩ := hP
  have w12_ := hw _ (List.mem_of_getElem? (i := 12) rfl)
  have w14_ := hw _ (List.mem_of_getElem? (i := 14) rfl)
  have hx := Bd.exec
  have hby := Bd.bytes
  have hml : c.maxLocals = 4 := hml0
  have hown : s.vm.findClass "com/example/chronoscope/chronoscope/sim/Zone" = some m.cls := findClass_of_methodNamed Bd.named
  have hnm := (name_of_methodNamed Bd.named Bd.method).1
  have X0 : Stand p l e ({ frames := 0, cells := 0, slots := 0, locals := 0 } : Room) s m #[(.ref a1), (.int (1 : Int32)), (.int (0 : Int32))] below meth c s₁ [] 0 0 := Stand.of_body Bd
  have e0 : s₁.heap = h0 := by rw [← hh, Bd.state]; rfl
  have N0 := Fr.nil n0
  have pre0 : ∀ t, Steps p.tables e below (s₁.setTop (mkF m 0 #[.val (.ref a1), .val (.int (1 : Int32)), .val (.int (0 : Int32)), .unset] [])) t → Steps p.tables e below (s₁.setTop (entryFrame m #[(.ref a1), (.int (1 : Int32)), (.int (0 : Int32))] 4)) t := fun t k => castTop (ef_7_10 m a1 (1 : Int32) (0 : Int32)) k
  let Lo1 : Array Slot := #[.val (.ref a1), .val (.int (1 : Int32)), .val (.int (0 : Int32)), .unset]
  let Lo2 : Array Slot := #[.val (.ref a1), .val (.int (1 : Int32)), .val (.int (0 : Int32)), .val (.int (0 : Int32))]
  obtain ⟨T1, X1, e1, st1⟩ := getF X0 hx hZ hown (host := "") (Or.inl w12_) Via.refl e0 P1 (g := (mkF m 4 Lo2 [(.ref a1), (.int (0 : Int32))])) rfl rfl (hb hby d7_10_4)
  obtain ⟨T2, X2, e2, st2⟩ := getF X1 hx hZ hown (host := "") (Or.inl w14_) Via.refl e1 P2 (g := (mkF m 11 Lo2 [(.ref a1)])) rfl rfl (hb hby d7_10_11)
  obtain ⟨T3, X3, e3, st3⟩ := getF X2 hx hZ hown (host := "") (Or.inl w12_) Via.refl e2 P1 (g := (mkF m 16 Lo2 [(.ref a1), (.int (1 : Int32)), (.ref bb)])) rfl rfl (hb hby d7_10_16)
  obtain ⟨T4, X4, e4, st4⟩ := getF X3 hx hZ hown (host := "") (Or.inl w14_) Via.refl e3 P2 (g := (mkF m 23 Lo2 [(.ref a1), (.int (3 : Int32)), (.ref bb)])) rfl rfl (hb hby d7_10_23)
  obtain ⟨T5, X5, e5, st5⟩ := getF X4 hx hZ hown (host := "") (Or.inl w12_) Via.refl e4 P1 (g := (mkF m 28 Lo2 [(.ref a1), (.int (0 : Int32)), (.ref bb), (.int (3 : Int32)), (.ref bb)])) rfl rfl (hb hby d7_10_28)
  obtain ⟨T6, h6, X6, e6, W6, V6, st6⟩ := own_stJ X5 hx hZ e5 P3 (j := (3 : Int32)) (x := x0) (by decide) (i := 3) (by decide) (by show 3 < 9; decide) (g := (mkF m 35 Lo2 [(.long x0), (.int (3 : Int32)), (.ref bb)])) rfl rfl (hb hby d7_10_35)
  have A6 : Arv Z h6 bb kk .long (9 : Int32) [(.long x0), (.long x1), (.long x2), (.long x0), (.long x4), (.long x5), (.long x6), (.long x7), (.long x8)] (.long (0 : Int64)) := V6
  have F6_size_a1 := P1.other W6 (Or.inl ne_a1_bb)
  have F6_bounds_a1 := P2.other W6 (Or.inl ne_a1_bb)
  have E6_a1 := P0.wr W6
  have K6 : Keep h0 h6 [bb] := (Keep.refl h0 [bb]).wr W6 (Or.inl (List.mem_of_getElem? (i := 0) rfl))
  have Z6 : n0 ≤ h6.size := Nat.le_trans Z0 (Keep.of_wr W6).1
  have N6 := Fr.snoc X6 N0 g_bb
  obtain ⟨T7, X7, e7, st7⟩ := getF X6 hx hZ hown (host := "") (Or.inl w14_) Via.refl e6 F6_bounds_a1 (g := (mkF m 37 Lo2 [(.ref a1)])) rfl rfl (hb hby d7_10_37)
  obtain ⟨T8, X8, e8, st8⟩ := getF X7 hx hZ hown (host := "") (Or.inl w12_) Via.refl e7 F6_size_a1 (g := (mkF m 42 Lo2 [(.ref a1), (.int (0 : Int32)), (.ref bb)])) rfl rfl (hb hby d7_10_42)
  obtain ⟨T9, X9, e9, st9⟩ := getF X8 hx hZ hown (host := "") (Or.inl w14_) Via.refl e8 F6_bounds_a1 (g := (mkF m 49 Lo2 [(.ref a1), (.int (1 : Int32)), (.ref bb)])) rfl rfl (hb hby d7_10_49)
  obtain ⟨T10, X10, e10, st10⟩ := getF X9 hx hZ hown (host := "") (Or.inl w12_) Via.refl e9 F6_size_a1 (g := (mkF m 54 Lo2 [(.ref a1), (.int (0 : Int32)), (.ref bb), (.int (1 : Int32)), (.ref bb)])) rfl rfl (hb hby d7_10_54)
  obtain ⟨T11, h11, X11, e11, W11, V11, st11⟩ := own_stJ X10 hx hZ e10 A6 (j := (1 : Int32)) (x := x0) (by decide) (i := 1) (by decide) (by show 1 < 9; decide) (g := (mkF m 61 Lo2 [(.long x0), (.int (1 : Int32)), (.ref bb)])) rfl rfl (hb hby d7_10_61)
  have A11 : Arv Z h11 bb kk .long (9 : Int32) [(.long x0), (.long x0), (.long x2), (.long x0), (.long x4), (.long x5), (.long x6), (.long x7), (.long x8)] (.long (0 : Int64)) := V11
  have F11_size_a1 := F6_size_a1.other W11 (Or.inl ne_a1_bb)
  have F11_bounds_a1 := F6_bounds_a1.other W11 (Or.inl ne_a1_bb)
  have E11_a1 := E6_a1.wr W11
  have K11 : Keep h0 h11 [bb] := K6.wr W11 (Or.inl (List.mem_of_getElem? (i := 0) rfl))
  have Z11 : n0 ≤ h11.size := Nat.le_trans Z6 (Keep.of_wr W11).1
  have N11 := Fr.snoc X11 N6 g_bb
  let Lo3 : Array Slot := #[.val (.ref a1), .val (.int (1 : Int32)), .val (.int (0 : Int32)), .val (.int (1 : Int32))]
  obtain ⟨T12, X12, e12, st12⟩ := getF X11 hx hZ hown (host := "") (Or.inl w12_) Via.refl e11 F11_size_a1 (g := (mkF m 4 Lo3 [(.ref a1), (.int (1 : Int32))])) rfl rfl (hb hby d7_10_4)
  obtain ⟨T13, X13, e13, st13⟩ := getF X12 hx hZ hown (host := "") (Or.inl w14_) Via.refl e12 F11_bounds_a1 (g := (mkF m 11 Lo3 [(.ref a1)])) rfl rfl (hb hby d7_10_11)
  obtain ⟨T14, X14, e14, st14⟩ := getF X13 hx hZ hown (host := "") (Or.inl w12_) Via.refl e13 F11_size_a1 (g := (mkF m 16 Lo3 [(.ref a1), (.int (1 : Int32)), (.ref bb)])) rfl rfl (hb hby d7_10_16)
  obtain ⟨T15, X15, e15, st15⟩ := getF X14 hx hZ hown (host := "") (Or.inl w14_) Via.refl e14 F11_bounds_a1 (g := (mkF m 23 Lo3 [(.ref a1), (.int (4 : Int32)), (.ref bb)])) rfl rfl (hb hby d7_10_23)
  obtain ⟨T16, X16, e16, st16⟩ := getF X15 hx hZ hown (host := "") (Or.inl w12_) Via.refl e15 F11_size_a1 (g := (mkF m 28 Lo3 [(.ref a1), (.int (0 : Int32)), (.ref bb), (.int (4 : Int32)), (.ref bb)])) rfl rfl (hb hby d7_10_28)
  obtain ⟨T17, h17, X17, e17, W17, V17, st17⟩ := own_stJ X16 hx hZ e16 A11 (j := (4 : Int32)) (x := x0) (by decide) (i := 4) (by decide) (by show 4 < 9; decide) (g := (mkF m 35 Lo3 [(.long x0), (.int (4 : Int32)), (.ref bb)])) rfl rfl (hb hby d7_10_35)
  have A17 : Arv Z h17 bb kk .long (9 : Int32) [(.long x0), (.long x0), (.long x2), (.long x0), (.long x0), (.long x5), (.long x6), (.long x7), (.long x8)] (.long (0 : Int64)) := V17
  have F17_size_a1 := F11_size_a1.other W17 (Or.inl ne_a1_bb)
  have F17_bounds_a1 := F11_bounds_a1.other W17 (Or.inl ne_a1_bb)
  have E17_a1 := E11_a1.wr W17
  have K17 : Keep h0 h17 [bb] := K11.wr W17 (Or.inl (List.mem_of_getElem? (i := 0) rfl))
  have Z17 : n0 ≤ h17.size := Nat.le_trans Z11 (Keep.of_wr W17).1
  have N17 := Fr.snoc X17 N11 g_bb
  obtain ⟨T18, X18, e18, st18⟩ := getF X17 hx hZ hown (host := "") (Or.inl w14_) Via.refl e17 F17_bounds_a1 (g := (mkF m 37 Lo3 [(.ref a1)])) rfl rfl (hb hby d7_10_37)
  obtain ⟨T19, X19, e19, st19⟩ := getF X18 hx hZ hown (host := "") (Or.inl w12_) Via.refl e18 F17_size_a1 (g := (mkF m 42 Lo3 [(.ref a1), (.int (1 : Int32)), (.ref bb)])) rfl rfl (hb hby d7_10_42)
  obtain ⟨T20, X20, e20, st20⟩ := getF X19 hx hZ hown (host := "") (Or.inl w14_) Via.refl e19 F17_bounds_a1 (g := (mkF m 49 Lo3 [(.ref a1), (.int (4 : Int32)), (.ref bb)])) rfl rfl (hb hby d7_10_49)
  obtain ⟨T21, X21, e21, st21⟩ := getF X20 hx hZ hown (host := "") (Or.inl w12_) Via.refl e20 F17_size_a1 (g := (mkF m 54 Lo3 [(.ref a1), (.int (1 : Int32)), (.ref bb), (.int (4 : Int32)), (.ref bb)])) rfl rfl (hb hby d7_10_54)
  obtain ⟨T22, h22, X22, e22, W22, V22, st22⟩ := own_stJ X21 hx hZ e21 A17 (j := (4 : Int32)) (x := x0) (by decide) (i := 4) (by decide) (by show 4 < 9; decide) (g := (mkF m 61 Lo3 [(.long x0), (.int (4 : Int32)), (.ref bb)])) rfl rfl (hb hby d7_10_61)
  have A22 : Arv Z h22 bb kk .long (9 : Int32) [(.long x0), (.long x0), (.long x2), (.long x0), (.long x0), (.long x5), (.long x6), (.long x7), (.long x8)] (.long (0 : Int64)) := V22
  have F22_size_a1 := F17_size_a1.other W22 (Or.inl ne_a1_bb)
  have F22_bounds_a1 := F17_bounds_a1.other W22 (Or.inl ne_a1_bb)
  have E22_a1 := E17_a1.wr W22
  have K22 : Keep h0 h22 [bb] := K17.wr W22 (Or.inl (List.mem_of_getElem? (i := 0) rfl))
  have Z22 : n0 ≤ h22.size := Nat.le_trans Z17 (Keep.of_wr W22).1
  have N22 := Fr.snoc X22 N17 g_bb
  let Lo4 : Array Slot := #[.val (.ref a1), .val (.int (1 : Int32)), .val (.int (0 : Int32)), .val (.int (2 : Int32))]
  obtain ⟨T23, X23, e23, st23⟩ := getF X22 hx hZ hown (host := "") (Or.inl w12_) Via.refl e22 F22_size_a1 (g := (mkF m 4 Lo4 [(.ref a1), (.int (2 : Int32))])) rfl rfl (hb hby d7_10_4)
  obtain ⟨T24, X24, e24, st24⟩ := getF X23 hx hZ hown (host := "") (Or.inl w14_) Via.refl e23 F22_bounds_a1 (g := (mkF m 11 Lo4 [(.ref a1)])) rfl rfl (hb hby d7_10_11)
  obtain ⟨T25, X25, e25, st25⟩ := getF X24 hx hZ hown (host := "") (Or.inl w12_) Via.refl e24 F22_size_a1 (g := (mkF m 16 Lo4 [(.ref a1), (.int (1 : Int32)), (.ref bb)])) rfl rfl (hb hby d7_10_16)
  obtain ⟨T26, X26, e26, st26⟩ := getF X25 hx hZ hown (host := "") (Or.inl w14_) Via.refl e25 F22_bounds_a1 (g := (mkF m 23 Lo4 [(.ref a1), (.int (5 : Int32)), (.ref bb)])) rfl rfl (hb hby d7_10_23)
  obtain ⟨T27, X27, e27, st27⟩ := getF X26 hx hZ hown (host := "") (Or.inl w12_) Via.refl e26 F22_size_a1 (g := (mkF m 28 Lo4 [(.ref a1), (.int (0 : Int32)), (.ref bb), (.int (5 : Int32)), (.ref bb)])) rfl rfl (hb hby d7_10_28)
  obtain ⟨T28, h28, X28, e28, W28, V28, st28⟩ := own_stJ X27 hx hZ e27 A22 (j := (5 : Int32)) (x := x2) (by decide) (i := 5) (by decide) (by show 5 < 9; decide) (g := (mkF m 35 Lo4 [(.long x2), (.int (5 : Int32)), (.ref bb)])) rfl rfl (hb hby d7_10_35)
  have A28 : Arv Z h28 bb kk .long (9 : Int32) [(.long x0), (.long x0), (.long x2), (.long x0), (.long x0), (.long x2), (.long x6), (.long x7), (.long x8)] (.long (0 : Int64)) := V28
  have F28_size_a1 := F22_size_a1.other W28 (Or.inl ne_a1_bb)
  have F28_bounds_a1 := F22_bounds_a1.other W28 (Or.inl ne_a1_bb)
  have E28_a1 := E22_a1.wr W28
  have K28 : Keep h0 h28 [bb] := K22.wr W28 (Or.inl (List.mem_of_getElem? (i := 0) rfl))
  have Z28 : n0 ≤ h28.size := Nat.le_trans Z22 (Keep.of_wr W28).1
  have N28 := Fr.snoc X28 N22 g_bb
  obtain ⟨T29, X29, e29, st29⟩ := getF X28 hx hZ hown (host := "") (Or.inl w14_) Via.refl e28 F28_bounds_a1 (g := (mkF m 37 Lo4 [(.ref a1)])) rfl rfl (hb hby d7_10_37)
  obtain ⟨T30, X30, e30, st30⟩ := getF X29 hx hZ hown (host := "") (Or.inl w12_) Via.refl e29 F28_size_a1 (g := (mkF m 42 Lo4 [(.ref a1), (.int (2 : Int32)), (.ref bb)])) rfl rfl (hb hby d7_10_42)
  obtain ⟨T31, X31, e31, st31⟩ := getF X30 hx hZ hown (host := "") (Or.inl w14_) Via.refl e30 F28_bounds_a1 (g := (mkF m 49 Lo4 [(.ref a1), (.int (7 : Int32)), (.ref bb)])) rfl rfl (hb hby d7_10_49)
  obtain ⟨T32, X32, e32, st32⟩ := getF X31 hx hZ hown (host := "") (Or.inl w12_) Via.refl e31 F28_size_a1 (g := (mkF m 54 Lo4 [(.ref a1), (.int (2 : Int32)), (.ref bb), (.int (7 : Int32)), (.ref bb)])) rfl rfl (hb hby d7_10_54)
  obtain ⟨T33, h33, X33, e33, W33, V33, st33⟩ := own_stJ X32 hx hZ e32 A28 (j := (7 : Int32)) (x := x6) (by decide) (i := 7) (by decide) (by show 7 < 9; decide) (g := (mkF m 61 Lo4 [(.long x6), (.int (7 : Int32)), (.ref bb)])) rfl rfl (hb hby d7_10_61)
  have A33 : Arv Z h33 bb kk .long (9 : Int32) [(.long x0), (.long x0), (.long x2), (.long x0), (.long x0), (.long x2), (.long x6), (.long x6), (.long x8)] (.long (0 : Int64)) := V33
  have F33_size_a1 := F28_size_a1.other W33 (Or.inl ne_a1_bb)
  have F33_bounds_a1 := F28_bounds_a1.other W33 (Or.inl ne_a1_bb)
  have E33_a1 := E28_a1.wr W33
  have K33 : Keep h0 h33 [bb] := K28.wr W33 (Or.inl (List.mem_of_getElem? (i := 0) rfl))
  have Z33 : n0 ≤ h33.size := Nat.le_trans Z28 (Keep.of_wr W33).1
  have N33 := Fr.snoc X33 N28 g_bb
  let Lo5 : Array Slot := #[.val (.ref a1), .val (.int (1 : Int32)), .val (.int (0 : Int32)), .val (.int (3 : Int32))]
  obtain ⟨T34, X34, e34, st34⟩ := getF X33 hx hZ hown (host := "") (Or.inl w12_) Via.refl e33 F33_size_a1 (g := (mkF m 4 Lo5 [(.ref a1), (.int (3 : Int32))])) rfl rfl (hb hby d7_10_4)
  obtain ⟨T35, X35, e35, st35⟩ := getF X34 hx hZ hown (host := "") (Or.inl w14_) Via.refl e34 F33_bounds_a1 (g := (mkF m 69 Lo5 [(.ref a1)])) rfl rfl (hb hby d7_10_69)
  obtain ⟨T36, X36, e36, st36⟩ := getF X35 hx hZ hown (host := "") (Or.inl w12_) Via.refl e35 F33_size_a1 (g := (mkF m 74 Lo5 [(.ref a1), (.int (1 : Int32)), (.ref bb)])) rfl rfl (hb hby d7_10_74)
  obtain ⟨T37, h37, X37, e37, W37, V37, st37⟩ := own_stJ X36 hx hZ e36 A33 (j := (4 : Int32)) (x := (0 : Int64)) (by decide) (i := 4) (by decide) (by show 4 < 9; decide) (g := (mkF m 81 Lo5 [(.long (0 : Int64)), (.int (4 : Int32)), (.ref bb)])) rfl rfl (hb hby d7_10_81)
  have A37 : Arv Z h37 bb kk .long (9 : Int32) [(.long x0), (.long x0), (.long x2), (.long x0), (.long (0 : Int64)), (.long x2), (.long x6), (.long x6), (.long x8)] (.long (0 : Int64)) := V37
  have F37_size_a1 := F33_size_a1.other W37 (Or.inl ne_a1_bb)
  have F37_bounds_a1 := F33_bounds_a1.other W37 (Or.inl ne_a1_bb)
  have E37_a1 := E33_a1.wr W37
  have K37 : Keep h0 h37 [bb] := K33.wr W37 (Or.inl (List.mem_of_getElem? (i := 0) rfl))
  have Z37 : n0 ≤ h37.size := Nat.le_trans Z33 (Keep.of_wr W37).1
  have N37 := Fr.snoc X37 N33 g_bb
  obtain ⟨fs, hr, hrun, hended, hW, hsame⟩ := X37.leave (v := none) (fun _ => rfl)
  refine ⟨_, _, pre0 _ ?_, hrun, hended, _, _, rfl, ?_, ⟨_, rfl⟩, hW, hsame.mono (by decide) (by decide)⟩
  · show Steps p.tables e below (s₁.setTop (mkF m 0 Lo1 [])) _
    refine XS.iconst X0.here hx rfl (hb hby d7_10_0) ?_
    show Steps p.tables e below (s₁.setTop (mkF m 1 Lo1 [(.int (0 : Int32))])) _
    refine XS.istoreN X0.here hx rfl (hb hby d7_10_1) rfl (l' := Lo2) rfl ?_
    show Steps p.tables e below (s₁.setTop (mkF m 2 Lo2 [])) _
    refine XS.iloadN X0.here hx rfl (hb hby d7_10_2) rfl ?_
    show Steps p.tables e below (s₁.setTop (mkF m 3 Lo2 [(.int (0 : Int32))])) _
    refine XS.aloadN X0.here hx rfl (hb hby d7_10_3) rfl rfl ?_
    show Steps p.tables e below (s₁.setTop (mkF m 4 Lo2 [(.ref a1), (.int (0 : Int32))])) _
    refine st1 _ ?_
    show Steps p.tables e below (T1.setTop (mkF m 7 Lo2 [(.int (3 : Int32)), (.int (0 : Int32))])) _
    refine XS.icmpNo X1.here hx rfl (hb hby d7_10_7) rfl (by first | rfl | decide) ?_
    show Steps p.tables e below (T1.setTop (mkF m 10 Lo2 [])) _
    refine XS.aloadN X1.here hx rfl (hb hby d7_10_10) rfl rfl ?_
    show Steps p.tables e below (T1.setTop (mkF m 11 Lo2 [(.ref a1)])) _
    refine st2 _ ?_
    show Steps p.tables e below (T2.setTop (mkF m 14 Lo2 [(.ref bb)])) _
    refine XS.iloadN X2.here hx rfl (hb hby d7_10_14) rfl ?_
    show Steps p.tables e below (T2.setTop (mkF m 15 Lo2 [(.int (1 : Int32)), (.ref bb)])) _
    refine XS.aloadN X2.here hx rfl (hb hby d7_10_15) rfl rfl ?_
    show Steps p.tables e below (T2.setTop (mkF m 16 Lo2 [(.ref a1), (.int (1 : Int32)), (.ref bb)])) _
    refine st3 _ ?_
    show Steps p.tables e below (T3.setTop (mkF m 19 Lo2 [(.int (3 : Int32)), (.int (1 : Int32)), (.ref bb)])) _
    refine XS.imul X3.here hx rfl (hb hby d7_10_19) rfl ?_
    show Steps p.tables e below (T3.setTop (mkF m 20 Lo2 [(.int (3 : Int32)), (.ref bb)])) _
    refine XS.iloadN X3.here hx rfl (hb hby d7_10_20) rfl ?_
    show Steps p.tables e below (T3.setTop (mkF m 21 Lo2 [(.int (0 : Int32)), (.int (3 : Int32)), (.ref bb)])) _
    refine XS.iadd X3.here hx rfl (hb hby d7_10_21) rfl ?_
    show Steps p.tables e below (T3.setTop (mkF m 22 Lo2 [(.int (3 : Int32)), (.ref bb)])) _
    refine XS.aloadN X3.here hx rfl (hb hby d7_10_22) rfl rfl ?_
    show Steps p.tables e below (T3.setTop (mkF m 23 Lo2 [(.ref a1), (.int (3 : Int32)), (.ref bb)])) _
    refine st4 _ ?_
    show Steps p.tables e below (T4.setTop (mkF m 26 Lo2 [(.ref bb), (.int (3 : Int32)), (.ref bb)])) _
    refine XS.iloadN X4.here hx rfl (hb hby d7_10_26) rfl ?_
    show Steps p.tables e below (T4.setTop (mkF m 27 Lo2 [(.int (0 : Int32)), (.ref bb), (.int (3 : Int32)), (.ref bb)])) _
    refine XS.aloadN X4.here hx rfl (hb hby d7_10_27) rfl rfl ?_
    show Steps p.tables e below (T4.setTop (mkF m 28 Lo2 [(.ref a1), (.int (0 : Int32)), (.ref bb), (.int (3 : Int32)), (.ref bb)])) _
    refine st5 _ ?_
    show Steps p.tables e below (T5.setTop (mkF m 31 Lo2 [(.int (3 : Int32)), (.int (0 : Int32)), (.ref bb), (.int (3 : Int32)), (.ref bb)])) _
    refine XS.imul X5.here hx rfl (hb hby d7_10_31) rfl ?_
    show Steps p.tables e below (T5.setTop (mkF m 32 Lo2 [(.int (0 : Int32)), (.ref bb), (.int (3 : Int32)), (.ref bb)])) _
    refine XS.iloadN X5.here hx rfl (hb hby d7_10_32) rfl ?_
    show Steps p.tables e below (T5.setTop (mkF m 33 Lo2 [(.int (0 : Int32)), (.int (0 : Int32)), (.ref bb), (.int (3 : Int32)), (.ref bb)])) _
    refine XS.iadd X5.here hx rfl (hb hby d7_10_33) rfl ?_
    show Steps p.tables e below (T5.setTop (mkF m 34 Lo2 [(.int (0 : Int32)), (.ref bb), (.int (3 : Int32)), (.ref bb)])) _
    refine own_ldJ X5 hx hZ e5 P3 (j := (0 : Int32)) (by decide) (w := x0) rfl (g := (mkF m 34 Lo2 [(.int (0 : Int32)), (.ref bb), (.int (3 : Int32)), (.ref bb)])) rfl rfl (hb hby d7_10_34) _ ?_
    show Steps p.tables e below (T5.setTop (mkF m 35 Lo2 [(.long x0), (.int (3 : Int32)), (.ref bb)])) _
    refine st6 _ ?_
    show Steps p.tables e below (T6.setTop (mkF m 36 Lo2 [])) _
    refine XS.aloadN X6.here hx rfl (hb hby d7_10_36) rfl rfl ?_
    show Steps p.tables e below (T6.setTop (mkF m 37 Lo2 [(.ref a1)])) _
    refine st7 _ ?_
    show Steps p.tables e below (T7.setTop (mkF m 40 Lo2 [(.ref bb)])) _
    refine XS.iloadN X7.here hx rfl (hb hby d7_10_40) rfl ?_
    show Steps p.tables e below (T7.setTop (mkF m 41 Lo2 [(.int (0 : Int32)), (.ref bb)])) _
    refine XS.aloadN X7.here hx rfl (hb hby d7_10_41) rfl rfl ?_
    show Steps p.tables e below (T7.setTop (mkF m 42 Lo2 [(.ref a1), (.int (0 : Int32)), (.ref bb)])) _
    refine st8 _ ?_
    show Steps p.tables e below (T8.setTop (mkF m 45 Lo2 [(.int (3 : Int32)), (.int (0 : Int32)), (.ref bb)])) _
    refine XS.imul X8.here hx rfl (hb hby d7_10_45) rfl ?_
    show Steps p.tables e below (T8.setTop (mkF m 46 Lo2 [(.int (0 : Int32)), (.ref bb)])) _
    refine XS.iloadN X8.here hx rfl (hb hby d7_10_46) rfl ?_
    show Steps p.tables e below (T8.setTop (mkF m 47 Lo2 [(.int (1 : Int32)), (.int (0 : Int32)), (.ref bb)])) _
    refine XS.iadd X8.here hx rfl (hb hby d7_10_47) rfl ?_
    show Steps p.tables e below (T8.setTop (mkF m 48 Lo2 [(.int (1 : Int32)), (.ref bb)])) _
    refine XS.aloadN X8.here hx rfl (hb hby d7_10_48) rfl rfl ?_
    show Steps p.tables e below (T8.setTop (mkF m 49 Lo2 [(.ref a1), (.int (1 : Int32)), (.ref bb)])) _
    refine st9 _ ?_
    show Steps p.tables e below (T9.setTop (mkF m 52 Lo2 [(.ref bb), (.int (1 : Int32)), (.ref bb)])) _
    refine XS.iloadN X9.here hx rfl (hb hby d7_10_52) rfl ?_
    show Steps p.tables e below (T9.setTop (mkF m 53 Lo2 [(.int (0 : Int32)), (.ref bb), (.int (1 : Int32)), (.ref bb)])) _
    refine XS.aloadN X9.here hx rfl (hb hby d7_10_53) rfl rfl ?_
    show Steps p.tables e below (T9.setTop (mkF m 54 Lo2 [(.ref a1), (.int (0 : Int32)), (.ref bb), (.int (1 : Int32)), (.ref bb)])) _
    refine st10 _ ?_
    show Steps p.tables e below (T10.setTop (mkF m 57 Lo2 [(.int (3 : Int32)), (.int (0 : Int32)), (.ref bb), (.int (1 : Int32)), (.ref bb)])) _
    refine XS.imul X10.here hx rfl (hb hby d7_10_57) rfl ?_
    show Steps p.tables e below (T10.setTop (mkF m 58 Lo2 [(.int (0 : Int32)), (.ref bb), (.int (1 : Int32)), (.ref bb)])) _
    refine XS.iloadN X10.here hx rfl (hb hby d7_10_58) rfl ?_
    show Steps p.tables e below (T10.setTop (mkF m 59 Lo2 [(.int (0 : Int32)), (.int (0 : Int32)), (.ref bb), (.int (1 : Int32)), (.ref bb)])) _
    refine XS.iadd X10.here hx rfl (hb hby d7_10_59) rfl ?_
    show Steps p.tables e below (T10.setTop (mkF m 60 Lo2 [(.int (0 : Int32)), (.ref bb), (.int (1 : Int32)), (.ref bb)])) _
    refine own_ldJ X10 hx hZ e10 A6 (j := (0 : Int32)) (by decide) (w := x0) rfl (g := (mkF m 60 Lo2 [(.int (0 : Int32)), (.ref bb), (.int (1 : Int32)), (.ref bb)])) rfl rfl (hb hby d7_10_60) _ ?_
    show Steps p.tables e below (T10.setTop (mkF m 61 Lo2 [(.long x0), (.int (1 : Int32)), (.ref bb)])) _
    refine st11 _ ?_
    show Steps p.tables e below (T11.setTop (mkF m 62 Lo2 [])) _
    refine XS.iinc X11.here hx rfl (hb hby d7_10_62) rfl (l' := Lo3) rfl ?_
    show Steps p.tables e below (T11.setTop (mkF m 65 Lo3 [])) _
    refine XS.goto X11.here hx rfl (pc0 := 65) (pc' := 2) rfl (hb hby d7_10_65) (by decide) (by decide) ?_
    show Steps p.tables e below (T11.setTop (mkF m 2 Lo3 [])) _
    refine XS.iloadN X11.here hx rfl (hb hby d7_10_2) rfl ?_
    show Steps p.tables e below (T11.setTop (mkF m 3 Lo3 [(.int (1 : Int32))])) _
    refine XS.aloadN X11.here hx rfl (hb hby d7_10_3) rfl rfl ?_
    show Steps p.tables e below (T11.setTop (mkF m 4 Lo3 [(.ref a1), (.int (1 : Int32))])) _
    refine st12 _ ?_
    show Steps p.tables e below (T12.setTop (mkF m 7 Lo3 [(.int (3 : Int32)), (.int (1 : Int32))])) _
    refine XS.icmpNo X12.here hx rfl (hb hby d7_10_7) rfl (by first | rfl | decide) ?_
    show Steps p.tables e below (T12.setTop (mkF m 10 Lo3 [])) _
    refine XS.aloadN X12.here hx rfl (hb hby d7_10_10) rfl rfl ?_
    show Steps p.tables e below (T12.setTop (mkF m 11 Lo3 [(.ref a1)])) _
    refine st13 _ ?_
    show Steps p.tables e below (T13.setTop (mkF m 14 Lo3 [(.ref bb)])) _
    refine XS.iloadN X13.here hx rfl (hb hby d7_10_14) rfl ?_
    show Steps p.tables e below (T13.setTop (mkF m 15 Lo3 [(.int (1 : Int32)), (.ref bb)])) _
    refine XS.aloadN X13.here hx rfl (hb hby d7_10_15) rfl rfl ?_
    show Steps p.tables e below (T13.setTop (mkF m 16 Lo3 [(.ref a1), (.int (1 : Int32)), (.ref bb)])) _
    refine st14 _ ?_
    show Steps p.tables e below (T14.setTop (mkF m 19 Lo3 [(.int (3 : Int32)), (.int (1 : Int32)), (.ref bb)])) _
    refine XS.imul X14.here hx rfl (hb hby d7_10_19) rfl ?_
    show Steps p.tables e below (T14.setTop (mkF m 20 Lo3 [(.int (3 : Int32)), (.ref bb)])) _
    refine XS.iloadN X14.here hx rfl (hb hby d7_10_20) rfl ?_
    show Steps p.tables e below (T14.setTop (mkF m 21 Lo3 [(.int (1 : Int32)), (.int (3 : Int32)), (.ref bb)])) _
    refine XS.iadd X14.here hx rfl (hb hby d7_10_21) rfl ?_
    show Steps p.tables e below (T14.setTop (mkF m 22 Lo3 [(.int (4 : Int32)), (.ref bb)])) _
    refine XS.aloadN X14.here hx rfl (hb hby d7_10_22) rfl rfl ?_
    show Steps p.tables e below (T14.setTop (mkF m 23 Lo3 [(.ref a1), (.int (4 : Int32)), (.ref bb)])) _
    refine st15 _ ?_
    show Steps p.tables e below (T15.setTop (mkF m 26 Lo3 [(.ref bb), (.int (4 : Int32)), (.ref bb)])) _
    refine XS.iloadN X15.here hx rfl (hb hby d7_10_26) rfl ?_
    show Steps p.tables e below (T15.setTop (mkF m 27 Lo3 [(.int (0 : Int32)), (.ref bb), (.int (4 : Int32)), (.ref bb)])) _
    refine XS.aloadN X15.here hx rfl (hb hby d7_10_27) rfl rfl ?_
    show Steps p.tables e below (T15.setTop (mkF m 28 Lo3 [(.ref a1), (.int (0 : Int32)), (.ref bb), (.int (4 : Int32)), (.ref bb)])) _
    refine st16 _ ?_
    show Steps p.tables e below (T16.setTop (mkF m 31 Lo3 [(.int (3 : Int32)), (.int (0 : Int32)), (.ref bb), (.int (4 : Int32)), (.ref bb)])) _
    refine XS.imul X16.here hx rfl (hb hby d7_10_31) rfl ?_
    show Steps p.tables e below (T16.setTop (mkF m 32 Lo3 [(.int (0 : Int32)), (.ref bb), (.int (4 : Int32)), (.ref bb)])) _
    refine XS.iloadN X16.here hx rfl (hb hby d7_10_32) rfl ?_
    show Steps p.tables e below (T16.setTop (mkF m 33 Lo3 [(.int (1 : Int32)), (.int (0 : Int32)), (.ref bb), (.int (4 : Int32)), (.ref bb)])) _
    refine XS.iadd X16.here hx rfl (hb hby d7_10_33) rfl ?_
    show Steps p.tables e below (T16.setTop (mkF m 34 Lo3 [(.int (1 : Int32)), (.ref bb), (.int (4 : Int32)), (.ref bb)])) _
    refine own_ldJ X16 hx hZ e16 A11 (j := (1 : Int32)) (by decide) (w := x0) rfl (g := (mkF m 34 Lo3 [(.int (1 : Int32)), (.ref bb), (.int (4 : Int32)), (.ref bb)])) rfl rfl (hb hby d7_10_34) _ ?_
    show Steps p.tables e below (T16.setTop (mkF m 35 Lo3 [(.long x0), (.int (4 : Int32)), (.ref bb)])) _
    refine st17 _ ?_
    show Steps p.tables e below (T17.setTop (mkF m 36 Lo3 [])) _
    refine XS.aloadN X17.here hx rfl (hb hby d7_10_36) rfl rfl ?_
    show Steps p.tables e below (T17.setTop (mkF m 37 Lo3 [(.ref a1)])) _
    refine st18 _ ?_
    show Steps p.tables e below (T18.setTop (mkF m 40 Lo3 [(.ref bb)])) _
    refine XS.iloadN X18.here hx rfl (hb hby d7_10_40) rfl ?_
    show Steps p.tables e below (T18.setTop (mkF m 41 Lo3 [(.int (1 : Int32)), (.ref bb)])) _
    refine XS.aloadN X18.here hx rfl (hb hby d7_10_41) rfl rfl ?_
    show Steps p.tables e below (T18.setTop (mkF m 42 Lo3 [(.ref a1), (.int (1 : Int32)), (.ref bb)])) _
    refine st19 _ ?_
    show Steps p.tables e below (T19.setTop (mkF m 45 Lo3 [(.int (3 : Int32)), (.int (1 : Int32)), (.ref bb)])) _
    refine XS.imul X19.here hx rfl (hb hby d7_10_45) rfl ?_
    show Steps p.tables e below (T19.setTop (mkF m 46 Lo3 [(.int (3 : Int32)), (.ref bb)])) _
    refine XS.iloadN X19.here hx rfl (hb hby d7_10_46) rfl ?_
    show Steps p.tables e below (T19.setTop (mkF m 47 Lo3 [(.int (1 : Int32)), (.int (3 : Int32)), (.ref bb)])) _
    refine XS.iadd X19.here hx rfl (hb hby d7_10_47) rfl ?_
    show Steps p.tables e below (T19.setTop (mkF m 48 Lo3 [(.int (4 : Int32)), (.ref bb)])) _
    refine XS.aloadN X19.here hx rfl (hb hby d7_10_48) rfl rfl ?_
    show Steps p.tables e below (T19.setTop (mkF m 49 Lo3 [(.ref a1), (.int (4 : Int32)), (.ref bb)])) _
    refine st20 _ ?_
    show Steps p.tables e below (T20.setTop (mkF m 52 Lo3 [(.ref bb), (.int (4 : Int32)), (.ref bb)])) _
    refine XS.iloadN X20.here hx rfl (hb hby d7_10_52) rfl ?_
    show Steps p.tables e below (T20.setTop (mkF m 53 Lo3 [(.int (1 : Int32)), (.ref bb), (.int (4 : Int32)), (.ref bb)])) _
    refine XS.aloadN X20.here hx rfl (hb hby d7_10_53) rfl rfl ?_
    show Steps p.tables e below (T20.setTop (mkF m 54 Lo3 [(.ref a1), (.int (1 : Int32)), (.ref bb), (.int (4 : Int32)), (.ref bb)])) _
    refine st21 _ ?_
    show Steps p.tables e below (T21.setTop (mkF m 57 Lo3 [(.int (3 : Int32)), (.int (1 : Int32)), (.ref bb), (.int (4 : Int32)), (.ref bb)])) _
    refine XS.imul X21.here hx rfl (hb hby d7_10_57) rfl ?_
    show Steps p.tables e below (T21.setTop (mkF m 58 Lo3 [(.int (3 : Int32)), (.ref bb), (.int (4 : Int32)), (.ref bb)])) _
    refine XS.iloadN X21.here hx rfl (hb hby d7_10_58) rfl ?_
    show Steps p.tables e below (T21.setTop (mkF m 59 Lo3 [(.int (0 : Int32)), (.int (3 : Int32)), (.ref bb), (.int (4 : Int32)), (.ref bb)])) _
    refine XS.iadd X21.here hx rfl (hb hby d7_10_59) rfl ?_
    show Steps p.tables e below (T21.setTop (mkF m 60 Lo3 [(.int (3 : Int32)), (.ref bb), (.int (4 : Int32)), (.ref bb)])) _
    refine own_ldJ X21 hx hZ e21 A17 (j := (3 : Int32)) (by decide) (w := x0) rfl (g := (mkF m 60 Lo3 [(.int (3 : Int32)), (.ref bb), (.int (4 : Int32)), (.ref bb)])) rfl rfl (hb hby d7_10_60) _ ?_
    show Steps p.tables e below (T21.setTop (mkF m 61 Lo3 [(.long x0), (.int (4 : Int32)), (.ref bb)])) _
    refine st22 _ ?_
    show Steps p.tables e below (T22.setTop (mkF m 62 Lo3 [])) _
    refine XS.iinc X22.here hx rfl (hb hby d7_10_62) rfl (l' := Lo4) rfl ?_
    show Steps p.tables e below (T22.setTop (mkF m 65 Lo4 [])) _
    refine XS.goto X22.here hx rfl (pc0 := 65) (pc' := 2) rfl (hb hby d7_10_65) (by decide) (by decide) ?_
    show Steps p.tables e below (T22.setTop (mkF m 2 Lo4 [])) _
    refine XS.iloadN X22.here hx rfl (hb hby d7_10_2) rfl ?_
    show Steps p.tables e below (T22.setTop (mkF m 3 Lo4 [(.int (2 : Int32))])) _
    refine XS.aloadN X22.here hx rfl (hb hby d7_10_3) rfl rfl ?_
    show Steps p.tables e below (T22.setTop (mkF m 4 Lo4 [(.ref a1), (.int (2 : Int32))])) _
    refine st23 _ ?_
    show Steps p.tables e below (T23.setTop (mkF m 7 Lo4 [(.int (3 : Int32)), (.int (2 : Int32))])) _
    refine XS.icmpNo X23.here hx rfl (hb hby d7_10_7) rfl (by first | rfl | decide) ?_
    show Steps p.tables e below (T23.setTop (mkF m 10 Lo4 [])) _
    refine XS.aloadN X23.here hx rfl (hb hby d7_10_10) rfl rfl ?_
    show Steps p.tables e below (T23.setTop (mkF m 11 Lo4 [(.ref a1)])) _
    refine st24 _ ?_
    show Steps p.tables e below (T24.setTop (mkF m 14 Lo4 [(.ref bb)])) _
    refine XS.iloadN X24.here hx rfl (hb hby d7_10_14) rfl ?_
    show Steps p.tables e below (T24.setTop (mkF m 15 Lo4 [(.int (1 : Int32)), (.ref bb)])) _
    refine XS.aloadN X24.here hx rfl (hb hby d7_10_15) rfl rfl ?_
    show Steps p.tables e below (T24.setTop (mkF m 16 Lo4 [(.ref a1), (.int (1 : Int32)), (.ref bb)])) _
    refine st25 _ ?_
    show Steps p.tables e below (T25.setTop (mkF m 19 Lo4 [(.int (3 : Int32)), (.int (1 : Int32)), (.ref bb)])) _
    refine XS.imul X25.here hx rfl (hb hby d7_10_19) rfl ?_
    show Steps p.tables e below (T25.setTop (mkF m 20 Lo4 [(.int (3 : Int32)), (.ref bb)])) _
    refine XS.iloadN X25.here hx rfl (hb hby d7_10_20) rfl ?_
    show Steps p.tables e below (T25.setTop (mkF m 21 Lo4 [(.int (2 : Int32)), (.int (3 : Int32)), (.ref bb)])) _
    refine XS.iadd X25.here hx rfl (hb hby d7_10_21) rfl ?_
    show Steps p.tables e below (T25.setTop (mkF m 22 Lo4 [(.int (5 : Int32)), (.ref bb)])) _
    refine XS.aloadN X25.here hx rfl (hb hby d7_10_22) rfl rfl ?_
    show Steps p.tables e below (T25.setTop (mkF m 23 Lo4 [(.ref a1), (.int (5 : Int32)), (.ref bb)])) _
    refine st26 _ ?_
    show Steps p.tables e below (T26.setTop (mkF m 26 Lo4 [(.ref bb), (.int (5 : Int32)), (.ref bb)])) _
    refine XS.iloadN X26.here hx rfl (hb hby d7_10_26) rfl ?_
    show Steps p.tables e below (T26.setTop (mkF m 27 Lo4 [(.int (0 : Int32)), (.ref bb), (.int (5 : Int32)), (.ref bb)])) _
    refine XS.aloadN X26.here hx rfl (hb hby d7_10_27) rfl rfl ?_
    show Steps p.tables e below (T26.setTop (mkF m 28 Lo4 [(.ref a1), (.int (0 : Int32)), (.ref bb), (.int (5 : Int32)), (.ref bb)])) _
    refine st27 _ ?_
    show Steps p.tables e below (T27.setTop (mkF m 31 Lo4 [(.int (3 : Int32)), (.int (0 : Int32)), (.ref bb), (.int (5 : Int32)), (.ref bb)])) _
    refine XS.imul X27.here hx rfl (hb hby d7_10_31) rfl ?_
    show Steps p.tables e below (T27.setTop (mkF m 32 Lo4 [(.int (0 : Int32)), (.ref bb), (.int (5 : Int32)), (.ref bb)])) _
    refine XS.iloadN X27.here hx rfl (hb hby d7_10_32) rfl ?_
    show Steps p.tables e below (T27.setTop (mkF m 33 Lo4 [(.int (2 : Int32)), (.int (0 : Int32)), (.ref bb), (.int (5 : Int32)), (.ref bb)])) _
    refine XS.iadd X27.here hx rfl (hb hby d7_10_33) rfl ?_
    show Steps p.tables e below (T27.setTop (mkF m 34 Lo4 [(.int (2 : Int32)), (.ref bb), (.int (5 : Int32)), (.ref bb)])) _
    refine own_ldJ X27 hx hZ e27 A22 (j := (2 : Int32)) (by decide) (w := x2) rfl (g := (mkF m 34 Lo4 [(.int (2 : Int32)), (.ref bb), (.int (5 : Int32)), (.ref bb)])) rfl rfl (hb hby d7_10_34) _ ?_
    show Steps p.tables e below (T27.setTop (mkF m 35 Lo4 [(.long x2), (.int (5 : Int32)), (.ref bb)])) _
    refine st28 _ ?_
    show Steps p.tables e below (T28.setTop (mkF m 36 Lo4 [])) _
    refine XS.aloadN X28.here hx rfl (hb hby d7_10_36) rfl rfl ?_
    show Steps p.tables e below (T28.setTop (mkF m 37 Lo4 [(.ref a1)])) _
    refine st29 _ ?_
    show Steps p.tables e below (T29.setTop (mkF m 40 Lo4 [(.ref bb)])) _
    refine XS.iloadN X29.here hx rfl (hb hby d7_10_40) rfl ?_
    show Steps p.tables e below (T29.setTop (mkF m 41 Lo4 [(.int (2 : Int32)), (.ref bb)])) _
    refine XS.aloadN X29.here hx rfl (hb hby d7_10_41) rfl rfl ?_
    show Steps p.tables e below (T29.setTop (mkF m 42 Lo4 [(.ref a1), (.int (2 : Int32)), (.ref bb)])) _
    refine st30 _ ?_
    show Steps p.tables e below (T30.setTop (mkF m 45 Lo4 [(.int (3 : Int32)), (.int (2 : Int32)), (.ref bb)])) _
    refine XS.imul X30.here hx rfl (hb hby d7_10_45) rfl ?_
    show Steps p.tables e below (T30.setTop (mkF m 46 Lo4 [(.int (6 : Int32)), (.ref bb)])) _
    refine XS.iloadN X30.here hx rfl (hb hby d7_10_46) rfl ?_
    show Steps p.tables e below (T30.setTop (mkF m 47 Lo4 [(.int (1 : Int32)), (.int (6 : Int32)), (.ref bb)])) _
    refine XS.iadd X30.here hx rfl (hb hby d7_10_47) rfl ?_
    show Steps p.tables e below (T30.setTop (mkF m 48 Lo4 [(.int (7 : Int32)), (.ref bb)])) _
    refine XS.aloadN X30.here hx rfl (hb hby d7_10_48) rfl rfl ?_
    show Steps p.tables e below (T30.setTop (mkF m 49 Lo4 [(.ref a1), (.int (7 : Int32)), (.ref bb)])) _
    refine st31 _ ?_
    show Steps p.tables e below (T31.setTop (mkF m 52 Lo4 [(.ref bb), (.int (7 : Int32)), (.ref bb)])) _
    refine XS.iloadN X31.here hx rfl (hb hby d7_10_52) rfl ?_
    show Steps p.tables e below (T31.setTop (mkF m 53 Lo4 [(.int (2 : Int32)), (.ref bb), (.int (7 : Int32)), (.ref bb)])) _
    refine XS.aloadN X31.here hx rfl (hb hby d7_10_53) rfl rfl ?_
    show Steps p.tables e below (T31.setTop (mkF m 54 Lo4 [(.ref a1), (.int (2 : Int32)), (.ref bb), (.int (7 : Int32)), (.ref bb)])) _
    refine st32 _ ?_
    show Steps p.tables e below (T32.setTop (mkF m 57 Lo4 [(.int (3 : Int32)), (.int (2 : Int32)), (.ref bb), (.int (7 : Int32)), (.ref bb)])) _
    refine XS.imul X32.here hx rfl (hb hby d7_10_57) rfl ?_
    show Steps p.tables e below (T32.setTop (mkF m 58 Lo4 [(.int (6 : Int32)), (.ref bb), (.int (7 : Int32)), (.ref bb)])) _
    refine XS.iloadN X32.here hx rfl (hb hby d7_10_58) rfl ?_
    show Steps p.tables e below (T32.setTop (mkF m 59 Lo4 [(.int (0 : Int32)), (.int (6 : Int32)), (.ref bb), (.int (7 : Int32)), (.ref bb)])) _
    refine XS.iadd X32.here hx rfl (hb hby d7_10_59) rfl ?_
    show Steps p.tables e below (T32.setTop (mkF m 60 Lo4 [(.int (6 : Int32)), (.ref bb), (.int (7 : Int32)), (.ref bb)])) _
    refine own_ldJ X32 hx hZ e32 A28 (j := (6 : Int32)) (by decide) (w := x6) rfl (g := (mkF m 60 Lo4 [(.int (6 : Int32)), (.ref bb), (.int (7 : Int32)), (.ref bb)])) rfl rfl (hb hby d7_10_60) _ ?_
    show Steps p.tables e below (T32.setTop (mkF m 61 Lo4 [(.long x6), (.int (7 : Int32)), (.ref bb)])) _
    refine st33 _ ?_
    show Steps p.tables e below (T33.setTop (mkF m 62 Lo4 [])) _
    refine XS.iinc X33.here hx rfl (hb hby d7_10_62) rfl (l' := Lo5) rfl ?_
    show Steps p.tables e below (T33.setTop (mkF m 65 Lo5 [])) _
    refine XS.goto X33.here hx rfl (pc0 := 65) (pc' := 2) rfl (hb hby d7_10_65) (by decide) (by decide) ?_
    show Steps p.tables e below (T33.setTop (mkF m 2 Lo5 [])) _
    refine XS.iloadN X33.here hx rfl (hb hby d7_10_2) rfl ?_
    show Steps p.tables e below (T33.setTop (mkF m 3 Lo5 [(.int (3 : Int32))])) _
    refine XS.aloadN X33.here hx rfl (hb hby d7_10_3) rfl rfl ?_
    show Steps p.tables e below (T33.setTop (mkF m 4 Lo5 [(.ref a1), (.int (3 : Int32))])) _
    refine st34 _ ?_
    show Steps p.tables e below (T34.setTop (mkF m 7 Lo5 [(.int (3 : Int32)), (.int (3 : Int32))])) _
    refine XS.icmpYes X34.here hx rfl (pc0 := 7) (pc' := 68) rfl (hb hby d7_10_7) rfl (by first | rfl | decide) (by decide) (by decide) ?_
    show Steps p.tables e below (T34.setTop (mkF m 68 Lo5 [])) _
    refine XS.aloadN X34.here hx rfl (hb hby d7_10_68) rfl rfl ?_
    show Steps p.tables e below (T34.setTop (mkF m 69 Lo5 [(.ref a1)])) _
    refine st35 _ ?_
    show Steps p.tables e below (T35.setTop (mkF m 72 Lo5 [(.ref bb)])) _
    refine XS.iloadN X35.here hx rfl (hb hby d7_10_72) rfl ?_
    show Steps p.tables e below (T35.setTop (mkF m 73 Lo5 [(.int (1 : Int32)), (.ref bb)])) _
    refine XS.aloadN X35.here hx rfl (hb hby d7_10_73) rfl rfl ?_
    show Steps p.tables e below (T35.setTop (mkF m 74 Lo5 [(.ref a1), (.int (1 : Int32)), (.ref bb)])) _
    refine st36 _ ?_
    show Steps p.tables e below (T36.setTop (mkF m 77 Lo5 [(.int (3 : Int32)), (.int (1 : Int32)), (.ref bb)])) _
    refine XS.imul X36.here hx rfl (hb hby d7_10_77) rfl ?_
    show Steps p.tables e below (T36.setTop (mkF m 78 Lo5 [(.int (3 : Int32)), (.ref bb)])) _
    refine XS.iloadN X36.here hx rfl (hb hby d7_10_78) rfl ?_
    show Steps p.tables e below (T36.setTop (mkF m 79 Lo5 [(.int (1 : Int32)), (.int (3 : Int32)), (.ref bb)])) _
    refine XS.iadd X36.here hx rfl (hb hby d7_10_79) rfl ?_
    show Steps p.tables e below (T36.setTop (mkF m 80 Lo5 [(.int (4 : Int32)), (.ref bb)])) _
    refine XS.lconst X36.here hx rfl (hb hby d7_10_80) ?_
    show Steps p.tables e below (T36.setTop (mkF m 81 Lo5 [(.long (0 : Int64)), (.int (4 : Int32)), (.ref bb)])) _
    refine st37 _ ?_
    show Steps p.tables e below (T37.setTop (mkF m 82 Lo5 [])) _
    exact X37.returnOut hx Bd.returns (hb hby d7_10_82) hr
  · show Q7_10 Z a1 bb kk x0 x1 x2 x3 x4 x5 x6 x7 x8 h0 n0 _ T37.heap _
    rw [e37]
    exact ⟨(x0), (x0), (x2), (x0), ((0 : Int64)), (x2), (x6), (x6), (x8), rfl, N37, K37, A37, own_as_10 x0 x1 x2 x3 x4 x5 x6 x7 x8 hx0 hx4 hx8⟩
theorem own_as_20 (x0 x1 x2 x3 x4 x5 x6 x7 x8 : Int64) (hx0 : x0 = (0 : Int64)) (hx4 : x4 = (0 : Int64)) (hx8 : x8 = (0 : Int64)) : own_nine (2 : Int32) (0 : Int32) x0 x1 x2 x3 x4 x5 x6 x7 x8 (x0) (x1) (x0) (x3) (x4) (x3) (x0) (x1) ((0 : Int64)) := by
  subst hx0 hx4 hx8
  exact ⟨Or.inl ⟨by decide, by decide, rfl⟩, Or.inr ⟨by decide, by decide, by decide, _, rfl, rfl⟩, Or.inl ⟨by decide, by decide, rfl⟩, Or.inr ⟨by decide, by decide, by decide, _, rfl, rfl⟩, Or.inl ⟨by decide, by decide, rfl⟩, Or.inr ⟨by decide, by decide, by decide, _, rfl, rfl⟩, Or.inl ⟨by decide, by decide, rfl⟩, Or.inr ⟨by decide, by decide, by decide, _, rfl, rfl⟩, Or.inl ⟨by decide, by decide, rfl⟩⟩
theorem d7_20_0 : decode prog_347_method_11_code 0 = .ok (.iconst 0, 1) := by decide +kernel
theorem d7_20_1 : decode prog_347_method_11_code 1 = .ok (.istore_n 3, 1) := by decide +kernel
theorem d7_20_2 : decode prog_347_method_11_code 2 = .ok (.iload_n 3, 1) := by decide +kernel
theorem d7_20_3 : decode prog_347_method_11_code 3 = .ok (.aload_n 0, 1) := by decide +kernel
theorem d7_20_4 : decode prog_347_method_11_code 4 = .ok (.getfield 9, 3) := by decide +kernel
theorem d7_20_7 : decode prog_347_method_11_code 7 = .ok (.if_icmp .ge 61, 3) := by decide +kernel
theorem d7_20_10 : decode prog_347_method_11_code 10 = .ok (.aload_n 0, 1) := by decide +kernel
theorem d7_20_11 : decode prog_347_method_11_code 11 = .ok (.getfield 15, 3) := by decide +kernel
theorem d7_20_14 : decode prog_347_method_11_code 14 = .ok (.iload_n 1, 1) := by decide +kernel
theorem d7_20_15 : decode prog_347_method_11_code 15 = .ok (.aload_n 0, 1) := by decide +kernel
theorem d7_20_16 : decode prog_347_method_11_code 16 = .ok (.getfield 9, 3) := by decide +kernel
theorem d7_20_19 : decode prog_347_method_11_code 19 = .ok (.imul, 1) := by decide +kernel
theorem d7_20_20 : decode prog_347_method_11_code 20 = .ok (.iload_n 3, 1) := by decide +kernel
theorem d7_20_21 : decode prog_347_method_11_code 21 = .ok (.iadd, 1) := by decide +kernel
theorem d7_20_22 : decode prog_347_method_11_code 22 = .ok (.aload_n 0, 1) := by decide +kernel
theorem d7_20_23 : decode prog_347_method_11_code 23 = .ok (.getfield 15, 3) := by decide +kernel
theorem d7_20_26 : decode prog_347_method_11_code 26 = .ok (.iload_n 2, 1) := by decide +kernel
theorem d7_20_27 : decode prog_347_method_11_code 27 = .ok (.aload_n 0, 1) := by decide +kernel
theorem d7_20_28 : decode prog_347_method_11_code 28 = .ok (.getfield 9, 3) := by decide +kernel
theorem d7_20_31 : decode prog_347_method_11_code 31 = .ok (.imul, 1) := by decide +kernel
theorem d7_20_32 : decode prog_347_method_11_code 32 = .ok (.iload_n 3, 1) := by decide +kernel
theorem d7_20_33 : decode prog_347_method_11_code 33 = .ok (.iadd, 1) := by decide +kernel
theorem d7_20_34 : decode prog_347_method_11_code 34 = .ok (.laload, 1) := by decide +kernel
theorem d7_20_35 : decode prog_347_method_11_code 35 = .ok (.lastore, 1) := by decide +kernel
theorem d7_20_36 : decode prog_347_method_11_code 36 = .ok (.aload_n 0, 1) := by decide +kernel
theorem d7_20_37 : decode prog_347_method_11_code 37 = .ok (.getfield 15, 3) := by decide +kernel
theorem d7_20_40 : decode prog_347_method_11_code 40 = .ok (.iload_n 3, 1) := by decide +kernel
theorem d7_20_41 : decode prog_347_method_11_code 41 = .ok (.aload_n 0, 1) := by decide +kernel
theorem d7_20_42 : decode prog_347_method_11_code 42 = .ok (.getfield 9, 3) := by decide +kernel
theorem d7_20_45 : decode prog_347_method_11_code 45 = .ok (.imul, 1) := by decide +kernel
theorem d7_20_46 : decode prog_347_method_11_code 46 = .ok (.iload_n 1, 1) := by decide +kernel
theorem d7_20_47 : decode prog_347_method_11_code 47 = .ok (.iadd, 1) := by decide +kernel
theorem d7_20_48 : decode prog_347_method_11_code 48 = .ok (.aload_n 0, 1) := by decide +kernel
theorem d7_20_49 : decode prog_347_method_11_code 49 = .ok (.getfield 15, 3) := by decide +kernel
theorem d7_20_52 : decode prog_347_method_11_code 52 = .ok (.iload_n 3, 1) := by decide +kernel
theorem d7_20_53 : decode prog_347_method_11_code 53 = .ok (.aload_n 0, 1) := by decide +kernel
theorem d7_20_54 : decode prog_347_method_11_code 54 = .ok (.getfield 9, 3) := by decide +kernel
theorem d7_20_57 : decode prog_347_method_11_code 57 = .ok (.imul, 1) := by decide +kernel
theorem d7_20_58 : decode prog_347_method_11_code 58 = .ok (.iload_n 2, 1) := by decide +kernel
theorem d7_20_59 : decode prog_347_method_11_code 59 = .ok (.iadd, 1) := by decide +kernel
theorem d7_20_60 : decode prog_347_method_11_code 60 = .ok (.laload, 1) := by decide +kernel
theorem d7_20_61 : decode prog_347_method_11_code 61 = .ok (.lastore, 1) := by decide +kernel
theorem d7_20_62 : decode prog_347_method_11_code 62 = .ok (.iinc 3 1, 3) := by decide +kernel
theorem d7_20_65 : decode prog_347_method_11_code 65 = .ok (.goto (-63), 3) := by decide +kernel
theorem d7_20_68 : decode prog_347_method_11_code 68 = .ok (.aload_n 0, 1) := by decide +kernel
theorem d7_20_69 : decode prog_347_method_11_code 69 = .ok (.getfield 15, 3) := by decide +kernel
theorem d7_20_72 : decode prog_347_method_11_code 72 = .ok (.iload_n 1, 1) := by decide +kernel
theorem d7_20_73 : decode prog_347_method_11_code 73 = .ok (.aload_n 0, 1) := by decide +kernel
theorem d7_20_74 : decode prog_347_method_11_code 74 = .ok (.getfield 9, 3) := by decide +kernel
theorem d7_20_77 : decode prog_347_method_11_code 77 = .ok (.imul, 1) := by decide +kernel
theorem d7_20_78 : decode prog_347_method_11_code 78 = .ok (.iload_n 1, 1) := by decide +kernel
theorem d7_20_79 : decode prog_347_method_11_code 79 = .ok (.iadd, 1) := by decide +kernel
theorem d7_20_80 : decode prog_347_method_11_code 80 = .ok (.lconst 0, 1) := by decide +kernel
theorem d7_20_81 : decode prog_347_method_11_code 81 = .ok (.lastore, 1) := by decide +kernel
theorem d7_20_82 : decode prog_347_method_11_code 82 = .ok (.return_, 1) := by decide +kernel
theorem pn_7_20 : plainName "com/example/chronoscope/chronoscope/sim/Zone" = true := by first | (simp [plainName, overriddenIn]; done) | decide +kernel
theorem ef_7_20 (m : MethodId) (x0 : Addr) (x1 : Int32) (x2 : Int32) : entryFrame m #[(.ref x0), (.int x1), (.int x2)] 4 = mkF m 0 #[.val (.ref x0), .val (.int x1), .val (.int x2), .unset] [] := by first | (simp [entryFrame, mkF, argsToLocals, Value.category]; done) | rfl
def Q7_20 (Z : State) (a1 : Addr) (bb : Addr) (kk : ClassId) (x0 : Int64) (x1 : Int64) (x2 : Int64) (x3 : Int64) (x4 : Int64) (x5 : Int64) (x6 : Int64) (x7 : Int64) (x8 : Int64) (h0 : Heap) (n0 : Nat) (v : Option Value) (h : Heap) (L : List Loc) : Prop := ∃ (y0 : Int64) (y1 : Int64) (y2 : Int64) (y3 : Int64) (y4 : Int64) (y5 : Int64) (y6 : Int64) (y7 : Int64) (y8 : Int64), v = none ∧ Fr n0 L ∧ Keep h0 h [bb] ∧ (Arv Z h bb kk .long (9 : Int32) [(.long y0), (.long y1), (.long y2), (.long y3), (.long y4), (.long y5), (.long y6), (.long y7), (.long y8)] (.long (0 : Int64))) ∧ (own_nine (2 : Int32) (0 : Int32) x0 x1 x2 x3 x4 x5 x6 x7 x8 y0 y1 y2 y3 y4 y5 y6 y7 y8)
set_option maxRecDepth 65536 in
set_option maxHeartbeats 40000000 in
theorem rm7_20 (l : Launch) (Z : State) (a0 : Array Value) (hw : ∀ d ∈ tables_1, d.before a0 Z = true) (ws : List Jvm.Cond) (a1 : Addr) (bb : Addr) (kk : ClassId) (x0 : Int64) (x1 : Int64) (x2 : Int64) (x3 : Int64) (x4 : Int64) (x5 : Int64) (x6 : Int64) (x7 : Int64) (x8 : Int64) (h0 : Heap) (n0 : Nat) (Z0 : n0 ≤ h0.size) (P0 : Exa Z h0 a1 "com/example/chronoscope/chronoscope/sim/Zone") (P1 : Fld Z h0 a1 "com/example/chronoscope/chronoscope/sim/Zone" "size" "I" (.int (3 : Int32))) (P2 : Fld Z h0 a1 "com/example/chronoscope/chronoscope/sim/Zone" "bounds" "[J" (.ref bb)) (P3 : Arv Z h0 bb kk .long (9 : Int32) [(.long x0), (.long x1), (.long x2), (.long x3), (.long x4), (.long x5), (.long x6), (.long x7), (.long x8)] (.long (0 : Int64))) (g_bb : n0 ≤ bb) (ne_a1_bb : a1 ≠ bb) (hx0 : x0 = (0 : Int64)) (hx4 : x4 = (0 : Int64)) (hx8 : x8 = (0 : Int64)) :
    MetFree l (⟨"com/example/chronoscope/chronoscope/sim/Zone", "assign", "(II)V"⟩ : MethodName) (head1 (Jvm.Cond.code (⟨"com/example/chronoscope/chronoscope/sim/Zone", "assign", "(II)V"⟩ : MethodName) prog_347_method_11_code 4 none :: ws) ({ frames := 0, cells := 0, slots := 0, locals := 0 } : Room)) (fun a U => a = #[(.ref a1), (.int (2 : Int32)), (.int (0 : Int32))] ∧ Z.Warmed39 U.vm ∧ U.heap = h0) (fun _ _ _ _ _ => True) (fun _ U o U' => ∃ v L, o = .returned v ∧ Q7_20 Z a1 bb kk x0 x1 x2 x3 x4 x5 x6 x7 x8 h0 n0 v U'.heap L ∧ FrameEnd U o U' L ({ frames := 0, cells := 0, slots := 0, locals := 0 } : Room).cells ({ frames := 0, cells := 0, slots := 0, locals := 0 } : Room).slots) := by
  refine MetFree.of_bodySF (plainFor_of_name pn_7_20) hisR ?_
  intro p e s m args below meth c s₁ Bd hml0 hP hK
  obtain ⟨rfl, hZ, hh⟩ := hP
  have w12_ := hw _ (List.mem_of_getElem? (i := 12) rfl)
  have w14_ := hw _ (List.mem_of_getElem? (i := 14) rfl)
  have hx := Bd.exec
  have hby := Bd.bytes
  have hml : c.maxLocals = 4 := hml0
  have hown : s.vm.findClass "com/example/chronoscope/chronoscope/sim/Zone" = some m.cls := findClass_of_methodNamed Bd.named
  have hnm := (name_of_methodNamed Bd.named Bd.method).1
  have X0 : Stand p l e ({ frames := 0, cells := 0, slots := 0, locals := 0 } : Room) s m #[(.ref a1), (.int (2 : Int32)), (.int (0 : Int32))] below meth c s₁ [] 0 0 := Stand.of_body Bd
  have e0 : s₁.heap = h0 := by rw [← hh, Bd.state]; rfl
  have N0 := Fr.nil n0
  have pre0 : ∀ t, Steps p.tables e below (s₁.setTop (mkF m 0 #[.val (.ref a1), .val (.int (2 : Int32)), .val (.int (0 : Int32)), .unset] [])) t → Steps p.tables e below (s₁.setTop (entryFrame m #[(.ref a1), (.int (2 : Int32)), (.int (0 : Int32))] 4)) t := fun t k => castTop (ef_7_20 m a1 (2 : Int32) (0 : Int32)) k
  let Lo1 : Array Slot := #[.val (.ref a1), .val (.int (2 : Int32)), .val (.int (0 : Int32)), .unset]
  let Lo2 : Array Slot := #[.val (.ref a1), .val (.int (2 : Int32)), .val (.int (0 : Int32)), .val (.int (0 : Int32))]
  obtain ⟨T1, X1, e1, st1⟩ := getF X0 hx hZ hown (host := "") (Or.inl w12_) Via.refl e0 P1 (g := (mkF m 4 Lo2 [(.ref a1), (.int (0 : Int32))])) rfl rfl (hb hby d7_20_4)
  obtain ⟨T2, X2, e2, st2⟩ := getF X1 hx hZ hown (host := "") (Or.inl w14_) Via.refl e1 P2 (g := (mkF m 11 Lo2 [(.ref a1)])) rfl rfl (hb hby d7_20_11)
  obtain ⟨T3, X3, e3, st3⟩ := getF X2 hx hZ hown (host := "") (Or.inl w12_) Via.refl e2 P1 (g := (mkF m 16 Lo2 [(.ref a1), (.int (2 : Int32)), (.ref bb)])) rfl rfl (hb hby d7_20_16)
  obtain ⟨T4, X4, e4, st4⟩ := getF X3 hx hZ hown (host := "") (Or.inl w14_) Via.refl e3 P2 (g := (mkF m 23 Lo2 [(.ref a1), (.int (6 : Int32)), (.ref bb)])) rfl rfl (hb hby d7_20_23)
  obtain ⟨T5, X5, e5, st5⟩ := getF X4 hx hZ hown (host := "") (Or.inl w12_) Via.refl e4 P1 (g := (mkF m 28 Lo2 [(.ref a1), (.int (0 : Int32)), (.ref bb), (.int (6 : Int32)), (.ref bb)])) rfl rfl (hb hby d7_20_28)
  obtain ⟨T6, h6, X6, e6, W6, V6, st6⟩ := own_stJ X5 hx hZ e5 P3 (j := (6 : Int32)) (x := x0) (by decide) (i := 6) (by decide) (by show 6 < 9; decide) (g := (mkF m 35 Lo2 [(.long x0), (.int (6 : Int32)), (.ref bb)])) rfl rfl (hb hby d7_20_35)
  have A6 : Arv Z h6 bb kk .long (9 : Int32) [(.long x0), (.long x1), (.long x2), (.long x3), (.long x4), (.long x5), (.long x0), (.long x7), (.long x8)] (.long (0 : Int64)) := V6
  have F6_size_a1 := P1.other W6 (Or.inl ne_a1_bb)
  have F6_bounds_a1 := P2.other W6 (Or.inl ne_a1_bb)
  have E6_a1 := P0.wr W6
  have K6 : Keep h0 h6 [bb] := (Keep.refl h0 [bb]).wr W6 (Or.inl (List.mem_of_getElem? (i := 0) rfl))
  have Z6 : n0 ≤ h6.size := Nat.le_trans Z0 (Keep.of_wr W6).1
  have N6 := Fr.snoc X6 N0 g_bb
  obtain ⟨T7, X7, e7, st7⟩ := getF X6 hx hZ hown (host := "") (Or.inl w14_) Via.refl e6 F6_bounds_a1 (g := (mkF m 37 Lo2 [(.ref a1)])) rfl rfl (hb hby d7_20_37)
  obtain ⟨T8, X8, e8, st8⟩ := getF X7 hx hZ hown (host := "") (Or.inl w12_) Via.refl e7 F6_size_a1 (g := (mkF m 42 Lo2 [(.ref a1), (.int (0 : Int32)), (.ref bb)])) rfl rfl (hb hby d7_20_42)
  obtain ⟨T9, X9, e9, st9⟩ := getF X8 hx hZ hown (host := "") (Or.inl w14_) Via.refl e8 F6_bounds_a1 (g := (mkF m 49 Lo2 [(.ref a1), (.int (2 : Int32)), (.ref bb)])) rfl rfl (hb hby d7_20_49)
  obtain ⟨T10, X10, e10, st10⟩ := getF X9 hx hZ hown (host := "") (Or.inl w12_) Via.refl e9 F6_size_a1 (g := (mkF m 54 Lo2 [(.ref a1), (.int (0 : Int32)), (.ref bb), (.int (2 : Int32)), (.ref bb)])) rfl rfl (hb hby d7_20_54)
  obtain ⟨T11, h11, X11, e11, W11, V11, st11⟩ := own_stJ X10 hx hZ e10 A6 (j := (2 : Int32)) (x := x0) (by decide) (i := 2) (by decide) (by show 2 < 9; decide) (g := (mkF m 61 Lo2 [(.long x0), (.int (2 : Int32)), (.ref bb)])) rfl rfl (hb hby d7_20_61)
  have A11 : Arv Z h11 bb kk .long (9 : Int32) [(.long x0), (.long x1), (.long x0), (.long x3), (.long x4), (.long x5), (.long x0), (.long x7), (.long x8)] (.long (0 : Int64)) := V11
  have F11_size_a1 := F6_size_a1.other W11 (Or.inl ne_a1_bb)
  have F11_bounds_a1 := F6_bounds_a1.other W11 (Or.inl ne_a1_bb)
  have E11_a1 := E6_a1.wr W11
  have K11 : Keep h0 h11 [bb] := K6.wr W11 (Or.inl (List.mem_of_getElem? (i := 0) rfl))
  have Z11 : n0 ≤ h11.size := Nat.le_trans Z6 (Keep.of_wr W11).1
  have N11 := Fr.snoc X11 N6 g_bb
  let Lo3 : Array Slot := #[.val (.ref a1), .val (.int (2 : Int32)), .val (.int (0 : Int32)), .val (.int (1 : Int32))]
  obtain ⟨T12, X12, e12, st12⟩ := getF X11 hx hZ hown (host := "") (Or.inl w12_) Via.refl e11 F11_size_a1 (g := (mkF m 4 Lo3 [(.ref a1), (.int (1 : Int32))])) rfl rfl (hb hby d7_20_4)
  obtain ⟨T13, X13, e13, st13⟩ := getF X12 hx hZ hown (host := "") (Or.inl w14_) Via.refl e12 F11_bounds_a1 (g := (mkF m 11 Lo3 [(.ref a1)])) rfl rfl (hb hby d7_20_11)
  obtain ⟨T14, X14, e14, st14⟩ := getF X13 hx hZ hown (host := "") (Or.inl w12_) Via.refl e13 F11_size_a1 (g := (mkF m 16 Lo3 [(.ref a1), (.int (2 : Int32)), (.ref bb)])) rfl rfl (hb hby d7_20_16)
  obtain ⟨T15, X15, e15, st15⟩ := getF X14 hx hZ hown (host := "") (Or.inl w14_) Via.refl e14 F11_bounds_a1 (g := (mkF m 23 Lo3 [(.ref a1), (.int (7 : Int32)), (.ref bb)])) rfl rfl (hb hby d7_20_23)
  obtain ⟨T16, X16, e16, st16⟩ := getF X15 hx hZ hown (host := "") (Or.inl w12_) Via.refl e15 F11_size_a1 (g := (mkF m 28 Lo3 [(.ref a1), (.int (0 : Int32)), (.ref bb), (.int (7 : Int32)), (.ref bb)])) rfl rfl (hb hby d7_20_28)
  obtain ⟨T17, h17, X17, e17, W17, V17, st17⟩ := own_stJ X16 hx hZ e16 A11 (j := (7 : Int32)) (x := x1) (by decide) (i := 7) (by decide) (by show 7 < 9; decide) (g := (mkF m 35 Lo3 [(.long x1), (.int (7 : Int32)), (.ref bb)])) rfl rfl (hb hby d7_20_35)
  have A17 : Arv Z h17 bb kk .long (9 : Int32) [(.long x0), (.long x1), (.long x0), (.long x3), (.long x4), (.long x5), (.long x0), (.long x1), (.long x8)] (.long (0 : Int64)) := V17
  have F17_size_a1 := F11_size_a1.other W17 (Or.inl ne_a1_bb)
  have F17_bounds_a1 := F11_bounds_a1.other W17 (Or.inl ne_a1_bb)
  have E17_a1 := E11_a1.wr W17
  have K17 : Keep h0 h17 [bb] := K11.wr W17 (Or.inl (List.mem_of_getElem? (i := 0) rfl))
  have Z17 : n0 ≤ h17.size := Nat.le_trans Z11 (Keep.of_wr W17).1
  have N17 := Fr.snoc X17 N11 g_bb
  obtain ⟨T18, X18, e18, st18⟩ := getF X17 hx hZ hown (host := "") (Or.inl w14_) Via.refl e17 F17_bounds_a1 (g := (mkF m 37 Lo3 [(.ref a1)])) rfl rfl (hb hby d7_20_37)
  obtain ⟨T19, X19, e19, st19⟩ := getF X18 hx hZ hown (host := "") (Or.inl w12_) Via.refl e18 F17_size_a1 (g := (mkF m 42 Lo3 [(.ref a1), (.int (1 : Int32)), (.ref bb)])) rfl rfl (hb hby d7_20_42)
  obtain ⟨T20, X20, e20, st20⟩ := getF X19 hx hZ hown (host := "") (Or.inl w14_) Via.refl e19 F17_bounds_a1 (g := (mkF m 49 Lo3 [(.ref a1), (.int (5 : Int32)), (.ref bb)])) rfl rfl (hb hby d7_20_49)
  obtain ⟨T21, X21, e21, st21⟩ := getF X20 hx hZ hown (host := "") (Or.inl w12_) Via.refl e20 F17_size_a1 (g := (mkF m 54 Lo3 [(.ref a1), (.int (1 : Int32)), (.ref bb), (.int (5 : Int32)), (.ref bb)])) rfl rfl (hb hby d7_20_54)
  obtain ⟨T22, h22, X22, e22, W22, V22, st22⟩ := own_stJ X21 hx hZ e21 A17 (j := (5 : Int32)) (x := x3) (by decide) (i := 5) (by decide) (by show 5 < 9; decide) (g := (mkF m 61 Lo3 [(.long x3), (.int (5 : Int32)), (.ref bb)])) rfl rfl (hb hby d7_20_61)
  have A22 : Arv Z h22 bb kk .long (9 : Int32) [(.long x0), (.long x1), (.long x0), (.long x3), (.long x4), (.long x3), (.long x0), (.long x1), (.long x8)] (.long (0 : Int64)) := V22
  have F22_size_a1 := F17_size_a1.other W22 (Or.inl ne_a1_bb)
  have F22_bounds_a1 := F17_bounds_a1.other W22 (Or.inl ne_a1_bb)
  have E22_a1 := E17_a1.wr W22
  have K22 : Keep h0 h22 [bb] := K17.wr W22 (Or.inl (List.mem_of_getElem? (i := 0) rfl))
  have Z22 : n0 ≤ h22.size := Nat.le_trans Z17 (Keep.of_wr W22).1
  have N22 := Fr.snoc X22 N17 g_bb
  let Lo4 : Array Slot := #[.val (.ref a1), .val (.int (2 : Int32)), .val (.int (0 : Int32)), .val (.int (2 : Int32))]
  obtain ⟨T23, X23, e23, st23⟩ := getF X22 hx hZ hown (host := "") (Or.inl w12_) Via.refl e22 F22_size_a1 (g := (mkF m 4 Lo4 [(.ref a1), (.int (2 : Int32))])) rfl rfl (hb hby d7_20_4)
  obtain ⟨T24, X24, e24, st24⟩ := getF X23 hx hZ hown (host := "") (Or.inl w14_) Via.refl e23 F22_bounds_a1 (g := (mkF m 11 Lo4 [(.ref a1)])) rfl rfl (hb hby d7_20_11)
  obtain ⟨T25, X25, e25, st25⟩ := getF X24 hx hZ hown (host := "") (Or.inl w12_) Via.refl e24 F22_size_a1 (g := (mkF m 16 Lo4 [(.ref a1), (.int (2 : Int32)), (.ref bb)])) rfl rfl (hb hby d7_20_16)
  obtain ⟨T26, X26, e26, st26⟩ := getF X25 hx hZ hown (host := "") (Or.inl w14_) Via.refl e25 F22_bounds_a1 (g := (mkF m 23 Lo4 [(.ref a1), (.int (8 : Int32)), (.ref bb)])) rfl rfl (hb hby d7_20_23)
  obtain ⟨T27, X27, e27, st27⟩ := getF X26 hx hZ hown (host := "") (Or.inl w12_) Via.refl e26 F22_size_a1 (g := (mkF m 28 Lo4 [(.ref a1), (.int (0 : Int32)), (.ref bb), (.int (8 : Int32)), (.ref bb)])) rfl rfl (hb hby d7_20_28)
  obtain ⟨T28, h28, X28, e28, W28, V28, st28⟩ := own_stJ X27 hx hZ e27 A22 (j := (8 : Int32)) (x := x0) (by decide) (i := 8) (by decide) (by show 8 < 9; decide) (g := (mkF m 35 Lo4 [(.long x0), (.int (8 : Int32)), (.ref bb)])) rfl rfl (hb hby d7_20_35)
  have A28 : Arv Z h28 bb kk .long (9 : Int32) [(.long x0), (.long x1), (.long x0), (.long x3), (.long x4), (.long x3), (.long x0), (.long x1), (.long x0)] (.long (0 : Int64)) := V28
  have F28_size_a1 := F22_size_a1.other W28 (Or.inl ne_a1_bb)
  have F28_bounds_a1 := F22_bounds_a1.other W28 (Or.inl ne_a1_bb)
  have E28_a1 := E22_a1.wr W28
  have K28 : Keep h0 h28 [bb] := K22.wr W28 (Or.inl (List.mem_of_getElem? (i := 0) rfl))
  have Z28 : n0 ≤ h28.size := Nat.le_trans Z22 (Keep.of_wr W28).1
  have N28 := Fr.snoc X28 N22 g_bb
  obtain ⟨T29, X29, e29, st29⟩ := getF X28 hx hZ hown (host := "") (Or.inl w14_) Via.refl e28 F28_bounds_a1 (g := (mkF m 37 Lo4 [(.ref a1)])) rfl rfl (hb hby d7_20_37)
  obtain ⟨T30, X30, e30, st30⟩ := getF X29 hx hZ hown (host := "") (Or.inl w12_) Via.refl e29 F28_size_a1 (g := (mkF m 42 Lo4 [(.ref a1), (.int (2 : Int32)), (.ref bb)])) rfl rfl (hb hby d7_20_42)
  obtain ⟨T31, X31, e31, st31⟩ := getF X30 hx hZ hown (host := "") (Or.inl w14_) Via.refl e30 F28_bounds_a1 (g := (mkF m 49 Lo4 [(.ref a1), (.int (8 : Int32)), (.ref bb)])) rfl rfl (hb hby d7_20_49)
  obtain ⟨T32, X32, e32, st32⟩ := getF X31 hx hZ hown (host := "") (Or.inl w12_) Via.refl e31 F28_size_a1 (g := (mkF m 54 Lo4 [(.ref a1), (.int (2 : Int32)), (.ref bb), (.int (8 : Int32)), (.ref bb)])) rfl rfl (hb hby d7_20_54)
  obtain ⟨T33, h33, X33, e33, W33, V33, st33⟩ := own_stJ X32 hx hZ e32 A28 (j := (8 : Int32)) (x := x0) (by decide) (i := 8) (by decide) (by show 8 < 9; decide) (g := (mkF m 61 Lo4 [(.long x0), (.int (8 : Int32)), (.ref bb)])) rfl rfl (hb hby d7_20_61)
  have A33 : Arv Z h33 bb kk .long (9 : Int32) [(.long x0), (.long x1), (.long x0), (.long x3), (.long x4), (.long x3), (.long x0), (.long x1), (.long x0)] (.long (0 : Int64)) := V33
  have F33_size_a1 := F28_size_a1.other W33 (Or.inl ne_a1_bb)
  have F33_bounds_a1 := F28_bounds_a1.other W33 (Or.inl ne_a1_bb)
  have E33_a1 := E28_a1.wr W33
  have K33 : Keep h0 h33 [bb] := K28.wr W33 (Or.inl (List.mem_of_getElem? (i := 0) rfl))
  have Z33 : n0 ≤ h33.size := Nat.le_trans Z28 (Keep.of_wr W33).1
  have N33 := Fr.snoc X33 N28 g_bb
  let Lo5 : Array Slot := #[.val (.ref a1), .val (.int (2 : Int32)), .val (.int (0 : Int32)), .val (.int (3 : Int32))]
  obtain ⟨T34, X34, e34, st34⟩ := getF X33 hx hZ hown (host := "") (Or.inl w12_) Via.refl e33 F33_size_a1 (g := (mkF m 4 Lo5 [(.ref a1), (.int (3 : Int32))])) rfl rfl (hb hby d7_20_4)
  obtain ⟨T35, X35, e35, st35⟩ := getF X34 hx hZ hown (host := "") (Or.inl w14_) Via.refl e34 F33_bounds_a1 (g := (mkF m 69 Lo5 [(.ref a1)])) rfl rfl (hb hby d7_20_69)
  obtain ⟨T36, X36, e36, st36⟩ := getF X35 hx hZ hown (host := "") (Or.inl w12_) Via.refl e35 F33_size_a1 (g := (mkF m 74 Lo5 [(.ref a1), (.int (2 : Int32)), (.ref bb)])) rfl rfl (hb hby d7_20_74)
  obtain ⟨T37, h37, X37, e37, W37, V37, st37⟩ := own_stJ X36 hx hZ e36 A33 (j := (8 : Int32)) (x := (0 : Int64)) (by decide) (i := 8) (by decide) (by show 8 < 9; decide) (g := (mkF m 81 Lo5 [(.long (0 : Int64)), (.int (8 : Int32)), (.ref bb)])) rfl rfl (hb hby d7_20_81)
  have A37 : Arv Z h37 bb kk .long (9 : Int32) [(.long x0), (.long x1), (.long x0), (.long x3), (.long x4), (.long x3), (.long x0), (.long x1), (.long (0 : Int64))] (.long (0 : Int64)) := V37
  have F37_size_a1 := F33_size_a1.other W37 (Or.inl ne_a1_bb)
  have F37_bounds_a1 := F33_bounds_a1.other W37 (Or.inl ne_a1_bb)
  have E37_a1 := E33_a1.wr W37
  have K37 : Keep h0 h37 [bb] := K33.wr W37 (Or.inl (List.mem_of_getElem? (i := 0) rfl))
  have Z37 : n0 ≤ h37.size := Nat.le_trans Z33 (Keep.of_wr W37).1
  have N37 := Fr.snoc X37 N33 g_bb
  obtain ⟨fs, hr, hrun, hended, hW, hsame⟩ := X37.leave (v := none) (fun _ => rfl)
  refine ⟨_, _, pre0 _ ?_, hrun, hended, _, _, rfl, ?_, ⟨_, rfl⟩, hW, hsame.mono (by decide) (by decide)⟩
  · show Steps p.tables e below (s₁.setTop (mkF m 0 Lo1 [])) _
    refine XS.iconst X0.here hx rfl (hb hby d7_20_0) ?_
    show Steps p.tables e below (s₁.setTop (mkF m 1 Lo1 [(.int (0 : Int32))])) _
    refine XS.istoreN X0.here hx rfl (hb hby d7_20_1) rfl (l' := Lo2) rfl ?_
    show Steps p.tables e below (s₁.setTop (mkF m 2 Lo2 [])) _
    refine XS.iloadN X0.here hx rfl (hb hby d7_20_2) rfl ?_
    show Steps p.tables e below (s₁.setTop (mkF m 3 Lo2 [(.int (0 : Int32))])) _
    refine XS.aloadN X0.here hx rfl (hb hby d7_20_3) rfl rfl ?_
    show Steps p.tables e below (s₁.setTop (mkF m 4 Lo2 [(.ref a1), (.int (0 : Int32))])) _
    refine st1 _ ?_
    show Steps p.tables e below (T1.setTop (mkF m 7 Lo2 [(.int (3 : Int32)), (.int (0 : Int32))])) _
    refine XS.icmpNo X1.here hx rfl (hb hby d7_20_7) rfl (by first | rfl | decide) ?_
    show Steps p.tables e below (T1.setTop (mkF m 10 Lo2 [])) _
    refine XS.aloadN X1.here hx rfl (hb hby d7_20_10) rfl rfl ?_
    show Steps p.tables e below (T1.setTop (mkF m 11 Lo2 [(.ref a1)])) _
    refine st2 _ ?_
    show Steps p.tables e below (T2.setTop (mkF m 14 Lo2 [(.ref bb)])) _
    refine XS.iloadN X2.here hx rfl (hb hby d7_20_14) rfl ?_
    show Steps p.tables e below (T2.setTop (mkF m 15 Lo2 [(.int (2 : Int32)), (.ref bb)])) _
    refine XS.aloadN X2.here hx rfl (hb hby d7_20_15) rfl rfl ?_
    show Steps p.tables e below (T2.setTop (mkF m 16 Lo2 [(.ref a1), (.int (2 : Int32)), (.ref bb)])) _
    refine st3 _ ?_
    show Steps p.tables e below (T3.setTop (mkF m 19 Lo2 [(.int (3 : Int32)), (.int (2 : Int32)), (.ref bb)])) _
    refine XS.imul X3.here hx rfl (hb hby d7_20_19) rfl ?_
    show Steps p.tables e below (T3.setTop (mkF m 20 Lo2 [(.int (6 : Int32)), (.ref bb)])) _
    refine XS.iloadN X3.here hx rfl (hb hby d7_20_20) rfl ?_
    show Steps p.tables e below (T3.setTop (mkF m 21 Lo2 [(.int (0 : Int32)), (.int (6 : Int32)), (.ref bb)])) _
    refine XS.iadd X3.here hx rfl (hb hby d7_20_21) rfl ?_
    show Steps p.tables e below (T3.setTop (mkF m 22 Lo2 [(.int (6 : Int32)), (.ref bb)])) _
    refine XS.aloadN X3.here hx rfl (hb hby d7_20_22) rfl rfl ?_
    show Steps p.tables e below (T3.setTop (mkF m 23 Lo2 [(.ref a1), (.int (6 : Int32)), (.ref bb)])) _
    refine st4 _ ?_
    show Steps p.tables e below (T4.setTop (mkF m 26 Lo2 [(.ref bb), (.int (6 : Int32)), (.ref bb)])) _
    refine XS.iloadN X4.here hx rfl (hb hby d7_20_26) rfl ?_
    show Steps p.tables e below (T4.setTop (mkF m 27 Lo2 [(.int (0 : Int32)), (.ref bb), (.int (6 : Int32)), (.ref bb)])) _
    refine XS.aloadN X4.here hx rfl (hb hby d7_20_27) rfl rfl ?_
    show Steps p.tables e below (T4.setTop (mkF m 28 Lo2 [(.ref a1), (.int (0 : Int32)), (.ref bb), (.int (6 : Int32)), (.ref bb)])) _
    refine st5 _ ?_
    show Steps p.tables e below (T5.setTop (mkF m 31 Lo2 [(.int (3 : Int32)), (.int (0 : Int32)), (.ref bb), (.int (6 : Int32)), (.ref bb)])) _
    refine XS.imul X5.here hx rfl (hb hby d7_20_31) rfl ?_
    show Steps p.tables e below (T5.setTop (mkF m 32 Lo2 [(.int (0 : Int32)), (.ref bb), (.int (6 : Int32)), (.ref bb)])) _
    refine XS.iloadN X5.here hx rfl (hb hby d7_20_32) rfl ?_
    show Steps p.tables e below (T5.setTop (mkF m 33 Lo2 [(.int (0 : Int32)), (.int (0 : Int32)), (.ref bb), (.int (6 : Int32)), (.ref bb)])) _
    refine XS.iadd X5.here hx rfl (hb hby d7_20_33) rfl ?_
    show Steps p.tables e below (T5.setTop (mkF m 34 Lo2 [(.int (0 : Int32)), (.ref bb), (.int (6 : Int32)), (.ref bb)])) _
    refine own_ldJ X5 hx hZ e5 P3 (j := (0 : Int32)) (by decide) (w := x0) rfl (g := (mkF m 34 Lo2 [(.int (0 : Int32)), (.ref bb), (.int (6 : Int32)), (.ref bb)])) rfl rfl (hb hby d7_20_34) _ ?_
    show Steps p.tables e below (T5.setTop (mkF m 35 Lo2 [(.long x0), (.int (6 : Int32)), (.ref bb)])) _
    refine st6 _ ?_
    show Steps p.tables e below (T6.setTop (mkF m 36 Lo2 [])) _
    refine XS.aloadN X6.here hx rfl (hb hby d7_20_36) rfl rfl ?_
    show Steps p.tables e below (T6.setTop (mkF m 37 Lo2 [(.ref a1)])) _
    refine st7 _ ?_
    show Steps p.tables e below (T7.setTop (mkF m 40 Lo2 [(.ref bb)])) _
    refine XS.iloadN X7.here hx rfl (hb hby d7_20_40) rfl ?_
    show Steps p.tables e below (T7.setTop (mkF m 41 Lo2 [(.int (0 : Int32)), (.ref bb)])) _
    refine XS.aloadN X7.here hx rfl (hb hby d7_20_41) rfl rfl ?_
    show Steps p.tables e below (T7.setTop (mkF m 42 Lo2 [(.ref a1), (.int (0 : Int32)), (.ref bb)])) _
    refine st8 _ ?_
    show Steps p.tables e below (T8.setTop (mkF m 45 Lo2 [(.int (3 : Int32)), (.int (0 : Int32)), (.ref bb)])) _
    refine XS.imul X8.here hx rfl (hb hby d7_20_45) rfl ?_
    show Steps p.tables e below (T8.setTop (mkF m 46 Lo2 [(.int (0 : Int32)), (.ref bb)])) _
    refine XS.iloadN X8.here hx rfl (hb hby d7_20_46) rfl ?_
    show Steps p.tables e below (T8.setTop (mkF m 47 Lo2 [(.int (2 : Int32)), (.int (0 : Int32)), (.ref bb)])) _
    refine XS.iadd X8.here hx rfl (hb hby d7_20_47) rfl ?_
    show Steps p.tables e below (T8.setTop (mkF m 48 Lo2 [(.int (2 : Int32)), (.ref bb)])) _
    refine XS.aloadN X8.here hx rfl (hb hby d7_20_48) rfl rfl ?_
    show Steps p.tables e below (T8.setTop (mkF m 49 Lo2 [(.ref a1), (.int (2 : Int32)), (.ref bb)])) _
    refine st9 _ ?_
    show Steps p.tables e below (T9.setTop (mkF m 52 Lo2 [(.ref bb), (.int (2 : Int32)), (.ref bb)])) _
    refine XS.iloadN X9.here hx rfl (hb hby d7_20_52) rfl ?_
    show Steps p.tables e below (T9.setTop (mkF m 53 Lo2 [(.int (0 : Int32)), (.ref bb), (.int (2 : Int32)), (.ref bb)])) _
    refine XS.aloadN X9.here hx rfl (hb hby d7_20_53) rfl rfl ?_
    show Steps p.tables e below (T9.setTop (mkF m 54 Lo2 [(.ref a1), (.int (0 : Int32)), (.ref bb), (.int (2 : Int32)), (.ref bb)])) _
    refine st10 _ ?_
    show Steps p.tables e below (T10.setTop (mkF m 57 Lo2 [(.int (3 : Int32)), (.int (0 : Int32)), (.ref bb), (.int (2 : Int32)), (.ref bb)])) _
    refine XS.imul X10.here hx rfl (hb hby d7_20_57) rfl ?_
    show Steps p.tables e below (T10.setTop (mkF m 58 Lo2 [(.int (0 : Int32)), (.ref bb), (.int (2 : Int32)), (.ref bb)])) _
    refine XS.iloadN X10.here hx rfl (hb hby d7_20_58) rfl ?_
    show Steps p.tables e below (T10.setTop (mkF m 59 Lo2 [(.int (0 : Int32)), (.int (0 : Int32)), (.ref bb), (.int (2 : Int32)), (.ref bb)])) _
    refine XS.iadd X10.here hx rfl (hb hby d7_20_59) rfl ?_
    show Steps p.tables e below (T10.setTop (mkF m 60 Lo2 [(.int (0 : Int32)), (.ref bb), (.int (2 : Int32)), (.ref bb)])) _
    refine own_ldJ X10 hx hZ e10 A6 (j := (0 : Int32)) (by decide) (w := x0) rfl (g := (mkF m 60 Lo2 [(.int (0 : Int32)), (.ref bb), (.int (2 : Int32)), (.ref bb)])) rfl rfl (hb hby d7_20_60) _ ?_
    show Steps p.tables e below (T10.setTop (mkF m 61 Lo2 [(.long x0), (.int (2 : Int32)), (.ref bb)])) _
    refine st11 _ ?_
    show Steps p.tables e below (T11.setTop (mkF m 62 Lo2 [])) _
    refine XS.iinc X11.here hx rfl (hb hby d7_20_62) rfl (l' := Lo3) rfl ?_
    show Steps p.tables e below (T11.setTop (mkF m 65 Lo3 [])) _
    refine XS.goto X11.here hx rfl (pc0 := 65) (pc' := 2) rfl (hb hby d7_20_65) (by decide) (by decide) ?_
    show Steps p.tables e below (T11.setTop (mkF m 2 Lo3 [])) _
    refine XS.iloadN X11.here hx rfl (hb hby d7_20_2) rfl ?_
    show Steps p.tables e below (T11.setTop (mkF m 3 Lo3 [(.int (1 : Int32))])) _
    refine XS.aloadN X11.here hx rfl (hb hby d7_20_3) rfl rfl ?_
    show Steps p.tables e below (T11.setTop (mkF m 4 Lo3 [(.ref a1), (.int (1 : Int32))])) _
    refine st12 _ ?_
    show Steps p.tables e below (T12.setTop (mkF m 7 Lo3 [(.int (3 : Int32)), (.int (1 : Int32))])) _
    refine XS.icmpNo X12.here hx rfl (hb hby d7_20_7) rfl (by first | rfl | decide) ?_
    show Steps p.tables e below (T12.setTop (mkF m 10 Lo3 [])) _
    refine XS.aloadN X12.here hx rfl (hb hby d7_20_10) rfl rfl ?_
    show Steps p.tables e below (T12.setTop (mkF m 11 Lo3 [(.ref a1)])) _
    refine st13 _ ?_
    show Steps p.tables e below (T13.setTop (mkF m 14 Lo3 [(.ref bb)])) _
    refine XS.iloadN X13.here hx rfl (hb hby d7_20_14) rfl ?_
    show Steps p.tables e below (T13.setTop (mkF m 15 Lo3 [(.int (2 : Int32)), (.ref bb)])) _
    refine XS.aloadN X13.here hx rfl (hb hby d7_20_15) rfl rfl ?_
    show Steps p.tables e below (T13.setTop (mkF m 16 Lo3 [(.ref a1), (.int (2 : Int32)), (.ref bb)])) _
    refine st14 _ ?_
    show Steps p.tables e below (T14.setTop (mkF m 19 Lo3 [(.int (3 : Int32)), (.int (2 : Int32)), (.ref bb)])) _
    refine XS.imul X14.here hx rfl (hb hby d7_20_19) rfl ?_
    show Steps p.tables e below (T14.setTop (mkF m 20 Lo3 [(.int (6 : Int32)), (.ref bb)])) _
    refine XS.iloadN X14.here hx rfl (hb hby d7_20_20) rfl ?_
    show Steps p.tables e below (T14.setTop (mkF m 21 Lo3 [(.int (1 : Int32)), (.int (6 : Int32)), (.ref bb)])) _
    refine XS.iadd X14.here hx rfl (hb hby d7_20_21) rfl ?_
    show Steps p.tables e below (T14.setTop (mkF m 22 Lo3 [(.int (7 : Int32)), (.ref bb)])) _
    refine XS.aloadN X14.here hx rfl (hb hby d7_20_22) rfl rfl ?_
    show Steps p.tables e below (T14.setTop (mkF m 23 Lo3 [(.ref a1), (.int (7 : Int32)), (.ref bb)])) _
    refine st15 _ ?_
    show Steps p.tables e below (T15.setTop (mkF m 26 Lo3 [(.ref bb), (.int (7 : Int32)), (.ref bb)])) _
    refine XS.iloadN X15.here hx rfl (hb hby d7_20_26) rfl ?_
    show Steps p.tables e below (T15.setTop (mkF m 27 Lo3 [(.int (0 : Int32)), (.ref bb), (.int (7 : Int32)), (.ref bb)])) _
    refine XS.aloadN X15.here hx rfl (hb hby d7_20_27) rfl rfl ?_
    show Steps p.tables e below (T15.setTop (mkF m 28 Lo3 [(.ref a1), (.int (0 : Int32)), (.ref bb), (.int (7 : Int32)), (.ref bb)])) _
    refine st16 _ ?_
    show Steps p.tables e below (T16.setTop (mkF m 31 Lo3 [(.int (3 : Int32)), (.int (0 : Int32)), (.ref bb), (.int (7 : Int32)), (.ref bb)])) _
    refine XS.imul X16.here hx rfl (hb hby d7_20_31) rfl ?_
    show Steps p.tables e below (T16.setTop (mkF m 32 Lo3 [(.int (0 : Int32)), (.ref bb), (.int (7 : Int32)), (.ref bb)])) _
    refine XS.iloadN X16.here hx rfl (hb hby d7_20_32) rfl ?_
    show Steps p.tables e below (T16.setTop (mkF m 33 Lo3 [(.int (1 : Int32)), (.int (0 : Int32)), (.ref bb), (.int (7 : Int32)), (.ref bb)])) _
    refine XS.iadd X16.here hx rfl (hb hby d7_20_33) rfl ?_
    show Steps p.tables e below (T16.setTop (mkF m 34 Lo3 [(.int (1 : Int32)), (.ref bb), (.int (7 : Int32)), (.ref bb)])) _
    refine own_ldJ X16 hx hZ e16 A11 (j := (1 : Int32)) (by decide) (w := x1) rfl (g := (mkF m 34 Lo3 [(.int (1 : Int32)), (.ref bb), (.int (7 : Int32)), (.ref bb)])) rfl rfl (hb hby d7_20_34) _ ?_
    show Steps p.tables e below (T16.setTop (mkF m 35 Lo3 [(.long x1), (.int (7 : Int32)), (.ref bb)])) _
    refine st17 _ ?_
    show Steps p.tables e below (T17.setTop (mkF m 36 Lo3 [])) _
    refine XS.aloadN X17.here hx rfl (hb hby d7_20_36) rfl rfl ?_
    show Steps p.tables e below (T17.setTop (mkF m 37 Lo3 [(.ref a1)])) _
    refine st18 _ ?_
    show Steps p.tables e below (T18.setTop (mkF m 40 Lo3 [(.ref bb)])) _
    refine XS.iloadN X18.here hx rfl (hb hby d7_20_40) rfl ?_
    show Steps p.tables e below (T18.setTop (mkF m 41 Lo3 [(.int (1 : Int32)), (.ref bb)])) _
    refine XS.aloadN X18.here hx rfl (hb hby d7_20_41) rfl rfl ?_
    show Steps p.tables e below (T18.setTop (mkF m 42 Lo3 [(.ref a1), (.int (1 : Int32)), (.ref bb)])) _
    refine st19 _ ?_
    show Steps p.tables e below (T19.setTop (mkF m 45 Lo3 [(.int (3 : Int32)), (.int (1 : Int32)), (.ref bb)])) _
    refine XS.imul X19.here hx rfl (hb hby d7_20_45) rfl ?_
    show Steps p.tables e below (T19.setTop (mkF m 46 Lo3 [(.int (3 : Int32)), (.ref bb)])) _
    refine XS.iloadN X19.here hx rfl (hb hby d7_20_46) rfl ?_
    show Steps p.tables e below (T19.setTop (mkF m 47 Lo3 [(.int (2 : Int32)), (.int (3 : Int32)), (.ref bb)])) _
    refine XS.iadd X19.here hx rfl (hb hby d7_20_47) rfl ?_
    show Steps p.tables e below (T19.setTop (mkF m 48 Lo3 [(.int (5 : Int32)), (.ref bb)])) _
    refine XS.aloadN X19.here hx rfl (hb hby d7_20_48) rfl rfl ?_
    show Steps p.tables e below (T19.setTop (mkF m 49 Lo3 [(.ref a1), (.int (5 : Int32)), (.ref bb)])) _
    refine st20 _ ?_
    show Steps p.tables e below (T20.setTop (mkF m 52 Lo3 [(.ref bb), (.int (5 : Int32)), (.ref bb)])) _
    refine XS.iloadN X20.here hx rfl (hb hby d7_20_52) rfl ?_
    show Steps p.tables e below (T20.setTop (mkF m 53 Lo3 [(.int (1 : Int32)), (.ref bb), (.int (5 : Int32)), (.ref bb)])) _
    refine XS.aloadN X20.here hx rfl (hb hby d7_20_53) rfl rfl ?_
    show Steps p.tables e below (T20.setTop (mkF m 54 Lo3 [(.ref a1), (.int (1 : Int32)), (.ref bb), (.int (5 : Int32)), (.ref bb)])) _
    refine st21 _ ?_
    show Steps p.tables e below (T21.setTop (mkF m 57 Lo3 [(.int (3 : Int32)), (.int (1 : Int32)), (.ref bb), (.int (5 : Int32)), (.ref bb)])) _
    refine XS.imul X21.here hx rfl (hb hby d7_20_57) rfl ?_
    show Steps p.tables e below (T21.setTop (mkF m 58 Lo3 [(.int (3 : Int32)), (.ref bb), (.int (5 : Int32)), (.ref bb)])) _
    refine XS.iloadN X21.here hx rfl (hb hby d7_20_58) rfl ?_
    show Steps p.tables e below (T21.setTop (mkF m 59 Lo3 [(.int (0 : Int32)), (.int (3 : Int32)), (.ref bb), (.int (5 : Int32)), (.ref bb)])) _
    refine XS.iadd X21.here hx rfl (hb hby d7_20_59) rfl ?_
    show Steps p.tables e below (T21.setTop (mkF m 60 Lo3 [(.int (3 : Int32)), (.ref bb), (.int (5 : Int32)), (.ref bb)])) _
    refine own_ldJ X21 hx hZ e21 A17 (j := (3 : Int32)) (by decide) (w := x3) rfl (g := (mkF m 60 Lo3 [(.int (3 : Int32)), (.ref bb), (.int (5 : Int32)), (.ref bb)])) rfl rfl (hb hby d7_20_60) _ ?_
    show Steps p.tables e below (T21.setTop (mkF m 61 Lo3 [(.long x3), (.int (5 : Int32)), (.ref bb)])) _
    refine st22 _ ?_
    show Steps p.tables e below (T22.setTop (mkF m 62 Lo3 [])) _
    refine XS.iinc X22.here hx rfl (hb hby d7_20_62) rfl (l' := Lo4) rfl ?_
    show Steps p.tables e below (T22.setTop (mkF m 65 Lo4 [])) _
    refine XS.goto X22.here hx rfl (pc0 := 65) (pc' := 2) rfl (hb hby d7_20_65) (by decide) (by decide) ?_
    show Steps p.tables e below (T22.setTop (mkF m 2 Lo4 [])) _
    refine XS.iloadN X22.here hx rfl (hb hby d7_20_2) rfl ?_
    show Steps p.tables e below (T22.setTop (mkF m 3 Lo4 [(.int (2 : Int32))])) _
    refine XS.aloadN X22.here hx rfl (hb hby d7_20_3) rfl rfl ?_
    show Steps p.tables e below (T22.setTop (mkF m 4 Lo4 [(.ref a1), (.int (2 : Int32))])) _
    refine st23 _ ?_
    show Steps p.tables e below (T23.setTop (mkF m 7 Lo4 [(.int (3 : Int32)), (.int (2 : Int32))])) _
    refine XS.icmpNo X23.here hx rfl (hb hby d7_20_7) rfl (by first | rfl | decide) ?_
    show Steps p.tables e below (T23.setTop (mkF m 10 Lo4 [])) _
    refine XS.aloadN X23.here hx rfl (hb hby d7_20_10) rfl rfl ?_
    show Steps p.tables e below (T23.setTop (mkF m 11 Lo4 [(.ref a1)])) _
    refine st24 _ ?_
    show Steps p.tables e below (T24.setTop (mkF m 14 Lo4 [(.ref bb)])) _
    refine XS.iloadN X24.here hx rfl (hb hby d7_20_14) rfl ?_
    show Steps p.tables e below (T24.setTop (mkF m 15 Lo4 [(.int (2 : Int32)), (.ref bb)])) _
    refine XS.aloadN X24.here hx rfl (hb hby d7_20_15) rfl rfl ?_
    show Steps p.tables e below (T24.setTop (mkF m 16 Lo4 [(.ref a1), (.int (2 : Int32)), (.ref bb)])) _
    refine st25 _ ?_
    show Steps p.tables e below (T25.setTop (mkF m 19 Lo4 [(.int (3 : Int32)), (.int (2 : Int32)), (.ref bb)])) _
    refine XS.imul X25.here hx rfl (hb hby d7_20_19) rfl ?_
    show Steps p.tables e below (T25.setTop (mkF m 20 Lo4 [(.int (6 : Int32)), (.ref bb)])) _
    refine XS.iloadN X25.here hx rfl (hb hby d7_20_20) rfl ?_
    show Steps p.tables e below (T25.setTop (mkF m 21 Lo4 [(.int (2 : Int32)), (.int (6 : Int32)), (.ref bb)])) _
    refine XS.iadd X25.here hx rfl (hb hby d7_20_21) rfl ?_
    show Steps p.tables e below (T25.setTop (mkF m 22 Lo4 [(.int (8 : Int32)), (.ref bb)])) _
    refine XS.aloadN X25.here hx rfl (hb hby d7_20_22) rfl rfl ?_
    show Steps p.tables e below (T25.setTop (mkF m 23 Lo4 [(.ref a1), (.int (8 : Int32)), (.ref bb)])) _
    refine st26 _ ?_
    show Steps p.tables e below (T26.setTop (mkF m 26 Lo4 [(.ref bb), (.int (8 : Int32)), (.ref bb)])) _
    refine XS.iloadN X26.here hx rfl (hb hby d7_20_26) rfl ?_
    show Steps p.tables e below (T26.setTop (mkF m 27 Lo4 [(.int (0 : Int32)), (.ref bb), (.int (8 : Int32)), (.ref bb)])) _
    refine XS.aloadN X26.here hx rfl (hb hby d7_20_27) rfl rfl ?_
    show Steps p.tables e below (T26.setTop (mkF m 28 Lo4 [(.ref a1), (.int (0 : Int32)), (.ref bb), (.int (8 : Int32)), (.ref bb)])) _
    refine st27 _ ?_
    show Steps p.tables e below (T27.setTop (mkF m 31 Lo4 [(.int (3 : Int32)), (.int (0 : Int32)), (.ref bb), (.int (8 : Int32)), (.ref bb)])) _
    refine XS.imul X27.here hx rfl (hb hby d7_20_31) rfl ?_
    show Steps p.tables e below (T27.setTop (mkF m 32 Lo4 [(.int (0 : Int32)), (.ref bb), (.int (8 : Int32)), (.ref bb)])) _
    refine XS.iloadN X27.here hx rfl (hb hby d7_20_32) rfl ?_
    show Steps p.tables e below (T27.setTop (mkF m 33 Lo4 [(.int (2 : Int32)), (.int (0 : Int32)), (.ref bb), (.int (8 : Int32)), (.ref bb)])) _
    refine XS.iadd X27.here hx rfl (hb hby d7_20_33) rfl ?_
    show Steps p.tables e below (T27.setTop (mkF m 34 Lo4 [(.int (2 : Int32)), (.ref bb), (.int (8 : Int32)), (.ref bb)])) _
    refine own_ldJ X27 hx hZ e27 A22 (j := (2 : Int32)) (by decide) (w := x0) rfl (g := (mkF m 34 Lo4 [(.int (2 : Int32)), (.ref bb), (.int (8 : Int32)), (.ref bb)])) rfl rfl (hb hby d7_20_34) _ ?_
    show Steps p.tables e below (T27.setTop (mkF m 35 Lo4 [(.long x0), (.int (8 : Int32)), (.ref bb)])) _
    refine st28 _ ?_
    show Steps p.tables e below (T28.setTop (mkF m 36 Lo4 [])) _
    refine XS.aloadN X28.here hx rfl (hb hby d7_20_36) rfl rfl ?_
    show Steps p.tables e below (T28.setTop (mkF m 37 Lo4 [(.ref a1)])) _
    refine st29 _ ?_
    show Steps p.tables e below (T29.setTop (mkF m 40 Lo4 [(.ref bb)])) _
    refine XS.iloadN X29.here hx rfl (hb hby d7_20_40) rfl ?_
    show Steps p.tables e below (T29.setTop (mkF m 41 Lo4 [(.int (2 : Int32)), (.ref bb)])) _
    refine XS.aloadN X29.here hx rfl (hb hby d7_20_41) rfl rfl ?_
    show Steps p.tables e below (T29.setTop (mkF m 42 Lo4 [(.ref a1), (.int (2 : Int32)), (.ref bb)])) _
    refine st30 _ ?_
    show Steps p.tables e below (T30.setTop (mkF m 45 Lo4 [(.int (3 : Int32)), (.int (2 : Int32)), (.ref bb)])) _
    refine XS.imul X30.here hx rfl (hb hby d7_20_45) rfl ?_
    show Steps p.tables e below (T30.setTop (mkF m 46 Lo4 [(.int (6 : Int32)), (.ref bb)])) _
    refine XS.iloadN X30.here hx rfl (hb hby d7_20_46) rfl ?_
    show Steps p.tables e below (T30.setTop (mkF m 47 Lo4 [(.int (2 : Int32)), (.int (6 : Int32)), (.ref bb)])) _
    refine XS.iadd X30.here hx rfl (hb hby d7_20_47) rfl ?_
    show Steps p.tables e below (T30.setTop (mkF m 48 Lo4 [(.int (8 : Int32)), (.ref bb)])) _
    refine XS.aloadN X30.here hx rfl (hb hby d7_20_48) rfl rfl ?_
    show Steps p.tables e below (T30.setTop (mkF m 49 Lo4 [(.ref a1), (.int (8 : Int32)), (.ref bb)])) _
    refine st31 _ ?_
    show Steps p.tables e below (T31.setTop (mkF m 52 Lo4 [(.ref bb), (.int (8 : Int32)), (.ref bb)])) _
    refine XS.iloadN X31.here hx rfl (hb hby d7_20_52) rfl ?_
    show Steps p.tables e below (T31.setTop (mkF m 53 Lo4 [(.int (2 : Int32)), (.ref bb), (.int (8 : Int32)), (.ref bb)])) _
    refine XS.aloadN X31.here hx rfl (hb hby d7_20_53) rfl rfl ?_
    show Steps p.tables e below (T31.setTop (mkF m 54 Lo4 [(.ref a1), (.int (2 : Int32)), (.ref bb), (.int (8 : Int32)), (.ref bb)])) _
    refine st32 _ ?_
    show Steps p.tables e below (T32.setTop (mkF m 57 Lo4 [(.int (3 : Int32)), (.int (2 : Int32)), (.ref bb), (.int (8 : Int32)), (.ref bb)])) _
    refine XS.imul X32.here hx rfl (hb hby d7_20_57) rfl ?_
    show Steps p.tables e below (T32.setTop (mkF m 58 Lo4 [(.int (6 : Int32)), (.ref bb), (.int (8 : Int32)), (.ref bb)])) _
    refine XS.iloadN X32.here hx rfl (hb hby d7_20_58) rfl ?_
    show Steps p.tables e below (T32.setTop (mkF m 59 Lo4 [(.int (0 : Int32)), (.int (6 : Int32)), (.ref bb), (.int (8 : Int32)), (.ref bb)])) _
    refine XS.iadd X32.here hx rfl (hb hby d7_20_59) rfl ?_
    show Steps p.tables e below (T32.setTop (mkF m 60 Lo4 [(.int (6 : Int32)), (.ref bb), (.int (8 : Int32)), (.ref bb)])) _
    refine own_ldJ X32 hx hZ e32 A28 (j := (6 : Int32)) (by decide) (w := x0) rfl (g := (mkF m 60 Lo4 [(.int (6 : Int32)), (.ref bb), (.int (8 : Int32)), (.ref bb)])) rfl rfl (hb hby d7_20_60) _ ?_
    show Steps p.tables e below (T32.setTop (mkF m 61 Lo4 [(.long x0), (.int (8 : Int32)), (.ref bb)])) _
    refine st33 _ ?_
    show Steps p.tables e below (T33.setTop (mkF m 62 Lo4 [])) _
    refine XS.iinc X33.here hx rfl (hb hby d7_20_62) rfl (l' := Lo5) rfl ?_
    show Steps p.tables e below (T33.setTop (mkF m 65 Lo5 [])) _
    refine XS.goto X33.here hx rfl (pc0 := 65) (pc' := 2) rfl (hb hby d7_20_65) (by decide) (by decide) ?_
    show Steps p.tables e below (T33.setTop (mkF m 2 Lo5 [])) _
    refine XS.iloadN X33.here hx rfl (hb hby d7_20_2) rfl ?_
    show Steps p.tables e below (T33.setTop (mkF m 3 Lo5 [(.int (3 : Int32))])) _
    refine XS.aloadN X33.here hx rfl (hb hby d7_20_3) rfl rfl ?_
    show Steps p.tables e below (T33.setTop (mkF m 4 Lo5 [(.ref a1), (.int (3 : Int32))])) _
    refine st34 _ ?_
    show Steps p.tables e below (T34.setTop (mkF m 7 Lo5 [(.int (3 : Int32)), (.int (3 : Int32))])) _
    refine XS.icmpYes X34.here hx rfl (pc0 := 7) (pc' := 68) rfl (hb hby d7_20_7) rfl (by first | rfl | decide) (by decide) (by decide) ?_
    show Steps p.tables e below (T34.setTop (mkF m 68 Lo5 [])) _
    refine XS.aloadN X34.here hx rfl (hb hby d7_20_68) rfl rfl ?_
    show Steps p.tables e below (T34.setTop (mkF m 69 Lo5 [(.ref a1)])) _
    refine st35 _ ?_
    show Steps p.tables e below (T35.setTop (mkF m 72 Lo5 [(.ref bb)])) _
    refine XS.iloadN X35.here hx rfl (hb hby d7_20_72) rfl ?_
    show Steps p.tables e below (T35.setTop (mkF m 73 Lo5 [(.int (2 : Int32)), (.ref bb)])) _
    refine XS.aloadN X35.here hx rfl (hb hby d7_20_73) rfl rfl ?_
    show Steps p.tables e below (T35.setTop (mkF m 74 Lo5 [(.ref a1), (.int (2 : Int32)), (.ref bb)])) _
    refine st36 _ ?_
    show Steps p.tables e below (T36.setTop (mkF m 77 Lo5 [(.int (3 : Int32)), (.int (2 : Int32)), (.ref bb)])) _
    refine XS.imul X36.here hx rfl (hb hby d7_20_77) rfl ?_
    show Steps p.tables e below (T36.setTop (mkF m 78 Lo5 [(.int (6 : Int32)), (.ref bb)])) _
    refine XS.iloadN X36.here hx rfl (hb hby d7_20_78) rfl ?_
    show Steps p.tables e below (T36.setTop (mkF m 79 Lo5 [(.int (2 : Int32)), (.int (6 : Int32)), (.ref bb)])) _
    refine XS.iadd X36.here hx rfl (hb hby d7_20_79) rfl ?_
    show Steps p.tables e below (T36.setTop (mkF m 80 Lo5 [(.int (8 : Int32)), (.ref bb)])) _
    refine XS.lconst X36.here hx rfl (hb hby d7_20_80) ?_
    show Steps p.tables e below (T36.setTop (mkF m 81 Lo5 [(.long (0 : Int64)), (.int (8 : Int32)), (.ref bb)])) _
    refine st37 _ ?_
    show Steps p.tables e below (T37.setTop (mkF m 82 Lo5 [])) _
    exact X37.returnOut hx Bd.returns (hb hby d7_20_82) hr
  · show Q7_20 Z a1 bb kk x0 x1 x2 x3 x4 x5 x6 x7 x8 h0 n0 _ T37.heap _
    rw [e37]
    exact ⟨(x0), (x1), (x0), (x3), (x4), (x3), (x0), (x1), ((0 : Int64)), rfl, N37, K37, A37, own_as_20 x0 x1 x2 x3 x4 x5 x6 x7 x8 hx0 hx4 hx8⟩
theorem own_as_12 (x0 x1 x2 x3 x4 x5 x6 x7 x8 : Int64) (hx0 : x0 = (0 : Int64)) (hx4 : x4 = (0 : Int64)) (hx8 : x8 = (0 : Int64)) : own_nine (1 : Int32) (2 : Int32) x0 x1 x2 x3 x4 x5 x6 x7 x8 (x0) (x2) (x2) (x6) ((0 : Int64)) (x8) (x6) (x8) (x8) := by
  subst hx0 hx4 hx8
  exact ⟨Or.inl ⟨by decide, by decide, rfl⟩, Or.inr ⟨by decide, by decide, by decide, _, rfl, rfl⟩, Or.inr ⟨by decide, by decide, by decide, _, rfl, rfl⟩, Or.inr ⟨by decide, by decide, by decide, _, rfl, rfl⟩, Or.inl ⟨by decide, by decide, rfl⟩, Or.inl ⟨by decide, by decide, rfl⟩, Or.inr ⟨by decide, by decide, by decide, _, rfl, rfl⟩, Or.inl ⟨by decide, by decide, rfl⟩, Or.inl ⟨by decide, by decide, rfl⟩⟩
theorem d7_12_0 : decode prog_347_method_11_code 0 = .ok (.iconst 0, 1) := by decide +kernel
theorem d7_12_1 : decode prog_347_method_11_code 1 = .ok (.istore_n 3, 1) := by decide +kernel
theorem d7_12_2 : decode prog_347_method_11_code 2 = .ok (.iload_n 3, 1) := by decide +kernel
theorem d7_12_3 : decode prog_347_method_11_code 3 = .ok (.aload_n 0, 1) := by decide +kernel
theorem d7_12_4 : decode prog_347_method_11_code 4 = .ok (.getfield 9, 3) := by decide +kernel
theorem d7_12_7 : decode prog_347_method_11_code 7 = .ok (.if_icmp .ge 61, 3) := by decide +kernel
theorem d7_12_10 : decode prog_347_method_11_code 10 = .ok (.aload_n 0, 1) := by decide +kernel
theorem d7_12_11 : decode prog_347_method_11_code 11 = .ok (.getfield 15, 3) := by decide +kernel
theorem d7_12_14 : decode prog_347_method_11_code 14 = .ok (.iload_n 1, 1) := by decide +kernel
theorem d7_12_15 : decode prog_347_method_11_code 15 = .ok (.aload_n 0, 1) := by decide +kernel
theorem d7_12_16 : decode prog_347_method_11_code 16 = .ok (.getfield 9, 3) := by decide +kernel
theorem d7_12_19 : decode prog_347_method_11_code 19 = .ok (.imul, 1) := by decide +kernel
theorem d7_12_20 : decode prog_347_method_11_code 20 = .ok (.iload_n 3, 1) := by decide +kernel
theorem d7_12_21 : decode prog_347_method_11_code 21 = .ok (.iadd, 1) := by decide +kernel
theorem d7_12_22 : decode prog_347_method_11_code 22 = .ok (.aload_n 0, 1) := by decide +kernel
theorem d7_12_23 : decode prog_347_method_11_code 23 = .ok (.getfield 15, 3) := by decide +kernel
theorem d7_12_26 : decode prog_347_method_11_code 26 = .ok (.iload_n 2, 1) := by decide +kernel
theorem d7_12_27 : decode prog_347_method_11_code 27 = .ok (.aload_n 0, 1) := by decide +kernel
theorem d7_12_28 : decode prog_347_method_11_code 28 = .ok (.getfield 9, 3) := by decide +kernel
theorem d7_12_31 : decode prog_347_method_11_code 31 = .ok (.imul, 1) := by decide +kernel
theorem d7_12_32 : decode prog_347_method_11_code 32 = .ok (.iload_n 3, 1) := by decide +kernel
theorem d7_12_33 : decode prog_347_method_11_code 33 = .ok (.iadd, 1) := by decide +kernel
theorem d7_12_34 : decode prog_347_method_11_code 34 = .ok (.laload, 1) := by decide +kernel
theorem d7_12_35 : decode prog_347_method_11_code 35 = .ok (.lastore, 1) := by decide +kernel
theorem d7_12_36 : decode prog_347_method_11_code 36 = .ok (.aload_n 0, 1) := by decide +kernel
theorem d7_12_37 : decode prog_347_method_11_code 37 = .ok (.getfield 15, 3) := by decide +kernel
theorem d7_12_40 : decode prog_347_method_11_code 40 = .ok (.iload_n 3, 1) := by decide +kernel
theorem d7_12_41 : decode prog_347_method_11_code 41 = .ok (.aload_n 0, 1) := by decide +kernel
theorem d7_12_42 : decode prog_347_method_11_code 42 = .ok (.getfield 9, 3) := by decide +kernel
theorem d7_12_45 : decode prog_347_method_11_code 45 = .ok (.imul, 1) := by decide +kernel
theorem d7_12_46 : decode prog_347_method_11_code 46 = .ok (.iload_n 1, 1) := by decide +kernel
theorem d7_12_47 : decode prog_347_method_11_code 47 = .ok (.iadd, 1) := by decide +kernel
theorem d7_12_48 : decode prog_347_method_11_code 48 = .ok (.aload_n 0, 1) := by decide +kernel
theorem d7_12_49 : decode prog_347_method_11_code 49 = .ok (.getfield 15, 3) := by decide +kernel
theorem d7_12_52 : decode prog_347_method_11_code 52 = .ok (.iload_n 3, 1) := by decide +kernel
theorem d7_12_53 : decode prog_347_method_11_code 53 = .ok (.aload_n 0, 1) := by decide +kernel
theorem d7_12_54 : decode prog_347_method_11_code 54 = .ok (.getfield 9, 3) := by decide +kernel
theorem d7_12_57 : decode prog_347_method_11_code 57 = .ok (.imul, 1) := by decide +kernel
theorem d7_12_58 : decode prog_347_method_11_code 58 = .ok (.iload_n 2, 1) := by decide +kernel
theorem d7_12_59 : decode prog_347_method_11_code 59 = .ok (.iadd, 1) := by decide +kernel
theorem d7_12_60 : decode prog_347_method_11_code 60 = .ok (.laload, 1) := by decide +kernel
theorem d7_12_61 : decode prog_347_method_11_code 61 = .ok (.lastore, 1) := by decide +kernel
theorem d7_12_62 : decode prog_347_method_11_code 62 = .ok (.iinc 3 1, 3) := by decide +kernel
theorem d7_12_65 : decode prog_347_method_11_code 65 = .ok (.goto (-63), 3) := by decide +kernel
theorem d7_12_68 : decode prog_347_method_11_code 68 = .ok (.aload_n 0, 1) := by decide +kernel
theorem d7_12_69 : decode prog_347_method_11_code 69 = .ok (.getfield 15, 3) := by decide +kernel
theorem d7_12_72 : decode prog_347_method_11_code 72 = .ok (.iload_n 1, 1) := by decide +kernel
theorem d7_12_73 : decode prog_347_method_11_code 73 = .ok (.aload_n 0, 1) := by decide +kernel
theorem d7_12_74 : decode prog_347_method_11_code 74 = .ok (.getfield 9, 3) := by decide +kernel
theorem d7_12_77 : decode prog_347_method_11_code 77 = .ok (.imul, 1) := by decide +kernel
theorem d7_12_78 : decode prog_347_method_11_code 78 = .ok (.iload_n 1, 1) := by decide +kernel
theorem d7_12_79 : decode prog_347_method_11_code 79 = .ok (.iadd, 1) := by decide +kernel
theorem d7_12_80 : decode prog_347_method_11_code 80 = .ok (.lconst 0, 1) := by decide +kernel
theorem d7_12_81 : decode prog_347_method_11_code 81 = .ok (.lastore, 1) := by decide +kernel
theorem d7_12_82 : decode prog_347_method_11_code 82 = .ok (.return_, 1) := by decide +kernel
theorem pn_7_12 : plainName "com/example/chronoscope/chronoscope/sim/Zone" = true := by first | (simp [plainName, overriddenIn]; done) | decide +kernel
theorem ef_7_12 (m : MethodId) (x0 : Addr) (x1 : Int32) (x2 : Int32) : entryFrame m #[(.ref x0), (.int x1), (.int x2)] 4 = mkF m 0 #[.val (.ref x0), .val (.int x1), .val (.int x2), .unset] [] := by first | (simp [entryFrame, mkF, argsToLocals, Value.category]; done) | rfl
def Q7_12 (Z : State) (a1 : Addr) (bb : Addr) (kk : ClassId) (x0 : Int64) (x1 : Int64) (x2 : Int64) (x3 : Int64) (x4 : Int64) (x5 : Int64) (x6 : Int64) (x7 : Int64) (x8 : Int64) (h0 : Heap) (n0 : Nat) (v : Option Value) (h : Heap) (L : List Loc) : Prop := ∃ (y0 : Int64) (y1 : Int64) (y2 : Int64) (y3 : Int64) (y4 : Int64) (y5 : Int64) (y6 : Int64) (y7 : Int64) (y8 : Int64), v = none ∧ Fr n0 L ∧ Keep h0 h [bb] ∧ (Arv Z h bb kk .long (9 : Int32) [(.long y0), (.long y1), (.long y2), (.long y3), (.long y4), (.long y5), (.long y6), (.long y7), (.long y8)] (.long (0 : Int64))) ∧ (own_nine (1 : Int32) (2 : Int32) x0 x1 x2 x3 x4 x5 x6 x7 x8 y0 y1 y2 y3 y4 y5 y6 y7 y8)
set_option maxRecDepth 65536 in
set_option maxHeartbeats 40000000 in
theorem rm7_12 (l : Launch) (Z : State) (a0 : Array Value) (hw : ∀ d ∈ tables_1, d.before a0 Z = true) (ws : List Jvm.Cond) (a1 : Addr) (bb : Addr) (kk : ClassId) (x0 : Int64) (x1 : Int64) (x2 : Int64) (x3 : Int64) (x4 : Int64) (x5 : Int64) (x6 : Int64) (x7 : Int64) (x8 : Int64) (h0 : Heap) (n0 : Nat) (Z0 : n0 ≤ h0.size) (P0 : Exa Z h0 a1 "com/example/chronoscope/chronoscope/sim/Zone") (P1 : Fld Z h0 a1 "com/example/chronoscope/chronoscope/sim/Zone" "size" "I" (.int (3 : Int32))) (P2 : Fld Z h0 a1 "com/example/chronoscope/chronoscope/sim/Zone" "bounds" "[J" (.ref bb)) (P3 : Arv Z h0 bb kk .long (9 : Int32) [(.long x0), (.long x1), (.long x2), (.long x3), (.long x4), (.long x5), (.long x6), (.long x7), (.long x8)] (.long (0 : Int64))) (g_bb : n0 ≤ bb) (ne_a1_bb : a1 ≠ bb) (hx0 : x0 = (0 : Int64)) (hx4 : x4 = (0 : Int64)) (hx8 : x8 = (0 : Int64)) :
    MetFree l (⟨"com/example/chronoscope/chronoscope/sim/Zone", "assign", "(II)V"⟩ : MethodName) (head1 (Jvm.Cond.code (⟨"com/example/chronoscope/chronoscope/sim/Zone", "assign", "(II)V"⟩ : MethodName) prog_347_method_11_code 4 none :: ws) ({ frames := 0, cells := 0, slots := 0, locals := 0 } : Room)) (fun a U => a = #[(.ref a1), (.int (1 : Int32)), (.int (2 : Int32))] ∧ Z.Warmed39 U.vm ∧ U.heap = h0) (fun _ _ _ _ _ => True) (fun _ U o U' => ∃ v L, o = .returned v ∧ Q7_12 Z a1 bb kk x0 x1 x2 x3 x4 x5 x6 x7 x8 h0 n0 v U'.heap L ∧ FrameEnd U o U' L ({ frames := 0, cells := 0, slots := 0, locals := 0 } : Room).cells ({ frames := 0, cells := 0, slots := 0, locals := 0 } : Room).slots) := by
  refine MetFree.of_bodySF (plainFor_of_name pn_7_12) hisR ?_
  intro p e s m args below meth c s₁ Bd hml0 hP hK
  obtain ⟨rfl, hZ, hh⟩ := hP
  have w12_ := hw _ (List.mem_of_getElem? (i := 12) rfl)
  have w14_ := hw _ (List.mem_of_getElem? (i := 14) rfl)
  have hx := Bd.exec
  have hby := Bd.bytes
  have hml : c.maxLocals = 4 := hml0
  have hown : s.vm.findClass "com/example/chronoscope/chronoscope/sim/Zone" = some m.cls := findClass_of_methodNamed Bd.named
  have hnm := (name_of_methodNamed Bd.named Bd.method).1
  have X0 : Stand p l e ({ frames := 0, cells := 0, slots := 0, locals := 0 } : Room) s m #[(.ref a1), (.int (1 : Int32)), (.int (2 : Int32))] below meth c s₁ [] 0 0 := Stand.of_body Bd
  have e0 : s₁.heap = h0 := by rw [← hh, Bd.state]; rfl
  have N0 := Fr.nil n0
  have pre0 : ∀ t, Steps p.tables e below (s₁.setTop (mkF m 0 #[.val (.ref a1), .val (.int (1 : Int32)), .val (.int (2 : Int32)), .unset] [])) t → Steps p.tables e below (s₁.setTop (entryFrame m #[(.ref a1), (.int (1 : Int32)), (.int (2 : Int32))] 4)) t := fun t k => castTop (ef_7_12 m a1 (1 : Int32) (2 : Int32)) k
  let Lo1 : Array Slot := #[.val (.ref a1), .val (.int (1 : Int32)), .val (.int (2 : Int32)), .unset]
  let Lo2 : Array Slot := #[.val (.ref a1), .val (.int (1 : Int32)), .val (.int (2 : Int32)), .val (.int (0 : Int32))]
  obtain ⟨T1, X1, e1, st1⟩ := getF X0 hx hZ hown (host := "") (Or.inl w12_) Via.refl e0 P1 (g := (mkF m 4 Lo2 [(.ref a1), (.int (0 : Int32))])) rfl rfl (hb hby d7_12_4)
  obtain ⟨T2, X2, e2, st2⟩ := getF X1 hx hZ hown (host := "") (Or.inl w14_) Via.refl e1 P2 (g := (mkF m 11 Lo2 [(.ref a1)])) rfl rfl (hb hby d7_12_11)
  obtain ⟨T3, X3, e3, st3⟩ := getF X2 hx hZ hown (host := "") (Or.inl w12_) Via.refl e2 P1 (g := (mkF m 16 Lo2 [(.ref a1), (.int (1 : Int32)), (.ref bb)])) rfl rfl (hb hby d7_12_16)
  obtain ⟨T4, X4, e4, st4⟩ := getF X3 hx hZ hown (host := "") (Or.inl w14_) Via.refl e3 P2 (g := (mkF m 23 Lo2 [(.ref a1), (.int (3 : Int32)), (.ref bb)])) rfl rfl (hb hby d7_12_23)
  obtain ⟨T5, X5, e5, st5⟩ := getF X4 hx hZ hown (host := "") (Or.inl w12_) Via.refl e4 P1 (g := (mkF m 28 Lo2 [(.ref a1), (.int (2 : Int32)), (.ref bb), (.int (3 : Int32)), (.ref bb)])) rfl rfl (hb hby d7_12_28)
  obtain ⟨T6, h6, X6, e6, W6, V6, st6⟩ := own_stJ X5 hx hZ e5 P3 (j := (3 : Int32)) (x := x6) (by decide) (i := 3) (by decide) (by show 3 < 9; decide) (g := (mkF m 35 Lo2 [(.long x6), (.int (3 : Int32)), (.ref bb)])) rfl rfl (hb hby d7_12_35)
  have A6 : Arv Z h6 bb kk .long (9 : Int32) [(.long x0), (.long x1), (.long x2), (.long x6), (.long x4), (.long x5), (.long x6), (.long x7), (.long x8)] (.long (0 : Int64)) := V6
  have F6_size_a1 := P1.other W6 (Or.inl ne_a1_bb)
  have F6_bounds_a1 := P2.other W6 (Or.inl ne_a1_bb)
  have E6_a1 := P0.wr W6
  have K6 : Keep h0 h6 [bb] := (Keep.refl h0 [bb]).wr W6 (Or.inl (List.mem_of_getElem? (i := 0) rfl))
  have Z6 : n0 ≤ h6.size := Nat.le_trans Z0 (Keep.of_wr W6).1
  have N6 := Fr.snoc X6 N0 g_bb
  obtain ⟨T7, X7, e7, st7⟩ := getF X6 hx hZ hown (host := "") (Or.inl w14_) Via.refl e6 F6_bounds_a1 (g := (mkF m 37 Lo2 [(.ref a1)])) rfl rfl (hb hby d7_12_37)
  obtain ⟨T8, X8, e8, st8⟩ := getF X7 hx hZ hown (host := "") (Or.inl w12_) Via.refl e7 F6_size_a1 (g := (mkF m 42 Lo2 [(.ref a1), (.int (0 : Int32)), (.ref bb)])) rfl rfl (hb hby d7_12_42)
  obtain ⟨T9, X9, e9, st9⟩ := getF X8 hx hZ hown (host := "") (Or.inl w14_) Via.refl e8 F6_bounds_a1 (g := (mkF m 49 Lo2 [(.ref a1), (.int (1 : Int32)), (.ref bb)])) rfl rfl (hb hby d7_12_49)
  obtain ⟨T10, X10, e10, st10⟩ := getF X9 hx hZ hown (host := "") (Or.inl w12_) Via.refl e9 F6_size_a1 (g := (mkF m 54 Lo2 [(.ref a1), (.int (0 : Int32)), (.ref bb), (.int (1 : Int32)), (.ref bb)])) rfl rfl (hb hby d7_12_54)
  obtain ⟨T11, h11, X11, e11, W11, V11, st11⟩ := own_stJ X10 hx hZ e10 A6 (j := (1 : Int32)) (x := x2) (by decide) (i := 1) (by decide) (by show 1 < 9; decide) (g := (mkF m 61 Lo2 [(.long x2), (.int (1 : Int32)), (.ref bb)])) rfl rfl (hb hby d7_12_61)
  have A11 : Arv Z h11 bb kk .long (9 : Int32) [(.long x0), (.long x2), (.long x2), (.long x6), (.long x4), (.long x5), (.long x6), (.long x7), (.long x8)] (.long (0 : Int64)) := V11
  have F11_size_a1 := F6_size_a1.other W11 (Or.inl ne_a1_bb)
  have F11_bounds_a1 := F6_bounds_a1.other W11 (Or.inl ne_a1_bb)
  have E11_a1 := E6_a1.wr W11
  have K11 : Keep h0 h11 [bb] := K6.wr W11 (Or.inl (List.mem_of_getElem? (i := 0) rfl))
  have Z11 : n0 ≤ h11.size := Nat.le_trans Z6 (Keep.of_wr W11).1
  have N11 := Fr.snoc X11 N6 g_bb
  let Lo3 : Array Slot := #[.val (.ref a1), .val (.int (1 : Int32)), .val (.int (2 : Int32)), .val (.int (1 : Int32))]
  obtain ⟨T12, X12, e12, st12⟩ := getF X11 hx hZ hown (host := "") (Or.inl w12_) Via.refl e11 F11_size_a1 (g := (mkF m 4 Lo3 [(.ref a1), (.int (1 : Int32))])) rfl rfl (hb hby d7_12_4)
  obtain ⟨T13, X13, e13, st13⟩ := getF X12 hx hZ hown (host := "") (Or.inl w14_) Via.refl e12 F11_bounds_a1 (g := (mkF m 11 Lo3 [(.ref a1)])) rfl rfl (hb hby d7_12_11)
  obtain ⟨T14, X14, e14, st14⟩ := getF X13 hx hZ hown (host := "") (Or.inl w12_) Via.refl e13 F11_size_a1 (g := (mkF m 16 Lo3 [(.ref a1), (.int (1 : Int32)), (.ref bb)])) rfl rfl (hb hby d7_12_16)
  obtain ⟨T15, X15, e15, st15⟩ := getF X14 hx hZ hown (host := "") (Or.inl w14_) Via.refl e14 F11_bounds_a1 (g := (mkF m 23 Lo3 [(.ref a1), (.int (4 : Int32)), (.ref bb)])) rfl rfl (hb hby d7_12_23)
  obtain ⟨T16, X16, e16, st16⟩ := getF X15 hx hZ hown (host := "") (Or.inl w12_) Via.refl e15 F11_size_a1 (g := (mkF m 28 Lo3 [(.ref a1), (.int (2 : Int32)), (.ref bb), (.int (4 : Int32)), (.ref bb)])) rfl rfl (hb hby d7_12_28)
  obtain ⟨T17, h17, X17, e17, W17, V17, st17⟩ := own_stJ X16 hx hZ e16 A11 (j := (4 : Int32)) (x := x7) (by decide) (i := 4) (by decide) (by show 4 < 9; decide) (g := (mkF m 35 Lo3 [(.long x7), (.int (4 : Int32)), (.ref bb)])) rfl rfl (hb hby d7_12_35)
  have A17 : Arv Z h17 bb kk .long (9 : Int32) [(.long x0), (.long x2), (.long x2), (.long x6), (.long x7), (.long x5), (.long x6), (.long x7), (.long x8)] (.long (0 : Int64)) := V17
  have F17_size_a1 := F11_size_a1.other W17 (Or.inl ne_a1_bb)
  have F17_bounds_a1 := F11_bounds_a1.other W17 (Or.inl ne_a1_bb)
  have E17_a1 := E11_a1.wr W17
  have K17 : Keep h0 h17 [bb] := K11.wr W17 (Or.inl (List.mem_of_getElem? (i := 0) rfl))
  have Z17 : n0 ≤ h17.size := Nat.le_trans Z11 (Keep.of_wr W17).1
  have N17 := Fr.snoc X17 N11 g_bb
  obtain ⟨T18, X18, e18, st18⟩ := getF X17 hx hZ hown (host := "") (Or.inl w14_) Via.refl e17 F17_bounds_a1 (g := (mkF m 37 Lo3 [(.ref a1)])) rfl rfl (hb hby d7_12_37)
  obtain ⟨T19, X19, e19, st19⟩ := getF X18 hx hZ hown (host := "") (Or.inl w12_) Via.refl e18 F17_size_a1 (g := (mkF m 42 Lo3 [(.ref a1), (.int (1 : Int32)), (.ref bb)])) rfl rfl (hb hby d7_12_42)
  obtain ⟨T20, X20, e20, st20⟩ := getF X19 hx hZ hown (host := "") (Or.inl w14_) Via.refl e19 F17_bounds_a1 (g := (mkF m 49 Lo3 [(.ref a1), (.int (4 : Int32)), (.ref bb)])) rfl rfl (hb hby d7_12_49)
  obtain ⟨T21, X21, e21, st21⟩ := getF X20 hx hZ hown (host := "") (Or.inl w12_) Via.refl e20 F17_size_a1 (g := (mkF m 54 Lo3 [(.ref a1), (.int (1 : Int32)), (.ref bb), (.int (4 : Int32)), (.ref bb)])) rfl rfl (hb hby d7_12_54)
  obtain ⟨T22, h22, X22, e22, W22, V22, st22⟩ := own_stJ X21 hx hZ e21 A17 (j := (4 : Int32)) (x := x5) (by decide) (i := 4) (by decide) (by show 4 < 9; decide) (g := (mkF m 61 Lo3 [(.long x5), (.int (4 : Int32)), (.ref bb)])) rfl rfl (hb hby d7_12_61)
  have A22 : Arv Z h22 bb kk .long (9 : Int32) [(.long x0), (.long x2), (.long x2), (.long x6), (.long x5), (.long x5), (.long x6), (.long x7), (.long x8)] (.long (0 : Int64)) := V22
  have F22_size_a1 := F17_size_a1.other W22 (Or.inl ne_a1_bb)
  have F22_bounds_a1 := F17_bounds_a1.other W22 (Or.inl ne_a1_bb)
  have E22_a1 := E17_a1.wr W22
  have K22 : Keep h0 h22 [bb] := K17.wr W22 (Or.inl (List.mem_of_getElem? (i := 0) rfl))
  have Z22 : n0 ≤ h22.size := Nat.le_trans Z17 (Keep.of_wr W22).1
  have N22 := Fr.snoc X22 N17 g_bb
  let Lo4 : Array Slot := #[.val (.ref a1), .val (.int (1 : Int32)), .val (.int (2 : Int32)), .val (.int (2 : Int32))]
  obtain ⟨T23, X23, e23, st23⟩ := getF X22 hx hZ hown (host := "") (Or.inl w12_) Via.refl e22 F22_size_a1 (g := (mkF m 4 Lo4 [(.ref a1), (.int (2 : Int32))])) rfl rfl (hb hby d7_12_4)
  obtain ⟨T24, X24, e24, st24⟩ := getF X23 hx hZ hown (host := "") (Or.inl w14_) Via.refl e23 F22_bounds_a1 (g := (mkF m 11 Lo4 [(.ref a1)])) rfl rfl (hb hby d7_12_11)
  obtain ⟨T25, X25, e25, st25⟩ := getF X24 hx hZ hown (host := "") (Or.inl w12_) Via.refl e24 F22_size_a1 (g := (mkF m 16 Lo4 [(.ref a1), (.int (1 : Int32)), (.ref bb)])) rfl rfl (hb hby d7_12_16)
  obtain ⟨T26, X26, e26, st26⟩ := getF X25 hx hZ hown (host := "") (Or.inl w14_) Via.refl e25 F22_bounds_a1 (g := (mkF m 23 Lo4 [(.ref a1), (.int (5 : Int32)), (.ref bb)])) rfl rfl (hb hby d7_12_23)
  obtain ⟨T27, X27, e27, st27⟩ := getF X26 hx hZ hown (host := "") (Or.inl w12_) Via.refl e26 F22_size_a1 (g := (mkF m 28 Lo4 [(.ref a1), (.int (2 : Int32)), (.ref bb), (.int (5 : Int32)), (.ref bb)])) rfl rfl (hb hby d7_12_28)
  obtain ⟨T28, h28, X28, e28, W28, V28, st28⟩ := own_stJ X27 hx hZ e27 A22 (j := (5 : Int32)) (x := x8) (by decide) (i := 5) (by decide) (by show 5 < 9; decide) (g := (mkF m 35 Lo4 [(.long x8), (.int (5 : Int32)), (.ref bb)])) rfl rfl (hb hby d7_12_35)
  have A28 : Arv Z h28 bb kk .long (9 : Int32) [(.long x0), (.long x2), (.long x2), (.long x6), (.long x5), (.long x8), (.long x6), (.long x7), (.long x8)] (.long (0 : Int64)) := V28
  have F28_size_a1 := F22_size_a1.other W28 (Or.inl ne_a1_bb)
  have F28_bounds_a1 := F22_bounds_a1.other W28 (Or.inl ne_a1_bb)
  have E28_a1 := E22_a1.wr W28
  have K28 : Keep h0 h28 [bb] := K22.wr W28 (Or.inl (List.mem_of_getElem? (i := 0) rfl))
  have Z28 : n0 ≤ h28.size := Nat.le_trans Z22 (Keep.of_wr W28).1
  have N28 := Fr.snoc X28 N22 g_bb
  obtain ⟨T29, X29, e29, st29⟩ := getF X28 hx hZ hown (host := "") (Or.inl w14_) Via.refl e28 F28_bounds_a1 (g := (mkF m 37 Lo4 [(.ref a1)])) rfl rfl (hb hby d7_12_37)
  obtain ⟨T30, X30, e30, st30⟩ := getF X29 hx hZ hown (host := "") (Or.inl w12_) Via.refl e29 F28_size_a1 (g := (mkF m 42 Lo4 [(.ref a1), (.int (2 : Int32)), (.ref bb)])) rfl rfl (hb hby d7_12_42)
  obtain ⟨T31, X31, e31, st31⟩ := getF X30 hx hZ hown (host := "") (Or.inl w14_) Via.refl e30 F28_bounds_a1 (g := (mkF m 49 Lo4 [(.ref a1), (.int (7 : Int32)), (.ref bb)])) rfl rfl (hb hby d7_12_49)
  obtain ⟨T32, X32, e32, st32⟩ := getF X31 hx hZ hown (host := "") (Or.inl w12_) Via.refl e31 F28_size_a1 (g := (mkF m 54 Lo4 [(.ref a1), (.int (2 : Int32)), (.ref bb), (.int (7 : Int32)), (.ref bb)])) rfl rfl (hb hby d7_12_54)
  obtain ⟨T33, h33, X33, e33, W33, V33, st33⟩ := own_stJ X32 hx hZ e32 A28 (j := (7 : Int32)) (x := x8) (by decide) (i := 7) (by decide) (by show 7 < 9; decide) (g := (mkF m 61 Lo4 [(.long x8), (.int (7 : Int32)), (.ref bb)])) rfl rfl (hb hby d7_12_61)
  have A33 : Arv Z h33 bb kk .long (9 : Int32) [(.long x0), (.long x2), (.long x2), (.long x6), (.long x5), (.long x8), (.long x6), (.long x8), (.long x8)] (.long (0 : Int64)) := V33
  have F33_size_a1 := F28_size_a1.other W33 (Or.inl ne_a1_bb)
  have F33_bounds_a1 := F28_bounds_a1.other W33 (Or.inl ne_a1_bb)
  have E33_a1 := E28_a1.wr W33
  have K33 : Keep h0 h33 [bb] := K28.wr W33 (Or.inl (List.mem_of_getElem? (i := 0) rfl))
  have Z33 : n0 ≤ h33.size := Nat.le_trans Z28 (Keep.of_wr W33).1
  have N33 := Fr.snoc X33 N28 g_bb
  let Lo5 : Array Slot := #[.val (.ref a1), .val (.int (1 : Int32)), .val (.int (2 : Int32)), .val (.int (3 : Int32))]
  obtain ⟨T34, X34, e34, st34⟩ := getF X33 hx hZ hown (host := "") (Or.inl w12_) Via.refl e33 F33_size_a1 (g := (mkF m 4 Lo5 [(.ref a1), (.int (3 : Int32))])) rfl rfl (hb hby d7_12_4)
  obtain ⟨T35, X35, e35, st35⟩ := getF X34 hx hZ hown (host := "") (Or.inl w14_) Via.refl e34 F33_bounds_a1 (g := (mkF m 69 Lo5 [(.ref a1)])) rfl rfl (hb hby d7_12_69)
  obtain ⟨T36, X36, e36, st36⟩ := getF X35 hx hZ hown (host := "") (Or.inl w12_) Via.refl e35 F33_size_a1 (g := (mkF m 74 Lo5 [(.ref a1), (.int (1 : Int32)), (.ref bb)])) rfl rfl (hb hby d7_12_74)
  obtain ⟨T37, h37, X37, e37, W37, V37, st37⟩ := own_stJ X36 hx hZ e36 A33 (j := (4 : Int32)) (x := (0 : Int64)) (by decide) (i := 4) (by decide) (by show 4 < 9; decide) (g := (mkF m 81 Lo5 [(.long (0 : Int64)), (.int (4 : Int32)), (.ref bb)])) rfl rfl (hb hby d7_12_81)
  have A37 : Arv Z h37 bb kk .long (9 : Int32) [(.long x0), (.long x2), (.long x2), (.long x6), (.long (0 : Int64)), (.long x8), (.long x6), (.long x8), (.long x8)] (.long (0 : Int64)) := V37
  have F37_size_a1 := F33_size_a1.other W37 (Or.inl ne_a1_bb)
  have F37_bounds_a1 := F33_bounds_a1.other W37 (Or.inl ne_a1_bb)
  have E37_a1 := E33_a1.wr W37
  have K37 : Keep h0 h37 [bb] := K33.wr W37 (Or.inl (List.mem_of_getElem? (i := 0) rfl))
  have Z37 : n0 ≤ h37.size := Nat.le_trans Z33 (Keep.of_wr W37).1
  have N37 := Fr.snoc X37 N33 g_bb
  obtain ⟨fs, hr, hrun, hended, hW, hsame⟩ := X37.leave (v := none) (fun _ => rfl)
  refine ⟨_, _, pre0 _ ?_, hrun, hended, _, _, rfl, ?_, ⟨_, rfl⟩, hW, hsame.mono (by decide) (by decide)⟩
  · show Steps p.tables e below (s₁.setTop (mkF m 0 Lo1 [])) _
    refine XS.iconst X0.here hx rfl (hb hby d7_12_0) ?_
    show Steps p.tables e below (s₁.setTop (mkF m 1 Lo1 [(.int (0 : Int32))])) _
    refine XS.istoreN X0.here hx rfl (hb hby d7_12_1) rfl (l' := Lo2) rfl ?_
    show Steps p.tables e below (s₁.setTop (mkF m 2 Lo2 [])) _
    refine XS.iloadN X0.here hx rfl (hb hby d7_12_2) rfl ?_
    show Steps p.tables e below (s₁.setTop (mkF m 3 Lo2 [(.int (0 : Int32))])) _
    refine XS.aloadN X0.here hx rfl (hb hby d7_12_3) rfl rfl ?_
    show Steps p.tables e below (s₁.setTop (mkF m 4 Lo2 [(.ref a1), (.int (0 : Int32))])) _
    refine st1 _ ?_
    show Steps p.tables e below (T1.setTop (mkF m 7 Lo2 [(.int (3 : Int32)), (.int (0 : Int32))])) _
    refine XS.icmpNo X1.here hx rfl (hb hby d7_12_7) rfl (by first | rfl | decide) ?_
    show Steps p.tables e below (T1.setTop (mkF m 10 Lo2 [])) _
    refine XS.aloadN X1.here hx rfl (hb hby d7_12_10) rfl rfl ?_
    show Steps p.tables e below (T1.setTop (mkF m 11 Lo2 [(.ref a1)])) _
    refine st2 _ ?_
    show Steps p.tables e below (T2.setTop (mkF m 14 Lo2 [(.ref bb)])) _
    refine XS.iloadN X2.here hx rfl (hb hby d7_12_14) rfl ?_
    show Steps p.tables e below (T2.setTop (mkF m 15 Lo2 [(.int (1 : Int32)), (.ref bb)])) _
    refine XS.aloadN X2.here hx rfl (hb hby d7_12_15) rfl rfl ?_
    show Steps p.tables e below (T2.setTop (mkF m 16 Lo2 [(.ref a1), (.int (1 : Int32)), (.ref bb)])) _
    refine st3 _ ?_
    show Steps p.tables e below (T3.setTop (mkF m 19 Lo2 [(.int (3 : Int32)), (.int (1 : Int32)), (.ref bb)])) _
    refine XS.imul X3.here hx rfl (hb hby d7_12_19) rfl ?_
    show Steps p.tables e below (T3.setTop (mkF m 20 Lo2 [(.int (3 : Int32)), (.ref bb)])) _
    refine XS.iloadN X3.here hx rfl (hb hby d7_12_20) rfl ?_
    show Steps p.tables e below (T3.setTop (mkF m 21 Lo2 [(.int (0 : Int32)), (.int (3 : Int32)), (.ref bb)])) _
    refine XS.iadd X3.here hx rfl (hb hby d7_12_21) rfl ?_
    show Steps p.tables e below (T3.setTop (mkF m 22 Lo2 [(.int (3 : Int32)), (.ref bb)])) _
    refine XS.aloadN X3.here hx rfl (hb hby d7_12_22) rfl rfl ?_
    show Steps p.tables e below (T3.setTop (mkF m 23 Lo2 [(.ref a1), (.int (3 : Int32)), (.ref bb)])) _
    refine st4 _ ?_
    show Steps p.tables e below (T4.setTop (mkF m 26 Lo2 [(.ref bb), (.int (3 : Int32)), (.ref bb)])) _
    refine XS.iloadN X4.here hx rfl (hb hby d7_12_26) rfl ?_
    show Steps p.tables e below (T4.setTop (mkF m 27 Lo2 [(.int (2 : Int32)), (.ref bb), (.int (3 : Int32)), (.ref bb)])) _
    refine XS.aloadN X4.here hx rfl (hb hby d7_12_27) rfl rfl ?_
    show Steps p.tables e below (T4.setTop (mkF m 28 Lo2 [(.ref a1), (.int (2 : Int32)), (.ref bb), (.int (3 : Int32)), (.ref bb)])) _
    refine st5 _ ?_
    show Steps p.tables e below (T5.setTop (mkF m 31 Lo2 [(.int (3 : Int32)), (.int (2 : Int32)), (.ref bb), (.int (3 : Int32)), (.ref bb)])) _
    refine XS.imul X5.here hx rfl (hb hby d7_12_31) rfl ?_
    show Steps p.tables e below (T5.setTop (mkF m 32 Lo2 [(.int (6 : Int32)), (.ref bb), (.int (3 : Int32)), (.ref bb)])) _
    refine XS.iloadN X5.here hx rfl (hb hby d7_12_32) rfl ?_
    show Steps p.tables e below (T5.setTop (mkF m 33 Lo2 [(.int (0 : Int32)), (.int (6 : Int32)), (.ref bb), (.int (3 : Int32)), (.ref bb)])) _
    refine XS.iadd X5.here hx rfl (hb hby d7_12_33) rfl ?_
    show Steps p.tables e below (T5.setTop (mkF m 34 Lo2 [(.int (6 : Int32)), (.ref bb), (.int (3 : Int32)), (.ref bb)])) _
    refine own_ldJ X5 hx hZ e5 P3 (j := (6 : Int32)) (by decide) (w := x6) rfl (g := (mkF m 34 Lo2 [(.int (6 : Int32)), (.ref bb), (.int (3 : Int32)), (.ref bb)])) rfl rfl (hb hby d7_12_34) _ ?_
    show Steps p.tables e below (T5.setTop (mkF m 35 Lo2 [(.long x6), (.int (3 : Int32)), (.ref bb)])) _
    refine st6 _ ?_
    show Steps p.tables e below (T6.setTop (mkF m 36 Lo2 [])) _
    refine XS.aloadN X6.here hx rfl (hb hby d7_12_36) rfl rfl ?_
    show Steps p.tables e below (T6.setTop (mkF m 37 Lo2 [(.ref a1)])) _
    refine st7 _ ?_
    show Steps p.tables e below (T7.setTop (mkF m 40 Lo2 [(.ref bb)])) _
    refine XS.iloadN X7.here hx rfl (hb hby d7_12_40) rfl ?_
    show Steps p.tables e below (T7.setTop (mkF m 41 Lo2 [(.int (0 : Int32)), (.ref bb)])) _
    refine XS.aloadN X7.here hx rfl (hb hby d7_12_41) rfl rfl ?_
    show Steps p.tables e below (T7.setTop (mkF m 42 Lo2 [(.ref a1), (.int (0 : Int32)), (.ref bb)])) _
    refine st8 _ ?_
    show Steps p.tables e below (T8.setTop (mkF m 45 Lo2 [(.int (3 : Int32)), (.int (0 : Int32)), (.ref bb)])) _
    refine XS.imul X8.here hx rfl (hb hby d7_12_45) rfl ?_
    show Steps p.tables e below (T8.setTop (mkF m 46 Lo2 [(.int (0 : Int32)), (.ref bb)])) _
    refine XS.iloadN X8.here hx rfl (hb hby d7_12_46) rfl ?_
    show Steps p.tables e below (T8.setTop (mkF m 47 Lo2 [(.int (1 : Int32)), (.int (0 : Int32)), (.ref bb)])) _
    refine XS.iadd X8.here hx rfl (hb hby d7_12_47) rfl ?_
    show Steps p.tables e below (T8.setTop (mkF m 48 Lo2 [(.int (1 : Int32)), (.ref bb)])) _
    refine XS.aloadN X8.here hx rfl (hb hby d7_12_48) rfl rfl ?_
    show Steps p.tables e below (T8.setTop (mkF m 49 Lo2 [(.ref a1), (.int (1 : Int32)), (.ref bb)])) _
    refine st9 _ ?_
    show Steps p.tables e below (T9.setTop (mkF m 52 Lo2 [(.ref bb), (.int (1 : Int32)), (.ref bb)])) _
    refine XS.iloadN X9.here hx rfl (hb hby d7_12_52) rfl ?_
    show Steps p.tables e below (T9.setTop (mkF m 53 Lo2 [(.int (0 : Int32)), (.ref bb), (.int (1 : Int32)), (.ref bb)])) _
    refine XS.aloadN X9.here hx rfl (hb hby d7_12_53) rfl rfl ?_
    show Steps p.tables e below (T9.setTop (mkF m 54 Lo2 [(.ref a1), (.int (0 : Int32)), (.ref bb), (.int (1 : Int32)), (.ref bb)])) _
    refine st10 _ ?_
    show Steps p.tables e below (T10.setTop (mkF m 57 Lo2 [(.int (3 : Int32)), (.int (0 : Int32)), (.ref bb), (.int (1 : Int32)), (.ref bb)])) _
    refine XS.imul X10.here hx rfl (hb hby d7_12_57) rfl ?_
    show Steps p.tables e below (T10.setTop (mkF m 58 Lo2 [(.int (0 : Int32)), (.ref bb), (.int (1 : Int32)), (.ref bb)])) _
    refine XS.iloadN X10.here hx rfl (hb hby d7_12_58) rfl ?_
    show Steps p.tables e below (T10.setTop (mkF m 59 Lo2 [(.int (2 : Int32)), (.int (0 : Int32)), (.ref bb), (.int (1 : Int32)), (.ref bb)])) _
    refine XS.iadd X10.here hx rfl (hb hby d7_12_59) rfl ?_
    show Steps p.tables e below (T10.setTop (mkF m 60 Lo2 [(.int (2 : Int32)), (.ref bb), (.int (1 : Int32)), (.ref bb)])) _
    refine own_ldJ X10 hx hZ e10 A6 (j := (2 : Int32)) (by decide) (w := x2) rfl (g := (mkF m 60 Lo2 [(.int (2 : Int32)), (.ref bb), (.int (1 : Int32)), (.ref bb)])) rfl rfl (hb hby d7_12_60) _ ?_
    show Steps p.tables e below (T10.setTop (mkF m 61 Lo2 [(.long x2), (.int (1 : Int32)), (.ref bb)])) _
    refine st11 _ ?_
    show Steps p.tables e below (T11.setTop (mkF m 62 Lo2 [])) _
    refine XS.iinc X11.here hx rfl (hb hby d7_12_62) rfl (l' := Lo3) rfl ?_
    show Steps p.tables e below (T11.setTop (mkF m 65 Lo3 [])) _
    refine XS.goto X11.here hx rfl (pc0 := 65) (pc' := 2) rfl (hb hby d7_12_65) (by decide) (by decide) ?_
    show Steps p.tables e below (T11.setTop (mkF m 2 Lo3 [])) _
    refine XS.iloadN X11.here hx rfl (hb hby d7_12_2) rfl ?_
    show Steps p.tables e below (T11.setTop (mkF m 3 Lo3 [(.int (1 : Int32))])) _
    refine XS.aloadN X11.here hx rfl (hb hby d7_12_3) rfl rfl ?_
    show Steps p.tables e below (T11.setTop (mkF m 4 Lo3 [(.ref a1), (.int (1 : Int32))])) _
    refine st12 _ ?_
    show Steps p.tables e below (T12.setTop (mkF m 7 Lo3 [(.int (3 : Int32)), (.int (1 : Int32))])) _
    refine XS.icmpNo X12.here hx rfl (hb hby d7_12_7) rfl (by first | rfl | decide) ?_
    show Steps p.tables e below (T12.setTop (mkF m 10 Lo3 [])) _
    refine XS.aloadN X12.here hx rfl (hb hby d7_12_10) rfl rfl ?_
    show Steps p.tables e below (T12.setTop (mkF m 11 Lo3 [(.ref a1)])) _
    refine st13 _ ?_
    show Steps p.tables e below (T13.setTop (mkF m 14 Lo3 [(.ref bb)])) _
    refine XS.iloadN X13.here hx rfl (hb hby d7_12_14) rfl ?_
    show Steps p.tables e below (T13.setTop (mkF m 15 Lo3 [(.int (1 : Int32)), (.ref bb)])) _
    refine XS.aloadN X13.here hx rfl (hb hby d7_12_15) rfl rfl ?_
    show Steps p.tables e below (T13.setTop (mkF m 16 Lo3 [(.ref a1), (.int (1 : Int32)), (.ref bb)])) _
    refine st14 _ ?_
    show Steps p.tables e below (T14.setTop (mkF m 19 Lo3 [(.int (3 : Int32)), (.int (1 : Int32)), (.ref bb)])) _
    refine XS.imul X14.here hx rfl (hb hby d7_12_19) rfl ?_
    show Steps p.tables e below (T14.setTop (mkF m 20 Lo3 [(.int (3 : Int32)), (.ref bb)])) _
    refine XS.iloadN X14.here hx rfl (hb hby d7_12_20) rfl ?_
    show Steps p.tables e below (T14.setTop (mkF m 21 Lo3 [(.int (1 : Int32)), (.int (3 : Int32)), (.ref bb)])) _
    refine XS.iadd X14.here hx rfl (hb hby d7_12_21) rfl ?_
    show Steps p.tables e below (T14.setTop (mkF m 22 Lo3 [(.int (4 : Int32)), (.ref bb)])) _
    refine XS.aloadN X14.here hx rfl (hb hby d7_12_22) rfl rfl ?_
    show Steps p.tables e below (T14.setTop (mkF m 23 Lo3 [(.ref a1), (.int (4 : Int32)), (.ref bb)])) _
    refine st15 _ ?_
    show Steps p.tables e below (T15.setTop (mkF m 26 Lo3 [(.ref bb), (.int (4 : Int32)), (.ref bb)])) _
    refine XS.iloadN X15.here hx rfl (hb hby d7_12_26) rfl ?_
    show Steps p.tables e below (T15.setTop (mkF m 27 Lo3 [(.int (2 : Int32)), (.ref bb), (.int (4 : Int32)), (.ref bb)])) _
    refine XS.aloadN X15.here hx rfl (hb hby d7_12_27) rfl rfl ?_
    show Steps p.tables e below (T15.setTop (mkF m 28 Lo3 [(.ref a1), (.int (2 : Int32)), (.ref bb), (.int (4 : Int32)), (.ref bb)])) _
    refine st16 _ ?_
    show Steps p.tables e below (T16.setTop (mkF m 31 Lo3 [(.int (3 : Int32)), (.int (2 : Int32)), (.ref bb), (.int (4 : Int32)), (.ref bb)])) _
    refine XS.imul X16.here hx rfl (hb hby d7_12_31) rfl ?_
    show Steps p.tables e below (T16.setTop (mkF m 32 Lo3 [(.int (6 : Int32)), (.ref bb), (.int (4 : Int32)), (.ref bb)])) _
    refine XS.iloadN X16.here hx rfl (hb hby d7_12_32) rfl ?_
    show Steps p.tables e below (T16.setTop (mkF m 33 Lo3 [(.int (1 : Int32)), (.int (6 : Int32)), (.ref bb), (.int (4 : Int32)), (.ref bb)])) _
    refine XS.iadd X16.here hx rfl (hb hby d7_12_33) rfl ?_
    show Steps p.tables e below (T16.setTop (mkF m 34 Lo3 [(.int (7 : Int32)), (.ref bb), (.int (4 : Int32)), (.ref bb)])) _
    refine own_ldJ X16 hx hZ e16 A11 (j := (7 : Int32)) (by decide) (w := x7) rfl (g := (mkF m 34 Lo3 [(.int (7 : Int32)), (.ref bb), (.int (4 : Int32)), (.ref bb)])) rfl rfl (hb hby d7_12_34) _ ?_
    show Steps p.tables e below (T16.setTop (mkF m 35 Lo3 [(.long x7), (.int (4 : Int32)), (.ref bb)])) _
    refine st17 _ ?_
    show Steps p.tables e below (T17.setTop (mkF m 36 Lo3 [])) _
    refine XS.aloadN X17.here hx rfl (hb hby d7_12_36) rfl rfl ?_
    show Steps p.tables e below (T17.setTop (mkF m 37 Lo3 [(.ref a1)])) _
    refine st18 _ ?_
    show Steps p.tables e below (T18.setTop (mkF m 40 Lo3 [(.ref bb)])) _
    refine XS.iloadN X18.here hx rfl (hb hby d7_12_40) rfl ?_
    show Steps p.tables e below (T18.setTop (mkF m 41 Lo3 [(.int (1 : Int32)), (.ref bb)])) _
    refine XS.aloadN X18.here hx rfl (hb hby d7_12_41) rfl rfl ?_
    show Steps p.tables e below (T18.setTop (mkF m 42 Lo3 [(.ref a1), (.int (1 : Int32)), (.ref bb)])) _
    refine st19 _ ?_
    show Steps p.tables e below (T19.setTop (mkF m 45 Lo3 [(.int (3 : Int32)), (.int (1 : Int32)), (.ref bb)])) _
    refine XS.imul X19.here hx rfl (hb hby d7_12_45) rfl ?_
    show Steps p.tables e below (T19.setTop (mkF m 46 Lo3 [(.int (3 : Int32)), (.ref bb)])) _
    refine XS.iloadN X19.here hx rfl (hb hby d7_12_46) rfl ?_
    show Steps p.tables e below (T19.setTop (mkF m 47 Lo3 [(.int (1 : Int32)), (.int (3 : Int32)), (.ref bb)])) _
    refine XS.iadd X19.here hx rfl (hb hby d7_12_47) rfl ?_
    show Steps p.tables e below (T19.setTop (mkF m 48 Lo3 [(.int (4 : Int32)), (.ref bb)])) _
    refine XS.aloadN X19.here hx rfl (hb hby d7_12_48) rfl rfl ?_
    show Steps p.tables e below (T19.setTop (mkF m 49 Lo3 [(.ref a1), (.int (4 : Int32)), (.ref bb)])) _
    refine st20 _ ?_
    show Steps p.tables e below (T20.setTop (mkF m 52 Lo3 [(.ref bb), (.int (4 : Int32)), (.ref bb)])) _
    refine XS.iloadN X20.here hx rfl (hb hby d7_12_52) rfl ?_
    show Steps p.tables e below (T20.setTop (mkF m 53 Lo3 [(.int (1 : Int32)), (.ref bb), (.int (4 : Int32)), (.ref bb)])) _
    refine XS.aloadN X20.here hx rfl (hb hby d7_12_53) rfl rfl ?_
    show Steps p.tables e below (T20.setTop (mkF m 54 Lo3 [(.ref a1), (.int (1 : Int32)), (.ref bb), (.int (4 : Int32)), (.ref bb)])) _
    refine st21 _ ?_
    show Steps p.tables e below (T21.setTop (mkF m 57 Lo3 [(.int (3 : Int32)), (.int (1 : Int32)), (.ref bb), (.int (4 : Int32)), (.ref bb)])) _
    refine XS.imul X21.here hx rfl (hb hby d7_12_57) rfl ?_
    show Steps p.tables e below (T21.setTop (mkF m 58 Lo3 [(.int (3 : Int32)), (.ref bb), (.int (4 : Int32)), (.ref bb)])) _
    refine XS.iloadN X21.here hx rfl (hb hby d7_12_58) rfl ?_
    show Steps p.tables e below (T21.setTop (mkF m 59 Lo3 [(.int (2 : Int32)), (.int (3 : Int32)), (.ref bb), (.int (4 : Int32)), (.ref bb)])) _
    refine XS.iadd X21.here hx rfl (hb hby d7_12_59) rfl ?_
    show Steps p.tables e below (T21.setTop (mkF m 60 Lo3 [(.int (5 : Int32)), (.ref bb), (.int (4 : Int32)), (.ref bb)])) _
    refine own_ldJ X21 hx hZ e21 A17 (j := (5 : Int32)) (by decide) (w := x5) rfl (g := (mkF m 60 Lo3 [(.int (5 : Int32)), (.ref bb), (.int (4 : Int32)), (.ref bb)])) rfl rfl (hb hby d7_12_60) _ ?_
    show Steps p.tables e below (T21.setTop (mkF m 61 Lo3 [(.long x5), (.int (4 : Int32)), (.ref bb)])) _
    refine st22 _ ?_
    show Steps p.tables e below (T22.setTop (mkF m 62 Lo3 [])) _
    refine XS.iinc X22.here hx rfl (hb hby d7_12_62) rfl (l' := Lo4) rfl ?_
    show Steps p.tables e below (T22.setTop (mkF m 65 Lo4 [])) _
    refine XS.goto X22.here hx rfl (pc0 := 65) (pc' := 2) rfl (hb hby d7_12_65) (by decide) (by decide) ?_
    show Steps p.tables e below (T22.setTop (mkF m 2 Lo4 [])) _
    refine XS.iloadN X22.here hx rfl (hb hby d7_12_2) rfl ?_
    show Steps p.tables e below (T22.setTop (mkF m 3 Lo4 [(.int (2 : Int32))])) _
    refine XS.aloadN X22.here hx rfl (hb hby d7_12_3) rfl rfl ?_
    show Steps p.tables e below (T22.setTop (mkF m 4 Lo4 [(.ref a1), (.int (2 : Int32))])) _
    refine st23 _ ?_
    show Steps p.tables e below (T23.setTop (mkF m 7 Lo4 [(.int (3 : Int32)), (.int (2 : Int32))])) _
    refine XS.icmpNo X23.here hx rfl (hb hby d7_12_7) rfl (by first | rfl | decide) ?_
    show Steps p.tables e below (T23.setTop (mkF m 10 Lo4 [])) _
    refine XS.aloadN X23.here hx rfl (hb hby d7_12_10) rfl rfl ?_
    show Steps p.tables e below (T23.setTop (mkF m 11 Lo4 [(.ref a1)])) _
    refine st24 _ ?_
    show Steps p.tables e below (T24.setTop (mkF m 14 Lo4 [(.ref bb)])) _
    refine XS.iloadN X24.here hx rfl (hb hby d7_12_14) rfl ?_
    show Steps p.tables e below (T24.setTop (mkF m 15 Lo4 [(.int (1 : Int32)), (.ref bb)])) _
    refine XS.aloadN X24.here hx rfl (hb hby d7_12_15) rfl rfl ?_
    show Steps p.tables e below (T24.setTop (mkF m 16 Lo4 [(.ref a1), (.int (1 : Int32)), (.ref bb)])) _
    refine st25 _ ?_
    show Steps p.tables e below (T25.setTop (mkF m 19 Lo4 [(.int (3 : Int32)), (.int (1 : Int32)), (.ref bb)])) _
    refine XS.imul X25.here hx rfl (hb hby d7_12_19) rfl ?_
    show Steps p.tables e below (T25.setTop (mkF m 20 Lo4 [(.int (3 : Int32)), (.ref bb)])) _
    refine XS.iloadN X25.here hx rfl (hb hby d7_12_20) rfl ?_
    show Steps p.tables e below (T25.setTop (mkF m 21 Lo4 [(.int (2 : Int32)), (.int (3 : Int32)), (.ref bb)])) _
    refine XS.iadd X25.here hx rfl (hb hby d7_12_21) rfl ?_
    show Steps p.tables e below (T25.setTop (mkF m 22 Lo4 [(.int (5 : Int32)), (.ref bb)])) _
    refine XS.aloadN X25.here hx rfl (hb hby d7_12_22) rfl rfl ?_
    show Steps p.tables e below (T25.setTop (mkF m 23 Lo4 [(.ref a1), (.int (5 : Int32)), (.ref bb)])) _
    refine st26 _ ?_
    show Steps p.tables e below (T26.setTop (mkF m 26 Lo4 [(.ref bb), (.int (5 : Int32)), (.ref bb)])) _
    refine XS.iloadN X26.here hx rfl (hb hby d7_12_26) rfl ?_
    show Steps p.tables e below (T26.setTop (mkF m 27 Lo4 [(.int (2 : Int32)), (.ref bb), (.int (5 : Int32)), (.ref bb)])) _
    refine XS.aloadN X26.here hx rfl (hb hby d7_12_27) rfl rfl ?_
    show Steps p.tables e below (T26.setTop (mkF m 28 Lo4 [(.ref a1), (.int (2 : Int32)), (.ref bb), (.int (5 : Int32)), (.ref bb)])) _
    refine st27 _ ?_
    show Steps p.tables e below (T27.setTop (mkF m 31 Lo4 [(.int (3 : Int32)), (.int (2 : Int32)), (.ref bb), (.int (5 : Int32)), (.ref bb)])) _
    refine XS.imul X27.here hx rfl (hb hby d7_12_31) rfl ?_
    show Steps p.tables e below (T27.setTop (mkF m 32 Lo4 [(.int (6 : Int32)), (.ref bb), (.int (5 : Int32)), (.ref bb)])) _
    refine XS.iloadN X27.here hx rfl (hb hby d7_12_32) rfl ?_
    show Steps p.tables e below (T27.setTop (mkF m 33 Lo4 [(.int (2 : Int32)), (.int (6 : Int32)), (.ref bb), (.int (5 : Int32)), (.ref bb)])) _
    refine XS.iadd X27.here hx rfl (hb hby d7_12_33) rfl ?_
    show Steps p.tables e below (T27.setTop (mkF m 34 Lo4 [(.int (8 : Int32)), (.ref bb), (.int (5 : Int32)), (.ref bb)])) _
    refine own_ldJ X27 hx hZ e27 A22 (j := (8 : Int32)) (by decide) (w := x8) rfl (g := (mkF m 34 Lo4 [(.int (8 : Int32)), (.ref bb), (.int (5 : Int32)), (.ref bb)])) rfl rfl (hb hby d7_12_34) _ ?_
    show Steps p.tables e below (T27.setTop (mkF m 35 Lo4 [(.long x8), (.int (5 : Int32)), (.ref bb)])) _
    refine st28 _ ?_
    show Steps p.tables e below (T28.setTop (mkF m 36 Lo4 [])) _
    refine XS.aloadN X28.here hx rfl (hb hby d7_12_36) rfl rfl ?_
    show Steps p.tables e below (T28.setTop (mkF m 37 Lo4 [(.ref a1)])) _
    refine st29 _ ?_
    show Steps p.tables e below (T29.setTop (mkF m 40 Lo4 [(.ref bb)])) _
    refine XS.iloadN X29.here hx rfl (hb hby d7_12_40) rfl ?_
    show Steps p.tables e below (T29.setTop (mkF m 41 Lo4 [(.int (2 : Int32)), (.ref bb)])) _
    refine XS.aloadN X29.here hx rfl (hb hby d7_12_41) rfl rfl ?_
    show Steps p.tables e below (T29.setTop (mkF m 42 Lo4 [(.ref a1), (.int (2 : Int32)), (.ref bb)])) _
    refine st30 _ ?_
    show Steps p.tables e below (T30.setTop (mkF m 45 Lo4 [(.int (3 : Int32)), (.int (2 : Int32)), (.ref bb)])) _
    refine XS.imul X30.here hx rfl (hb hby d7_12_45) rfl ?_
    show Steps p.tables e below (T30.setTop (mkF m 46 Lo4 [(.int (6 : Int32)), (.ref bb)])) _
    refine XS.iloadN X30.here hx rfl (hb hby d7_12_46) rfl ?_
    show Steps p.tables e below (T30.setTop (mkF m 47 Lo4 [(.int (1 : Int32)), (.int (6 : Int32)), (.ref bb)])) _
    refine XS.iadd X30.here hx rfl (hb hby d7_12_47) rfl ?_
    show Steps p.tables e below (T30.setTop (mkF m 48 Lo4 [(.int (7 : Int32)), (.ref bb)])) _
    refine XS.aloadN X30.here hx rfl (hb hby d7_12_48) rfl rfl ?_
    show Steps p.tables e below (T30.setTop (mkF m 49 Lo4 [(.ref a1), (.int (7 : Int32)), (.ref bb)])) _
    refine st31 _ ?_
    show Steps p.tables e below (T31.setTop (mkF m 52 Lo4 [(.ref bb), (.int (7 : Int32)), (.ref bb)])) _
    refine XS.iloadN X31.here hx rfl (hb hby d7_12_52) rfl ?_
    show Steps p.tables e below (T31.setTop (mkF m 53 Lo4 [(.int (2 : Int32)), (.ref bb), (.int (7 : Int32)), (.ref bb)])) _
    refine XS.aloadN X31.here hx rfl (hb hby d7_12_53) rfl rfl ?_
    show Steps p.tables e below (T31.setTop (mkF m 54 Lo4 [(.ref a1), (.int (2 : Int32)), (.ref bb), (.int (7 : Int32)), (.ref bb)])) _
    refine st32 _ ?_
    show Steps p.tables e below (T32.setTop (mkF m 57 Lo4 [(.int (3 : Int32)), (.int (2 : Int32)), (.ref bb), (.int (7 : Int32)), (.ref bb)])) _
    refine XS.imul X32.here hx rfl (hb hby d7_12_57) rfl ?_
    show Steps p.tables e below (T32.setTop (mkF m 58 Lo4 [(.int (6 : Int32)), (.ref bb), (.int (7 : Int32)), (.ref bb)])) _
    refine XS.iloadN X32.here hx rfl (hb hby d7_12_58) rfl ?_
    show Steps p.tables e below (T32.setTop (mkF m 59 Lo4 [(.int (2 : Int32)), (.int (6 : Int32)), (.ref bb), (.int (7 : Int32)), (.ref bb)])) _
    refine XS.iadd X32.here hx rfl (hb hby d7_12_59) rfl ?_
    show Steps p.tables e below (T32.setTop (mkF m 60 Lo4 [(.int (8 : Int32)), (.ref bb), (.int (7 : Int32)), (.ref bb)])) _
    refine own_ldJ X32 hx hZ e32 A28 (j := (8 : Int32)) (by decide) (w := x8) rfl (g := (mkF m 60 Lo4 [(.int (8 : Int32)), (.ref bb), (.int (7 : Int32)), (.ref bb)])) rfl rfl (hb hby d7_12_60) _ ?_
    show Steps p.tables e below (T32.setTop (mkF m 61 Lo4 [(.long x8), (.int (7 : Int32)), (.ref bb)])) _
    refine st33 _ ?_
    show Steps p.tables e below (T33.setTop (mkF m 62 Lo4 [])) _
    refine XS.iinc X33.here hx rfl (hb hby d7_12_62) rfl (l' := Lo5) rfl ?_
    show Steps p.tables e below (T33.setTop (mkF m 65 Lo5 [])) _
    refine XS.goto X33.here hx rfl (pc0 := 65) (pc' := 2) rfl (hb hby d7_12_65) (by decide) (by decide) ?_
    show Steps p.tables e below (T33.setTop (mkF m 2 Lo5 [])) _
    refine XS.iloadN X33.here hx rfl (hb hby d7_12_2) rfl ?_
    show Steps p.tables e below (T33.setTop (mkF m 3 Lo5 [(.int (3 : Int32))])) _
    refine XS.aloadN X33.here hx rfl (hb hby d7_12_3) rfl rfl ?_
    show Steps p.tables e below (T33.setTop (mkF m 4 Lo5 [(.ref a1), (.int (3 : Int32))])) _
    refine st34 _ ?_
    show Steps p.tables e below (T34.setTop (mkF m 7 Lo5 [(.int (3 : Int32)), (.int (3 : Int32))])) _
    refine XS.icmpYes X34.here hx rfl (pc0 := 7) (pc' := 68) rfl (hb hby d7_12_7) rfl (by first | rfl | decide) (by decide) (by decide) ?_
    show Steps p.tables e below (T34.setTop (mkF m 68 Lo5 [])) _
    refine XS.aloadN X34.here hx rfl (hb hby d7_12_68) rfl rfl ?_
    show Steps p.tables e below (T34.setTop (mkF m 69 Lo5 [(.ref a1)])) _
    refine st35 _ ?_
    show Steps p.tables e below (T35.setTop (mkF m 72 Lo5 [(.ref bb)])) _
    refine XS.iloadN X35.here hx rfl (hb hby d7_12_72) rfl ?_
    show Steps p.tables e below (T35.setTop (mkF m 73 Lo5 [(.int (1 : Int32)), (.ref bb)])) _
    refine XS.aloadN X35.here hx rfl (hb hby d7_12_73) rfl rfl ?_
    show Steps p.tables e below (T35.setTop (mkF m 74 Lo5 [(.ref a1), (.int (1 : Int32)), (.ref bb)])) _
    refine st36 _ ?_
    show Steps p.tables e below (T36.setTop (mkF m 77 Lo5 [(.int (3 : Int32)), (.int (1 : Int32)), (.ref bb)])) _
    refine XS.imul X36.here hx rfl (hb hby d7_12_77) rfl ?_
    show Steps p.tables e below (T36.setTop (mkF m 78 Lo5 [(.int (3 : Int32)), (.ref bb)])) _
    refine XS.iloadN X36.here hx rfl (hb hby d7_12_78) rfl ?_
    show Steps p.tables e below (T36.setTop (mkF m 79 Lo5 [(.int (1 : Int32)), (.int (3 : Int32)), (.ref bb)])) _
    refine XS.iadd X36.here hx rfl (hb hby d7_12_79) rfl ?_
    show Steps p.tables e below (T36.setTop (mkF m 80 Lo5 [(.int (4 : Int32)), (.ref bb)])) _
    refine XS.lconst X36.here hx rfl (hb hby d7_12_80) ?_
    show Steps p.tables e below (T36.setTop (mkF m 81 Lo5 [(.long (0 : Int64)), (.int (4 : Int32)), (.ref bb)])) _
    refine st37 _ ?_
    show Steps p.tables e below (T37.setTop (mkF m 82 Lo5 [])) _
    exact X37.returnOut hx Bd.returns (hb hby d7_12_82) hr
  · show Q7_12 Z a1 bb kk x0 x1 x2 x3 x4 x5 x6 x7 x8 h0 n0 _ T37.heap _
    rw [e37]
    exact ⟨(x0), (x2), (x2), (x6), ((0 : Int64)), (x8), (x6), (x8), (x8), rfl, N37, K37, A37, own_as_12 x0 x1 x2 x3 x4 x5 x6 x7 x8 hx0 hx4 hx8⟩
theorem own_as_21 (x0 x1 x2 x3 x4 x5 x6 x7 x8 : Int64) (hx0 : x0 = (0 : Int64)) (hx4 : x4 = (0 : Int64)) (hx8 : x8 = (0 : Int64)) : own_nine (2 : Int32) (1 : Int32) x0 x1 x2 x3 x4 x5 x6 x7 x8 (x0) (x1) (x1) (x3) (x4) (x4) (x3) (x4) ((0 : Int64)) := by
  subst hx0 hx4 hx8
  exact ⟨Or.inl ⟨by decide, by decide, rfl⟩, Or.inr ⟨by decide, by decide, by decide, _, rfl, rfl⟩, Or.inr ⟨by decide, by decide, by decide, _, rfl, rfl⟩, Or.inr ⟨by decide, by decide, by decide, _, rfl, rfl⟩, Or.inl ⟨by decide, by decide, rfl⟩, Or.inl ⟨by decide, by decide, rfl⟩, Or.inr ⟨by decide, by decide, by decide, _, rfl, rfl⟩, Or.inl ⟨by decide, by decide, rfl⟩, Or.inl ⟨by decide, by decide, rfl⟩⟩
theorem d7_21_0 : decode prog_347_method_11_code 0 = .ok (.iconst 0, 1) := by decide +kernel
theorem d7_21_1 : decode prog_347_method_11_code 1 = .ok (.istore_n 3, 1) := by decide +kernel
theorem d7_21_2 : decode prog_347_method_11_code 2 = .ok (.iload_n 3, 1) := by decide +kernel
theorem d7_21_3 : decode prog_347_method_11_code 3 = .ok (.aload_n 0, 1) := by decide +kernel
theorem d7_21_4 : decode prog_347_method_11_code 4 = .ok (.getfield 9, 3) := by decide +kernel
theorem d7_21_7 : decode prog_347_method_11_code 7 = .ok (.if_icmp .ge 61, 3) := by decide +kernel
theorem d7_21_10 : decode prog_347_method_11_code 10 = .ok (.aload_n 0, 1) := by decide +kernel
theorem d7_21_11 : decode prog_347_method_11_code 11 = .ok (.getfield 15, 3) := by decide +kernel
theorem d7_21_14 : decode prog_347_method_11_code 14 = .ok (.iload_n 1, 1) := by decide +kernel
theorem d7_21_15 : decode prog_347_method_11_code 15 = .ok (.aload_n 0, 1) := by decide +kernel
theorem d7_21_16 : decode prog_347_method_11_code 16 = .ok (.getfield 9, 3) := by decide +kernel
theorem d7_21_19 : decode prog_347_method_11_code 19 = .ok (.imul, 1) := by decide +kernel
theorem d7_21_20 : decode prog_347_method_11_code 20 = .ok (.iload_n 3, 1) := by decide +kernel
theorem d7_21_21 : decode prog_347_method_11_code 21 = .ok (.iadd, 1) := by decide +kernel
theorem d7_21_22 : decode prog_347_method_11_code 22 = .ok (.aload_n 0, 1) := by decide +kernel
theorem d7_21_23 : decode prog_347_method_11_code 23 = .ok (.getfield 15, 3) := by decide +kernel
theorem d7_21_26 : decode prog_347_method_11_code 26 = .ok (.iload_n 2, 1) := by decide +kernel
theorem d7_21_27 : decode prog_347_method_11_code 27 = .ok (.aload_n 0, 1) := by decide +kernel
theorem d7_21_28 : decode prog_347_method_11_code 28 = .ok (.getfield 9, 3) := by decide +kernel
theorem d7_21_31 : decode prog_347_method_11_code 31 = .ok (.imul, 1) := by decide +kernel
theorem d7_21_32 : decode prog_347_method_11_code 32 = .ok (.iload_n 3, 1) := by decide +kernel
theorem d7_21_33 : decode prog_347_method_11_code 33 = .ok (.iadd, 1) := by decide +kernel
theorem d7_21_34 : decode prog_347_method_11_code 34 = .ok (.laload, 1) := by decide +kernel
theorem d7_21_35 : decode prog_347_method_11_code 35 = .ok (.lastore, 1) := by decide +kernel
theorem d7_21_36 : decode prog_347_method_11_code 36 = .ok (.aload_n 0, 1) := by decide +kernel
theorem d7_21_37 : decode prog_347_method_11_code 37 = .ok (.getfield 15, 3) := by decide +kernel
theorem d7_21_40 : decode prog_347_method_11_code 40 = .ok (.iload_n 3, 1) := by decide +kernel
theorem d7_21_41 : decode prog_347_method_11_code 41 = .ok (.aload_n 0, 1) := by decide +kernel
theorem d7_21_42 : decode prog_347_method_11_code 42 = .ok (.getfield 9, 3) := by decide +kernel
theorem d7_21_45 : decode prog_347_method_11_code 45 = .ok (.imul, 1) := by decide +kernel
theorem d7_21_46 : decode prog_347_method_11_code 46 = .ok (.iload_n 1, 1) := by decide +kernel
theorem d7_21_47 : decode prog_347_method_11_code 47 = .ok (.iadd, 1) := by decide +kernel
theorem d7_21_48 : decode prog_347_method_11_code 48 = .ok (.aload_n 0, 1) := by decide +kernel
theorem d7_21_49 : decode prog_347_method_11_code 49 = .ok (.getfield 15, 3) := by decide +kernel
theorem d7_21_52 : decode prog_347_method_11_code 52 = .ok (.iload_n 3, 1) := by decide +kernel
theorem d7_21_53 : decode prog_347_method_11_code 53 = .ok (.aload_n 0, 1) := by decide +kernel
theorem d7_21_54 : decode prog_347_method_11_code 54 = .ok (.getfield 9, 3) := by decide +kernel
theorem d7_21_57 : decode prog_347_method_11_code 57 = .ok (.imul, 1) := by decide +kernel
theorem d7_21_58 : decode prog_347_method_11_code 58 = .ok (.iload_n 2, 1) := by decide +kernel
theorem d7_21_59 : decode prog_347_method_11_code 59 = .ok (.iadd, 1) := by decide +kernel
theorem d7_21_60 : decode prog_347_method_11_code 60 = .ok (.laload, 1) := by decide +kernel
theorem d7_21_61 : decode prog_347_method_11_code 61 = .ok (.lastore, 1) := by decide +kernel
theorem d7_21_62 : decode prog_347_method_11_code 62 = .ok (.iinc 3 1, 3) := by decide +kernel
theorem d7_21_65 : decode prog_347_method_11_code 65 = .ok (.goto (-63), 3) := by decide +kernel
theorem d7_21_68 : decode prog_347_method_11_code 68 = .ok (.aload_n 0, 1) := by decide +kernel
theorem d7_21_69 : decode prog_347_method_11_code 69 = .ok (.getfield 15, 3) := by decide +kernel
theorem d7_21_72 : decode prog_347_method_11_code 72 = .ok (.iload_n 1, 1) := by decide +kernel
theorem d7_21_73 : decode prog_347_method_11_code 73 = .ok (.aload_n 0, 1) := by decide +kernel
theorem d7_21_74 : decode prog_347_method_11_code 74 = .ok (.getfield 9, 3) := by decide +kernel
theorem d7_21_77 : decode prog_347_method_11_code 77 = .ok (.imul, 1) := by decide +kernel
theorem d7_21_78 : decode prog_347_method_11_code 78 = .ok (.iload_n 1, 1) := by decide +kernel
theorem d7_21_79 : decode prog_347_method_11_code 79 = .ok (.iadd, 1) := by decide +kernel
theorem d7_21_80 : decode prog_347_method_11_code 80 = .ok (.lconst 0, 1) := by decide +kernel
theorem d7_21_81 : decode prog_347_method_11_code 81 = .ok (.lastore, 1) := by decide +kernel
theorem d7_21_82 : decode prog_347_method_11_code 82 = .ok (.return_, 1) := by decide +kernel
theorem pn_7_21 : plainName "com/example/chronoscope/chronoscope/sim/Zone" = true := by first | (simp [plainName, overriddenIn]; done) | decide +kernel
theorem ef_7_21 (m : MethodId) (x0 : Addr) (x1 : Int32) (x2 : Int32) : entryFrame m #[(.ref x0), (.int x1), (.int x2)] 4 = mkF m 0 #[.val (.ref x0), .val (.int x1), .val (.int x2), .unset] [] := by first | (simp [entryFrame, mkF, argsToLocals, Value.category]; done) | rfl
def Q7_21 (Z : State) (a1 : Addr) (bb : Addr) (kk : ClassId) (x0 : Int64) (x1 : Int64) (x2 : Int64) (x3 : Int64) (x4 : Int64) (x5 : Int64) (x6 : Int64) (x7 : Int64) (x8 : Int64) (h0 : Heap) (n0 : Nat) (v : Option Value) (h : Heap) (L : List Loc) : Prop := ∃ (y0 : Int64) (y1 : Int64) (y2 : Int64) (y3 : Int64) (y4 : Int64) (y5 : Int64) (y6 : Int64) (y7 : Int64) (y8 : Int64), v = none ∧ Fr n0 L ∧ Keep h0 h [bb] ∧ (Arv Z h bb kk .long (9 : Int32) [(.long y0), (.long y1), (.long y2), (.long y3), (.long y4), (.long y5), (.long y6), (.long y7), (.long y8)] (.long (0 : Int64))) ∧ (own_nine (2 : Int32) (1 : Int32) x0 x1 x2 x3 x4 x5 x6 x7 x8 y0 y1 y2 y3 y4 y5 y6 y7 y8)
set_option maxRecDepth 65536 in
set_option maxHeartbeats 40000000 in
theorem rm7_21 (l : Launch) (Z : State) (a0 : Array Value) (hw : ∀ d ∈ tables_1, d.before a0 Z = true) (ws : List Jvm.Cond) (a1 : Addr) (bb : Addr) (kk : ClassId) (x0 : Int64) (x1 : Int64) (x2 : Int64) (x3 : Int64) (x4 : Int64) (x5 : Int64) (x6 : Int64) (x7 : Int64) (x8 : Int64) (h0 : Heap) (n0 : Nat) (Z0 : n0 ≤ h0.size) (P0 : Exa Z h0 a1 "com/example/chronoscope/chronoscope/sim/Zone") (P1 : Fld Z h0 a1 "com/example/chronoscope/chronoscope/sim/Zone" "size" "I" (.int (3 : Int32))) (P2 : Fld Z h0 a1 "com/example/chronoscope/chronoscope/sim/Zone" "bounds" "[J" (.ref bb)) (P3 : Arv Z h0 bb kk .long (9 : Int32) [(.long x0), (.long x1), (.long x2), (.long x3), (.long x4), (.long x5), (.long x6), (.long x7), (.long x8)] (.long (0 : Int64))) (g_bb : n0 ≤ bb) (ne_a1_bb : a1 ≠ bb) (hx0 : x0 = (0 : Int64)) (hx4 : x4 = (0 : Int64)) (hx8 : x8 = (0 : Int64)) :
    MetFree l (⟨"com/example/chronoscope/chronoscope/sim/Zone", "assign", "(II)V"⟩ : MethodName) (head1 (Jvm.Cond.code (⟨"com/example/chronoscope/chronoscope/sim/Zone", "assign", "(II)V"⟩ : MethodName) prog_347_method_11_code 4 none :: ws) ({ frames := 0, cells := 0, slots := 0, locals := 0 } : Room)) (fun a U => a = #[(.ref a1), (.int (2 : Int32)), (.int (1 : Int32))] ∧ Z.Warmed39 U.vm ∧ U.heap = h0) (fun _ _ _ _ _ => True) (fun _ U o U' => ∃ v L, o = .returned v ∧ Q7_21 Z a1 bb kk x0 x1 x2 x3 x4 x5 x6 x7 x8 h0 n0 v U'.heap L ∧ FrameEnd U o U' L ({ frames := 0, cells := 0, slots := 0, locals := 0 } : Room).cells ({ frames := 0, cells := 0, slots := 0, locals := 0 } : Room).slots) := by
  refine MetFree.of_bodySF (plainFor_of_name pn_7_21) hisR ?_
  intro p e s m args below meth c s₁ Bd hml0 hP hK
  obtain ⟨rfl, hZ, hh⟩ := hP
  have w12_ := hw _ (List.mem_of_getElem? (i := 12) rfl)
  have w14_ := hw _ (List.mem_of_getElem? (i := 14) rfl)
  have hx := Bd.exec
  have hby := Bd.bytes
  have hml : c.maxLocals = 4 := hml0
  have hown : s.vm.findClass "com/example/chronoscope/chronoscope/sim/Zone" = some m.cls := findClass_of_methodNamed Bd.named
  have hnm := (name_of_methodNamed Bd.named Bd.method).1
  have X0 : Stand p l e ({ frames := 0, cells := 0, slots := 0, locals := 0 } : Room) s m #[(.ref a1), (.int (2 : Int32)), (.int (1 : Int32))] below meth c s₁ [] 0 0 := Stand.of_body Bd
  have e0 : s₁.heap = h0 := by rw [← hh, Bd.state]; rfl
  have N0 := Fr.nil n0
  have pre0 : ∀ t, Steps p.tables e below (s₁.setTop (mkF m 0 #[.val (.ref a1), .val (.int (2 : Int32)), .val (.int (1 : Int32)), .unset] [])) t → Steps p.tables e below (s₁.setTop (entryFrame m #[(.ref a1), (.int (2 : Int32)), (.int (1 : Int32))] 4)) t := fun t k => castTop (ef_7_21 m a1 (2 : Int32) (1 : Int32)) k
  let Lo1 : Array Slot := #[.val (.ref a1), .val (.int (2 : Int32)), .val (.int (1 : Int32)), .unset]
  let Lo2 : Array Slot := #[.val (.ref a1), .val (.int (2 : Int32)), .val (.int (1 : Int32)), .val (.int (0 : Int32))]
  obtain ⟨T1, X1, e1, st1⟩ := getF X0 hx hZ hown (host := "") (Or.inl w12_) Via.refl e0 P1 (g := (mkF m 4 Lo2 [(.ref a1), (.int (0 : Int32))])) rfl rfl (hb hby d7_21_4)
  obtain ⟨T2, X2, e2, st2⟩ := getF X1 hx hZ hown (host := "") (Or.inl w14_) Via.refl e1 P2 (g := (mkF m 11 Lo2 [(.ref a1)])) rfl rfl (hb hby d7_21_11)
  obtain ⟨T3, X3, e3, st3⟩ := getF X2 hx hZ hown (host := "") (Or.inl w12_) Via.refl e2 P1 (g := (mkF m 16 Lo2 [(.ref a1), (.int (2 : Int32)), (.ref bb)])) rfl rfl (hb hby d7_21_16)
  obtain ⟨T4, X4, e4, st4⟩ := getF X3 hx hZ hown (host := "") (Or.inl w14_) Via.refl e3 P2 (g := (mkF m 23 Lo2 [(.ref a1), (.int (6 : Int32)), (.ref bb)])) rfl rfl (hb hby d7_21_23)
  obtain ⟨T5, X5, e5, st5⟩ := getF X4 hx hZ hown (host := "") (Or.inl w12_) Via.refl e4 P1 (g := (mkF m 28 Lo2 [(.ref a1), (.int (1 : Int32)), (.ref bb), (.int (6 : Int32)), (.ref bb)])) rfl rfl (hb hby d7_21_28)
  obtain ⟨T6, h6, X6, e6, W6, V6, st6⟩ := own_stJ X5 hx hZ e5 P3 (j := (6 : Int32)) (x := x3) (by decide) (i := 6) (by decide) (by show 6 < 9; decide) (g := (mkF m 35 Lo2 [(.long x3), (.int (6 : Int32)), (.ref bb)])) rfl rfl (hb hby d7_21_35)
  have A6 : Arv Z h6 bb kk .long (9 : Int32) [(.long x0), (.long x1), (.long x2), (.long x3), (.long x4), (.long x5), (.long x3), (.long x7), (.long x8)] (.long (0 : Int64)) := V6
  have F6_size_a1 := P1.other W6 (Or.inl ne_a1_bb)
  have F6_bounds_a1 := P2.other W6 (Or.inl ne_a1_bb)
  have E6_a1 := P0.wr W6
  have K6 : Keep h0 h6 [bb] := (Keep.refl h0 [bb]).wr W6 (Or.inl (List.mem_of_getElem? (i := 0) rfl))
  have Z6 : n0 ≤ h6.size := Nat.le_trans Z0 (Keep.of_wr W6).1
  have N6 := Fr.snoc X6 N0 g_bb
  obtain ⟨T7, X7, e7, st7⟩ := getF X6 hx hZ hown (host := "") (Or.inl w14_) Via.refl e6 F6_bounds_a1 (g := (mkF m 37 Lo2 [(.ref a1)])) rfl rfl (hb hby d7_21_37)
  obtain ⟨T8, X8, e8, st8⟩ := getF X7 hx hZ hown (host := "") (Or.inl w12_) Via.refl e7 F6_size_a1 (g := (mkF m 42 Lo2 [(.ref a1), (.int (0 : Int32)), (.ref bb)])) rfl rfl (hb hby d7_21_42)
  obtain ⟨T9, X9, e9, st9⟩ := getF X8 hx hZ hown (host := "") (Or.inl w14_) Via.refl e8 F6_bounds_a1 (g := (mkF m 49 Lo2 [(.ref a1), (.int (2 : Int32)), (.ref bb)])) rfl rfl (hb hby d7_21_49)
  obtain ⟨T10, X10, e10, st10⟩ := getF X9 hx hZ hown (host := "") (Or.inl w12_) Via.refl e9 F6_size_a1 (g := (mkF m 54 Lo2 [(.ref a1), (.int (0 : Int32)), (.ref bb), (.int (2 : Int32)), (.ref bb)])) rfl rfl (hb hby d7_21_54)
  obtain ⟨T11, h11, X11, e11, W11, V11, st11⟩ := own_stJ X10 hx hZ e10 A6 (j := (2 : Int32)) (x := x1) (by decide) (i := 2) (by decide) (by show 2 < 9; decide) (g := (mkF m 61 Lo2 [(.long x1), (.int (2 : Int32)), (.ref bb)])) rfl rfl (hb hby d7_21_61)
  have A11 : Arv Z h11 bb kk .long (9 : Int32) [(.long x0), (.long x1), (.long x1), (.long x3), (.long x4), (.long x5), (.long x3), (.long x7), (.long x8)] (.long (0 : Int64)) := V11
  have F11_size_a1 := F6_size_a1.other W11 (Or.inl ne_a1_bb)
  have F11_bounds_a1 := F6_bounds_a1.other W11 (Or.inl ne_a1_bb)
  have E11_a1 := E6_a1.wr W11
  have K11 : Keep h0 h11 [bb] := K6.wr W11 (Or.inl (List.mem_of_getElem? (i := 0) rfl))
  have Z11 : n0 ≤ h11.size := Nat.le_trans Z6 (Keep.of_wr W11).1
  have N11 := Fr.snoc X11 N6 g_bb
  let Lo3 : Array Slot := #[.val (.ref a1), .val (.int (2 : Int32)), .val (.int (1 : Int32)), .val (.int (1 : Int32))]
  obtain ⟨T12, X12, e12, st12⟩ := getF X11 hx hZ hown (host := "") (Or.inl w12_) Via.refl e11 F11_size_a1 (g := (mkF m 4 Lo3 [(.ref a1), (.int (1 : Int32))])) rfl rfl (hb hby d7_21_4)
  obtain ⟨T13, X13, e13, st13⟩ := getF X12 hx hZ hown (host := "") (Or.inl w14_) Via.refl e12 F11_bounds_a1 (g := (mkF m 11 Lo3 [(.ref a1)])) rfl rfl (hb hby d7_21_11)
  obtain ⟨T14, X14, e14, st14⟩ := getF X13 hx hZ hown (host := "") (Or.inl w12_) Via.refl e13 F11_size_a1 (g := (mkF m 16 Lo3 [(.ref a1), (.int (2 : Int32)), (.ref bb)])) rfl rfl (hb hby d7_21_16)
  obtain ⟨T15, X15, e15, st15⟩ := getF X14 hx hZ hown (host := "") (Or.inl w14_) Via.refl e14 F11_bounds_a1 (g := (mkF m 23 Lo3 [(.ref a1), (.int (7 : Int32)), (.ref bb)])) rfl rfl (hb hby d7_21_23)
  obtain ⟨T16, X16, e16, st16⟩ := getF X15 hx hZ hown (host := "") (Or.inl w12_) Via.refl e15 F11_size_a1 (g := (mkF m 28 Lo3 [(.ref a1), (.int (1 : Int32)), (.ref bb), (.int (7 : Int32)), (.ref bb)])) rfl rfl (hb hby d7_21_28)
  obtain ⟨T17, h17, X17, e17, W17, V17, st17⟩ := own_stJ X16 hx hZ e16 A11 (j := (7 : Int32)) (x := x4) (by decide) (i := 7) (by decide) (by show 7 < 9; decide) (g := (mkF m 35 Lo3 [(.long x4), (.int (7 : Int32)), (.ref bb)])) rfl rfl (hb hby d7_21_35)
  have A17 : Arv Z h17 bb kk .long (9 : Int32) [(.long x0), (.long x1), (.long x1), (.long x3), (.long x4), (.long x5), (.long x3), (.long x4), (.long x8)] (.long (0 : Int64)) := V17
  have F17_size_a1 := F11_size_a1.other W17 (Or.inl ne_a1_bb)
  have F17_bounds_a1 := F11_bounds_a1.other W17 (Or.inl ne_a1_bb)
  have E17_a1 := E11_a1.wr W17
  have K17 : Keep h0 h17 [bb] := K11.wr W17 (Or.inl (List.mem_of_getElem? (i := 0) rfl))
  have Z17 : n0 ≤ h17.size := Nat.le_trans Z11 (Keep.of_wr W17).1
  have N17 := Fr.snoc X17 N11 g_bb
  obtain ⟨T18, X18, e18, st18⟩ := getF X17 hx hZ hown (host := "") (Or.inl w14_) Via.refl e17 F17_bounds_a1 (g := (mkF m 37 Lo3 [(.ref a1)])) rfl rfl (hb hby d7_21_37)
  obtain ⟨T19, X19, e19, st19⟩ := getF X18 hx hZ hown (host := "") (Or.inl w12_) Via.refl e18 F17_size_a1 (g := (mkF m 42 Lo3 [(.ref a1), (.int (1 : Int32)), (.ref bb)])) rfl rfl (hb hby d7_21_42)
  obtain ⟨T20, X20, e20, st20⟩ := getF X19 hx hZ hown (host := "") (Or.inl w14_) Via.refl e19 F17_bounds_a1 (g := (mkF m 49 Lo3 [(.ref a1), (.int (5 : Int32)), (.ref bb)])) rfl rfl (hb hby d7_21_49)
  obtain ⟨T21, X21, e21, st21⟩ := getF X20 hx hZ hown (host := "") (Or.inl w12_) Via.refl e20 F17_size_a1 (g := (mkF m 54 Lo3 [(.ref a1), (.int (1 : Int32)), (.ref bb), (.int (5 : Int32)), (.ref bb)])) rfl rfl (hb hby d7_21_54)
  obtain ⟨T22, h22, X22, e22, W22, V22, st22⟩ := own_stJ X21 hx hZ e21 A17 (j := (5 : Int32)) (x := x4) (by decide) (i := 5) (by decide) (by show 5 < 9; decide) (g := (mkF m 61 Lo3 [(.long x4), (.int (5 : Int32)), (.ref bb)])) rfl rfl (hb hby d7_21_61)
  have A22 : Arv Z h22 bb kk .long (9 : Int32) [(.long x0), (.long x1), (.long x1), (.long x3), (.long x4), (.long x4), (.long x3), (.long x4), (.long x8)] (.long (0 : Int64)) := V22
  have F22_size_a1 := F17_size_a1.other W22 (Or.inl ne_a1_bb)
  have F22_bounds_a1 := F17_bounds_a1.other W22 (Or.inl ne_a1_bb)
  have E22_a1 := E17_a1.wr W22
  have K22 : Keep h0 h22 [bb] := K17.wr W22 (Or.inl (List.mem_of_getElem? (i := 0) rfl))
  have Z22 : n0 ≤ h22.size := Nat.le_trans Z17 (Keep.of_wr W22).1
  have N22 := Fr.snoc X22 N17 g_bb
  let Lo4 : Array Slot := #[.val (.ref a1), .val (.int (2 : Int32)), .val (.int (1 : Int32)), .val (.int (2 : Int32))]
  obtain ⟨T23, X23, e23, st23⟩ := getF X22 hx hZ hown (host := "") (Or.inl w12_) Via.refl e22 F22_size_a1 (g := (mkF m 4 Lo4 [(.ref a1), (.int (2 : Int32))])) rfl rfl (hb hby d7_21_4)
  obtain ⟨T24, X24, e24, st24⟩ := getF X23 hx hZ hown (host := "") (Or.inl w14_) Via.refl e23 F22_bounds_a1 (g := (mkF m 11 Lo4 [(.ref a1)])) rfl rfl (hb hby d7_21_11)
  obtain ⟨T25, X25, e25, st25⟩ := getF X24 hx hZ hown (host := "") (Or.inl w12_) Via.refl e24 F22_size_a1 (g := (mkF m 16 Lo4 [(.ref a1), (.int (2 : Int32)), (.ref bb)])) rfl rfl (hb hby d7_21_16)
  obtain ⟨T26, X26, e26, st26⟩ := getF X25 hx hZ hown (host := "") (Or.inl w14_) Via.refl e25 F22_bounds_a1 (g := (mkF m 23 Lo4 [(.ref a1), (.int (8 : Int32)), (.ref bb)])) rfl rfl (hb hby d7_21_23)
  obtain ⟨T27, X27, e27, st27⟩ := getF X26 hx hZ hown (host := "") (Or.inl w12_) Via.refl e26 F22_size_a1 (g := (mkF m 28 Lo4 [(.ref a1), (.int (1 : Int32)), (.ref bb), (.int (8 : Int32)), (.ref bb)])) rfl rfl (hb hby d7_21_28)
  obtain ⟨T28, h28, X28, e28, W28, V28, st28⟩ := own_stJ X27 hx hZ e27 A22 (j := (8 : Int32)) (x := x4) (by decide) (i := 8) (by decide) (by show 8 < 9; decide) (g := (mkF m 35 Lo4 [(.long x4), (.int (8 : Int32)), (.ref bb)])) rfl rfl (hb hby d7_21_35)
  have A28 : Arv Z h28 bb kk .long (9 : Int32) [(.long x0), (.long x1), (.long x1), (.long x3), (.long x4), (.long x4), (.long x3), (.long x4), (.long x4)] (.long (0 : Int64)) := V28
  have F28_size_a1 := F22_size_a1.other W28 (Or.inl ne_a1_bb)
  have F28_bounds_a1 := F22_bounds_a1.other W28 (Or.inl ne_a1_bb)
  have E28_a1 := E22_a1.wr W28
  have K28 : Keep h0 h28 [bb] := K22.wr W28 (Or.inl (List.mem_of_getElem? (i := 0) rfl))
  have Z28 : n0 ≤ h28.size := Nat.le_trans Z22 (Keep.of_wr W28).1
  have N28 := Fr.snoc X28 N22 g_bb
  obtain ⟨T29, X29, e29, st29⟩ := getF X28 hx hZ hown (host := "") (Or.inl w14_) Via.refl e28 F28_bounds_a1 (g := (mkF m 37 Lo4 [(.ref a1)])) rfl rfl (hb hby d7_21_37)
  obtain ⟨T30, X30, e30, st30⟩ := getF X29 hx hZ hown (host := "") (Or.inl w12_) Via.refl e29 F28_size_a1 (g := (mkF m 42 Lo4 [(.ref a1), (.int (2 : Int32)), (.ref bb)])) rfl rfl (hb hby d7_21_42)
  obtain ⟨T31, X31, e31, st31⟩ := getF X30 hx hZ hown (host := "") (Or.inl w14_) Via.refl e30 F28_bounds_a1 (g := (mkF m 49 Lo4 [(.ref a1), (.int (8 : Int32)), (.ref bb)])) rfl rfl (hb hby d7_21_49)
  obtain ⟨T32, X32, e32, st32⟩ := getF X31 hx hZ hown (host := "") (Or.inl w12_) Via.refl e31 F28_size_a1 (g := (mkF m 54 Lo4 [(.ref a1), (.int (2 : Int32)), (.ref bb), (.int (8 : Int32)), (.ref bb)])) rfl rfl (hb hby d7_21_54)
  obtain ⟨T33, h33, X33, e33, W33, V33, st33⟩ := own_stJ X32 hx hZ e32 A28 (j := (8 : Int32)) (x := x4) (by decide) (i := 8) (by decide) (by show 8 < 9; decide) (g := (mkF m 61 Lo4 [(.long x4), (.int (8 : Int32)), (.ref bb)])) rfl rfl (hb hby d7_21_61)
  have A33 : Arv Z h33 bb kk .long (9 : Int32) [(.long x0), (.long x1), (.long x1), (.long x3), (.long x4), (.long x4), (.long x3), (.long x4), (.long x4)] (.long (0 : Int64)) := V33
  have F33_size_a1 := F28_size_a1.other W33 (Or.inl ne_a1_bb)
  have F33_bounds_a1 := F28_bounds_a1.other W33 (Or.inl ne_a1_bb)
  have E33_a1 := E28_a1.wr W33
  have K33 : Keep h0 h33 [bb] := K28.wr W33 (Or.inl (List.mem_of_getElem? (i := 0) rfl))
  have Z33 : n0 ≤ h33.size := Nat.le_trans Z28 (Keep.of_wr W33).1
  have N33 := Fr.snoc X33 N28 g_bb
  let Lo5 : Array Slot := #[.val (.ref a1), .val (.int (2 : Int32)), .val (.int (1 : Int32)), .val (.int (3 : Int32))]
  obtain ⟨T34, X34, e34, st34⟩ := getF X33 hx hZ hown (host := "") (Or.inl w12_) Via.refl e33 F33_size_a1 (g := (mkF m 4 Lo5 [(.ref a1), (.int (3 : Int32))])) rfl rfl (hb hby d7_21_4)
  obtain ⟨T35, X35, e35, st35⟩ := getF X34 hx hZ hown (host := "") (Or.inl w14_) Via.refl e34 F33_bounds_a1 (g := (mkF m 69 Lo5 [(.ref a1)])) rfl rfl (hb hby d7_21_69)
  obtain ⟨T36, X36, e36, st36⟩ := getF X35 hx hZ hown (host := "") (Or.inl w12_) Via.refl e35 F33_size_a1 (g := (mkF m 74 Lo5 [(.ref a1), (.int (2 : Int32)), (.ref bb)])) rfl rfl (hb hby d7_21_74)
  obtain ⟨T37, h37, X37, e37, W37, V37, st37⟩ := own_stJ X36 hx hZ e36 A33 (j := (8 : Int32)) (x := (0 : Int64)) (by decide) (i := 8) (by decide) (by show 8 < 9; decide) (g := (mkF m 81 Lo5 [(.long (0 : Int64)), (.int (8 : Int32)), (.ref bb)])) rfl rfl (hb hby d7_21_81)
  have A37 : Arv Z h37 bb kk .long (9 : Int32) [(.long x0), (.long x1), (.long x1), (.long x3), (.long x4), (.long x4), (.long x3), (.long x4), (.long (0 : Int64))] (.long (0 : Int64)) := V37
  have F37_size_a1 := F33_size_a1.other W37 (Or.inl ne_a1_bb)
  have F37_bounds_a1 := F33_bounds_a1.other W37 (Or.inl ne_a1_bb)
  have E37_a1 := E33_a1.wr W37
  have K37 : Keep h0 h37 [bb] := K33.wr W37 (Or.inl (List.mem_of_getElem? (i := 0) rfl))
  have Z37 : n0 ≤ h37.size := Nat.le_trans Z33 (Keep.of_wr W37).1
  have N37 := Fr.snoc X37 N33 g_bb
  obtain ⟨fs, hr, hrun, hended, hW, hsame⟩ := X37.leave (v := none) (fun _ => rfl)
  refine ⟨_, _, pre0 _ ?_, hrun, hended, _, _, rfl, ?_, ⟨_, rfl⟩, hW, hsame.mono (by decide) (by decide)⟩
  · show Steps p.tables e below (s₁.setTop (mkF m 0 Lo1 [])) _
    refine XS.iconst X0.here hx rfl (hb hby d7_21_0) ?_
    show Steps p.tables e below (s₁.setTop (mkF m 1 Lo1 [(.int (0 : Int32))])) _
    refine XS.istoreN X0.here hx rfl (hb hby d7_21_1) rfl (l' := Lo2) rfl ?_
    show Steps p.tables e below (s₁.setTop (mkF m 2 Lo2 [])) _
    refine XS.iloadN X0.here hx rfl (hb hby d7_21_2) rfl ?_
    show Steps p.tables e below (s₁.setTop (mkF m 3 Lo2 [(.int (0 : Int32))])) _
    refine XS.aloadN X0.here hx rfl (hb hby d7_21_3) rfl rfl ?_
    show Steps p.tables e below (s₁.setTop (mkF m 4 Lo2 [(.ref a1), (.int (0 : Int32))])) _
    refine st1 _ ?_
    show Steps p.tables e below (T1.setTop (mkF m 7 Lo2 [(.int (3 : Int32)), (.int (0 : Int32))])) _
    refine XS.icmpNo X1.here hx rfl (hb hby d7_21_7) rfl (by first | rfl | decide) ?_
    show Steps p.tables e below (T1.setTop (mkF m 10 Lo2 [])) _
    refine XS.aloadN X1.here hx rfl (hb hby d7_21_10) rfl rfl ?_
    show Steps p.tables e below (T1.setTop (mkF m 11 Lo2 [(.ref a1)])) _
    refine st2 _ ?_
    show Steps p.tables e below (T2.setTop (mkF m 14 Lo2 [(.ref bb)])) _
    refine XS.iloadN X2.here hx rfl (hb hby d7_21_14) rfl ?_
    show Steps p.tables e below (T2.setTop (mkF m 15 Lo2 [(.int (2 : Int32)), (.ref bb)])) _
    refine XS.aloadN X2.here hx rfl (hb hby d7_21_15) rfl rfl ?_
    show Steps p.tables e below (T2.setTop (mkF m 16 Lo2 [(.ref a1), (.int (2 : Int32)), (.ref bb)])) _
    refine st3 _ ?_
    show Steps p.tables e below (T3.setTop (mkF m 19 Lo2 [(.int (3 : Int32)), (.int (2 : Int32)), (.ref bb)])) _
    refine XS.imul X3.here hx rfl (hb hby d7_21_19) rfl ?_
    show Steps p.tables e below (T3.setTop (mkF m 20 Lo2 [(.int (6 : Int32)), (.ref bb)])) _
    refine XS.iloadN X3.here hx rfl (hb hby d7_21_20) rfl ?_
    show Steps p.tables e below (T3.setTop (mkF m 21 Lo2 [(.int (0 : Int32)), (.int (6 : Int32)), (.ref bb)])) _
    refine XS.iadd X3.here hx rfl (hb hby d7_21_21) rfl ?_
    show Steps p.tables e below (T3.setTop (mkF m 22 Lo2 [(.int (6 : Int32)), (.ref bb)])) _
    refine XS.aloadN X3.here hx rfl (hb hby d7_21_22) rfl rfl ?_
    show Steps p.tables e below (T3.setTop (mkF m 23 Lo2 [(.ref a1), (.int (6 : Int32)), (.ref bb)])) _
    refine st4 _ ?_
    show Steps p.tables e below (T4.setTop (mkF m 26 Lo2 [(.ref bb), (.int (6 : Int32)), (.ref bb)])) _
    refine XS.iloadN X4.here hx rfl (hb hby d7_21_26) rfl ?_
    show Steps p.tables e below (T4.setTop (mkF m 27 Lo2 [(.int (1 : Int32)), (.ref bb), (.int (6 : Int32)), (.ref bb)])) _
    refine XS.aloadN X4.here hx rfl (hb hby d7_21_27) rfl rfl ?_
    show Steps p.tables e below (T4.setTop (mkF m 28 Lo2 [(.ref a1), (.int (1 : Int32)), (.ref bb), (.int (6 : Int32)), (.ref bb)])) _
    refine st5 _ ?_
    show Steps p.tables e below (T5.setTop (mkF m 31 Lo2 [(.int (3 : Int32)), (.int (1 : Int32)), (.ref bb), (.int (6 : Int32)), (.ref bb)])) _
    refine XS.imul X5.here hx rfl (hb hby d7_21_31) rfl ?_
    show Steps p.tables e below (T5.setTop (mkF m 32 Lo2 [(.int (3 : Int32)), (.ref bb), (.int (6 : Int32)), (.ref bb)])) _
    refine XS.iloadN X5.here hx rfl (hb hby d7_21_32) rfl ?_
    show Steps p.tables e below (T5.setTop (mkF m 33 Lo2 [(.int (0 : Int32)), (.int (3 : Int32)), (.ref bb), (.int (6 : Int32)), (.ref bb)])) _
    refine XS.iadd X5.here hx rfl (hb hby d7_21_33) rfl ?_
    show Steps p.tables e below (T5.setTop (mkF m 34 Lo2 [(.int (3 : Int32)), (.ref bb), (.int (6 : Int32)), (.ref bb)])) _
    refine own_ldJ X5 hx hZ e5 P3 (j := (3 : Int32)) (by decide) (w := x3) rfl (g := (mkF m 34 Lo2 [(.int (3 : Int32)), (.ref bb), (.int (6 : Int32)), (.ref bb)])) rfl rfl (hb hby d7_21_34) _ ?_
    show Steps p.tables e below (T5.setTop (mkF m 35 Lo2 [(.long x3), (.int (6 : Int32)), (.ref bb)])) _
    refine st6 _ ?_
    show Steps p.tables e below (T6.setTop (mkF m 36 Lo2 [])) _
    refine XS.aloadN X6.here hx rfl (hb hby d7_21_36) rfl rfl ?_
    show Steps p.tables e below (T6.setTop (mkF m 37 Lo2 [(.ref a1)])) _
    refine st7 _ ?_
    show Steps p.tables e below (T7.setTop (mkF m 40 Lo2 [(.ref bb)])) _
    refine XS.iloadN X7.here hx rfl (hb hby d7_21_40) rfl ?_
    show Steps p.tables e below (T7.setTop (mkF m 41 Lo2 [(.int (0 : Int32)), (.ref bb)])) _
    refine XS.aloadN X7.here hx rfl (hb hby d7_21_41) rfl rfl ?_
    show Steps p.tables e below (T7.setTop (mkF m 42 Lo2 [(.ref a1), (.int (0 : Int32)), (.ref bb)])) _
    refine st8 _ ?_
    show Steps p.tables e below (T8.setTop (mkF m 45 Lo2 [(.int (3 : Int32)), (.int (0 : Int32)), (.ref bb)])) _
    refine XS.imul X8.here hx rfl (hb hby d7_21_45) rfl ?_
    show Steps p.tables e below (T8.setTop (mkF m 46 Lo2 [(.int (0 : Int32)), (.ref bb)])) _
    refine XS.iloadN X8.here hx rfl (hb hby d7_21_46) rfl ?_
    show Steps p.tables e below (T8.setTop (mkF m 47 Lo2 [(.int (2 : Int32)), (.int (0 : Int32)), (.ref bb)])) _
    refine XS.iadd X8.here hx rfl (hb hby d7_21_47) rfl ?_
    show Steps p.tables e below (T8.setTop (mkF m 48 Lo2 [(.int (2 : Int32)), (.ref bb)])) _
    refine XS.aloadN X8.here hx rfl (hb hby d7_21_48) rfl rfl ?_
    show Steps p.tables e below (T8.setTop (mkF m 49 Lo2 [(.ref a1), (.int (2 : Int32)), (.ref bb)])) _
    refine st9 _ ?_
    show Steps p.tables e below (T9.setTop (mkF m 52 Lo2 [(.ref bb), (.int (2 : Int32)), (.ref bb)])) _
    refine XS.iloadN X9.here hx rfl (hb hby d7_21_52) rfl ?_
    show Steps p.tables e below (T9.setTop (mkF m 53 Lo2 [(.int (0 : Int32)), (.ref bb), (.int (2 : Int32)), (.ref bb)])) _
    refine XS.aloadN X9.here hx rfl (hb hby d7_21_53) rfl rfl ?_
    show Steps p.tables e below (T9.setTop (mkF m 54 Lo2 [(.ref a1), (.int (0 : Int32)), (.ref bb), (.int (2 : Int32)), (.ref bb)])) _
    refine st10 _ ?_
    show Steps p.tables e below (T10.setTop (mkF m 57 Lo2 [(.int (3 : Int32)), (.int (0 : Int32)), (.ref bb), (.int (2 : Int32)), (.ref bb)])) _
    refine XS.imul X10.here hx rfl (hb hby d7_21_57) rfl ?_
    show Steps p.tables e below (T10.setTop (mkF m 58 Lo2 [(.int (0 : Int32)), (.ref bb), (.int (2 : Int32)), (.ref bb)])) _
    refine XS.iloadN X10.here hx rfl (hb hby d7_21_58) rfl ?_
    show Steps p.tables e below (T10.setTop (mkF m 59 Lo2 [(.int (1 : Int32)), (.int (0 : Int32)), (.ref bb), (.int (2 : Int32)), (.ref bb)])) _
    refine XS.iadd X10.here hx rfl (hb hby d7_21_59) rfl ?_
    show Steps p.tables e below (T10.setTop (mkF m 60 Lo2 [(.int (1 : Int32)), (.ref bb), (.int (2 : Int32)), (.ref bb)])) _
    refine own_ldJ X10 hx hZ e10 A6 (j := (1 : Int32)) (by decide) (w := x1) rfl (g := (mkF m 60 Lo2 [(.int (1 : Int32)), (.ref bb), (.int (2 : Int32)), (.ref bb)])) rfl rfl (hb hby d7_21_60) _ ?_
    show Steps p.tables e below (T10.setTop (mkF m 61 Lo2 [(.long x1), (.int (2 : Int32)), (.ref bb)])) _
    refine st11 _ ?_
    show Steps p.tables e below (T11.setTop (mkF m 62 Lo2 [])) _
    refine XS.iinc X11.here hx rfl (hb hby d7_21_62) rfl (l' := Lo3) rfl ?_
    show Steps p.tables e below (T11.setTop (mkF m 65 Lo3 [])) _
    refine XS.goto X11.here hx rfl (pc0 := 65) (pc' := 2) rfl (hb hby d7_21_65) (by decide) (by decide) ?_
    show Steps p.tables e below (T11.setTop (mkF m 2 Lo3 [])) _
    refine XS.iloadN X11.here hx rfl (hb hby d7_21_2) rfl ?_
    show Steps p.tables e below (T11.setTop (mkF m 3 Lo3 [(.int (1 : Int32))])) _
    refine XS.aloadN X11.here hx rfl (hb hby d7_21_3) rfl rfl ?_
    show Steps p.tables e below (T11.setTop (mkF m 4 Lo3 [(.ref a1), (.int (1 : Int32))])) _
    refine st12 _ ?_
    show Steps p.tables e below (T12.setTop (mkF m 7 Lo3 [(.int (3 : Int32)), (.int (1 : Int32))])) _
    refine XS.icmpNo X12.here hx rfl (hb hby d7_21_7) rfl (by first | rfl | decide) ?_
    show Steps p.tables e below (T12.setTop (mkF m 10 Lo3 [])) _
    refine XS.aloadN X12.here hx rfl (hb hby d7_21_10) rfl rfl ?_
    show Steps p.tables e below (T12.setTop (mkF m 11 Lo3 [(.ref a1)])) _
    refine st13 _ ?_
    show Steps p.tables e below (T13.setTop (mkF m 14 Lo3 [(.ref bb)])) _
    refine XS.iloadN X13.here hx rfl (hb hby d7_21_14) rfl ?_
    show Steps p.tables e below (T13.setTop (mkF m 15 Lo3 [(.int (2 : Int32)), (.ref bb)])) _
    refine XS.aloadN X13.here hx rfl (hb hby d7_21_15) rfl rfl ?_
    show Steps p.tables e below (T13.setTop (mkF m 16 Lo3 [(.ref a1), (.int (2 : Int32)), (.ref bb)])) _
    refine st14 _ ?_
    show Steps p.tables e below (T14.setTop (mkF m 19 Lo3 [(.int (3 : Int32)), (.int (2 : Int32)), (.ref bb)])) _
    refine XS.imul X14.here hx rfl (hb hby d7_21_19) rfl ?_
    show Steps p.tables e below (T14.setTop (mkF m 20 Lo3 [(.int (6 : Int32)), (.ref bb)])) _
    refine XS.iloadN X14.here hx rfl (hb hby d7_21_20) rfl ?_
    show Steps p.tables e below (T14.setTop (mkF m 21 Lo3 [(.int (1 : Int32)), (.int (6 : Int32)), (.ref bb)])) _
    refine XS.iadd X14.here hx rfl (hb hby d7_21_21) rfl ?_
    show Steps p.tables e below (T14.setTop (mkF m 22 Lo3 [(.int (7 : Int32)), (.ref bb)])) _
    refine XS.aloadN X14.here hx rfl (hb hby d7_21_22) rfl rfl ?_
    show Steps p.tables e below (T14.setTop (mkF m 23 Lo3 [(.ref a1), (.int (7 : Int32)), (.ref bb)])) _
    refine st15 _ ?_
    show Steps p.tables e below (T15.setTop (mkF m 26 Lo3 [(.ref bb), (.int (7 : Int32)), (.ref bb)])) _
    refine XS.iloadN X15.here hx rfl (hb hby d7_21_26) rfl ?_
    show Steps p.tables e below (T15.setTop (mkF m 27 Lo3 [(.int (1 : Int32)), (.ref bb), (.int (7 : Int32)), (.ref bb)])) _
    refine XS.aloadN X15.here hx rfl (hb hby d7_21_27) rfl rfl ?_
    show Steps p.tables e below (T15.setTop (mkF m 28 Lo3 [(.ref a1), (.int (1 : Int32)), (.ref bb), (.int (7 : Int32)), (.ref bb)])) _
    refine st16 _ ?_
    show Steps p.tables e below (T16.setTop (mkF m 31 Lo3 [(.int (3 : Int32)), (.int (1 : Int32)), (.ref bb), (.int (7 : Int32)), (.ref bb)])) _
    refine XS.imul X16.here hx rfl (hb hby d7_21_31) rfl ?_
    show Steps p.tables e below (T16.setTop (mkF m 32 Lo3 [(.int (3 : Int32)), (.ref bb), (.int (7 : Int32)), (.ref bb)])) _
    refine XS.iloadN X16.here hx rfl (hb hby d7_21_32) rfl ?_
    show Steps p.tables e below (T16.setTop (mkF m 33 Lo3 [(.int (1 : Int32)), (.int (3 : Int32)), (.ref bb), (.int (7 : Int32)), (.ref bb)])) _
    refine XS.iadd X16.here hx rfl (hb hby d7_21_33) rfl ?_
    show Steps p.tables e below (T16.setTop (mkF m 34 Lo3 [(.int (4 : Int32)), (.ref bb), (.int (7 : Int32)), (.ref bb)])) _
    refine own_ldJ X16 hx hZ e16 A11 (j := (4 : Int32)) (by decide) (w := x4) rfl (g := (mkF m 34 Lo3 [(.int (4 : Int32)), (.ref bb), (.int (7 : Int32)), (.ref bb)])) rfl rfl (hb hby d7_21_34) _ ?_
    show Steps p.tables e below (T16.setTop (mkF m 35 Lo3 [(.long x4), (.int (7 : Int32)), (.ref bb)])) _
    refine st17 _ ?_
    show Steps p.tables e below (T17.setTop (mkF m 36 Lo3 [])) _
    refine XS.aloadN X17.here hx rfl (hb hby d7_21_36) rfl rfl ?_
    show Steps p.tables e below (T17.setTop (mkF m 37 Lo3 [(.ref a1)])) _
    refine st18 _ ?_
    show Steps p.tables e below (T18.setTop (mkF m 40 Lo3 [(.ref bb)])) _
    refine XS.iloadN X18.here hx rfl (hb hby d7_21_40) rfl ?_
    show Steps p.tables e below (T18.setTop (mkF m 41 Lo3 [(.int (1 : Int32)), (.ref bb)])) _
    refine XS.aloadN X18.here hx rfl (hb hby d7_21_41) rfl rfl ?_
    show Steps p.tables e below (T18.setTop (mkF m 42 Lo3 [(.ref a1), (.int (1 : Int32)), (.ref bb)])) _
    refine st19 _ ?_
    show Steps p.tables e below (T19.setTop (mkF m 45 Lo3 [(.int (3 : Int32)), (.int (1 : Int32)), (.ref bb)])) _
    refine XS.imul X19.here hx rfl (hb hby d7_21_45) rfl ?_
    show Steps p.tables e below (T19.setTop (mkF m 46 Lo3 [(.int (3 : Int32)), (.ref bb)])) _
    refine XS.iloadN X19.here hx rfl (hb hby d7_21_46) rfl ?_
    show Steps p.tables e below (T19.setTop (mkF m 47 Lo3 [(.int (2 : Int32)), (.int (3 : Int32)), (.ref bb)])) _
    refine XS.iadd X19.here hx rfl (hb hby d7_21_47) rfl ?_
    show Steps p.tables e below (T19.setTop (mkF m 48 Lo3 [(.int (5 : Int32)), (.ref bb)])) _
    refine XS.aloadN X19.here hx rfl (hb hby d7_21_48) rfl rfl ?_
    show Steps p.tables e below (T19.setTop (mkF m 49 Lo3 [(.ref a1), (.int (5 : Int32)), (.ref bb)])) _
    refine st20 _ ?_
    show Steps p.tables e below (T20.setTop (mkF m 52 Lo3 [(.ref bb), (.int (5 : Int32)), (.ref bb)])) _
    refine XS.iloadN X20.here hx rfl (hb hby d7_21_52) rfl ?_
    show Steps p.tables e below (T20.setTop (mkF m 53 Lo3 [(.int (1 : Int32)), (.ref bb), (.int (5 : Int32)), (.ref bb)])) _
    refine XS.aloadN X20.here hx rfl (hb hby d7_21_53) rfl rfl ?_
    show Steps p.tables e below (T20.setTop (mkF m 54 Lo3 [(.ref a1), (.int (1 : Int32)), (.ref bb), (.int (5 : Int32)), (.ref bb)])) _
    refine st21 _ ?_
    show Steps p.tables e below (T21.setTop (mkF m 57 Lo3 [(.int (3 : Int32)), (.int (1 : Int32)), (.ref bb), (.int (5 : Int32)), (.ref bb)])) _
    refine XS.imul X21.here hx rfl (hb hby d7_21_57) rfl ?_
    show Steps p.tables e below (T21.setTop (mkF m 58 Lo3 [(.int (3 : Int32)), (.ref bb), (.int (5 : Int32)), (.ref bb)])) _
    refine XS.iloadN X21.here hx rfl (hb hby d7_21_58) rfl ?_
    show Steps p.tables e below (T21.setTop (mkF m 59 Lo3 [(.int (1 : Int32)), (.int (3 : Int32)), (.ref bb), (.int (5 : Int32)), (.ref bb)])) _
    refine XS.iadd X21.here hx rfl (hb hby d7_21_59) rfl ?_
    show Steps p.tables e below (T21.setTop (mkF m 60 Lo3 [(.int (4 : Int32)), (.ref bb), (.int (5 : Int32)), (.ref bb)])) _
    refine own_ldJ X21 hx hZ e21 A17 (j := (4 : Int32)) (by decide) (w := x4) rfl (g := (mkF m 60 Lo3 [(.int (4 : Int32)), (.ref bb), (.int (5 : Int32)), (.ref bb)])) rfl rfl (hb hby d7_21_60) _ ?_
    show Steps p.tables e below (T21.setTop (mkF m 61 Lo3 [(.long x4), (.int (5 : Int32)), (.ref bb)])) _
    refine st22 _ ?_
    show Steps p.tables e below (T22.setTop (mkF m 62 Lo3 [])) _
    refine XS.iinc X22.here hx rfl (hb hby d7_21_62) rfl (l' := Lo4) rfl ?_
    show Steps p.tables e below (T22.setTop (mkF m 65 Lo4 [])) _
    refine XS.goto X22.here hx rfl (pc0 := 65) (pc' := 2) rfl (hb hby d7_21_65) (by decide) (by decide) ?_
    show Steps p.tables e below (T22.setTop (mkF m 2 Lo4 [])) _
    refine XS.iloadN X22.here hx rfl (hb hby d7_21_2) rfl ?_
    show Steps p.tables e below (T22.setTop (mkF m 3 Lo4 [(.int (2 : Int32))])) _
    refine XS.aloadN X22.here hx rfl (hb hby d7_21_3) rfl rfl ?_
    show Steps p.tables e below (T22.setTop (mkF m 4 Lo4 [(.ref a1), (.int (2 : Int32))])) _
    refine st23 _ ?_
    show Steps p.tables e below (T23.setTop (mkF m 7 Lo4 [(.int (3 : Int32)), (.int (2 : Int32))])) _
    refine XS.icmpNo X23.here hx rfl (hb hby d7_21_7) rfl (by first | rfl | decide) ?_
    show Steps p.tables e below (T23.setTop (mkF m 10 Lo4 [])) _
    refine XS.aloadN X23.here hx rfl (hb hby d7_21_10) rfl rfl ?_
    show Steps p.tables e below (T23.setTop (mkF m 11 Lo4 [(.ref a1)])) _
    refine st24 _ ?_
    show Steps p.tables e below (T24.setTop (mkF m 14 Lo4 [(.ref bb)])) _
    refine XS.iloadN X24.here hx rfl (hb hby d7_21_14) rfl ?_
    show Steps p.tables e below (T24.setTop (mkF m 15 Lo4 [(.int (2 : Int32)), (.ref bb)])) _
    refine XS.aloadN X24.here hx rfl (hb hby d7_21_15) rfl rfl ?_
    show Steps p.tables e below (T24.setTop (mkF m 16 Lo4 [(.ref a1), (.int (2 : Int32)), (.ref bb)])) _
    refine st25 _ ?_
    show Steps p.tables e below (T25.setTop (mkF m 19 Lo4 [(.int (3 : Int32)), (.int (2 : Int32)), (.ref bb)])) _
    refine XS.imul X25.here hx rfl (hb hby d7_21_19) rfl ?_
    show Steps p.tables e below (T25.setTop (mkF m 20 Lo4 [(.int (6 : Int32)), (.ref bb)])) _
    refine XS.iloadN X25.here hx rfl (hb hby d7_21_20) rfl ?_
    show Steps p.tables e below (T25.setTop (mkF m 21 Lo4 [(.int (2 : Int32)), (.int (6 : Int32)), (.ref bb)])) _
    refine XS.iadd X25.here hx rfl (hb hby d7_21_21) rfl ?_
    show Steps p.tables e below (T25.setTop (mkF m 22 Lo4 [(.int (8 : Int32)), (.ref bb)])) _
    refine XS.aloadN X25.here hx rfl (hb hby d7_21_22) rfl rfl ?_
    show Steps p.tables e below (T25.setTop (mkF m 23 Lo4 [(.ref a1), (.int (8 : Int32)), (.ref bb)])) _
    refine st26 _ ?_
    show Steps p.tables e below (T26.setTop (mkF m 26 Lo4 [(.ref bb), (.int (8 : Int32)), (.ref bb)])) _
    refine XS.iloadN X26.here hx rfl (hb hby d7_21_26) rfl ?_
    show Steps p.tables e below (T26.setTop (mkF m 27 Lo4 [(.int (1 : Int32)), (.ref bb), (.int (8 : Int32)), (.ref bb)])) _
    refine XS.aloadN X26.here hx rfl (hb hby d7_21_27) rfl rfl ?_
    show Steps p.tables e below (T26.setTop (mkF m 28 Lo4 [(.ref a1), (.int (1 : Int32)), (.ref bb), (.int (8 : Int32)), (.ref bb)])) _
    refine st27 _ ?_
    show Steps p.tables e below (T27.setTop (mkF m 31 Lo4 [(.int (3 : Int32)), (.int (1 : Int32)), (.ref bb), (.int (8 : Int32)), (.ref bb)])) _
    refine XS.imul X27.here hx rfl (hb hby d7_21_31) rfl ?_
    show Steps p.tables e below (T27.setTop (mkF m 32 Lo4 [(.int (3 : Int32)), (.ref bb), (.int (8 : Int32)), (.ref bb)])) _
    refine XS.iloadN X27.here hx rfl (hb hby d7_21_32) rfl ?_
    show Steps p.tables e below (T27.setTop (mkF m 33 Lo4 [(.int (2 : Int32)), (.int (3 : Int32)), (.ref bb), (.int (8 : Int32)), (.ref bb)])) _
    refine XS.iadd X27.here hx rfl (hb hby d7_21_33) rfl ?_
    show Steps p.tables e below (T27.setTop (mkF m 34 Lo4 [(.int (5 : Int32)), (.ref bb), (.int (8 : Int32)), (.ref bb)])) _
    refine own_ldJ X27 hx hZ e27 A22 (j := (5 : Int32)) (by decide) (w := x4) rfl (g := (mkF m 34 Lo4 [(.int (5 : Int32)), (.ref bb), (.int (8 : Int32)), (.ref bb)])) rfl rfl (hb hby d7_21_34) _ ?_
    show Steps p.tables e below (T27.setTop (mkF m 35 Lo4 [(.long x4), (.int (8 : Int32)), (.ref bb)])) _
    refine st28 _ ?_
    show Steps p.tables e below (T28.setTop (mkF m 36 Lo4 [])) _
    refine XS.aloadN X28.here hx rfl (hb hby d7_21_36) rfl rfl ?_
    show Steps p.tables e below (T28.setTop (mkF m 37 Lo4 [(.ref a1)])) _
    refine st29 _ ?_
    show Steps p.tables e below (T29.setTop (mkF m 40 Lo4 [(.ref bb)])) _
    refine XS.iloadN X29.here hx rfl (hb hby d7_21_40) rfl ?_
    show Steps p.tables e below (T29.setTop (mkF m 41 Lo4 [(.int (2 : Int32)), (.ref bb)])) _
    refine XS.aloadN X29.here hx rfl (hb hby d7_21_41) rfl rfl ?_
    show Steps p.tables e below (T29.setTop (mkF m 42 Lo4 [(.ref a1), (.int (2 : Int32)), (.ref bb)])) _
    refine st30 _ ?_
    show Steps p.tables e below (T30.setTop (mkF m 45 Lo4 [(.int (3 : Int32)), (.int (2 : Int32)), (.ref bb)])) _
    refine XS.imul X30.here hx rfl (hb hby d7_21_45) rfl ?_
    show Steps p.tables e below (T30.setTop (mkF m 46 Lo4 [(.int (6 : Int32)), (.ref bb)])) _
    refine XS.iloadN X30.here hx rfl (hb hby d7_21_46) rfl ?_
    show Steps p.tables e below (T30.setTop (mkF m 47 Lo4 [(.int (2 : Int32)), (.int (6 : Int32)), (.ref bb)])) _
    refine XS.iadd X30.here hx rfl (hb hby d7_21_47) rfl ?_
    show Steps p.tables e below (T30.setTop (mkF m 48 Lo4 [(.int (8 : Int32)), (.ref bb)])) _
    refine XS.aloadN X30.here hx rfl (hb hby d7_21_48) rfl rfl ?_
    show Steps p.tables e below (T30.setTop (mkF m 49 Lo4 [(.ref a1), (.int (8 : Int32)), (.ref bb)])) _
    refine st31 _ ?_
    show Steps p.tables e below (T31.setTop (mkF m 52 Lo4 [(.ref bb), (.int (8 : Int32)), (.ref bb)])) _
    refine XS.iloadN X31.here hx rfl (hb hby d7_21_52) rfl ?_
    show Steps p.tables e below (T31.setTop (mkF m 53 Lo4 [(.int (2 : Int32)), (.ref bb), (.int (8 : Int32)), (.ref bb)])) _
    refine XS.aloadN X31.here hx rfl (hb hby d7_21_53) rfl rfl ?_
    show Steps p.tables e below (T31.setTop (mkF m 54 Lo4 [(.ref a1), (.int (2 : Int32)), (.ref bb), (.int (8 : Int32)), (.ref bb)])) _
    refine st32 _ ?_
    show Steps p.tables e below (T32.setTop (mkF m 57 Lo4 [(.int (3 : Int32)), (.int (2 : Int32)), (.ref bb), (.int (8 : Int32)), (.ref bb)])) _
    refine XS.imul X32.here hx rfl (hb hby d7_21_57) rfl ?_
    show Steps p.tables e below (T32.setTop (mkF m 58 Lo4 [(.int (6 : Int32)), (.ref bb), (.int (8 : Int32)), (.ref bb)])) _
    refine XS.iloadN X32.here hx rfl (hb hby d7_21_58) rfl ?_
    show Steps p.tables e below (T32.setTop (mkF m 59 Lo4 [(.int (1 : Int32)), (.int (6 : Int32)), (.ref bb), (.int (8 : Int32)), (.ref bb)])) _
    refine XS.iadd X32.here hx rfl (hb hby d7_21_59) rfl ?_
    show Steps p.tables e below (T32.setTop (mkF m 60 Lo4 [(.int (7 : Int32)), (.ref bb), (.int (8 : Int32)), (.ref bb)])) _
    refine own_ldJ X32 hx hZ e32 A28 (j := (7 : Int32)) (by decide) (w := x4) rfl (g := (mkF m 60 Lo4 [(.int (7 : Int32)), (.ref bb), (.int (8 : Int32)), (.ref bb)])) rfl rfl (hb hby d7_21_60) _ ?_
    show Steps p.tables e below (T32.setTop (mkF m 61 Lo4 [(.long x4), (.int (8 : Int32)), (.ref bb)])) _
    refine st33 _ ?_
    show Steps p.tables e below (T33.setTop (mkF m 62 Lo4 [])) _
    refine XS.iinc X33.here hx rfl (hb hby d7_21_62) rfl (l' := Lo5) rfl ?_
    show Steps p.tables e below (T33.setTop (mkF m 65 Lo5 [])) _
    refine XS.goto X33.here hx rfl (pc0 := 65) (pc' := 2) rfl (hb hby d7_21_65) (by decide) (by decide) ?_
    show Steps p.tables e below (T33.setTop (mkF m 2 Lo5 [])) _
    refine XS.iloadN X33.here hx rfl (hb hby d7_21_2) rfl ?_
    show Steps p.tables e below (T33.setTop (mkF m 3 Lo5 [(.int (3 : Int32))])) _
    refine XS.aloadN X33.here hx rfl (hb hby d7_21_3) rfl rfl ?_
    show Steps p.tables e below (T33.setTop (mkF m 4 Lo5 [(.ref a1), (.int (3 : Int32))])) _
    refine st34 _ ?_
    show Steps p.tables e below (T34.setTop (mkF m 7 Lo5 [(.int (3 : Int32)), (.int (3 : Int32))])) _
    refine XS.icmpYes X34.here hx rfl (pc0 := 7) (pc' := 68) rfl (hb hby d7_21_7) rfl (by first | rfl | decide) (by decide) (by decide) ?_
    show Steps p.tables e below (T34.setTop (mkF m 68 Lo5 [])) _
    refine XS.aloadN X34.here hx rfl (hb hby d7_21_68) rfl rfl ?_
    show Steps p.tables e below (T34.setTop (mkF m 69 Lo5 [(.ref a1)])) _
    refine st35 _ ?_
    show Steps p.tables e below (T35.setTop (mkF m 72 Lo5 [(.ref bb)])) _
    refine XS.iloadN X35.here hx rfl (hb hby d7_21_72) rfl ?_
    show Steps p.tables e below (T35.setTop (mkF m 73 Lo5 [(.int (2 : Int32)), (.ref bb)])) _
    refine XS.aloadN X35.here hx rfl (hb hby d7_21_73) rfl rfl ?_
    show Steps p.tables e below (T35.setTop (mkF m 74 Lo5 [(.ref a1), (.int (2 : Int32)), (.ref bb)])) _
    refine st36 _ ?_
    show Steps p.tables e below (T36.setTop (mkF m 77 Lo5 [(.int (3 : Int32)), (.int (2 : Int32)), (.ref bb)])) _
    refine XS.imul X36.here hx rfl (hb hby d7_21_77) rfl ?_
    show Steps p.tables e below (T36.setTop (mkF m 78 Lo5 [(.int (6 : Int32)), (.ref bb)])) _
    refine XS.iloadN X36.here hx rfl (hb hby d7_21_78) rfl ?_
    show Steps p.tables e below (T36.setTop (mkF m 79 Lo5 [(.int (2 : Int32)), (.int (6 : Int32)), (.ref bb)])) _
    refine XS.iadd X36.here hx rfl (hb hby d7_21_79) rfl ?_
    show Steps p.tables e below (T36.setTop (mkF m 80 Lo5 [(.int (8 : Int32)), (.ref bb)])) _
    refine XS.lconst X36.here hx rfl (hb hby d7_21_80) ?_
    show Steps p.tables e below (T36.setTop (mkF m 81 Lo5 [(.long (0 : Int64)), (.int (8 : Int32)), (.ref bb)])) _
    refine st37 _ ?_
    show Steps p.tables e below (T37.setTop (mkF m 82 Lo5 [])) _
    exact X37.returnOut hx Bd.returns (hb hby d7_21_82) hr
  · show Q7_21 Z a1 bb kk x0 x1 x2 x3 x4 x5 x6 x7 x8 h0 n0 _ T37.heap _
    rw [e37]
    exact ⟨(x0), (x1), (x1), (x3), (x4), (x4), (x3), (x4), ((0 : Int64)), rfl, N37, K37, A37, own_as_21 x0 x1 x2 x3 x4 x5 x6 x7 x8 hx0 hx4 hx8⟩
def Q7 (Z : State) (a1 : Addr) (i : Int32) (j : Int32) (bb : Addr) (kk : ClassId) (x0 : Int64) (x1 : Int64) (x2 : Int64) (x3 : Int64) (x4 : Int64) (x5 : Int64) (x6 : Int64) (x7 : Int64) (x8 : Int64) (h0 : Heap) (n0 : Nat) (v : Option Value) (h : Heap) (L : List Loc) : Prop := ∃ (y0 : Int64) (y1 : Int64) (y2 : Int64) (y3 : Int64) (y4 : Int64) (y5 : Int64) (y6 : Int64) (y7 : Int64) (y8 : Int64), v = none ∧ Fr n0 L ∧ Keep h0 h [bb] ∧ (Arv Z h bb kk .long (9 : Int32) [(.long y0), (.long y1), (.long y2), (.long y3), (.long y4), (.long y5), (.long y6), (.long y7), (.long y8)] (.long (0 : Int64))) ∧ (own_nine i j x0 x1 x2 x3 x4 x5 x6 x7 x8 y0 y1 y2 y3 y4 y5 y6 y7 y8)
set_option maxRecDepth 65536 in
set_option maxHeartbeats 40000000 in
theorem rm7 (l : Launch) (Z : State) (a0 : Array Value) (hw : ∀ d ∈ tables_1, d.before a0 Z = true) (ws : List Jvm.Cond) (a1 : Addr) (i : Int32) (j : Int32) (bb : Addr) (kk : ClassId) (x0 : Int64) (x1 : Int64) (x2 : Int64) (x3 : Int64) (x4 : Int64) (x5 : Int64) (x6 : Int64) (x7 : Int64) (x8 : Int64) (h0 : Heap) (n0 : Nat) (Z0 : n0 ≤ h0.size) (P0 : Exa Z h0 a1 "com/example/chronoscope/chronoscope/sim/Zone") (P1 : Fld Z h0 a1 "com/example/chronoscope/chronoscope/sim/Zone" "size" "I" (.int (3 : Int32))) (P2 : Fld Z h0 a1 "com/example/chronoscope/chronoscope/sim/Zone" "bounds" "[J" (.ref bb)) (P3 : Arv Z h0 bb kk .long (9 : Int32) [(.long x0), (.long x1), (.long x2), (.long x3), (.long x4), (.long x5), (.long x6), (.long x7), (.long x8)] (.long (0 : Int64))) (g_bb : n0 ≤ bb) (ne_a1_bb : a1 ≠ bb) (hij : (i = (1 : Int32) ∧ j = (0 : Int32)) ∨ (i = (2 : Int32) ∧ j = (0 : Int32)) ∨ (i = (1 : Int32) ∧ j = (2 : Int32)) ∨ (i = (2 : Int32) ∧ j = (1 : Int32))) (hx0 : x0 = (0 : Int64)) (hx4 : x4 = (0 : Int64)) (hx8 : x8 = (0 : Int64)) :
    MetFree l (⟨"com/example/chronoscope/chronoscope/sim/Zone", "assign", "(II)V"⟩ : MethodName) (head1 (Jvm.Cond.code (⟨"com/example/chronoscope/chronoscope/sim/Zone", "assign", "(II)V"⟩ : MethodName) prog_347_method_11_code 4 none :: ws) ({ frames := 0, cells := 0, slots := 0, locals := 0 } : Room)) (fun a U => a = #[(.ref a1), (.int i), (.int j)] ∧ Z.Warmed39 U.vm ∧ U.heap = h0) (fun _ _ _ _ _ => True) (fun _ U o U' => ∃ v L, o = .returned v ∧ Q7 Z a1 i j bb kk x0 x1 x2 x3 x4 x5 x6 x7 x8 h0 n0 v U'.heap L ∧ FrameEnd U o U' L ({ frames := 0, cells := 0, slots := 0, locals := 0 } : Room).cells ({ frames := 0, cells := 0, slots := 0, locals := 0 } : Room).slots) := by
  rcases hij with ⟨rfl, rfl⟩ | ⟨rfl, rfl⟩ | ⟨rfl, rfl⟩ | ⟨rfl, rfl⟩
  · exact rm7_10 l Z a0 hw ws a1 bb kk x0 x1 x2 x3 x4 x5 x6 x7 x8 h0 n0 Z0 P0 P1 P2 P3 g_bb ne_a1_bb hx0 hx4 hx8
  · exact rm7_20 l Z a0 hw ws a1 bb kk x0 x1 x2 x3 x4 x5 x6 x7 x8 h0 n0 Z0 P0 P1 P2 P3 g_bb ne_a1_bb hx0 hx4 hx8
  · exact rm7_12 l Z a0 hw ws a1 bb kk x0 x1 x2 x3 x4 x5 x6 x7 x8 h0 n0 Z0 P0 P1 P2 P3 g_bb ne_a1_bb hx0 hx4 hx8
  · exact rm7_21 l Z a0 hw ws a1 bb kk x0 x1 x2 x3 x4 x5 x6 x7 x8 h0 n0 Z0 P0 P1 P2 P3 g_bb ne_a1_bb hx0 hx4 hx8
theorem d5_1e_0 : decode prog_347_method_7_code 0 = .ok (.aload_n 0, 1) := by decide +kernel
theorem d5_1e_1 : decode prog_347_method_7_code 1 = .ok (.getfield 24, 3) := by decide +kernel
theorem d5_1e_4 : decode prog_347_method_7_code 4 = .ok (.ifCond .ne 21, 3) := by decide +kernel
theorem d5_1e_7 : decode prog_347_method_7_code 7 = .ok (.lload_n 3, 1) := by decide +kernel
theorem d5_1e_8 : decode prog_347_method_7_code 8 = .ok (.aload_n 0, 1) := by decide +kernel
theorem d5_1e_9 : decode prog_347_method_7_code 9 = .ok (.getfield 15, 3) := by decide +kernel
theorem d5_1e_12 : decode prog_347_method_7_code 12 = .ok (.iload_n 1, 1) := by decide +kernel
theorem d5_1e_13 : decode prog_347_method_7_code 13 = .ok (.aload_n 0, 1) := by decide +kernel
theorem d5_1e_14 : decode prog_347_method_7_code 14 = .ok (.getfield 9, 3) := by decide +kernel
theorem d5_1e_17 : decode prog_347_method_7_code 17 = .ok (.imul, 1) := by decide +kernel
theorem d5_1e_18 : decode prog_347_method_7_code 18 = .ok (.iload_n 2, 1) := by decide +kernel
theorem d5_1e_19 : decode prog_347_method_7_code 19 = .ok (.iadd, 1) := by decide +kernel
theorem d5_1e_20 : decode prog_347_method_7_code 20 = .ok (.laload, 1) := by decide +kernel
theorem d5_1e_21 : decode prog_347_method_7_code 21 = .ok (.lcmp, 1) := by decide +kernel
theorem d5_1e_22 : decode prog_347_method_7_code 22 = .ok (.ifCond .lt 16, 3) := by decide +kernel
theorem d5_1e_38 : decode prog_347_method_7_code 38 = .ok (.aload_n 0, 1) := by decide +kernel
theorem d5_1e_39 : decode prog_347_method_7_code 39 = .ok (.getfield 15, 3) := by decide +kernel
theorem d5_1e_42 : decode prog_347_method_7_code 42 = .ok (.iload_n 2, 1) := by decide +kernel
theorem d5_1e_43 : decode prog_347_method_7_code 43 = .ok (.aload_n 0, 1) := by decide +kernel
theorem d5_1e_44 : decode prog_347_method_7_code 44 = .ok (.getfield 9, 3) := by decide +kernel
theorem d5_1e_47 : decode prog_347_method_7_code 47 = .ok (.imul, 1) := by decide +kernel
theorem d5_1e_48 : decode prog_347_method_7_code 48 = .ok (.iload_n 1, 1) := by decide +kernel
theorem d5_1e_49 : decode prog_347_method_7_code 49 = .ok (.iadd, 1) := by decide +kernel
theorem d5_1e_50 : decode prog_347_method_7_code 50 = .ok (.laload, 1) := by decide +kernel
theorem d5_1e_51 : decode prog_347_method_7_code 51 = .ok (.lstore 5, 2) := by decide +kernel
theorem d5_1e_53 : decode prog_347_method_7_code 53 = .ok (.lload 5, 2) := by decide +kernel
theorem d5_1e_55 : decode prog_347_method_7_code 55 = .ok (.ldc2_w 31, 3) := by decide +kernel
theorem d5_1e_58 : decode prog_347_method_7_code 58 = .ok (.lcmp, 1) := by decide +kernel
theorem d5_1e_59 : decode prog_347_method_7_code 59 = .ok (.ifCond .eq 19, 3) := by decide +kernel
theorem d5_1e_62 : decode prog_347_method_7_code 62 = .ok (.lload 5, 2) := by decide +kernel
theorem d5_1e_64 : decode prog_347_method_7_code 64 = .ok (.lload_n 3, 1) := by decide +kernel
theorem d5_1e_65 : decode prog_347_method_7_code 65 = .ok (.ladd, 1) := by decide +kernel
theorem d5_1e_66 : decode prog_347_method_7_code 66 = .ok (.lconst 0, 1) := by decide +kernel
theorem d5_1e_67 : decode prog_347_method_7_code 67 = .ok (.lcmp, 1) := by decide +kernel
theorem d5_1e_68 : decode prog_347_method_7_code 68 = .ok (.ifCond .ge 10, 3) := by decide +kernel
theorem d5_1e_71 : decode prog_347_method_7_code 71 = .ok (.aload_n 0, 1) := by decide +kernel
theorem d5_1e_72 : decode prog_347_method_7_code 72 = .ok (.iconst 1, 1) := by decide +kernel
theorem d5_1e_73 : decode prog_347_method_7_code 73 = .ok (.putfield 24, 3) := by decide +kernel
theorem d5_1e_76 : decode prog_347_method_7_code 76 = .ok (.iconst 0, 1) := by decide +kernel
theorem d5_1e_77 : decode prog_347_method_7_code 77 = .ok (.ireturn, 1) := by decide +kernel
theorem pn_5_1e : plainName "com/example/chronoscope/chronoscope/sim/Zone" = true := by first | (simp [plainName, overriddenIn]; done) | decide +kernel
theorem ef_5_1e (m : MethodId) (x0 : Addr) (x1 : Int32) (x2 : Int32) (x3 : Int64) : entryFrame m #[(.ref x0), (.int x1), (.int x2), (.long x3)] 13 = mkF m 0 #[.val (.ref x0), .val (.int x1), .val (.int x2), .val (.long x3), .second, .unset, .unset, .unset, .unset, .unset, .unset, .unset, .unset] [] := by first | (simp [entryFrame, mkF, argsToLocals, Value.category]; done) | rfl
def Q5_1e (Z : State) (a1 : Addr) (q4 : Int64) (bb : Addr) (kk : ClassId) (x0 : Int64) (x1 : Int64) (x2 : Int64) (x3 : Int64) (x4 : Int64) (x5 : Int64) (x6 : Int64) (x7 : Int64) (x8 : Int64) (h0 : Heap) (n0 : Nat) (v : Option Value) (h : Heap) (L : List Loc) : Prop := ∃ (ww : Int32) (y0 : Int64) (y1 : Int64) (y2 : Int64) (y3 : Int64) (y4 : Int64) (y5 : Int64) (y6 : Int64) (y7 : Int64) (y8 : Int64), v = some (.int ww) ∧ Fr n0 L ∧ Keep h0 h [a1, bb] ∧ (Exa Z h a1 "com/example/chronoscope/chronoscope/sim/Zone") ∧ (Fld Z h a1 "com/example/chronoscope/chronoscope/sim/Zone" "size" "I" (.int (3 : Int32))) ∧ (Fld Z h a1 "com/example/chronoscope/chronoscope/sim/Zone" "bounds" "[J" (.ref bb)) ∧ (Arv Z h bb kk .long (9 : Int32) [(.long y0), (.long y1), (.long y2), (.long y3), (.long y4), (.long y5), (.long y6), (.long y7), (.long y8)] (.long (0 : Int64))) ∧ (y0 = x0 ∧ y4 = x4 ∧ y8 = x8)
set_option maxRecDepth 65536 in
set_option maxHeartbeats 40000000 in
theorem rm5_1e (l : Launch) (Z : State) (a0 : Array Value) (hw : ∀ d ∈ tables_1, d.before a0 Z = true) (ws : List Jvm.Cond) (a1 : Addr) (q4 : Int64) (bb : Addr) (kk : ClassId) (x0 : Int64) (x1 : Int64) (x2 : Int64) (x3 : Int64) (x4 : Int64) (x5 : Int64) (x6 : Int64) (x7 : Int64) (x8 : Int64) (h0 : Heap) (n0 : Nat) (Z0 : n0 ≤ h0.size) (P0 : Exa Z h0 a1 "com/example/chronoscope/chronoscope/sim/Zone") (P1 : Fld Z h0 a1 "com/example/chronoscope/chronoscope/sim/Zone" "size" "I" (.int (3 : Int32))) (P2 : Fld Z h0 a1 "com/example/chronoscope/chronoscope/sim/Zone" "bounds" "[J" (.ref bb)) (P3 : Fld Z h0 a1 "com/example/chronoscope/chronoscope/sim/Zone" "empty" "Z" (.int (0 : Int32))) (P4 : Arv Z h0 bb kk .long (9 : Int32) [(.long x0), (.long x1), (.long x2), (.long x3), (.long x4), (.long x5), (.long x6), (.long x7), (.long x8)] (.long (0 : Int64))) (g_a1 : n0 ≤ a1) (g_bb : n0 ≤ bb) (ne_a1_bb : a1 ≠ bb) (h22_1 : q4 < x3) (h59_1 : ¬ x1 = (9223372036854775807 : Int64)) (h68_1 : (x1 + q4) < (0 : Int64)) :
    MetFree l (⟨"com/example/chronoscope/chronoscope/sim/Zone", "constrain", "(IIJ)Z"⟩ : MethodName) (head1 (Jvm.Cond.code (⟨"com/example/chronoscope/chronoscope/sim/Zone", "constrain", "(IIJ)Z"⟩ : MethodName) prog_347_method_7_code 13 (some .boolean) :: ws) ({ frames := 0, cells := 0, slots := 0, locals := 0 } : Room)) (fun a U => a = #[(.ref a1), (.int (1 : Int32)), (.int (0 : Int32)), (.long q4)] ∧ Z.Warmed39 U.vm ∧ U.heap = h0) (fun _ _ _ _ _ => True) (fun _ U o U' => ∃ v L, o = .returned v ∧ Q5_1e Z a1 q4 bb kk x0 x1 x2 x3 x4 x5 x6 x7 x8 h0 n0 v U'.heap L ∧ FrameEnd U o U' L ({ frames := 0, cells := 0, slots := 0, locals := 0 } : Room).cells ({ frames := 0, cells := 0, slots := 0, locals := 0 } : Room).slots) := by
  refine MetFree.of_bodySF (plainFor_of_name pn_5_1e) hisR ?_
  intro p e s m args below meth c s₁ Bd hml0 hP hK
  obtain ⟨rfl, hZ, hh⟩ := hP
  have w4_ := hw _ (List.mem_of_getElem? (i := 4) rfl)
  have w12_ := hw _ (List.mem_of_getElem? (i := 12) rfl)
  have w13_ := hw _ (List.mem_of_getElem? (i := 13) rfl)
  have w14_ := hw _ (List.mem_of_getElem? (i := 14) rfl)
  have w15_ := hw _ (List.mem_of_getElem? (i := 15) rfl)
  have w21_ := hw _ (List.mem_of_getElem? (i := 21) rfl)
  have w32_ := hw _ (List.mem_of_getElem? (i := 32) rfl)
  have w33_ := hw _ (List.mem_of_getElem? (i := 33) rfl)
  have hx := Bd.exec
  have hby := Bd.bytes
  have hml : c.maxLocals = 13 := hml0
  have hown : s.vm.findClass "com/example/chronoscope/chronoscope/sim/Zone" = some m.cls := findClass_of_methodNamed Bd.named
  have hnm := (name_of_methodNamed Bd.named Bd.method).1
  have X0 : Stand p l e ({ frames := 0, cells := 0, slots := 0, locals := 0 } : Room) s m #[(.ref a1), (.int (1 : Int32)), (.int (0 : Int32)), (.long q4)] below meth c s₁ [] 0 0 := Stand.of_body Bd
  have e0 : s₁.heap = h0 := by rw [← hh, Bd.state]; rfl
  have N0 := Fr.nil n0
  have pre0 : ∀ t, Steps p.tables e below (s₁.setTop (mkF m 0 #[.val (.ref a1), .val (.int (1 : Int32)), .val (.int (0 : Int32)), .val (.long q4), .second, .unset, .unset, .unset, .unset, .unset, .unset, .unset, .unset] [])) t → Steps p.tables e below (s₁.setTop (entryFrame m #[(.ref a1), (.int (1 : Int32)), (.int (0 : Int32)), (.long q4)] 13)) t := fun t k => castTop (ef_5_1e m a1 (1 : Int32) (0 : Int32) q4) k
  let Lo1 : Array Slot := #[.val (.ref a1), .val (.int (1 : Int32)), .val (.int (0 : Int32)), .val (.long q4), .second, .unset, .unset, .unset, .unset, .unset, .unset, .unset, .unset]
  obtain ⟨T1, X1, e1, st1⟩ := getF X0 hx hZ hown (host := "") (Or.inl w32_) Via.refl e0 P3 (g := (mkF m 1 Lo1 [(.ref a1)])) rfl rfl (hb hby d5_1e_1)
  obtain ⟨T2, X2, e2, st2⟩ := getF X1 hx hZ hown (host := "") (Or.inl w14_) Via.refl e1 P2 (g := (mkF m 9 Lo1 [(.ref a1), (.long q4)])) rfl rfl (hb hby d5_1e_9)
  obtain ⟨T3, X3, e3, st3⟩ := getF X2 hx hZ hown (host := "") (Or.inl w12_) Via.refl e2 P1 (g := (mkF m 14 Lo1 [(.ref a1), (.int (1 : Int32)), (.ref bb), (.long q4)])) rfl rfl (hb hby d5_1e_14)
  obtain ⟨T4, X4, e4, st4⟩ := getF X3 hx hZ hown (host := "") (Or.inl w14_) Via.refl e3 P2 (g := (mkF m 39 Lo1 [(.ref a1)])) rfl rfl (hb hby d5_1e_39)
  obtain ⟨T5, X5, e5, st5⟩ := getF X4 hx hZ hown (host := "") (Or.inl w12_) Via.refl e4 P1 (g := (mkF m 44 Lo1 [(.ref a1), (.int (0 : Int32)), (.ref bb)])) rfl rfl (hb hby d5_1e_44)
  let Lo2 : Array Slot := #[.val (.ref a1), .val (.int (1 : Int32)), .val (.int (0 : Int32)), .val (.long q4), .second, .val (.long x1), .second, .unset, .unset, .unset, .unset, .unset, .unset]
  obtain ⟨T6, h6, X6, e6, W6, st6⟩ := putF X5 hx hZ hown (host := "") (Or.inl w32_) Via.refl e5 P3 P0 (Or.inl w33_) w4_ (ty := .boolean) (by decide) rfl rfl (g := (mkF m 73 Lo2 [(.int (1 : Int32)), (.ref a1)])) rfl rfl (hb hby d5_1e_73)
  have F6_size_a1 := P1.other W6 (Or.inr (slot_ne (Or.inr w13_) (Or.inl w33_) (by decide) (t := .int) (t' := .boolean) (by decide) (by decide)))
  have F6_bounds_a1 := P2.other W6 (Or.inr (slot_ne (Or.inr w15_) (Or.inl w33_) (by decide) (t := (.array .long)) (t' := .boolean) (by decide) (by decide)))
  have F6_empty_a1 := P3.same W6
  have E6_a1 := P0.wr W6
  have A6_bb := P4.other W6 (Ne.symm ne_a1_bb)
  have K6 : Keep h0 h6 [a1, bb] := (Keep.refl h0 [a1, bb]).wr W6 (Or.inl (List.mem_of_getElem? (i := 0) rfl))
  have Z6 : n0 ≤ h6.size := Nat.le_trans Z0 (Keep.of_wr W6).1
  have N6 := Fr.snoc X6 N0 g_a1
  obtain ⟨fs, hr, hrun, hended, hW, hsame⟩ := X6.leave (v := some (.int (0 : Int32))) (fun h => by rw [Bd.returns] at h; cases h)
  refine ⟨_, _, pre0 _ ?_, hrun, hended, _, _, rfl, ?_, ⟨_, rfl⟩, hW, hsame.mono (by decide) (by decide)⟩
  · show Steps p.tables e below (s₁.setTop (mkF m 0 Lo1 [])) _
    refine XS.aloadN X0.here hx rfl (hb hby d5_1e_0) rfl rfl ?_
    show Steps p.tables e below (s₁.setTop (mkF m 1 Lo1 [(.ref a1)])) _
    refine st1 _ ?_
    show Steps p.tables e below (T1.setTop (mkF m 4 Lo1 [(.int (0 : Int32))])) _
    refine XS.ifNo X1.here hx rfl (hb hby d5_1e_4) rfl (by first | rfl | decide) ?_
    show Steps p.tables e below (T1.setTop (mkF m 7 Lo1 [])) _
    refine XS.lloadN X1.here hx rfl (hb hby d5_1e_7) rfl ?_
    show Steps p.tables e below (T1.setTop (mkF m 8 Lo1 [(.long q4)])) _
    refine XS.aloadN X1.here hx rfl (hb hby d5_1e_8) rfl rfl ?_
    show Steps p.tables e below (T1.setTop (mkF m 9 Lo1 [(.ref a1), (.long q4)])) _
    refine st2 _ ?_
    show Steps p.tables e below (T2.setTop (mkF m 12 Lo1 [(.ref bb), (.long q4)])) _
    refine XS.iloadN X2.here hx rfl (hb hby d5_1e_12) rfl ?_
    show Steps p.tables e below (T2.setTop (mkF m 13 Lo1 [(.int (1 : Int32)), (.ref bb), (.long q4)])) _
    refine XS.aloadN X2.here hx rfl (hb hby d5_1e_13) rfl rfl ?_
    show Steps p.tables e below (T2.setTop (mkF m 14 Lo1 [(.ref a1), (.int (1 : Int32)), (.ref bb), (.long q4)])) _
    refine st3 _ ?_
    show Steps p.tables e below (T3.setTop (mkF m 17 Lo1 [(.int (3 : Int32)), (.int (1 : Int32)), (.ref bb), (.long q4)])) _
    refine XS.imul X3.here hx rfl (hb hby d5_1e_17) rfl ?_
    show Steps p.tables e below (T3.setTop (mkF m 18 Lo1 [(.int (3 : Int32)), (.ref bb), (.long q4)])) _
    refine XS.iloadN X3.here hx rfl (hb hby d5_1e_18) rfl ?_
    show Steps p.tables e below (T3.setTop (mkF m 19 Lo1 [(.int (0 : Int32)), (.int (3 : Int32)), (.ref bb), (.long q4)])) _
    refine XS.iadd X3.here hx rfl (hb hby d5_1e_19) rfl ?_
    show Steps p.tables e below (T3.setTop (mkF m 20 Lo1 [(.int (3 : Int32)), (.ref bb), (.long q4)])) _
    refine own_ldJ X3 hx hZ e3 P4 (j := (3 : Int32)) (by decide) (w := x3) rfl (g := (mkF m 20 Lo1 [(.int (3 : Int32)), (.ref bb), (.long q4)])) rfl rfl (hb hby d5_1e_20) _ ?_
    show Steps p.tables e below (T3.setTop (mkF m 21 Lo1 [(.long x3), (.long q4)])) _
    refine XS.lcmp X3.here hx rfl (hb hby d5_1e_21) rfl ?_
    show Steps p.tables e below (T3.setTop (mkF m 22 Lo1 [(.int (lcmpW q4 x3))])) _
    refine XS.ifYes X3.here hx rfl (pc0 := 22) (pc' := 38) rfl (hb hby d5_1e_22) rfl (own_lw_lt_t h22_1) (by decide) (by decide) ?_
    show Steps p.tables e below (T3.setTop (mkF m 38 Lo1 [])) _
    refine XS.aloadN X3.here hx rfl (hb hby d5_1e_38) rfl rfl ?_
    show Steps p.tables e below (T3.setTop (mkF m 39 Lo1 [(.ref a1)])) _
    refine st4 _ ?_
    show Steps p.tables e below (T4.setTop (mkF m 42 Lo1 [(.ref bb)])) _
    refine XS.iloadN X4.here hx rfl (hb hby d5_1e_42) rfl ?_
    show Steps p.tables e below (T4.setTop (mkF m 43 Lo1 [(.int (0 : Int32)), (.ref bb)])) _
    refine XS.aloadN X4.here hx rfl (hb hby d5_1e_43) rfl rfl ?_
    show Steps p.tables e below (T4.setTop (mkF m 44 Lo1 [(.ref a1), (.int (0 : Int32)), (.ref bb)])) _
    refine st5 _ ?_
    show Steps p.tables e below (T5.setTop (mkF m 47 Lo1 [(.int (3 : Int32)), (.int (0 : Int32)), (.ref bb)])) _
    refine XS.imul X5.here hx rfl (hb hby d5_1e_47) rfl ?_
    show Steps p.tables e below (T5.setTop (mkF m 48 Lo1 [(.int (0 : Int32)), (.ref bb)])) _
    refine XS.iloadN X5.here hx rfl (hb hby d5_1e_48) rfl ?_
    show Steps p.tables e below (T5.setTop (mkF m 49 Lo1 [(.int (1 : Int32)), (.int (0 : Int32)), (.ref bb)])) _
    refine XS.iadd X5.here hx rfl (hb hby d5_1e_49) rfl ?_
    show Steps p.tables e below (T5.setTop (mkF m 50 Lo1 [(.int (1 : Int32)), (.ref bb)])) _
    refine own_ldJ X5 hx hZ e5 P4 (j := (1 : Int32)) (by decide) (w := x1) rfl (g := (mkF m 50 Lo1 [(.int (1 : Int32)), (.ref bb)])) rfl rfl (hb hby d5_1e_50) _ ?_
    show Steps p.tables e below (T5.setTop (mkF m 51 Lo1 [(.long x1)])) _
    refine XS.lstore X5.here hx rfl (hb hby d5_1e_51) rfl (l' := Lo2) rfl ?_
    show Steps p.tables e below (T5.setTop (mkF m 53 Lo2 [])) _
    refine XS.lload X5.here hx rfl (hb hby d5_1e_53) rfl ?_
    show Steps p.tables e below (T5.setTop (mkF m 55 Lo2 [(.long x1)])) _
    refine X5.ldc2Long hx hown (mvT hZ w21_) (g := (mkF m 55 Lo2 [(.long x1)])) rfl (hb hby d5_1e_55) _ ?_
    show Steps p.tables e below (T5.setTop (mkF m 58 Lo2 [(.long (9223372036854775807 : Int64)), (.long x1)])) _
    refine XS.lcmp X5.here hx rfl (hb hby d5_1e_58) rfl ?_
    show Steps p.tables e below (T5.setTop (mkF m 59 Lo2 [(.int (lcmpW x1 (9223372036854775807 : Int64)))])) _
    refine XS.ifNo X5.here hx rfl (hb hby d5_1e_59) rfl (own_lw_eq_f h59_1) ?_
    show Steps p.tables e below (T5.setTop (mkF m 62 Lo2 [])) _
    refine XS.lload X5.here hx rfl (hb hby d5_1e_62) rfl ?_
    show Steps p.tables e below (T5.setTop (mkF m 64 Lo2 [(.long x1)])) _
    refine XS.lloadN X5.here hx rfl (hb hby d5_1e_64) rfl ?_
    show Steps p.tables e below (T5.setTop (mkF m 65 Lo2 [(.long q4), (.long x1)])) _
    refine XS.ladd X5.here hx rfl (hb hby d5_1e_65) rfl ?_
    show Steps p.tables e below (T5.setTop (mkF m 66 Lo2 [(.long (x1 + q4))])) _
    refine XS.lconst X5.here hx rfl (hb hby d5_1e_66) ?_
    show Steps p.tables e below (T5.setTop (mkF m 67 Lo2 [(.long (0 : Int64)), (.long (x1 + q4))])) _
    refine XS.lcmp X5.here hx rfl (hb hby d5_1e_67) rfl ?_
    show Steps p.tables e below (T5.setTop (mkF m 68 Lo2 [(.int (lcmpW (x1 + q4) (0 : Int64)))])) _
    refine XS.ifNo X5.here hx rfl (hb hby d5_1e_68) rfl (own_lw_ge_f h68_1) ?_
    show Steps p.tables e below (T5.setTop (mkF m 71 Lo2 [])) _
    refine XS.aloadN X5.here hx rfl (hb hby d5_1e_71) rfl rfl ?_
    show Steps p.tables e below (T5.setTop (mkF m 72 Lo2 [(.ref a1)])) _
    refine XS.iconst X5.here hx rfl (hb hby d5_1e_72) ?_
    show Steps p.tables e below (T5.setTop (mkF m 73 Lo2 [(.int (1 : Int32)), (.ref a1)])) _
    refine st6 _ ?_
    show Steps p.tables e below (T6.setTop (mkF m 76 Lo2 [])) _
    refine XS.iconst X6.here hx rfl (hb hby d5_1e_76) ?_
    show Steps p.tables e below (T6.setTop (mkF m 77 Lo2 [(.int (0 : Int32))])) _
    exact own_retZ X6 hx Bd.returns (hb hby d5_1e_77) rfl rfl hr
  · show Q5_1e Z a1 q4 bb kk x0 x1 x2 x3 x4 x5 x6 x7 x8 h0 n0 _ T6.heap _
    rw [e6]
    exact ⟨(0 : Int32), x0, x1, x2, x3, x4, x5, x6, x7, x8, rfl, N6, K6, E6_a1, F6_size_a1, F6_bounds_a1, A6_bb, ⟨rfl, rfl, rfl⟩⟩
theorem d5_1n_0 : decode prog_347_method_7_code 0 = .ok (.aload_n 0, 1) := by decide +kernel
theorem d5_1n_1 : decode prog_347_method_7_code 1 = .ok (.getfield 24, 3) := by decide +kernel
theorem d5_1n_4 : decode prog_347_method_7_code 4 = .ok (.ifCond .ne 21, 3) := by decide +kernel
theorem d5_1n_7 : decode prog_347_method_7_code 7 = .ok (.lload_n 3, 1) := by decide +kernel
theorem d5_1n_8 : decode prog_347_method_7_code 8 = .ok (.aload_n 0, 1) := by decide +kernel
theorem d5_1n_9 : decode prog_347_method_7_code 9 = .ok (.getfield 15, 3) := by decide +kernel
theorem d5_1n_12 : decode prog_347_method_7_code 12 = .ok (.iload_n 1, 1) := by decide +kernel
theorem d5_1n_13 : decode prog_347_method_7_code 13 = .ok (.aload_n 0, 1) := by decide +kernel
theorem d5_1n_14 : decode prog_347_method_7_code 14 = .ok (.getfield 9, 3) := by decide +kernel
theorem d5_1n_17 : decode prog_347_method_7_code 17 = .ok (.imul, 1) := by decide +kernel
theorem d5_1n_18 : decode prog_347_method_7_code 18 = .ok (.iload_n 2, 1) := by decide +kernel
theorem d5_1n_19 : decode prog_347_method_7_code 19 = .ok (.iadd, 1) := by decide +kernel
theorem d5_1n_20 : decode prog_347_method_7_code 20 = .ok (.laload, 1) := by decide +kernel
theorem d5_1n_21 : decode prog_347_method_7_code 21 = .ok (.lcmp, 1) := by decide +kernel
theorem d5_1n_22 : decode prog_347_method_7_code 22 = .ok (.ifCond .lt 16, 3) := by decide +kernel
theorem d5_1n_38 : decode prog_347_method_7_code 38 = .ok (.aload_n 0, 1) := by decide +kernel
theorem d5_1n_39 : decode prog_347_method_7_code 39 = .ok (.getfield 15, 3) := by decide +kernel
theorem d5_1n_42 : decode prog_347_method_7_code 42 = .ok (.iload_n 2, 1) := by decide +kernel
theorem d5_1n_43 : decode prog_347_method_7_code 43 = .ok (.aload_n 0, 1) := by decide +kernel
theorem d5_1n_44 : decode prog_347_method_7_code 44 = .ok (.getfield 9, 3) := by decide +kernel
theorem d5_1n_47 : decode prog_347_method_7_code 47 = .ok (.imul, 1) := by decide +kernel
theorem d5_1n_48 : decode prog_347_method_7_code 48 = .ok (.iload_n 1, 1) := by decide +kernel
theorem d5_1n_49 : decode prog_347_method_7_code 49 = .ok (.iadd, 1) := by decide +kernel
theorem d5_1n_50 : decode prog_347_method_7_code 50 = .ok (.laload, 1) := by decide +kernel
theorem d5_1n_51 : decode prog_347_method_7_code 51 = .ok (.lstore 5, 2) := by decide +kernel
theorem d5_1n_53 : decode prog_347_method_7_code 53 = .ok (.lload 5, 2) := by decide +kernel
theorem d5_1n_55 : decode prog_347_method_7_code 55 = .ok (.ldc2_w 31, 3) := by decide +kernel
theorem d5_1n_58 : decode prog_347_method_7_code 58 = .ok (.lcmp, 1) := by decide +kernel
theorem d5_1n_59 : decode prog_347_method_7_code 59 = .ok (.ifCond .eq 19, 3) := by decide +kernel
theorem d5_1n_62 : decode prog_347_method_7_code 62 = .ok (.lload 5, 2) := by decide +kernel
theorem d5_1n_64 : decode prog_347_method_7_code 64 = .ok (.lload_n 3, 1) := by decide +kernel
theorem d5_1n_65 : decode prog_347_method_7_code 65 = .ok (.ladd, 1) := by decide +kernel
theorem d5_1n_66 : decode prog_347_method_7_code 66 = .ok (.lconst 0, 1) := by decide +kernel
theorem d5_1n_67 : decode prog_347_method_7_code 67 = .ok (.lcmp, 1) := by decide +kernel
theorem d5_1n_68 : decode prog_347_method_7_code 68 = .ok (.ifCond .ge 10, 3) := by decide +kernel
theorem d5_1n_78 : decode prog_347_method_7_code 78 = .ok (.aload_n 0, 1) := by decide +kernel
theorem d5_1n_79 : decode prog_347_method_7_code 79 = .ok (.getfield 15, 3) := by decide +kernel
theorem d5_1n_82 : decode prog_347_method_7_code 82 = .ok (.iload_n 1, 1) := by decide +kernel
theorem d5_1n_83 : decode prog_347_method_7_code 83 = .ok (.aload_n 0, 1) := by decide +kernel
theorem d5_1n_84 : decode prog_347_method_7_code 84 = .ok (.getfield 9, 3) := by decide +kernel
theorem d5_1n_87 : decode prog_347_method_7_code 87 = .ok (.imul, 1) := by decide +kernel
theorem d5_1n_88 : decode prog_347_method_7_code 88 = .ok (.iload_n 2, 1) := by decide +kernel
theorem d5_1n_89 : decode prog_347_method_7_code 89 = .ok (.iadd, 1) := by decide +kernel
theorem d5_1n_90 : decode prog_347_method_7_code 90 = .ok (.lload_n 3, 1) := by decide +kernel
theorem d5_1n_91 : decode prog_347_method_7_code 91 = .ok (.lastore, 1) := by decide +kernel
theorem d5_1n_92 : decode prog_347_method_7_code 92 = .ok (.iconst 0, 1) := by decide +kernel
theorem d5_1n_93 : decode prog_347_method_7_code 93 = .ok (.istore 7, 2) := by decide +kernel
theorem d5_1n_95 : decode prog_347_method_7_code 95 = .ok (.iload 7, 2) := by decide +kernel
theorem d5_1n_97 : decode prog_347_method_7_code 97 = .ok (.aload_n 0, 1) := by decide +kernel
theorem d5_1n_98 : decode prog_347_method_7_code 98 = .ok (.getfield 9, 3) := by decide +kernel
theorem d5_1n_101 : decode prog_347_method_7_code 101 = .ok (.if_icmp .ge 128, 3) := by decide +kernel
theorem d5_1n_104 : decode prog_347_method_7_code 104 = .ok (.aload_n 0, 1) := by decide +kernel
theorem d5_1n_105 : decode prog_347_method_7_code 105 = .ok (.getfield 15, 3) := by decide +kernel
theorem d5_1n_108 : decode prog_347_method_7_code 108 = .ok (.iload 7, 2) := by decide +kernel
theorem d5_1n_110 : decode prog_347_method_7_code 110 = .ok (.aload_n 0, 1) := by decide +kernel
theorem d5_1n_111 : decode prog_347_method_7_code 111 = .ok (.getfield 9, 3) := by decide +kernel
theorem d5_1n_114 : decode prog_347_method_7_code 114 = .ok (.imul, 1) := by decide +kernel
theorem d5_1n_115 : decode prog_347_method_7_code 115 = .ok (.iload_n 1, 1) := by decide +kernel
theorem d5_1n_116 : decode prog_347_method_7_code 116 = .ok (.iadd, 1) := by decide +kernel
theorem d5_1n_117 : decode prog_347_method_7_code 117 = .ok (.laload, 1) := by decide +kernel
theorem d5_1n_118 : decode prog_347_method_7_code 118 = .ok (.lstore 8, 2) := by decide +kernel
theorem d5_1n_120 : decode prog_347_method_7_code 120 = .ok (.lload 8, 2) := by decide +kernel
theorem d5_1n_122 : decode prog_347_method_7_code 122 = .ok (.ldc2_w 31, 3) := by decide +kernel
theorem d5_1n_125 : decode prog_347_method_7_code 125 = .ok (.lcmp, 1) := by decide +kernel
theorem d5_1n_126 : decode prog_347_method_7_code 126 = .ok (.ifCond .ne 6, 3) := by decide +kernel
theorem d5_1n_129 : decode prog_347_method_7_code 129 = .ok (.goto 94, 3) := by decide +kernel
theorem d5_1n_132 : decode prog_347_method_7_code 132 = .ok (.iconst 0, 1) := by decide +kernel
theorem d5_1n_133 : decode prog_347_method_7_code 133 = .ok (.istore 10, 2) := by decide +kernel
theorem d5_1n_135 : decode prog_347_method_7_code 135 = .ok (.iload 10, 2) := by decide +kernel
theorem d5_1n_137 : decode prog_347_method_7_code 137 = .ok (.aload_n 0, 1) := by decide +kernel
theorem d5_1n_138 : decode prog_347_method_7_code 138 = .ok (.getfield 9, 3) := by decide +kernel
theorem d5_1n_141 : decode prog_347_method_7_code 141 = .ok (.if_icmp .ge 82, 3) := by decide +kernel
theorem d5_1n_144 : decode prog_347_method_7_code 144 = .ok (.aload_n 0, 1) := by decide +kernel
theorem d5_1n_145 : decode prog_347_method_7_code 145 = .ok (.getfield 15, 3) := by decide +kernel
theorem d5_1n_148 : decode prog_347_method_7_code 148 = .ok (.iload_n 2, 1) := by decide +kernel
theorem d5_1n_149 : decode prog_347_method_7_code 149 = .ok (.aload_n 0, 1) := by decide +kernel
theorem d5_1n_150 : decode prog_347_method_7_code 150 = .ok (.getfield 9, 3) := by decide +kernel
theorem d5_1n_153 : decode prog_347_method_7_code 153 = .ok (.imul, 1) := by decide +kernel
theorem d5_1n_154 : decode prog_347_method_7_code 154 = .ok (.iload 10, 2) := by decide +kernel
theorem d5_1n_156 : decode prog_347_method_7_code 156 = .ok (.iadd, 1) := by decide +kernel
theorem d5_1n_157 : decode prog_347_method_7_code 157 = .ok (.laload, 1) := by decide +kernel
theorem d5_1n_158 : decode prog_347_method_7_code 158 = .ok (.lstore 11, 2) := by decide +kernel
theorem d5_1n_160 : decode prog_347_method_7_code 160 = .ok (.lload 11, 2) := by decide +kernel
theorem d5_1n_162 : decode prog_347_method_7_code 162 = .ok (.ldc2_w 31, 3) := by decide +kernel
theorem d5_1n_165 : decode prog_347_method_7_code 165 = .ok (.lcmp, 1) := by decide +kernel
theorem d5_1n_166 : decode prog_347_method_7_code 166 = .ok (.ifCond .eq 51, 3) := by decide +kernel
theorem d5_1n_169 : decode prog_347_method_7_code 169 = .ok (.lload 8, 2) := by decide +kernel
theorem d5_1n_171 : decode prog_347_method_7_code 171 = .ok (.lload_n 3, 1) := by decide +kernel
theorem d5_1n_172 : decode prog_347_method_7_code 172 = .ok (.ladd, 1) := by decide +kernel
theorem d5_1n_173 : decode prog_347_method_7_code 173 = .ok (.lload 11, 2) := by decide +kernel
theorem d5_1n_175 : decode prog_347_method_7_code 175 = .ok (.ladd, 1) := by decide +kernel
theorem d5_1n_176 : decode prog_347_method_7_code 176 = .ok (.aload_n 0, 1) := by decide +kernel
theorem d5_1n_177 : decode prog_347_method_7_code 177 = .ok (.getfield 15, 3) := by decide +kernel
theorem d5_1n_180 : decode prog_347_method_7_code 180 = .ok (.iload 7, 2) := by decide +kernel
theorem d5_1n_182 : decode prog_347_method_7_code 182 = .ok (.aload_n 0, 1) := by decide +kernel
theorem d5_1n_183 : decode prog_347_method_7_code 183 = .ok (.getfield 9, 3) := by decide +kernel
theorem d5_1n_186 : decode prog_347_method_7_code 186 = .ok (.imul, 1) := by decide +kernel
theorem d5_1n_187 : decode prog_347_method_7_code 187 = .ok (.iload 10, 2) := by decide +kernel
theorem d5_1n_189 : decode prog_347_method_7_code 189 = .ok (.iadd, 1) := by decide +kernel
theorem d5_1n_190 : decode prog_347_method_7_code 190 = .ok (.laload, 1) := by decide +kernel
theorem d5_1n_191 : decode prog_347_method_7_code 191 = .ok (.lcmp, 1) := by decide +kernel
theorem d5_1n_192 : decode prog_347_method_7_code 192 = .ok (.ifCond .ge 25, 3) := by decide +kernel
theorem d5_1n_217 : decode prog_347_method_7_code 217 = .ok (.iinc 10 1, 3) := by decide +kernel
theorem d5_1n_220 : decode prog_347_method_7_code 220 = .ok (.goto (-85), 3) := by decide +kernel
theorem d5_1n_223 : decode prog_347_method_7_code 223 = .ok (.iinc 7 1, 3) := by decide +kernel
theorem d5_1n_226 : decode prog_347_method_7_code 226 = .ok (.goto (-131), 3) := by decide +kernel
theorem d5_1n_229 : decode prog_347_method_7_code 229 = .ok (.iconst 1, 1) := by decide +kernel
theorem d5_1n_230 : decode prog_347_method_7_code 230 = .ok (.ireturn, 1) := by decide +kernel
theorem pn_5_1n : plainName "com/example/chronoscope/chronoscope/sim/Zone" = true := by first | (simp [plainName, overriddenIn]; done) | decide +kernel
theorem ef_5_1n (m : MethodId) (x0 : Addr) (x1 : Int32) (x2 : Int32) (x3 : Int64) : entryFrame m #[(.ref x0), (.int x1), (.int x2), (.long x3)] 13 = mkF m 0 #[.val (.ref x0), .val (.int x1), .val (.int x2), .val (.long x3), .second, .unset, .unset, .unset, .unset, .unset, .unset, .unset, .unset] [] := by first | (simp [entryFrame, mkF, argsToLocals, Value.category]; done) | rfl
def Q5_1n (Z : State) (a1 : Addr) (q4 : Int64) (bb : Addr) (kk : ClassId) (x0 : Int64) (x1 : Int64) (x2 : Int64) (x3 : Int64) (x4 : Int64) (x5 : Int64) (x6 : Int64) (x7 : Int64) (x8 : Int64) (h0 : Heap) (n0 : Nat) (v : Option Value) (h : Heap) (L : List Loc) : Prop := ∃ (ww : Int32) (y0 : Int64) (y1 : Int64) (y2 : Int64) (y3 : Int64) (y4 : Int64) (y5 : Int64) (y6 : Int64) (y7 : Int64) (y8 : Int64), v = some (.int ww) ∧ Fr n0 L ∧ Keep h0 h [a1, bb] ∧ (Exa Z h a1 "com/example/chronoscope/chronoscope/sim/Zone") ∧ (Fld Z h a1 "com/example/chronoscope/chronoscope/sim/Zone" "size" "I" (.int (3 : Int32))) ∧ (Fld Z h a1 "com/example/chronoscope/chronoscope/sim/Zone" "bounds" "[J" (.ref bb)) ∧ (Arv Z h bb kk .long (9 : Int32) [(.long y0), (.long y1), (.long y2), (.long y3), (.long y4), (.long y5), (.long y6), (.long y7), (.long y8)] (.long (0 : Int64))) ∧ (y0 = x0 ∧ y4 = x4 ∧ y8 = x8)
set_option maxRecDepth 65536 in
set_option maxHeartbeats 40000000 in
theorem rm5_1n (l : Launch) (Z : State) (a0 : Array Value) (hw : ∀ d ∈ tables_1, d.before a0 Z = true) (ws : List Jvm.Cond) (a1 : Addr) (q4 : Int64) (bb : Addr) (kk : ClassId) (x0 : Int64) (x1 : Int64) (x2 : Int64) (x3 : Int64) (x4 : Int64) (x5 : Int64) (x6 : Int64) (x7 : Int64) (x8 : Int64) (h0 : Heap) (n0 : Nat) (Z0 : n0 ≤ h0.size) (P0 : Exa Z h0 a1 "com/example/chronoscope/chronoscope/sim/Zone") (P1 : Fld Z h0 a1 "com/example/chronoscope/chronoscope/sim/Zone" "size" "I" (.int (3 : Int32))) (P2 : Fld Z h0 a1 "com/example/chronoscope/chronoscope/sim/Zone" "bounds" "[J" (.ref bb)) (P3 : Fld Z h0 a1 "com/example/chronoscope/chronoscope/sim/Zone" "empty" "Z" (.int (0 : Int32))) (P4 : Arv Z h0 bb kk .long (9 : Int32) [(.long x0), (.long x1), (.long x2), (.long x3), (.long x4), (.long x5), (.long x6), (.long x7), (.long x8)] (.long (0 : Int64))) (g_a1 : n0 ≤ a1) (g_bb : n0 ≤ bb) (ne_a1_bb : a1 ≠ bb) (h22_1 : q4 < x3) (h59_1 : ¬ x1 = (9223372036854775807 : Int64)) (h68_1 : ¬ (x1 + q4) < (0 : Int64)) (h166_1 : ¬ x0 = (9223372036854775807 : Int64)) (h192_1 : ¬ ((x1 + q4) + x0) < x0) (h192_2 : ¬ ((x1 + q4) + x1) < x1) (h166_3 : ¬ x2 = (9223372036854775807 : Int64)) (h192_3 : ¬ ((x1 + q4) + x2) < x2) (h126_2 : ¬ x4 = (9223372036854775807 : Int64)) (h192_4 : ¬ ((x4 + q4) + x0) < q4) (h192_5 : ¬ ((x4 + q4) + x1) < x4) (h192_6 : ¬ ((x4 + q4) + x2) < x5) (h126_3 : x7 = (9223372036854775807 : Int64)) :
    MetFree l (⟨"com/example/chronoscope/chronoscope/sim/Zone", "constrain", "(IIJ)Z"⟩ : MethodName) (head1 (Jvm.Cond.code (⟨"com/example/chronoscope/chronoscope/sim/Zone", "constrain", "(IIJ)Z"⟩ : MethodName) prog_347_method_7_code 13 (some .boolean) :: ws) ({ frames := 0, cells := 0, slots := 0, locals := 0 } : Room)) (fun a U => a = #[(.ref a1), (.int (1 : Int32)), (.int (0 : Int32)), (.long q4)] ∧ Z.Warmed39 U.vm ∧ U.heap = h0) (fun _ _ _ _ _ => True) (fun _ U o U' => ∃ v L, o = .returned v ∧ Q5_1n Z a1 q4 bb kk x0 x1 x2 x3 x4 x5 x6 x7 x8 h0 n0 v U'.heap L ∧ FrameEnd U o U' L ({ frames := 0, cells := 0, slots := 0, locals := 0 } : Room).cells ({ frames := 0, cells := 0, slots := 0, locals := 0 } : Room).slots) := by
  refine MetFree.of_bodySF (plainFor_of_name pn_5_1n) hisR ?_
  intro p e s m args below meth c s₁ Bd hml0 hP hK
  obtain ⟨rfl, hZ, hh⟩ := hP
  have w12_ := hw _ (List.mem_of_getElem? (i := 12) rfl)
  have w14_ := hw _ (List.mem_of_getElem? (i := 14) rfl)
  have w21_ := hw _ (List.mem_of_getElem? (i := 21) rfl)
  have w32_ := hw _ (List.mem_of_getElem? (i := 32) rfl)
  have hx := Bd.exec
  have hby := Bd.bytes
  have hml : c.maxLocals = 13 := hml0
  have hown : s.vm.findClass "com/example/chronoscope/chronoscope/sim/Zone" = some m.cls := findClass_of_methodNamed Bd.named
  have hnm := (name_of_methodNamed Bd.named Bd.method).1
  have X0 : Stand p l e ({ frames := 0, cells := 0, slots := 0, locals := 0 } : Room) s m #[(.ref a1), (.int (1 : Int32)), (.int (0 : Int32)), (.long q4)] below meth c s₁ [] 0 0 := Stand.of_body Bd
  have e0 : s₁.heap = h0 := by rw [← hh, Bd.state]; rfl
  have N0 := Fr.nil n0
  have pre0 : ∀ t, Steps p.tables e below (s₁.setTop (mkF m 0 #[.val (.ref a1), .val (.int (1 : Int32)), .val (.int (0 : Int32)), .val (.long q4), .second, .unset, .unset, .unset, .unset, .unset, .unset, .unset, .unset] [])) t → Steps p.tables e below (s₁.setTop (entryFrame m #[(.ref a1), (.int (1 : Int32)), (.int (0 : Int32)), (.long q4)] 13)) t := fun t k => castTop (ef_5_1n m a1 (1 : Int32) (0 : Int32) q4) k
  let Lo1 : Array Slot := #[.val (.ref a1), .val (.int (1 : Int32)), .val (.int (0 : Int32)), .val (.long q4), .second, .unset, .unset, .unset, .unset, .unset, .unset, .unset, .unset]
  obtain ⟨T1, X1, e1, st1⟩ := getF X0 hx hZ hown (host := "") (Or.inl w32_) Via.refl e0 P3 (g := (mkF m 1 Lo1 [(.ref a1)])) rfl rfl (hb hby d5_1n_1)
  obtain ⟨T2, X2, e2, st2⟩ := getF X1 hx hZ hown (host := "") (Or.inl w14_) Via.refl e1 P2 (g := (mkF m 9 Lo1 [(.ref a1), (.long q4)])) rfl rfl (hb hby d5_1n_9)
  obtain ⟨T3, X3, e3, st3⟩ := getF X2 hx hZ hown (host := "") (Or.inl w12_) Via.refl e2 P1 (g := (mkF m 14 Lo1 [(.ref a1), (.int (1 : Int32)), (.ref bb), (.long q4)])) rfl rfl (hb hby d5_1n_14)
  obtain ⟨T4, X4, e4, st4⟩ := getF X3 hx hZ hown (host := "") (Or.inl w14_) Via.refl e3 P2 (g := (mkF m 39 Lo1 [(.ref a1)])) rfl rfl (hb hby d5_1n_39)
  obtain ⟨T5, X5, e5, st5⟩ := getF X4 hx hZ hown (host := "") (Or.inl w12_) Via.refl e4 P1 (g := (mkF m 44 Lo1 [(.ref a1), (.int (0 : Int32)), (.ref bb)])) rfl rfl (hb hby d5_1n_44)
  let Lo2 : Array Slot := #[.val (.ref a1), .val (.int (1 : Int32)), .val (.int (0 : Int32)), .val (.long q4), .second, .val (.long x1), .second, .unset, .unset, .unset, .unset, .unset, .unset]
  obtain ⟨T6, X6, e6, st6⟩ := getF X5 hx hZ hown (host := "") (Or.inl w14_) Via.refl e5 P2 (g := (mkF m 79 Lo2 [(.ref a1)])) rfl rfl (hb hby d5_1n_79)
  obtain ⟨T7, X7, e7, st7⟩ := getF X6 hx hZ hown (host := "") (Or.inl w12_) Via.refl e6 P1 (g := (mkF m 84 Lo2 [(.ref a1), (.int (1 : Int32)), (.ref bb)])) rfl rfl (hb hby d5_1n_84)
  obtain ⟨T8, h8, X8, e8, W8, V8, st8⟩ := own_stJ X7 hx hZ e7 P4 (j := (3 : Int32)) (x := q4) (by decide) (i := 3) (by decide) (by show 3 < 9; decide) (g := (mkF m 91 Lo2 [(.long q4), (.int (3 : Int32)), (.ref bb)])) rfl rfl (hb hby d5_1n_91)
  have A8 : Arv Z h8 bb kk .long (9 : Int32) [(.long x0), (.long x1), (.long x2), (.long q4), (.long x4), (.long x5), (.long x6), (.long x7), (.long x8)] (.long (0 : Int64)) := V8
  have F8_size_a1 := P1.other W8 (Or.inl ne_a1_bb)
  have F8_bounds_a1 := P2.other W8 (Or.inl ne_a1_bb)
  have F8_empty_a1 := P3.other W8 (Or.inl ne_a1_bb)
  have E8_a1 := P0.wr W8
  have K8 : Keep h0 h8 [a1, bb] := (Keep.refl h0 [a1, bb]).wr W8 (Or.inl (List.mem_of_getElem? (i := 1) rfl))
  have Z8 : n0 ≤ h8.size := Nat.le_trans Z0 (Keep.of_wr W8).1
  have N8 := Fr.snoc X8 N0 g_bb
  let Lo3 : Array Slot := #[.val (.ref a1), .val (.int (1 : Int32)), .val (.int (0 : Int32)), .val (.long q4), .second, .val (.long x1), .second, .val (.int (0 : Int32)), .unset, .unset, .unset, .unset, .unset]
  obtain ⟨T9, X9, e9, st9⟩ := getF X8 hx hZ hown (host := "") (Or.inl w12_) Via.refl e8 F8_size_a1 (g := (mkF m 98 Lo3 [(.ref a1), (.int (0 : Int32))])) rfl rfl (hb hby d5_1n_98)
  obtain ⟨T10, X10, e10, st10⟩ := getF X9 hx hZ hown (host := "") (Or.inl w14_) Via.refl e9 F8_bounds_a1 (g := (mkF m 105 Lo3 [(.ref a1)])) rfl rfl (hb hby d5_1n_105)
  obtain ⟨T11, X11, e11, st11⟩ := getF X10 hx hZ hown (host := "") (Or.inl w12_) Via.refl e10 F8_size_a1 (g := (mkF m 111 Lo3 [(.ref a1), (.int (0 : Int32)), (.ref bb)])) rfl rfl (hb hby d5_1n_111)
  let Lo4 : Array Slot := #[.val (.ref a1), .val (.int (1 : Int32)), .val (.int (0 : Int32)), .val (.long q4), .second, .val (.long x1), .second, .val (.int (0 : Int32)), .val (.long x1), .second, .unset, .unset, .unset]
  let Lo5 : Array Slot := #[.val (.ref a1), .val (.int (1 : Int32)), .val (.int (0 : Int32)), .val (.long q4), .second, .val (.long x1), .second, .val (.int (0 : Int32)), .val (.long x1), .second, .val (.int (0 : Int32)), .unset, .unset]
  obtain ⟨T12, X12, e12, st12⟩ := getF X11 hx hZ hown (host := "") (Or.inl w12_) Via.refl e11 F8_size_a1 (g := (mkF m 138 Lo5 [(.ref a1), (.int (0 : Int32))])) rfl rfl (hb hby d5_1n_138)
  obtain ⟨T13, X13, e13, st13⟩ := getF X12 hx hZ hown (host := "") (Or.inl w14_) Via.refl e12 F8_bounds_a1 (g := (mkF m 145 Lo5 [(.ref a1)])) rfl rfl (hb hby d5_1n_145)
  obtain ⟨T14, X14, e14, st14⟩ := getF X13 hx hZ hown (host := "") (Or.inl w12_) Via.refl e13 F8_size_a1 (g := (mkF m 150 Lo5 [(.ref a1), (.int (0 : Int32)), (.ref bb)])) rfl rfl (hb hby d5_1n_150)
  let Lo6 : Array Slot := #[.val (.ref a1), .val (.int (1 : Int32)), .val (.int (0 : Int32)), .val (.long q4), .second, .val (.long x1), .second, .val (.int (0 : Int32)), .val (.long x1), .second, .val (.int (0 : Int32)), .val (.long x0), .second]
  obtain ⟨T15, X15, e15, st15⟩ := getF X14 hx hZ hown (host := "") (Or.inl w14_) Via.refl e14 F8_bounds_a1 (g := (mkF m 177 Lo6 [(.ref a1), (.long ((x1 + q4) + x0))])) rfl rfl (hb hby d5_1n_177)
  obtain ⟨T16, X16, e16, st16⟩ := getF X15 hx hZ hown (host := "") (Or.inl w12_) Via.refl e15 F8_size_a1 (g := (mkF m 183 Lo6 [(.ref a1), (.int (0 : Int32)), (.ref bb), (.long ((x1 + q4) + x0))])) rfl rfl (hb hby d5_1n_183)
  let Lo7 : Array Slot := #[.val (.ref a1), .val (.int (1 : Int32)), .val (.int (0 : Int32)), .val (.long q4), .second, .val (.long x1), .second, .val (.int (0 : Int32)), .val (.long x1), .second, .val (.int (1 : Int32)), .val (.long x0), .second]
  obtain ⟨T17, X17, e17, st17⟩ := getF X16 hx hZ hown (host := "") (Or.inl w12_) Via.refl e16 F8_size_a1 (g := (mkF m 138 Lo7 [(.ref a1), (.int (1 : Int32))])) rfl rfl (hb hby d5_1n_138)
  obtain ⟨T18, X18, e18, st18⟩ := getF X17 hx hZ hown (host := "") (Or.inl w14_) Via.refl e17 F8_bounds_a1 (g := (mkF m 145 Lo7 [(.ref a1)])) rfl rfl (hb hby d5_1n_145)
  obtain ⟨T19, X19, e19, st19⟩ := getF X18 hx hZ hown (host := "") (Or.inl w12_) Via.refl e18 F8_size_a1 (g := (mkF m 150 Lo7 [(.ref a1), (.int (0 : Int32)), (.ref bb)])) rfl rfl (hb hby d5_1n_150)
  let Lo8 : Array Slot := #[.val (.ref a1), .val (.int (1 : Int32)), .val (.int (0 : Int32)), .val (.long q4), .second, .val (.long x1), .second, .val (.int (0 : Int32)), .val (.long x1), .second, .val (.int (1 : Int32)), .val (.long x1), .second]
  obtain ⟨T20, X20, e20, st20⟩ := getF X19 hx hZ hown (host := "") (Or.inl w14_) Via.refl e19 F8_bounds_a1 (g := (mkF m 177 Lo8 [(.ref a1), (.long ((x1 + q4) + x1))])) rfl rfl (hb hby d5_1n_177)
  obtain ⟨T21, X21, e21, st21⟩ := getF X20 hx hZ hown (host := "") (Or.inl w12_) Via.refl e20 F8_size_a1 (g := (mkF m 183 Lo8 [(.ref a1), (.int (0 : Int32)), (.ref bb), (.long ((x1 + q4) + x1))])) rfl rfl (hb hby d5_1n_183)
  let Lo9 : Array Slot := #[.val (.ref a1), .val (.int (1 : Int32)), .val (.int (0 : Int32)), .val (.long q4), .second, .val (.long x1), .second, .val (.int (0 : Int32)), .val (.long x1), .second, .val (.int (2 : Int32)), .val (.long x1), .second]
  obtain ⟨T22, X22, e22, st22⟩ := getF X21 hx hZ hown (host := "") (Or.inl w12_) Via.refl e21 F8_size_a1 (g := (mkF m 138 Lo9 [(.ref a1), (.int (2 : Int32))])) rfl rfl (hb hby d5_1n_138)
  obtain ⟨T23, X23, e23, st23⟩ := getF X22 hx hZ hown (host := "") (Or.inl w14_) Via.refl e22 F8_bounds_a1 (g := (mkF m 145 Lo9 [(.ref a1)])) rfl rfl (hb hby d5_1n_145)
  obtain ⟨T24, X24, e24, st24⟩ := getF X23 hx hZ hown (host := "") (Or.inl w12_) Via.refl e23 F8_size_a1 (g := (mkF m 150 Lo9 [(.ref a1), (.int (0 : Int32)), (.ref bb)])) rfl rfl (hb hby d5_1n_150)
  let Lo10 : Array Slot := #[.val (.ref a1), .val (.int (1 : Int32)), .val (.int (0 : Int32)), .val (.long q4), .second, .val (.long x1), .second, .val (.int (0 : Int32)), .val (.long x1), .second, .val (.int (2 : Int32)), .val (.long x2), .second]
  obtain ⟨T25, X25, e25, st25⟩ := getF X24 hx hZ hown (host := "") (Or.inl w14_) Via.refl e24 F8_bounds_a1 (g := (mkF m 177 Lo10 [(.ref a1), (.long ((x1 + q4) + x2))])) rfl rfl (hb hby d5_1n_177)
  obtain ⟨T26, X26, e26, st26⟩ := getF X25 hx hZ hown (host := "") (Or.inl w12_) Via.refl e25 F8_size_a1 (g := (mkF m 183 Lo10 [(.ref a1), (.int (0 : Int32)), (.ref bb), (.long ((x1 + q4) + x2))])) rfl rfl (hb hby d5_1n_183)
  let Lo11 : Array Slot := #[.val (.ref a1), .val (.int (1 : Int32)), .val (.int (0 : Int32)), .val (.long q4), .second, .val (.long x1), .second, .val (.int (0 : Int32)), .val (.long x1), .second, .val (.int (3 : Int32)), .val (.long x2), .second]
  obtain ⟨T27, X27, e27, st27⟩ := getF X26 hx hZ hown (host := "") (Or.inl w12_) Via.refl e26 F8_size_a1 (g := (mkF m 138 Lo11 [(.ref a1), (.int (3 : Int32))])) rfl rfl (hb hby d5_1n_138)
  let Lo12 : Array Slot := #[.val (.ref a1), .val (.int (1 : Int32)), .val (.int (0 : Int32)), .val (.long q4), .second, .val (.long x1), .second, .val (.int (1 : Int32)), .val (.long x1), .second, .val (.int (3 : Int32)), .val (.long x2), .second]
  obtain ⟨T28, X28, e28, st28⟩ := getF X27 hx hZ hown (host := "") (Or.inl w12_) Via.refl e27 F8_size_a1 (g := (mkF m 98 Lo12 [(.ref a1), (.int (1 : Int32))])) rfl rfl (hb hby d5_1n_98)
  obtain ⟨T29, X29, e29, st29⟩ := getF X28 hx hZ hown (host := "") (Or.inl w14_) Via.refl e28 F8_bounds_a1 (g := (mkF m 105 Lo12 [(.ref a1)])) rfl rfl (hb hby d5_1n_105)
  obtain ⟨T30, X30, e30, st30⟩ := getF X29 hx hZ hown (host := "") (Or.inl w12_) Via.refl e29 F8_size_a1 (g := (mkF m 111 Lo12 [(.ref a1), (.int (1 : Int32)), (.ref bb)])) rfl rfl (hb hby d5_1n_111)
  let Lo13 : Array Slot := #[.val (.ref a1), .val (.int (1 : Int32)), .val (.int (0 : Int32)), .val (.long q4), .second, .val (.long x1), .second, .val (.int (1 : Int32)), .val (.long x4), .second, .val (.int (3 : Int32)), .val (.long x2), .second]
  let Lo14 : Array Slot := #[.val (.ref a1), .val (.int (1 : Int32)), .val (.int (0 : Int32)), .val (.long q4), .second, .val (.long x1), .second, .val (.int (1 : Int32)), .val (.long x4), .second, .val (.int (0 : Int32)), .val (.long x2), .second]
  obtain ⟨T31, X31, e31, st31⟩ := getF X30 hx hZ hown (host := "") (Or.inl w12_) Via.refl e30 F8_size_a1 (g := (mkF m 138 Lo14 [(.ref a1), (.int (0 : Int32))])) rfl rfl (hb hby d5_1n_138)
  obtain ⟨T32, X32, e32, st32⟩ := getF X31 hx hZ hown (host := "") (Or.inl w14_) Via.refl e31 F8_bounds_a1 (g := (mkF m 145 Lo14 [(.ref a1)])) rfl rfl (hb hby d5_1n_145)
  obtain ⟨T33, X33, e33, st33⟩ := getF X32 hx hZ hown (host := "") (Or.inl w12_) Via.refl e32 F8_size_a1 (g := (mkF m 150 Lo14 [(.ref a1), (.int (0 : Int32)), (.ref bb)])) rfl rfl (hb hby d5_1n_150)
  let Lo15 : Array Slot := #[.val (.ref a1), .val (.int (1 : Int32)), .val (.int (0 : Int32)), .val (.long q4), .second, .val (.long x1), .second, .val (.int (1 : Int32)), .val (.long x4), .second, .val (.int (0 : Int32)), .val (.long x0), .second]
  obtain ⟨T34, X34, e34, st34⟩ := getF X33 hx hZ hown (host := "") (Or.inl w14_) Via.refl e33 F8_bounds_a1 (g := (mkF m 177 Lo15 [(.ref a1), (.long ((x4 + q4) + x0))])) rfl rfl (hb hby d5_1n_177)
  obtain ⟨T35, X35, e35, st35⟩ := getF X34 hx hZ hown (host := "") (Or.inl w12_) Via.refl e34 F8_size_a1 (g := (mkF m 183 Lo15 [(.ref a1), (.int (1 : Int32)), (.ref bb), (.long ((x4 + q4) + x0))])) rfl rfl (hb hby d5_1n_183)
  let Lo16 : Array Slot := #[.val (.ref a1), .val (.int (1 : Int32)), .val (.int (0 : Int32)), .val (.long q4), .second, .val (.long x1), .second, .val (.int (1 : Int32)), .val (.long x4), .second, .val (.int (1 : Int32)), .val (.long x0), .second]
  obtain ⟨T36, X36, e36, st36⟩ := getF X35 hx hZ hown (host := "") (Or.inl w12_) Via.refl e35 F8_size_a1 (g := (mkF m 138 Lo16 [(.ref a1), (.int (1 : Int32))])) rfl rfl (hb hby d5_1n_138)
  obtain ⟨T37, X37, e37, st37⟩ := getF X36 hx hZ hown (host := "") (Or.inl w14_) Via.refl e36 F8_bounds_a1 (g := (mkF m 145 Lo16 [(.ref a1)])) rfl rfl (hb hby d5_1n_145)
  obtain ⟨T38, X38, e38, st38⟩ := getF X37 hx hZ hown (host := "") (Or.inl w12_) Via.refl e37 F8_size_a1 (g := (mkF m 150 Lo16 [(.ref a1), (.int (0 : Int32)), (.ref bb)])) rfl rfl (hb hby d5_1n_150)
  let Lo17 : Array Slot := #[.val (.ref a1), .val (.int (1 : Int32)), .val (.int (0 : Int32)), .val (.long q4), .second, .val (.long x1), .second, .val (.int (1 : Int32)), .val (.long x4), .second, .val (.int (1 : Int32)), .val (.long x1), .second]
  obtain ⟨T39, X39, e39, st39⟩ := getF X38 hx hZ hown (host := "") (Or.inl w14_) Via.refl e38 F8_bounds_a1 (g := (mkF m 177 Lo17 [(.ref a1), (.long ((x4 + q4) + x1))])) rfl rfl (hb hby d5_1n_177)
  obtain ⟨T40, X40, e40, st40⟩ := getF X39 hx hZ hown (host := "") (Or.inl w12_) Via.refl e39 F8_size_a1 (g := (mkF m 183 Lo17 [(.ref a1), (.int (1 : Int32)), (.ref bb), (.long ((x4 + q4) + x1))])) rfl rfl (hb hby d5_1n_183)
  let Lo18 : Array Slot := #[.val (.ref a1), .val (.int (1 : Int32)), .val (.int (0 : Int32)), .val (.long q4), .second, .val (.long x1), .second, .val (.int (1 : Int32)), .val (.long x4), .second, .val (.int (2 : Int32)), .val (.long x1), .second]
  obtain ⟨T41, X41, e41, st41⟩ := getF X40 hx hZ hown (host := "") (Or.inl w12_) Via.refl e40 F8_size_a1 (g := (mkF m 138 Lo18 [(.ref a1), (.int (2 : Int32))])) rfl rfl (hb hby d5_1n_138)
  obtain ⟨T42, X42, e42, st42⟩ := getF X41 hx hZ hown (host := "") (Or.inl w14_) Via.refl e41 F8_bounds_a1 (g := (mkF m 145 Lo18 [(.ref a1)])) rfl rfl (hb hby d5_1n_145)
  obtain ⟨T43, X43, e43, st43⟩ := getF X42 hx hZ hown (host := "") (Or.inl w12_) Via.refl e42 F8_size_a1 (g := (mkF m 150 Lo18 [(.ref a1), (.int (0 : Int32)), (.ref bb)])) rfl rfl (hb hby d5_1n_150)
  let Lo19 : Array Slot := #[.val (.ref a1), .val (.int (1 : Int32)), .val (.int (0 : Int32)), .val (.long q4), .second, .val (.long x1), .second, .val (.int (1 : Int32)), .val (.long x4), .second, .val (.int (2 : Int32)), .val (.long x2), .second]
  obtain ⟨T44, X44, e44, st44⟩ := getF X43 hx hZ hown (host := "") (Or.inl w14_) Via.refl e43 F8_bounds_a1 (g := (mkF m 177 Lo19 [(.ref a1), (.long ((x4 + q4) + x2))])) rfl rfl (hb hby d5_1n_177)
  obtain ⟨T45, X45, e45, st45⟩ := getF X44 hx hZ hown (host := "") (Or.inl w12_) Via.refl e44 F8_size_a1 (g := (mkF m 183 Lo19 [(.ref a1), (.int (1 : Int32)), (.ref bb), (.long ((x4 + q4) + x2))])) rfl rfl (hb hby d5_1n_183)
  obtain ⟨T46, X46, e46, st46⟩ := getF X45 hx hZ hown (host := "") (Or.inl w12_) Via.refl e45 F8_size_a1 (g := (mkF m 138 Lo13 [(.ref a1), (.int (3 : Int32))])) rfl rfl (hb hby d5_1n_138)
  let Lo20 : Array Slot := #[.val (.ref a1), .val (.int (1 : Int32)), .val (.int (0 : Int32)), .val (.long q4), .second, .val (.long x1), .second, .val (.int (2 : Int32)), .val (.long x4), .second, .val (.int (3 : Int32)), .val (.long x2), .second]
  obtain ⟨T47, X47, e47, st47⟩ := getF X46 hx hZ hown (host := "") (Or.inl w12_) Via.refl e46 F8_size_a1 (g := (mkF m 98 Lo20 [(.ref a1), (.int (2 : Int32))])) rfl rfl (hb hby d5_1n_98)
  obtain ⟨T48, X48, e48, st48⟩ := getF X47 hx hZ hown (host := "") (Or.inl w14_) Via.refl e47 F8_bounds_a1 (g := (mkF m 105 Lo20 [(.ref a1)])) rfl rfl (hb hby d5_1n_105)
  obtain ⟨T49, X49, e49, st49⟩ := getF X48 hx hZ hown (host := "") (Or.inl w12_) Via.refl e48 F8_size_a1 (g := (mkF m 111 Lo20 [(.ref a1), (.int (2 : Int32)), (.ref bb)])) rfl rfl (hb hby d5_1n_111)
  let Lo21 : Array Slot := #[.val (.ref a1), .val (.int (1 : Int32)), .val (.int (0 : Int32)), .val (.long q4), .second, .val (.long x1), .second, .val (.int (2 : Int32)), .val (.long x7), .second, .val (.int (3 : Int32)), .val (.long x2), .second]
  let Lo22 : Array Slot := #[.val (.ref a1), .val (.int (1 : Int32)), .val (.int (0 : Int32)), .val (.long q4), .second, .val (.long x1), .second, .val (.int (3 : Int32)), .val (.long x7), .second, .val (.int (3 : Int32)), .val (.long x2), .second]
  obtain ⟨T50, X50, e50, st50⟩ := getF X49 hx hZ hown (host := "") (Or.inl w12_) Via.refl e49 F8_size_a1 (g := (mkF m 98 Lo22 [(.ref a1), (.int (3 : Int32))])) rfl rfl (hb hby d5_1n_98)
  obtain ⟨fs, hr, hrun, hended, hW, hsame⟩ := X50.leave (v := some (.int (1 : Int32))) (fun h => by rw [Bd.returns] at h; cases h)
  refine ⟨_, _, pre0 _ ?_, hrun, hended, _, _, rfl, ?_, ⟨_, rfl⟩, hW, hsame.mono (by decide) (by decide)⟩
  · show Steps p.tables e below (s₁.setTop (mkF m 0 Lo1 [])) _
    refine XS.aloadN X0.here hx rfl (hb hby d5_1n_0) rfl rfl ?_
    show Steps p.tables e below (s₁.setTop (mkF m 1 Lo1 [(.ref a1)])) _
    refine st1 _ ?_
    show Steps p.tables e below (T1.setTop (mkF m 4 Lo1 [(.int (0 : Int32))])) _
    refine XS.ifNo X1.here hx rfl (hb hby d5_1n_4) rfl (by first | rfl | decide) ?_
    show Steps p.tables e below (T1.setTop (mkF m 7 Lo1 [])) _
    refine XS.lloadN X1.here hx rfl (hb hby d5_1n_7) rfl ?_
    show Steps p.tables e below (T1.setTop (mkF m 8 Lo1 [(.long q4)])) _
    refine XS.aloadN X1.here hx rfl (hb hby d5_1n_8) rfl rfl ?_
    show Steps p.tables e below (T1.setTop (mkF m 9 Lo1 [(.ref a1), (.long q4)])) _
    refine st2 _ ?_
    show Steps p.tables e below (T2.setTop (mkF m 12 Lo1 [(.ref bb), (.long q4)])) _
    refine XS.iloadN X2.here hx rfl (hb hby d5_1n_12) rfl ?_
    show Steps p.tables e below (T2.setTop (mkF m 13 Lo1 [(.int (1 : Int32)), (.ref bb), (.long q4)])) _
    refine XS.aloadN X2.here hx rfl (hb hby d5_1n_13) rfl rfl ?_
    show Steps p.tables e below (T2.setTop (mkF m 14 Lo1 [(.ref a1), (.int (1 : Int32)), (.ref bb), (.long q4)])) _
    refine st3 _ ?_
    show Steps p.tables e below (T3.setTop (mkF m 17 Lo1 [(.int (3 : Int32)), (.int (1 : Int32)), (.ref bb), (.long q4)])) _
    refine XS.imul X3.here hx rfl (hb hby d5_1n_17) rfl ?_
    show Steps p.tables e below (T3.setTop (mkF m 18 Lo1 [(.int (3 : Int32)), (.ref bb), (.long q4)])) _
    refine XS.iloadN X3.here hx rfl (hb hby d5_1n_18) rfl ?_
    show Steps p.tables e below (T3.setTop (mkF m 19 Lo1 [(.int (0 : Int32)), (.int (3 : Int32)), (.ref bb), (.long q4)])) _
    refine XS.iadd X3.here hx rfl (hb hby d5_1n_19) rfl ?_
    show Steps p.tables e below (T3.setTop (mkF m 20 Lo1 [(.int (3 : Int32)), (.ref bb), (.long q4)])) _
    refine own_ldJ X3 hx hZ e3 P4 (j := (3 : Int32)) (by decide) (w := x3) rfl (g := (mkF m 20 Lo1 [(.int (3 : Int32)), (.ref bb), (.long q4)])) rfl rfl (hb hby d5_1n_20) _ ?_
    show Steps p.tables e below (T3.setTop (mkF m 21 Lo1 [(.long x3), (.long q4)])) _
    refine XS.lcmp X3.here hx rfl (hb hby d5_1n_21) rfl ?_
    show Steps p.tables e below (T3.setTop (mkF m 22 Lo1 [(.int (lcmpW q4 x3))])) _
    refine XS.ifYes X3.here hx rfl (pc0 := 22) (pc' := 38) rfl (hb hby d5_1n_22) rfl (own_lw_lt_t h22_1) (by decide) (by decide) ?_
    show Steps p.tables e below (T3.setTop (mkF m 38 Lo1 [])) _
    refine XS.aloadN X3.here hx rfl (hb hby d5_1n_38) rfl rfl ?_
    show Steps p.tables e below (T3.setTop (mkF m 39 Lo1 [(.ref a1)])) _
    refine st4 _ ?_
    show Steps p.tables e below (T4.setTop (mkF m 42 Lo1 [(.ref bb)])) _
    refine XS.iloadN X4.here hx rfl (hb hby d5_1n_42) rfl ?_
    show Steps p.tables e below (T4.setTop (mkF m 43 Lo1 [(.int (0 : Int32)), (.ref bb)])) _
    refine XS.aloadN X4.here hx rfl (hb hby d5_1n_43) rfl rfl ?_
    show Steps p.tables e below (T4.setTop (mkF m 44 Lo1 [(.ref a1), (.int (0 : Int32)), (.ref bb)])) _
    refine st5 _ ?_
    show Steps p.tables e below (T5.setTop (mkF m 47 Lo1 [(.int (3 : Int32)), (.int (0 : Int32)), (.ref bb)])) _
    refine XS.imul X5.here hx rfl (hb hby d5_1n_47) rfl ?_
    show Steps p.tables e below (T5.setTop (mkF m 48 Lo1 [(.int (0 : Int32)), (.ref bb)])) _
    refine XS.iloadN X5.here hx rfl (hb hby d5_1n_48) rfl ?_
    show Steps p.tables e below (T5.setTop (mkF m 49 Lo1 [(.int (1 : Int32)), (.int (0 : Int32)), (.ref bb)])) _
    refine XS.iadd X5.here hx rfl (hb hby d5_1n_49) rfl ?_
    show Steps p.tables e below (T5.setTop (mkF m 50 Lo1 [(.int (1 : Int32)), (.ref bb)])) _
    refine own_ldJ X5 hx hZ e5 P4 (j := (1 : Int32)) (by decide) (w := x1) rfl (g := (mkF m 50 Lo1 [(.int (1 : Int32)), (.ref bb)])) rfl rfl (hb hby d5_1n_50) _ ?_
    show Steps p.tables e below (T5.setTop (mkF m 51 Lo1 [(.long x1)])) _
    refine XS.lstore X5.here hx rfl (hb hby d5_1n_51) rfl (l' := Lo2) rfl ?_
    show Steps p.tables e below (T5.setTop (mkF m 53 Lo2 [])) _
    refine XS.lload X5.here hx rfl (hb hby d5_1n_53) rfl ?_
    show Steps p.tables e below (T5.setTop (mkF m 55 Lo2 [(.long x1)])) _
    refine X5.ldc2Long hx hown (mvT hZ w21_) (g := (mkF m 55 Lo2 [(.long x1)])) rfl (hb hby d5_1n_55) _ ?_
    show Steps p.tables e below (T5.setTop (mkF m 58 Lo2 [(.long (9223372036854775807 : Int64)), (.long x1)])) _
    refine XS.lcmp X5.here hx rfl (hb hby d5_1n_58) rfl ?_
    show Steps p.tables e below (T5.setTop (mkF m 59 Lo2 [(.int (lcmpW x1 (9223372036854775807 : Int64)))])) _
    refine XS.ifNo X5.here hx rfl (hb hby d5_1n_59) rfl (own_lw_eq_f h59_1) ?_
    show Steps p.tables e below (T5.setTop (mkF m 62 Lo2 [])) _
    refine XS.lload X5.here hx rfl (hb hby d5_1n_62) rfl ?_
    show Steps p.tables e below (T5.setTop (mkF m 64 Lo2 [(.long x1)])) _
    refine XS.lloadN X5.here hx rfl (hb hby d5_1n_64) rfl ?_
    show Steps p.tables e below (T5.setTop (mkF m 65 Lo2 [(.long q4), (.long x1)])) _
    refine XS.ladd X5.here hx rfl (hb hby d5_1n_65) rfl ?_
    show Steps p.tables e below (T5.setTop (mkF m 66 Lo2 [(.long (x1 + q4))])) _
    refine XS.lconst X5.here hx rfl (hb hby d5_1n_66) ?_
    show Steps p.tables e below (T5.setTop (mkF m 67 Lo2 [(.long (0 : Int64)), (.long (x1 + q4))])) _
    refine XS.lcmp X5.here hx rfl (hb hby d5_1n_67) rfl ?_
    show Steps p.tables e below (T5.setTop (mkF m 68 Lo2 [(.int (lcmpW (x1 + q4) (0 : Int64)))])) _
    refine XS.ifYes X5.here hx rfl (pc0 := 68) (pc' := 78) rfl (hb hby d5_1n_68) rfl (own_lw_ge_t h68_1) (by decide) (by decide) ?_
    show Steps p.tables e below (T5.setTop (mkF m 78 Lo2 [])) _
    refine XS.aloadN X5.here hx rfl (hb hby d5_1n_78) rfl rfl ?_
    show Steps p.tables e below (T5.setTop (mkF m 79 Lo2 [(.ref a1)])) _
    refine st6 _ ?_
    show Steps p.tables e below (T6.setTop (mkF m 82 Lo2 [(.ref bb)])) _
    refine XS.iloadN X6.here hx rfl (hb hby d5_1n_82) rfl ?_
    show Steps p.tables e below (T6.setTop (mkF m 83 Lo2 [(.int (1 : Int32)), (.ref bb)])) _
    refine XS.aloadN X6.here hx rfl (hb hby d5_1n_83) rfl rfl ?_
    show Steps p.tables e below (T6.setTop (mkF m 84 Lo2 [(.ref a1), (.int (1 : Int32)), (.ref bb)])) _
    refine st7 _ ?_
    show Steps p.tables e below (T7.setTop (mkF m 87 Lo2 [(.int (3 : Int32)), (.int (1 : Int32)), (.ref bb)])) _
    refine XS.imul X7.here hx rfl (hb hby d5_1n_87) rfl ?_
    show Steps p.tables e below (T7.setTop (mkF m 88 Lo2 [(.int (3 : Int32)), (.ref bb)])) _
    refine XS.iloadN X7.here hx rfl (hb hby d5_1n_88) rfl ?_
    show Steps p.tables e below (T7.setTop (mkF m 89 Lo2 [(.int (0 : Int32)), (.int (3 : Int32)), (.ref bb)])) _
    refine XS.iadd X7.here hx rfl (hb hby d5_1n_89) rfl ?_
    show Steps p.tables e below (T7.setTop (mkF m 90 Lo2 [(.int (3 : Int32)), (.ref bb)])) _
    refine XS.lloadN X7.here hx rfl (hb hby d5_1n_90) rfl ?_
    show Steps p.tables e below (T7.setTop (mkF m 91 Lo2 [(.long q4), (.int (3 : Int32)), (.ref bb)])) _
    refine st8 _ ?_
    show Steps p.tables e below (T8.setTop (mkF m 92 Lo2 [])) _
    refine XS.iconst X8.here hx rfl (hb hby d5_1n_92) ?_
    show Steps p.tables e below (T8.setTop (mkF m 93 Lo2 [(.int (0 : Int32))])) _
    refine XS.istore X8.here hx rfl (hb hby d5_1n_93) rfl (l' := Lo3) rfl ?_
    show Steps p.tables e below (T8.setTop (mkF m 95 Lo3 [])) _
    refine XS.iload X8.here hx rfl (hb hby d5_1n_95) rfl ?_
    show Steps p.tables e below (T8.setTop (mkF m 97 Lo3 [(.int (0 : Int32))])) _
    refine XS.aloadN X8.here hx rfl (hb hby d5_1n_97) rfl rfl ?_
    show Steps p.tables e below (T8.setTop (mkF m 98 Lo3 [(.ref a1), (.int (0 : Int32))])) _
    refine st9 _ ?_
    show Steps p.tables e below (T9.setTop (mkF m 101 Lo3 [(.int (3 : Int32)), (.int (0 : Int32))])) _
    refine XS.icmpNo X9.here hx rfl (hb hby d5_1n_101) rfl (by first | rfl | decide) ?_
    show Steps p.tables e below (T9.setTop (mkF m 104 Lo3 [])) _
    refine XS.aloadN X9.here hx rfl (hb hby d5_1n_104) rfl rfl ?_
    show Steps p.tables e below (T9.setTop (mkF m 105 Lo3 [(.ref a1)])) _
    refine st10 _ ?_
    show Steps p.tables e below (T10.setTop (mkF m 108 Lo3 [(.ref bb)])) _
    refine XS.iload X10.here hx rfl (hb hby d5_1n_108) rfl ?_
    show Steps p.tables e below (T10.setTop (mkF m 110 Lo3 [(.int (0 : Int32)), (.ref bb)])) _
    refine XS.aloadN X10.here hx rfl (hb hby d5_1n_110) rfl rfl ?_
    show Steps p.tables e below (T10.setTop (mkF m 111 Lo3 [(.ref a1), (.int (0 : Int32)), (.ref bb)])) _
    refine st11 _ ?_
    show Steps p.tables e below (T11.setTop (mkF m 114 Lo3 [(.int (3 : Int32)), (.int (0 : Int32)), (.ref bb)])) _
    refine XS.imul X11.here hx rfl (hb hby d5_1n_114) rfl ?_
    show Steps p.tables e below (T11.setTop (mkF m 115 Lo3 [(.int (0 : Int32)), (.ref bb)])) _
    refine XS.iloadN X11.here hx rfl (hb hby d5_1n_115) rfl ?_
    show Steps p.tables e below (T11.setTop (mkF m 116 Lo3 [(.int (1 : Int32)), (.int (0 : Int32)), (.ref bb)])) _
    refine XS.iadd X11.here hx rfl (hb hby d5_1n_116) rfl ?_
    show Steps p.tables e below (T11.setTop (mkF m 117 Lo3 [(.int (1 : Int32)), (.ref bb)])) _
    refine own_ldJ X11 hx hZ e11 A8 (j := (1 : Int32)) (by decide) (w := x1) rfl (g := (mkF m 117 Lo3 [(.int (1 : Int32)), (.ref bb)])) rfl rfl (hb hby d5_1n_117) _ ?_
    show Steps p.tables e below (T11.setTop (mkF m 118 Lo3 [(.long x1)])) _
    refine XS.lstore X11.here hx rfl (hb hby d5_1n_118) rfl (l' := Lo4) rfl ?_
    show Steps p.tables e below (T11.setTop (mkF m 120 Lo4 [])) _
    refine XS.lload X11.here hx rfl (hb hby d5_1n_120) rfl ?_
    show Steps p.tables e below (T11.setTop (mkF m 122 Lo4 [(.long x1)])) _
    refine X11.ldc2Long hx hown (mvT hZ w21_) (g := (mkF m 122 Lo4 [(.long x1)])) rfl (hb hby d5_1n_122) _ ?_
    show Steps p.tables e below (T11.setTop (mkF m 125 Lo4 [(.long (9223372036854775807 : Int64)), (.long x1)])) _
    refine XS.lcmp X11.here hx rfl (hb hby d5_1n_125) rfl ?_
    show Steps p.tables e below (T11.setTop (mkF m 126 Lo4 [(.int (lcmpW x1 (9223372036854775807 : Int64)))])) _
    refine XS.ifYes X11.here hx rfl (pc0 := 126) (pc' := 132) rfl (hb hby d5_1n_126) rfl (own_lw_ne_t h59_1) (by decide) (by decide) ?_
    show Steps p.tables e below (T11.setTop (mkF m 132 Lo4 [])) _
    refine XS.iconst X11.here hx rfl (hb hby d5_1n_132) ?_
    show Steps p.tables e below (T11.setTop (mkF m 133 Lo4 [(.int (0 : Int32))])) _
    refine XS.istore X11.here hx rfl (hb hby d5_1n_133) rfl (l' := Lo5) rfl ?_
    show Steps p.tables e below (T11.setTop (mkF m 135 Lo5 [])) _
    refine XS.iload X11.here hx rfl (hb hby d5_1n_135) rfl ?_
    show Steps p.tables e below (T11.setTop (mkF m 137 Lo5 [(.int (0 : Int32))])) _
    refine XS.aloadN X11.here hx rfl (hb hby d5_1n_137) rfl rfl ?_
    show Steps p.tables e below (T11.setTop (mkF m 138 Lo5 [(.ref a1), (.int (0 : Int32))])) _
    refine st12 _ ?_
    show Steps p.tables e below (T12.setTop (mkF m 141 Lo5 [(.int (3 : Int32)), (.int (0 : Int32))])) _
    refine XS.icmpNo X12.here hx rfl (hb hby d5_1n_141) rfl (by first | rfl | decide) ?_
    show Steps p.tables e below (T12.setTop (mkF m 144 Lo5 [])) _
    refine XS.aloadN X12.here hx rfl (hb hby d5_1n_144) rfl rfl ?_
    show Steps p.tables e below (T12.setTop (mkF m 145 Lo5 [(.ref a1)])) _
    refine st13 _ ?_
    show Steps p.tables e below (T13.setTop (mkF m 148 Lo5 [(.ref bb)])) _
    refine XS.iloadN X13.here hx rfl (hb hby d5_1n_148) rfl ?_
    show Steps p.tables e below (T13.setTop (mkF m 149 Lo5 [(.int (0 : Int32)), (.ref bb)])) _
    refine XS.aloadN X13.here hx rfl (hb hby d5_1n_149) rfl rfl ?_
    show Steps p.tables e below (T13.setTop (mkF m 150 Lo5 [(.ref a1), (.int (0 : Int32)), (.ref bb)])) _
    refine st14 _ ?_
    show Steps p.tables e below (T14.setTop (mkF m 153 Lo5 [(.int (3 : Int32)), (.int (0 : Int32)), (.ref bb)])) _
    refine XS.imul X14.here hx rfl (hb hby d5_1n_153) rfl ?_
    show Steps p.tables e below (T14.setTop (mkF m 154 Lo5 [(.int (0 : Int32)), (.ref bb)])) _
    refine XS.iload X14.here hx rfl (hb hby d5_1n_154) rfl ?_
    show Steps p.tables e below (T14.setTop (mkF m 156 Lo5 [(.int (0 : Int32)), (.int (0 : Int32)), (.ref bb)])) _
    refine XS.iadd X14.here hx rfl (hb hby d5_1n_156) rfl ?_
    show Steps p.tables e below (T14.setTop (mkF m 157 Lo5 [(.int (0 : Int32)), (.ref bb)])) _
    refine own_ldJ X14 hx hZ e14 A8 (j := (0 : Int32)) (by decide) (w := x0) rfl (g := (mkF m 157 Lo5 [(.int (0 : Int32)), (.ref bb)])) rfl rfl (hb hby d5_1n_157) _ ?_
    show Steps p.tables e below (T14.setTop (mkF m 158 Lo5 [(.long x0)])) _
    refine XS.lstore X14.here hx rfl (hb hby d5_1n_158) rfl (l' := Lo6) rfl ?_
    show Steps p.tables e below (T14.setTop (mkF m 160 Lo6 [])) _
    refine XS.lload X14.here hx rfl (hb hby d5_1n_160) rfl ?_
    show Steps p.tables e below (T14.setTop (mkF m 162 Lo6 [(.long x0)])) _
    refine X14.ldc2Long hx hown (mvT hZ w21_) (g := (mkF m 162 Lo6 [(.long x0)])) rfl (hb hby d5_1n_162) _ ?_
    show Steps p.tables e below (T14.setTop (mkF m 165 Lo6 [(.long (9223372036854775807 : Int64)), (.long x0)])) _
    refine XS.lcmp X14.here hx rfl (hb hby d5_1n_165) rfl ?_
    show Steps p.tables e below (T14.setTop (mkF m 166 Lo6 [(.int (lcmpW x0 (9223372036854775807 : Int64)))])) _
    refine XS.ifNo X14.here hx rfl (hb hby d5_1n_166) rfl (own_lw_eq_f h166_1) ?_
    show Steps p.tables e below (T14.setTop (mkF m 169 Lo6 [])) _
    refine XS.lload X14.here hx rfl (hb hby d5_1n_169) rfl ?_
    show Steps p.tables e below (T14.setTop (mkF m 171 Lo6 [(.long x1)])) _
    refine XS.lloadN X14.here hx rfl (hb hby d5_1n_171) rfl ?_
    show Steps p.tables e below (T14.setTop (mkF m 172 Lo6 [(.long q4), (.long x1)])) _
    refine XS.ladd X14.here hx rfl (hb hby d5_1n_172) rfl ?_
    show Steps p.tables e below (T14.setTop (mkF m 173 Lo6 [(.long (x1 + q4))])) _
    refine XS.lload X14.here hx rfl (hb hby d5_1n_173) rfl ?_
    show Steps p.tables e below (T14.setTop (mkF m 175 Lo6 [(.long x0), (.long (x1 + q4))])) _
    refine XS.ladd X14.here hx rfl (hb hby d5_1n_175) rfl ?_
    show Steps p.tables e below (T14.setTop (mkF m 176 Lo6 [(.long ((x1 + q4) + x0))])) _
    refine XS.aloadN X14.here hx rfl (hb hby d5_1n_176) rfl rfl ?_
    show Steps p.tables e below (T14.setTop (mkF m 177 Lo6 [(.ref a1), (.long ((x1 + q4) + x0))])) _
    refine st15 _ ?_
    show Steps p.tables e below (T15.setTop (mkF m 180 Lo6 [(.ref bb), (.long ((x1 + q4) + x0))])) _
    refine XS.iload X15.here hx rfl (hb hby d5_1n_180) rfl ?_
    show Steps p.tables e below (T15.setTop (mkF m 182 Lo6 [(.int (0 : Int32)), (.ref bb), (.long ((x1 + q4) + x0))])) _
    refine XS.aloadN X15.here hx rfl (hb hby d5_1n_182) rfl rfl ?_
    show Steps p.tables e below (T15.setTop (mkF m 183 Lo6 [(.ref a1), (.int (0 : Int32)), (.ref bb), (.long ((x1 + q4) + x0))])) _
    refine st16 _ ?_
    show Steps p.tables e below (T16.setTop (mkF m 186 Lo6 [(.int (3 : Int32)), (.int (0 : Int32)), (.ref bb), (.long ((x1 + q4) + x0))])) _
    refine XS.imul X16.here hx rfl (hb hby d5_1n_186) rfl ?_
    show Steps p.tables e below (T16.setTop (mkF m 187 Lo6 [(.int (0 : Int32)), (.ref bb), (.long ((x1 + q4) + x0))])) _
    refine XS.iload X16.here hx rfl (hb hby d5_1n_187) rfl ?_
    show Steps p.tables e below (T16.setTop (mkF m 189 Lo6 [(.int (0 : Int32)), (.int (0 : Int32)), (.ref bb), (.long ((x1 + q4) + x0))])) _
    refine XS.iadd X16.here hx rfl (hb hby d5_1n_189) rfl ?_
    show Steps p.tables e below (T16.setTop (mkF m 190 Lo6 [(.int (0 : Int32)), (.ref bb), (.long ((x1 + q4) + x0))])) _
    refine own_ldJ X16 hx hZ e16 A8 (j := (0 : Int32)) (by decide) (w := x0) rfl (g := (mkF m 190 Lo6 [(.int (0 : Int32)), (.ref bb), (.long ((x1 + q4) + x0))])) rfl rfl (hb hby d5_1n_190) _ ?_
    show Steps p.tables e below (T16.setTop (mkF m 191 Lo6 [(.long x0), (.long ((x1 + q4) + x0))])) _
    refine XS.lcmp X16.here hx rfl (hb hby d5_1n_191) rfl ?_
    show Steps p.tables e below (T16.setTop (mkF m 192 Lo6 [(.int (lcmpW ((x1 + q4) + x0) x0))])) _
    refine XS.ifYes X16.here hx rfl (pc0 := 192) (pc' := 217) rfl (hb hby d5_1n_192) rfl (own_lw_ge_t h192_1) (by decide) (by decide) ?_
    show Steps p.tables e below (T16.setTop (mkF m 217 Lo6 [])) _
    refine XS.iinc X16.here hx rfl (hb hby d5_1n_217) rfl (l' := Lo7) rfl ?_
    show Steps p.tables e below (T16.setTop (mkF m 220 Lo7 [])) _
    refine XS.goto X16.here hx rfl (pc0 := 220) (pc' := 135) rfl (hb hby d5_1n_220) (by decide) (by decide) ?_
    show Steps p.tables e below (T16.setTop (mkF m 135 Lo7 [])) _
    refine XS.iload X16.here hx rfl (hb hby d5_1n_135) rfl ?_
    show Steps p.tables e below (T16.setTop (mkF m 137 Lo7 [(.int (1 : Int32))])) _
    refine XS.aloadN X16.here hx rfl (hb hby d5_1n_137) rfl rfl ?_
    show Steps p.tables e below (T16.setTop (mkF m 138 Lo7 [(.ref a1), (.int (1 : Int32))])) _
    refine st17 _ ?_
    show Steps p.tables e below (T17.setTop (mkF m 141 Lo7 [(.int (3 : Int32)), (.int (1 : Int32))])) _
    refine XS.icmpNo X17.here hx rfl (hb hby d5_1n_141) rfl (by first | rfl | decide) ?_
    show Steps p.tables e below (T17.setTop (mkF m 144 Lo7 [])) _
    refine XS.aloadN X17.here hx rfl (hb hby d5_1n_144) rfl rfl ?_
    show Steps p.tables e below (T17.setTop (mkF m 145 Lo7 [(.ref a1)])) _
    refine st18 _ ?_
    show Steps p.tables e below (T18.setTop (mkF m 148 Lo7 [(.ref bb)])) _
    refine XS.iloadN X18.here hx rfl (hb hby d5_1n_148) rfl ?_
    show Steps p.tables e below (T18.setTop (mkF m 149 Lo7 [(.int (0 : Int32)), (.ref bb)])) _
    refine XS.aloadN X18.here hx rfl (hb hby d5_1n_149) rfl rfl ?_
    show Steps p.tables e below (T18.setTop (mkF m 150 Lo7 [(.ref a1), (.int (0 : Int32)), (.ref bb)])) _
    refine st19 _ ?_
    show Steps p.tables e below (T19.setTop (mkF m 153 Lo7 [(.int (3 : Int32)), (.int (0 : Int32)), (.ref bb)])) _
    refine XS.imul X19.here hx rfl (hb hby d5_1n_153) rfl ?_
    show Steps p.tables e below (T19.setTop (mkF m 154 Lo7 [(.int (0 : Int32)), (.ref bb)])) _
    refine XS.iload X19.here hx rfl (hb hby d5_1n_154) rfl ?_
    show Steps p.tables e below (T19.setTop (mkF m 156 Lo7 [(.int (1 : Int32)), (.int (0 : Int32)), (.ref bb)])) _
    refine XS.iadd X19.here hx rfl (hb hby d5_1n_156) rfl ?_
    show Steps p.tables e below (T19.setTop (mkF m 157 Lo7 [(.int (1 : Int32)), (.ref bb)])) _
    refine own_ldJ X19 hx hZ e19 A8 (j := (1 : Int32)) (by decide) (w := x1) rfl (g := (mkF m 157 Lo7 [(.int (1 : Int32)), (.ref bb)])) rfl rfl (hb hby d5_1n_157) _ ?_
    show Steps p.tables e below (T19.setTop (mkF m 158 Lo7 [(.long x1)])) _
    refine XS.lstore X19.here hx rfl (hb hby d5_1n_158) rfl (l' := Lo8) rfl ?_
    show Steps p.tables e below (T19.setTop (mkF m 160 Lo8 [])) _
    refine XS.lload X19.here hx rfl (hb hby d5_1n_160) rfl ?_
    show Steps p.tables e below (T19.setTop (mkF m 162 Lo8 [(.long x1)])) _
    refine X19.ldc2Long hx hown (mvT hZ w21_) (g := (mkF m 162 Lo8 [(.long x1)])) rfl (hb hby d5_1n_162) _ ?_
    show Steps p.tables e below (T19.setTop (mkF m 165 Lo8 [(.long (9223372036854775807 : Int64)), (.long x1)])) _
    refine XS.lcmp X19.here hx rfl (hb hby d5_1n_165) rfl ?_
    show Steps p.tables e below (T19.setTop (mkF m 166 Lo8 [(.int (lcmpW x1 (9223372036854775807 : Int64)))])) _
    refine XS.ifNo X19.here hx rfl (hb hby d5_1n_166) rfl (own_lw_eq_f h59_1) ?_
    show Steps p.tables e below (T19.setTop (mkF m 169 Lo8 [])) _
    refine XS.lload X19.here hx rfl (hb hby d5_1n_169) rfl ?_
    show Steps p.tables e below (T19.setTop (mkF m 171 Lo8 [(.long x1)])) _
    refine XS.lloadN X19.here hx rfl (hb hby d5_1n_171) rfl ?_
    show Steps p.tables e below (T19.setTop (mkF m 172 Lo8 [(.long q4), (.long x1)])) _
    refine XS.ladd X19.here hx rfl (hb hby d5_1n_172) rfl ?_
    show Steps p.tables e below (T19.setTop (mkF m 173 Lo8 [(.long (x1 + q4))])) _
    refine XS.lload X19.here hx rfl (hb hby d5_1n_173) rfl ?_
    show Steps p.tables e below (T19.setTop (mkF m 175 Lo8 [(.long x1), (.long (x1 + q4))])) _
    refine XS.ladd X19.here hx rfl (hb hby d5_1n_175) rfl ?_
    show Steps p.tables e below (T19.setTop (mkF m 176 Lo8 [(.long ((x1 + q4) + x1))])) _
    refine XS.aloadN X19.here hx rfl (hb hby d5_1n_176) rfl rfl ?_
    show Steps p.tables e below (T19.setTop (mkF m 177 Lo8 [(.ref a1), (.long ((x1 + q4) + x1))])) _
    refine st20 _ ?_
    show Steps p.tables e below (T20.setTop (mkF m 180 Lo8 [(.ref bb), (.long ((x1 + q4) + x1))])) _
    refine XS.iload X20.here hx rfl (hb hby d5_1n_180) rfl ?_
    show Steps p.tables e below (T20.setTop (mkF m 182 Lo8 [(.int (0 : Int32)), (.ref bb), (.long ((x1 + q4) + x1))])) _
    refine XS.aloadN X20.here hx rfl (hb hby d5_1n_182) rfl rfl ?_
    show Steps p.tables e below (T20.setTop (mkF m 183 Lo8 [(.ref a1), (.int (0 : Int32)), (.ref bb), (.long ((x1 + q4) + x1))])) _
    refine st21 _ ?_
    show Steps p.tables e below (T21.setTop (mkF m 186 Lo8 [(.int (3 : Int32)), (.int (0 : Int32)), (.ref bb), (.long ((x1 + q4) + x1))])) _
    refine XS.imul X21.here hx rfl (hb hby d5_1n_186) rfl ?_
    show Steps p.tables e below (T21.setTop (mkF m 187 Lo8 [(.int (0 : Int32)), (.ref bb), (.long ((x1 + q4) + x1))])) _
    refine XS.iload X21.here hx rfl (hb hby d5_1n_187) rfl ?_
    show Steps p.tables e below (T21.setTop (mkF m 189 Lo8 [(.int (1 : Int32)), (.int (0 : Int32)), (.ref bb), (.long ((x1 + q4) + x1))])) _
    refine XS.iadd X21.here hx rfl (hb hby d5_1n_189) rfl ?_
    show Steps p.tables e below (T21.setTop (mkF m 190 Lo8 [(.int (1 : Int32)), (.ref bb), (.long ((x1 + q4) + x1))])) _
    refine own_ldJ X21 hx hZ e21 A8 (j := (1 : Int32)) (by decide) (w := x1) rfl (g := (mkF m 190 Lo8 [(.int (1 : Int32)), (.ref bb), (.long ((x1 + q4) + x1))])) rfl rfl (hb hby d5_1n_190) _ ?_
    show Steps p.tables e below (T21.setTop (mkF m 191 Lo8 [(.long x1), (.long ((x1 + q4) + x1))])) _
    refine XS.lcmp X21.here hx rfl (hb hby d5_1n_191) rfl ?_
    show Steps p.tables e below (T21.setTop (mkF m 192 Lo8 [(.int (lcmpW ((x1 + q4) + x1) x1))])) _
    refine XS.ifYes X21.here hx rfl (pc0 := 192) (pc' := 217) rfl (hb hby d5_1n_192) rfl (own_lw_ge_t h192_2) (by decide) (by decide) ?_
    show Steps p.tables e below (T21.setTop (mkF m 217 Lo8 [])) _
    refine XS.iinc X21.here hx rfl (hb hby d5_1n_217) rfl (l' := Lo9) rfl ?_
    show Steps p.tables e below (T21.setTop (mkF m 220 Lo9 [])) _
    refine XS.goto X21.here hx rfl (pc0 := 220) (pc' := 135) rfl (hb hby d5_1n_220) (by decide) (by decide) ?_
    show Steps p.tables e below (T21.setTop (mkF m 135 Lo9 [])) _
    refine XS.iload X21.here hx rfl (hb hby d5_1n_135) rfl ?_
    show Steps p.tables e below (T21.setTop (mkF m 137 Lo9 [(.int (2 : Int32))])) _
    refine XS.aloadN X21.here hx rfl (hb hby d5_1n_137) rfl rfl ?_
    show Steps p.tables e below (T21.setTop (mkF m 138 Lo9 [(.ref a1), (.int (2 : Int32))])) _
    refine st22 _ ?_
    show Steps p.tables e below (T22.setTop (mkF m 141 Lo9 [(.int (3 : Int32)), (.int (2 : Int32))])) _
    refine XS.icmpNo X22.here hx rfl (hb hby d5_1n_141) rfl (by first | rfl | decide) ?_
    show Steps p.tables e below (T22.setTop (mkF m 144 Lo9 [])) _
    refine XS.aloadN X22.here hx rfl (hb hby d5_1n_144) rfl rfl ?_
    show Steps p.tables e below (T22.setTop (mkF m 145 Lo9 [(.ref a1)])) _
    refine st23 _ ?_
    show Steps p.tables e below (T23.setTop (mkF m 148 Lo9 [(.ref bb)])) _
    refine XS.iloadN X23.here hx rfl (hb hby d5_1n_148) rfl ?_
    show Steps p.tables e below (T23.setTop (mkF m 149 Lo9 [(.int (0 : Int32)), (.ref bb)])) _
    refine XS.aloadN X23.here hx rfl (hb hby d5_1n_149) rfl rfl ?_
    show Steps p.tables e below (T23.setTop (mkF m 150 Lo9 [(.ref a1), (.int (0 : Int32)), (.ref bb)])) _
    refine st24 _ ?_
    show Steps p.tables e below (T24.setTop (mkF m 153 Lo9 [(.int (3 : Int32)), (.int (0 : Int32)), (.ref bb)])) _
    refine XS.imul X24.here hx rfl (hb hby d5_1n_153) rfl ?_
    show Steps p.tables e below (T24.setTop (mkF m 154 Lo9 [(.int (0 : Int32)), (.ref bb)])) _
    refine XS.iload X24.here hx rfl (hb hby d5_1n_154) rfl ?_
    show Steps p.tables e below (T24.setTop (mkF m 156 Lo9 [(.int (2 : Int32)), (.int (0 : Int32)), (.ref bb)])) _
    refine XS.iadd X24.here hx rfl (hb hby d5_1n_156) rfl ?_
    show Steps p.tables e below (T24.setTop (mkF m 157 Lo9 [(.int (2 : Int32)), (.ref bb)])) _
    refine own_ldJ X24 hx hZ e24 A8 (j := (2 : Int32)) (by decide) (w := x2) rfl (g := (mkF m 157 Lo9 [(.int (2 : Int32)), (.ref bb)])) rfl rfl (hb hby d5_1n_157) _ ?_
    show Steps p.tables e below (T24.setTop (mkF m 158 Lo9 [(.long x2)])) _
    refine XS.lstore X24.here hx rfl (hb hby d5_1n_158) rfl (l' := Lo10) rfl ?_
    show Steps p.tables e below (T24.setTop (mkF m 160 Lo10 [])) _
    refine XS.lload X24.here hx rfl (hb hby d5_1n_160) rfl ?_
    show Steps p.tables e below (T24.setTop (mkF m 162 Lo10 [(.long x2)])) _
    refine X24.ldc2Long hx hown (mvT hZ w21_) (g := (mkF m 162 Lo10 [(.long x2)])) rfl (hb hby d5_1n_162) _ ?_
    show Steps p.tables e below (T24.setTop (mkF m 165 Lo10 [(.long (9223372036854775807 : Int64)), (.long x2)])) _
    refine XS.lcmp X24.here hx rfl (hb hby d5_1n_165) rfl ?_
    show Steps p.tables e below (T24.setTop (mkF m 166 Lo10 [(.int (lcmpW x2 (9223372036854775807 : Int64)))])) _
    refine XS.ifNo X24.here hx rfl (hb hby d5_1n_166) rfl (own_lw_eq_f h166_3) ?_
    show Steps p.tables e below (T24.setTop (mkF m 169 Lo10 [])) _
    refine XS.lload X24.here hx rfl (hb hby d5_1n_169) rfl ?_
    show Steps p.tables e below (T24.setTop (mkF m 171 Lo10 [(.long x1)])) _
    refine XS.lloadN X24.here hx rfl (hb hby d5_1n_171) rfl ?_
    show Steps p.tables e below (T24.setTop (mkF m 172 Lo10 [(.long q4), (.long x1)])) _
    refine XS.ladd X24.here hx rfl (hb hby d5_1n_172) rfl ?_
    show Steps p.tables e below (T24.setTop (mkF m 173 Lo10 [(.long (x1 + q4))])) _
    refine XS.lload X24.here hx rfl (hb hby d5_1n_173) rfl ?_
    show Steps p.tables e below (T24.setTop (mkF m 175 Lo10 [(.long x2), (.long (x1 + q4))])) _
    refine XS.ladd X24.here hx rfl (hb hby d5_1n_175) rfl ?_
    show Steps p.tables e below (T24.setTop (mkF m 176 Lo10 [(.long ((x1 + q4) + x2))])) _
    refine XS.aloadN X24.here hx rfl (hb hby d5_1n_176) rfl rfl ?_
    show Steps p.tables e below (T24.setTop (mkF m 177 Lo10 [(.ref a1), (.long ((x1 + q4) + x2))])) _
    refine st25 _ ?_
    show Steps p.tables e below (T25.setTop (mkF m 180 Lo10 [(.ref bb), (.long ((x1 + q4) + x2))])) _
    refine XS.iload X25.here hx rfl (hb hby d5_1n_180) rfl ?_
    show Steps p.tables e below (T25.setTop (mkF m 182 Lo10 [(.int (0 : Int32)), (.ref bb), (.long ((x1 + q4) + x2))])) _
    refine XS.aloadN X25.here hx rfl (hb hby d5_1n_182) rfl rfl ?_
    show Steps p.tables e below (T25.setTop (mkF m 183 Lo10 [(.ref a1), (.int (0 : Int32)), (.ref bb), (.long ((x1 + q4) + x2))])) _
    refine st26 _ ?_
    show Steps p.tables e below (T26.setTop (mkF m 186 Lo10 [(.int (3 : Int32)), (.int (0 : Int32)), (.ref bb), (.long ((x1 + q4) + x2))])) _
    refine XS.imul X26.here hx rfl (hb hby d5_1n_186) rfl ?_
    show Steps p.tables e below (T26.setTop (mkF m 187 Lo10 [(.int (0 : Int32)), (.ref bb), (.long ((x1 + q4) + x2))])) _
    refine XS.iload X26.here hx rfl (hb hby d5_1n_187) rfl ?_
    show Steps p.tables e below (T26.setTop (mkF m 189 Lo10 [(.int (2 : Int32)), (.int (0 : Int32)), (.ref bb), (.long ((x1 + q4) + x2))])) _
    refine XS.iadd X26.here hx rfl (hb hby d5_1n_189) rfl ?_
    show Steps p.tables e below (T26.setTop (mkF m 190 Lo10 [(.int (2 : Int32)), (.ref bb), (.long ((x1 + q4) + x2))])) _
    refine own_ldJ X26 hx hZ e26 A8 (j := (2 : Int32)) (by decide) (w := x2) rfl (g := (mkF m 190 Lo10 [(.int (2 : Int32)), (.ref bb), (.long ((x1 + q4) + x2))])) rfl rfl (hb hby d5_1n_190) _ ?_
    show Steps p.tables e below (T26.setTop (mkF m 191 Lo10 [(.long x2), (.long ((x1 + q4) + x2))])) _
    refine XS.lcmp X26.here hx rfl (hb hby d5_1n_191) rfl ?_
    show Steps p.tables e below (T26.setTop (mkF m 192 Lo10 [(.int (lcmpW ((x1 + q4) + x2) x2))])) _
    refine XS.ifYes X26.here hx rfl (pc0 := 192) (pc' := 217) rfl (hb hby d5_1n_192) rfl (own_lw_ge_t h192_3) (by decide) (by decide) ?_
    show Steps p.tables e below (T26.setTop (mkF m 217 Lo10 [])) _
    refine XS.iinc X26.here hx rfl (hb hby d5_1n_217) rfl (l' := Lo11) rfl ?_
    show Steps p.tables e below (T26.setTop (mkF m 220 Lo11 [])) _
    refine XS.goto X26.here hx rfl (pc0 := 220) (pc' := 135) rfl (hb hby d5_1n_220) (by decide) (by decide) ?_
    show Steps p.tables e below (T26.setTop (mkF m 135 Lo11 [])) _
    refine XS.iload X26.here hx rfl (hb hby d5_1n_135) rfl ?_
    show Steps p.tables e below (T26.setTop (mkF m 137 Lo11 [(.int (3 : Int32))])) _
    refine XS.aloadN X26.here hx rfl (hb hby d5_1n_137) rfl rfl ?_
    show Steps p.tables e below (T26.setTop (mkF m 138 Lo11 [(.ref a1), (.int (3 : Int32))])) _
    refine st27 _ ?_
    show Steps p.tables e below (T27.setTop (mkF m 141 Lo11 [(.int (3 : Int32)), (.int (3 : Int32))])) _
    refine XS.icmpYes X27.here hx rfl (pc0 := 141) (pc' := 223) rfl (hb hby d5_1n_141) rfl (by first | rfl | decide) (by decide) (by decide) ?_
    show Steps p.tables e below (T27.setTop (mkF m 223 Lo11 [])) _
    refine XS.iinc X27.here hx rfl (hb hby d5_1n_223) rfl (l' := Lo12) rfl ?_
    show Steps p.tables e below (T27.setTop (mkF m 226 Lo12 [])) _
    refine XS.goto X27.here hx rfl (pc0 := 226) (pc' := 95) rfl (hb hby d5_1n_226) (by decide) (by decide) ?_
    show Steps p.tables e below (T27.setTop (mkF m 95 Lo12 [])) _
    refine XS.iload X27.here hx rfl (hb hby d5_1n_95) rfl ?_
    show Steps p.tables e below (T27.setTop (mkF m 97 Lo12 [(.int (1 : Int32))])) _
    refine XS.aloadN X27.here hx rfl (hb hby d5_1n_97) rfl rfl ?_
    show Steps p.tables e below (T27.setTop (mkF m 98 Lo12 [(.ref a1), (.int (1 : Int32))])) _
    refine st28 _ ?_
    show Steps p.tables e below (T28.setTop (mkF m 101 Lo12 [(.int (3 : Int32)), (.int (1 : Int32))])) _
    refine XS.icmpNo X28.here hx rfl (hb hby d5_1n_101) rfl (by first | rfl | decide) ?_
    show Steps p.tables e below (T28.setTop (mkF m 104 Lo12 [])) _
    refine XS.aloadN X28.here hx rfl (hb hby d5_1n_104) rfl rfl ?_
    show Steps p.tables e below (T28.setTop (mkF m 105 Lo12 [(.ref a1)])) _
    refine st29 _ ?_
    show Steps p.tables e below (T29.setTop (mkF m 108 Lo12 [(.ref bb)])) _
    refine XS.iload X29.here hx rfl (hb hby d5_1n_108) rfl ?_
    show Steps p.tables e below (T29.setTop (mkF m 110 Lo12 [(.int (1 : Int32)), (.ref bb)])) _
    refine XS.aloadN X29.here hx rfl (hb hby d5_1n_110) rfl rfl ?_
    show Steps p.tables e below (T29.setTop (mkF m 111 Lo12 [(.ref a1), (.int (1 : Int32)), (.ref bb)])) _
    refine st30 _ ?_
    show Steps p.tables e below (T30.setTop (mkF m 114 Lo12 [(.int (3 : Int32)), (.int (1 : Int32)), (.ref bb)])) _
    refine XS.imul X30.here hx rfl (hb hby d5_1n_114) rfl ?_
    show Steps p.tables e below (T30.setTop (mkF m 115 Lo12 [(.int (3 : Int32)), (.ref bb)])) _
    refine XS.iloadN X30.here hx rfl (hb hby d5_1n_115) rfl ?_
    show Steps p.tables e below (T30.setTop (mkF m 116 Lo12 [(.int (1 : Int32)), (.int (3 : Int32)), (.ref bb)])) _
    refine XS.iadd X30.here hx rfl (hb hby d5_1n_116) rfl ?_
    show Steps p.tables e below (T30.setTop (mkF m 117 Lo12 [(.int (4 : Int32)), (.ref bb)])) _
    refine own_ldJ X30 hx hZ e30 A8 (j := (4 : Int32)) (by decide) (w := x4) rfl (g := (mkF m 117 Lo12 [(.int (4 : Int32)), (.ref bb)])) rfl rfl (hb hby d5_1n_117) _ ?_
    show Steps p.tables e below (T30.setTop (mkF m 118 Lo12 [(.long x4)])) _
    refine XS.lstore X30.here hx rfl (hb hby d5_1n_118) rfl (l' := Lo13) rfl ?_
    show Steps p.tables e below (T30.setTop (mkF m 120 Lo13 [])) _
    refine XS.lload X30.here hx rfl (hb hby d5_1n_120) rfl ?_
    show Steps p.tables e below (T30.setTop (mkF m 122 Lo13 [(.long x4)])) _
    refine X30.ldc2Long hx hown (mvT hZ w21_) (g := (mkF m 122 Lo13 [(.long x4)])) rfl (hb hby d5_1n_122) _ ?_
    show Steps p.tables e below (T30.setTop (mkF m 125 Lo13 [(.long (9223372036854775807 : Int64)), (.long x4)])) _
    refine XS.lcmp X30.here hx rfl (hb hby d5_1n_125) rfl ?_
    show Steps p.tables e below (T30.setTop (mkF m 126 Lo13 [(.int (lcmpW x4 (9223372036854775807 : Int64)))])) _
    refine XS.ifYes X30.here hx rfl (pc0 := 126) (pc' := 132) rfl (hb hby d5_1n_126) rfl (own_lw_ne_t h126_2) (by decide) (by decide) ?_
    show Steps p.tables e below (T30.setTop (mkF m 132 Lo13 [])) _
    refine XS.iconst X30.here hx rfl (hb hby d5_1n_132) ?_
    show Steps p.tables e below (T30.setTop (mkF m 133 Lo13 [(.int (0 : Int32))])) _
    refine XS.istore X30.here hx rfl (hb hby d5_1n_133) rfl (l' := Lo14) rfl ?_
    show Steps p.tables e below (T30.setTop (mkF m 135 Lo14 [])) _
    refine XS.iload X30.here hx rfl (hb hby d5_1n_135) rfl ?_
    show Steps p.tables e below (T30.setTop (mkF m 137 Lo14 [(.int (0 : Int32))])) _
    refine XS.aloadN X30.here hx rfl (hb hby d5_1n_137) rfl rfl ?_
    show Steps p.tables e below (T30.setTop (mkF m 138 Lo14 [(.ref a1), (.int (0 : Int32))])) _
    refine st31 _ ?_
    show Steps p.tables e below (T31.setTop (mkF m 141 Lo14 [(.int (3 : Int32)), (.int (0 : Int32))])) _
    refine XS.icmpNo X31.here hx rfl (hb hby d5_1n_141) rfl (by first | rfl | decide) ?_
    show Steps p.tables e below (T31.setTop (mkF m 144 Lo14 [])) _
    refine XS.aloadN X31.here hx rfl (hb hby d5_1n_144) rfl rfl ?_
    show Steps p.tables e below (T31.setTop (mkF m 145 Lo14 [(.ref a1)])) _
    refine st32 _ ?_
    show Steps p.tables e below (T32.setTop (mkF m 148 Lo14 [(.ref bb)])) _
    refine XS.iloadN X32.here hx rfl (hb hby d5_1n_148) rfl ?_
    show Steps p.tables e below (T32.setTop (mkF m 149 Lo14 [(.int (0 : Int32)), (.ref bb)])) _
    refine XS.aloadN X32.here hx rfl (hb hby d5_1n_149) rfl rfl ?_
    show Steps p.tables e below (T32.setTop (mkF m 150 Lo14 [(.ref a1), (.int (0 : Int32)), (.ref bb)])) _
    refine st33 _ ?_
    show Steps p.tables e below (T33.setTop (mkF m 153 Lo14 [(.int (3 : Int32)), (.int (0 : Int32)), (.ref bb)])) _
    refine XS.imul X33.here hx rfl (hb hby d5_1n_153) rfl ?_
    show Steps p.tables e below (T33.setTop (mkF m 154 Lo14 [(.int (0 : Int32)), (.ref bb)])) _
    refine XS.iload X33.here hx rfl (hb hby d5_1n_154) rfl ?_
    show Steps p.tables e below (T33.setTop (mkF m 156 Lo14 [(.int (0 : Int32)), (.int (0 : Int32)), (.ref bb)])) _
    refine XS.iadd X33.here hx rfl (hb hby d5_1n_156) rfl ?_
    show Steps p.tables e below (T33.setTop (mkF m 157 Lo14 [(.int (0 : Int32)), (.ref bb)])) _
    refine own_ldJ X33 hx hZ e33 A8 (j := (0 : Int32)) (by decide) (w := x0) rfl (g := (mkF m 157 Lo14 [(.int (0 : Int32)), (.ref bb)])) rfl rfl (hb hby d5_1n_157) _ ?_
    show Steps p.tables e below (T33.setTop (mkF m 158 Lo14 [(.long x0)])) _
    refine XS.lstore X33.here hx rfl (hb hby d5_1n_158) rfl (l' := Lo15) rfl ?_
    show Steps p.tables e below (T33.setTop (mkF m 160 Lo15 [])) _
    refine XS.lload X33.here hx rfl (hb hby d5_1n_160) rfl ?_
    show Steps p.tables e below (T33.setTop (mkF m 162 Lo15 [(.long x0)])) _
    refine X33.ldc2Long hx hown (mvT hZ w21_) (g := (mkF m 162 Lo15 [(.long x0)])) rfl (hb hby d5_1n_162) _ ?_
    show Steps p.tables e below (T33.setTop (mkF m 165 Lo15 [(.long (9223372036854775807 : Int64)), (.long x0)])) _
    refine XS.lcmp X33.here hx rfl (hb hby d5_1n_165) rfl ?_
    show Steps p.tables e below (T33.setTop (mkF m 166 Lo15 [(.int (lcmpW x0 (9223372036854775807 : Int64)))])) _
    refine XS.ifNo X33.here hx rfl (hb hby d5_1n_166) rfl (own_lw_eq_f h166_1) ?_
    show Steps p.tables e below (T33.setTop (mkF m 169 Lo15 [])) _
    refine XS.lload X33.here hx rfl (hb hby d5_1n_169) rfl ?_
    show Steps p.tables e below (T33.setTop (mkF m 171 Lo15 [(.long x4)])) _
    refine XS.lloadN X33.here hx rfl (hb hby d5_1n_171) rfl ?_
    show Steps p.tables e below (T33.setTop (mkF m 172 Lo15 [(.long q4), (.long x4)])) _
    refine XS.ladd X33.here hx rfl (hb hby d5_1n_172) rfl ?_
    show Steps p.tables e below (T33.setTop (mkF m 173 Lo15 [(.long (x4 + q4))])) _
    refine XS.lload X33.here hx rfl (hb hby d5_1n_173) rfl ?_
    show Steps p.tables e below (T33.setTop (mkF m 175 Lo15 [(.long x0), (.long (x4 + q4))])) _
    refine XS.ladd X33.here hx rfl (hb hby d5_1n_175) rfl ?_
    show Steps p.tables e below (T33.setTop (mkF m 176 Lo15 [(.long ((x4 + q4) + x0))])) _
    refine XS.aloadN X33.here hx rfl (hb hby d5_1n_176) rfl rfl ?_
    show Steps p.tables e below (T33.setTop (mkF m 177 Lo15 [(.ref a1), (.long ((x4 + q4) + x0))])) _
    refine st34 _ ?_
    show Steps p.tables e below (T34.setTop (mkF m 180 Lo15 [(.ref bb), (.long ((x4 + q4) + x0))])) _
    refine XS.iload X34.here hx rfl (hb hby d5_1n_180) rfl ?_
    show Steps p.tables e below (T34.setTop (mkF m 182 Lo15 [(.int (1 : Int32)), (.ref bb), (.long ((x4 + q4) + x0))])) _
    refine XS.aloadN X34.here hx rfl (hb hby d5_1n_182) rfl rfl ?_
    show Steps p.tables e below (T34.setTop (mkF m 183 Lo15 [(.ref a1), (.int (1 : Int32)), (.ref bb), (.long ((x4 + q4) + x0))])) _
    refine st35 _ ?_
    show Steps p.tables e below (T35.setTop (mkF m 186 Lo15 [(.int (3 : Int32)), (.int (1 : Int32)), (.ref bb), (.long ((x4 + q4) + x0))])) _
    refine XS.imul X35.here hx rfl (hb hby d5_1n_186) rfl ?_
    show Steps p.tables e below (T35.setTop (mkF m 187 Lo15 [(.int (3 : Int32)), (.ref bb), (.long ((x4 + q4) + x0))])) _
    refine XS.iload X35.here hx rfl (hb hby d5_1n_187) rfl ?_
    show Steps p.tables e below (T35.setTop (mkF m 189 Lo15 [(.int (0 : Int32)), (.int (3 : Int32)), (.ref bb), (.long ((x4 + q4) + x0))])) _
    refine XS.iadd X35.here hx rfl (hb hby d5_1n_189) rfl ?_
    show Steps p.tables e below (T35.setTop (mkF m 190 Lo15 [(.int (3 : Int32)), (.ref bb), (.long ((x4 + q4) + x0))])) _
    refine own_ldJ X35 hx hZ e35 A8 (j := (3 : Int32)) (by decide) (w := q4) rfl (g := (mkF m 190 Lo15 [(.int (3 : Int32)), (.ref bb), (.long ((x4 + q4) + x0))])) rfl rfl (hb hby d5_1n_190) _ ?_
    show Steps p.tables e below (T35.setTop (mkF m 191 Lo15 [(.long q4), (.long ((x4 + q4) + x0))])) _
    refine XS.lcmp X35.here hx rfl (hb hby d5_1n_191) rfl ?_
    show Steps p.tables e below (T35.setTop (mkF m 192 Lo15 [(.int (lcmpW ((x4 + q4) + x0) q4))])) _
    refine XS.ifYes X35.here hx rfl (pc0 := 192) (pc' := 217) rfl (hb hby d5_1n_192) rfl (own_lw_ge_t h192_4) (by decide) (by decide) ?_
    show Steps p.tables e below (T35.setTop (mkF m 217 Lo15 [])) _
    refine XS.iinc X35.here hx rfl (hb hby d5_1n_217) rfl (l' := Lo16) rfl ?_
    show Steps p.tables e below (T35.setTop (mkF m 220 Lo16 [])) _
    refine XS.goto X35.here hx rfl (pc0 := 220) (pc' := 135) rfl (hb hby d5_1n_220) (by decide) (by decide) ?_
    show Steps p.tables e below (T35.setTop (mkF m 135 Lo16 [])) _
    refine XS.iload X35.here hx rfl (hb hby d5_1n_135) rfl ?_
    show Steps p.tables e below (T35.setTop (mkF m 137 Lo16 [(.int (1 : Int32))])) _
    refine XS.aloadN X35.here hx rfl (hb hby d5_1n_137) rfl rfl ?_
    show Steps p.tables e below (T35.setTop (mkF m 138 Lo16 [(.ref a1), (.int (1 : Int32))])) _
    refine st36 _ ?_
    show Steps p.tables e below (T36.setTop (mkF m 141 Lo16 [(.int (3 : Int32)), (.int (1 : Int32))])) _
    refine XS.icmpNo X36.here hx rfl (hb hby d5_1n_141) rfl (by first | rfl | decide) ?_
    show Steps p.tables e below (T36.setTop (mkF m 144 Lo16 [])) _
    refine XS.aloadN X36.here hx rfl (hb hby d5_1n_144) rfl rfl ?_
    show Steps p.tables e below (T36.setTop (mkF m 145 Lo16 [(.ref a1)])) _
    refine st37 _ ?_
    show Steps p.tables e below (T37.setTop (mkF m 148 Lo16 [(.ref bb)])) _
    refine XS.iloadN X37.here hx rfl (hb hby d5_1n_148) rfl ?_
    show Steps p.tables e below (T37.setTop (mkF m 149 Lo16 [(.int (0 : Int32)), (.ref bb)])) _
    refine XS.aloadN X37.here hx rfl (hb hby d5_1n_149) rfl rfl ?_
    show Steps p.tables e below (T37.setTop (mkF m 150 Lo16 [(.ref a1), (.int (0 : Int32)), (.ref bb)])) _
    refine st38 _ ?_
    show Steps p.tables e below (T38.setTop (mkF m 153 Lo16 [(.int (3 : Int32)), (.int (0 : Int32)), (.ref bb)])) _
    refine XS.imul X38.here hx rfl (hb hby d5_1n_153) rfl ?_
    show Steps p.tables e below (T38.setTop (mkF m 154 Lo16 [(.int (0 : Int32)), (.ref bb)])) _
    refine XS.iload X38.here hx rfl (hb hby d5_1n_154) rfl ?_
    show Steps p.tables e below (T38.setTop (mkF m 156 Lo16 [(.int (1 : Int32)), (.int (0 : Int32)), (.ref bb)])) _
    refine XS.iadd X38.here hx rfl (hb hby d5_1n_156) rfl ?_
    show Steps p.tables e below (T38.setTop (mkF m 157 Lo16 [(.int (1 : Int32)), (.ref bb)])) _
    refine own_ldJ X38 hx hZ e38 A8 (j := (1 : Int32)) (by decide) (w := x1) rfl (g := (mkF m 157 Lo16 [(.int (1 : Int32)), (.ref bb)])) rfl rfl (hb hby d5_1n_157) _ ?_
    show Steps p.tables e below (T38.setTop (mkF m 158 Lo16 [(.long x1)])) _
    refine XS.lstore X38.here hx rfl (hb hby d5_1n_158) rfl (l' := Lo17) rfl ?_
    show Steps p.tables e below (T38.setTop (mkF m 160 Lo17 [])) _
    refine XS.lload X38.here hx rfl (hb hby d5_1n_160) rfl ?_
    show Steps p.tables e below (T38.setTop (mkF m 162 Lo17 [(.long x1)])) _
    refine X38.ldc2Long hx hown (mvT hZ w21_) (g := (mkF m 162 Lo17 [(.long x1)])) rfl (hb hby d5_1n_162) _ ?_
    show Steps p.tables e below (T38.setTop (mkF m 165 Lo17 [(.long (9223372036854775807 : Int64)), (.long x1)])) _
    refine XS.lcmp X38.here hx rfl (hb hby d5_1n_165) rfl ?_
    show Steps p.tables e below (T38.setTop (mkF m 166 Lo17 [(.int (lcmpW x1 (9223372036854775807 : Int64)))])) _
    refine XS.ifNo X38.here hx rfl (hb hby d5_1n_166) rfl (own_lw_eq_f h59_1) ?_
    show Steps p.tables e below (T38.setTop (mkF m 169 Lo17 [])) _
    refine XS.lload X38.here hx rfl (hb hby d5_1n_169) rfl ?_
    show Steps p.tables e below (T38.setTop (mkF m 171 Lo17 [(.long x4)])) _
    refine XS.lloadN X38.here hx rfl (hb hby d5_1n_171) rfl ?_
    show Steps p.tables e below (T38.setTop (mkF m 172 Lo17 [(.long q4), (.long x4)])) _
    refine XS.ladd X38.here hx rfl (hb hby d5_1n_172) rfl ?_
    show Steps p.tables e below (T38.setTop (mkF m 173 Lo17 [(.long (x4 + q4))])) _
    refine XS.lload X38.here hx rfl (hb hby d5_1n_173) rfl ?_
    show Steps p.tables e below (T38.setTop (mkF m 175 Lo17 [(.long x1), (.long (x4 + q4))])) _
    refine XS.ladd X38.here hx rfl (hb hby d5_1n_175) rfl ?_
    show Steps p.tables e below (T38.setTop (mkF m 176 Lo17 [(.long ((x4 + q4) + x1))])) _
    refine XS.aloadN X38.here hx rfl (hb hby d5_1n_176) rfl rfl ?_
    show Steps p.tables e below (T38.setTop (mkF m 177 Lo17 [(.ref a1), (.long ((x4 + q4) + x1))])) _
    refine st39 _ ?_
    show Steps p.tables e below (T39.setTop (mkF m 180 Lo17 [(.ref bb), (.long ((x4 + q4) + x1))])) _
    refine XS.iload X39.here hx rfl (hb hby d5_1n_180) rfl ?_
    show Steps p.tables e below (T39.setTop (mkF m 182 Lo17 [(.int (1 : Int32)), (.ref bb), (.long ((x4 + q4) + x1))])) _
    refine XS.aloadN X39.here hx rfl (hb hby d5_1n_182) rfl rfl ?_
    show Steps p.tables e below (T39.setTop (mkF m 183 Lo17 [(.ref a1), (.int (1 : Int32)), (.ref bb), (.long ((x4 + q4) + x1))])) _
    refine st40 _ ?_
    show Steps p.tables e below (T40.setTop (mkF m 186 Lo17 [(.int (3 : Int32)), (.int (1 : Int32)), (.ref bb), (.long ((x4 + q4) + x1))])) _
    refine XS.imul X40.here hx rfl (hb hby d5_1n_186) rfl ?_
    show Steps p.tables e below (T40.setTop (mkF m 187 Lo17 [(.int (3 : Int32)), (.ref bb), (.long ((x4 + q4) + x1))])) _
    refine XS.iload X40.here hx rfl (hb hby d5_1n_187) rfl ?_
    show Steps p.tables e below (T40.setTop (mkF m 189 Lo17 [(.int (1 : Int32)), (.int (3 : Int32)), (.ref bb), (.long ((x4 + q4) + x1))])) _
    refine XS.iadd X40.here hx rfl (hb hby d5_1n_189) rfl ?_
    show Steps p.tables e below (T40.setTop (mkF m 190 Lo17 [(.int (4 : Int32)), (.ref bb), (.long ((x4 + q4) + x1))])) _
    refine own_ldJ X40 hx hZ e40 A8 (j := (4 : Int32)) (by decide) (w := x4) rfl (g := (mkF m 190 Lo17 [(.int (4 : Int32)), (.ref bb), (.long ((x4 + q4) + x1))])) rfl rfl (hb hby d5_1n_190) _ ?_
    show Steps p.tables e below (T40.setTop (mkF m 191 Lo17 [(.long x4), (.long ((x4 + q4) + x1))])) _
    refine XS.lcmp X40.here hx rfl (hb hby d5_1n_191) rfl ?_
    show Steps p.tables e below (T40.setTop (mkF m 192 Lo17 [(.int (lcmpW ((x4 + q4) + x1) x4))])) _
    refine XS.ifYes X40.here hx rfl (pc0 := 192) (pc' := 217) rfl (hb hby d5_1n_192) rfl (own_lw_ge_t h192_5) (by decide) (by decide) ?_
    show Steps p.tables e below (T40.setTop (mkF m 217 Lo17 [])) _
    refine XS.iinc X40.here hx rfl (hb hby d5_1n_217) rfl (l' := Lo18) rfl ?_
    show Steps p.tables e below (T40.setTop (mkF m 220 Lo18 [])) _
    refine XS.goto X40.here hx rfl (pc0 := 220) (pc' := 135) rfl (hb hby d5_1n_220) (by decide) (by decide) ?_
    show Steps p.tables e below (T40.setTop (mkF m 135 Lo18 [])) _
    refine XS.iload X40.here hx rfl (hb hby d5_1n_135) rfl ?_
    show Steps p.tables e below (T40.setTop (mkF m 137 Lo18 [(.int (2 : Int32))])) _
    refine XS.aloadN X40.here hx rfl (hb hby d5_1n_137) rfl rfl ?_
    show Steps p.tables e below (T40.setTop (mkF m 138 Lo18 [(.ref a1), (.int (2 : Int32))])) _
    refine st41 _ ?_
    show Steps p.tables e below (T41.setTop (mkF m 141 Lo18 [(.int (3 : Int32)), (.int (2 : Int32))])) _
    refine XS.icmpNo X41.here hx rfl (hb hby d5_1n_141) rfl (by first | rfl | decide) ?_
    show Steps p.tables e below (T41.setTop (mkF m 144 Lo18 [])) _
    refine XS.aloadN X41.here hx rfl (hb hby d5_1n_144) rfl rfl ?_
    show Steps p.tables e below (T41.setTop (mkF m 145 Lo18 [(.ref a1)])) _
    refine st42 _ ?_
    show Steps p.tables e below (T42.setTop (mkF m 148 Lo18 [(.ref bb)])) _
    refine XS.iloadN X42.here hx rfl (hb hby d5_1n_148) rfl ?_
    show Steps p.tables e below (T42.setTop (mkF m 149 Lo18 [(.int (0 : Int32)), (.ref bb)])) _
    refine XS.aloadN X42.here hx rfl (hb hby d5_1n_149) rfl rfl ?_
    show Steps p.tables e below (T42.setTop (mkF m 150 Lo18 [(.ref a1), (.int (0 : Int32)), (.ref bb)])) _
    refine st43 _ ?_
    show Steps p.tables e below (T43.setTop (mkF m 153 Lo18 [(.int (3 : Int32)), (.int (0 : Int32)), (.ref bb)])) _
    refine XS.imul X43.here hx rfl (hb hby d5_1n_153) rfl ?_
    show Steps p.tables e below (T43.setTop (mkF m 154 Lo18 [(.int (0 : Int32)), (.ref bb)])) _
    refine XS.iload X43.here hx rfl (hb hby d5_1n_154) rfl ?_
    show Steps p.tables e below (T43.setTop (mkF m 156 Lo18 [(.int (2 : Int32)), (.int (0 : Int32)), (.ref bb)])) _
    refine XS.iadd X43.here hx rfl (hb hby d5_1n_156) rfl ?_
    show Steps p.tables e below (T43.setTop (mkF m 157 Lo18 [(.int (2 : Int32)), (.ref bb)])) _
    refine own_ldJ X43 hx hZ e43 A8 (j := (2 : Int32)) (by decide) (w := x2) rfl (g := (mkF m 157 Lo18 [(.int (2 : Int32)), (.ref bb)])) rfl rfl (hb hby d5_1n_157) _ ?_
    show Steps p.tables e below (T43.setTop (mkF m 158 Lo18 [(.long x2)])) _
    refine XS.lstore X43.here hx rfl (hb hby d5_1n_158) rfl (l' := Lo19) rfl ?_
    show Steps p.tables e below (T43.setTop (mkF m 160 Lo19 [])) _
    refine XS.lload X43.here hx rfl (hb hby d5_1n_160) rfl ?_
    show Steps p.tables e below (T43.setTop (mkF m 162 Lo19 [(.long x2)])) _
    refine X43.ldc2Long hx hown (mvT hZ w21_) (g := (mkF m 162 Lo19 [(.long x2)])) rfl (hb hby d5_1n_162) _ ?_
    show Steps p.tables e below (T43.setTop (mkF m 165 Lo19 [(.long (9223372036854775807 : Int64)), (.long x2)])) _
    refine XS.lcmp X43.here hx rfl (hb hby d5_1n_165) rfl ?_
    show Steps p.tables e below (T43.setTop (mkF m 166 Lo19 [(.int (lcmpW x2 (9223372036854775807 : Int64)))])) _
    refine XS.ifNo X43.here hx rfl (hb hby d5_1n_166) rfl (own_lw_eq_f h166_3) ?_
    show Steps p.tables e below (T43.setTop (mkF m 169 Lo19 [])) _
    refine XS.lload X43.here hx rfl (hb hby d5_1n_169) rfl ?_
    show Steps p.tables e below (T43.setTop (mkF m 171 Lo19 [(.long x4)])) _
    refine XS.lloadN X43.here hx rfl (hb hby d5_1n_171) rfl ?_
    show Steps p.tables e below (T43.setTop (mkF m 172 Lo19 [(.long q4), (.long x4)])) _
    refine XS.ladd X43.here hx rfl (hb hby d5_1n_172) rfl ?_
    show Steps p.tables e below (T43.setTop (mkF m 173 Lo19 [(.long (x4 + q4))])) _
    refine XS.lload X43.here hx rfl (hb hby d5_1n_173) rfl ?_
    show Steps p.tables e below (T43.setTop (mkF m 175 Lo19 [(.long x2), (.long (x4 + q4))])) _
    refine XS.ladd X43.here hx rfl (hb hby d5_1n_175) rfl ?_
    show Steps p.tables e below (T43.setTop (mkF m 176 Lo19 [(.long ((x4 + q4) + x2))])) _
    refine XS.aloadN X43.here hx rfl (hb hby d5_1n_176) rfl rfl ?_
    show Steps p.tables e below (T43.setTop (mkF m 177 Lo19 [(.ref a1), (.long ((x4 + q4) + x2))])) _
    refine st44 _ ?_
    show Steps p.tables e below (T44.setTop (mkF m 180 Lo19 [(.ref bb), (.long ((x4 + q4) + x2))])) _
    refine XS.iload X44.here hx rfl (hb hby d5_1n_180) rfl ?_
    show Steps p.tables e below (T44.setTop (mkF m 182 Lo19 [(.int (1 : Int32)), (.ref bb), (.long ((x4 + q4) + x2))])) _
    refine XS.aloadN X44.here hx rfl (hb hby d5_1n_182) rfl rfl ?_
    show Steps p.tables e below (T44.setTop (mkF m 183 Lo19 [(.ref a1), (.int (1 : Int32)), (.ref bb), (.long ((x4 + q4) + x2))])) _
    refine st45 _ ?_
    show Steps p.tables e below (T45.setTop (mkF m 186 Lo19 [(.int (3 : Int32)), (.int (1 : Int32)), (.ref bb), (.long ((x4 + q4) + x2))])) _
    refine XS.imul X45.here hx rfl (hb hby d5_1n_186) rfl ?_
    show Steps p.tables e below (T45.setTop (mkF m 187 Lo19 [(.int (3 : Int32)), (.ref bb), (.long ((x4 + q4) + x2))])) _
    refine XS.iload X45.here hx rfl (hb hby d5_1n_187) rfl ?_
    show Steps p.tables e below (T45.setTop (mkF m 189 Lo19 [(.int (2 : Int32)), (.int (3 : Int32)), (.ref bb), (.long ((x4 + q4) + x2))])) _
    refine XS.iadd X45.here hx rfl (hb hby d5_1n_189) rfl ?_
    show Steps p.tables e below (T45.setTop (mkF m 190 Lo19 [(.int (5 : Int32)), (.ref bb), (.long ((x4 + q4) + x2))])) _
    refine own_ldJ X45 hx hZ e45 A8 (j := (5 : Int32)) (by decide) (w := x5) rfl (g := (mkF m 190 Lo19 [(.int (5 : Int32)), (.ref bb), (.long ((x4 + q4) + x2))])) rfl rfl (hb hby d5_1n_190) _ ?_
    show Steps p.tables e below (T45.setTop (mkF m 191 Lo19 [(.long x5), (.long ((x4 + q4) + x2))])) _
    refine XS.lcmp X45.here hx rfl (hb hby d5_1n_191) rfl ?_
    show Steps p.tables e below (T45.setTop (mkF m 192 Lo19 [(.int (lcmpW ((x4 + q4) + x2) x5))])) _
    refine XS.ifYes X45.here hx rfl (pc0 := 192) (pc' := 217) rfl (hb hby d5_1n_192) rfl (own_lw_ge_t h192_6) (by decide) (by decide) ?_
    show Steps p.tables e below (T45.setTop (mkF m 217 Lo19 [])) _
    refine XS.iinc X45.here hx rfl (hb hby d5_1n_217) rfl (l' := Lo13) rfl ?_
    show Steps p.tables e below (T45.setTop (mkF m 220 Lo13 [])) _
    refine XS.goto X45.here hx rfl (pc0 := 220) (pc' := 135) rfl (hb hby d5_1n_220) (by decide) (by decide) ?_
    show Steps p.tables e below (T45.setTop (mkF m 135 Lo13 [])) _
    refine XS.iload X45.here hx rfl (hb hby d5_1n_135) rfl ?_
    show Steps p.tables e below (T45.setTop (mkF m 137 Lo13 [(.int (3 : Int32))])) _
    refine XS.aloadN X45.here hx rfl (hb hby d5_1n_137) rfl rfl ?_
    show Steps p.tables e below (T45.setTop (mkF m 138 Lo13 [(.ref a1), (.int (3 : Int32))])) _
    refine st46 _ ?_
    show Steps p.tables e below (T46.setTop (mkF m 141 Lo13 [(.int (3 : Int32)), (.int (3 : Int32))])) _
    refine XS.icmpYes X46.here hx rfl (pc0 := 141) (pc' := 223) rfl (hb hby d5_1n_141) rfl (by first | rfl | decide) (by decide) (by decide) ?_
    show Steps p.tables e below (T46.setTop (mkF m 223 Lo13 [])) _
    refine XS.iinc X46.here hx rfl (hb hby d5_1n_223) rfl (l' := Lo20) rfl ?_
    show Steps p.tables e below (T46.setTop (mkF m 226 Lo20 [])) _
    refine XS.goto X46.here hx rfl (pc0 := 226) (pc' := 95) rfl (hb hby d5_1n_226) (by decide) (by decide) ?_
    show Steps p.tables e below (T46.setTop (mkF m 95 Lo20 [])) _
    refine XS.iload X46.here hx rfl (hb hby d5_1n_95) rfl ?_
    show Steps p.tables e below (T46.setTop (mkF m 97 Lo20 [(.int (2 : Int32))])) _
    refine XS.aloadN X46.here hx rfl (hb hby d5_1n_97) rfl rfl ?_
    show Steps p.tables e below (T46.setTop (mkF m 98 Lo20 [(.ref a1), (.int (2 : Int32))])) _
    refine st47 _ ?_
    show Steps p.tables e below (T47.setTop (mkF m 101 Lo20 [(.int (3 : Int32)), (.int (2 : Int32))])) _
    refine XS.icmpNo X47.here hx rfl (hb hby d5_1n_101) rfl (by first | rfl | decide) ?_
    show Steps p.tables e below (T47.setTop (mkF m 104 Lo20 [])) _
    refine XS.aloadN X47.here hx rfl (hb hby d5_1n_104) rfl rfl ?_
    show Steps p.tables e below (T47.setTop (mkF m 105 Lo20 [(.ref a1)])) _
    refine st48 _ ?_
    show Steps p.tables e below (T48.setTop (mkF m 108 Lo20 [(.ref bb)])) _
    refine XS.iload X48.here hx rfl (hb hby d5_1n_108) rfl ?_
    show Steps p.tables e below (T48.setTop (mkF m 110 Lo20 [(.int (2 : Int32)), (.ref bb)])) _
    refine XS.aloadN X48.here hx rfl (hb hby d5_1n_110) rfl rfl ?_
    show Steps p.tables e below (T48.setTop (mkF m 111 Lo20 [(.ref a1), (.int (2 : Int32)), (.ref bb)])) _
    refine st49 _ ?_
    show Steps p.tables e below (T49.setTop (mkF m 114 Lo20 [(.int (3 : Int32)), (.int (2 : Int32)), (.ref bb)])) _
    refine XS.imul X49.here hx rfl (hb hby d5_1n_114) rfl ?_
    show Steps p.tables e below (T49.setTop (mkF m 115 Lo20 [(.int (6 : Int32)), (.ref bb)])) _
    refine XS.iloadN X49.here hx rfl (hb hby d5_1n_115) rfl ?_
    show Steps p.tables e below (T49.setTop (mkF m 116 Lo20 [(.int (1 : Int32)), (.int (6 : Int32)), (.ref bb)])) _
    refine XS.iadd X49.here hx rfl (hb hby d5_1n_116) rfl ?_
    show Steps p.tables e below (T49.setTop (mkF m 117 Lo20 [(.int (7 : Int32)), (.ref bb)])) _
    refine own_ldJ X49 hx hZ e49 A8 (j := (7 : Int32)) (by decide) (w := x7) rfl (g := (mkF m 117 Lo20 [(.int (7 : Int32)), (.ref bb)])) rfl rfl (hb hby d5_1n_117) _ ?_
    show Steps p.tables e below (T49.setTop (mkF m 118 Lo20 [(.long x7)])) _
    refine XS.lstore X49.here hx rfl (hb hby d5_1n_118) rfl (l' := Lo21) rfl ?_
    show Steps p.tables e below (T49.setTop (mkF m 120 Lo21 [])) _
    refine XS.lload X49.here hx rfl (hb hby d5_1n_120) rfl ?_
    show Steps p.tables e below (T49.setTop (mkF m 122 Lo21 [(.long x7)])) _
    refine X49.ldc2Long hx hown (mvT hZ w21_) (g := (mkF m 122 Lo21 [(.long x7)])) rfl (hb hby d5_1n_122) _ ?_
    show Steps p.tables e below (T49.setTop (mkF m 125 Lo21 [(.long (9223372036854775807 : Int64)), (.long x7)])) _
    refine XS.lcmp X49.here hx rfl (hb hby d5_1n_125) rfl ?_
    show Steps p.tables e below (T49.setTop (mkF m 126 Lo21 [(.int (lcmpW x7 (9223372036854775807 : Int64)))])) _
    refine XS.ifNo X49.here hx rfl (hb hby d5_1n_126) rfl (own_lw_ne_f h126_3) ?_
    show Steps p.tables e below (T49.setTop (mkF m 129 Lo21 [])) _
    refine XS.goto X49.here hx rfl (pc0 := 129) (pc' := 223) rfl (hb hby d5_1n_129) (by decide) (by decide) ?_
    show Steps p.tables e below (T49.setTop (mkF m 223 Lo21 [])) _
    refine XS.iinc X49.here hx rfl (hb hby d5_1n_223) rfl (l' := Lo22) rfl ?_
    show Steps p.tables e below (T49.setTop (mkF m 226 Lo22 [])) _
    refine XS.goto X49.here hx rfl (pc0 := 226) (pc' := 95) rfl (hb hby d5_1n_226) (by decide) (by decide) ?_
    show Steps p.tables e below (T49.setTop (mkF m 95 Lo22 [])) _
    refine XS.iload X49.here hx rfl (hb hby d5_1n_95) rfl ?_
    show Steps p.tables e below (T49.setTop (mkF m 97 Lo22 [(.int (3 : Int32))])) _
    refine XS.aloadN X49.here hx rfl (hb hby d5_1n_97) rfl rfl ?_
    show Steps p.tables e below (T49.setTop (mkF m 98 Lo22 [(.ref a1), (.int (3 : Int32))])) _
    refine st50 _ ?_
    show Steps p.tables e below (T50.setTop (mkF m 101 Lo22 [(.int (3 : Int32)), (.int (3 : Int32))])) _
    refine XS.icmpYes X50.here hx rfl (pc0 := 101) (pc' := 229) rfl (hb hby d5_1n_101) rfl (by first | rfl | decide) (by decide) (by decide) ?_
    show Steps p.tables e below (T50.setTop (mkF m 229 Lo22 [])) _
    refine XS.iconst X50.here hx rfl (hb hby d5_1n_229) ?_
    show Steps p.tables e below (T50.setTop (mkF m 230 Lo22 [(.int (1 : Int32))])) _
    exact own_retZ X50 hx Bd.returns (hb hby d5_1n_230) rfl rfl hr
  · show Q5_1n Z a1 q4 bb kk x0 x1 x2 x3 x4 x5 x6 x7 x8 h0 n0 _ T50.heap _
    rw [e50]
    exact ⟨(1 : Int32), x0, x1, x2, q4, x4, x5, x6, x7, x8, rfl, N8, K8, E8_a1, F8_size_a1, F8_bounds_a1, A8, ⟨rfl, rfl, rfl⟩⟩
def Q5_1 (Z : State) (a1 : Addr) (q4 : Int64) (bb : Addr) (kk : ClassId) (x0 : Int64) (x1 : Int64) (x2 : Int64) (x3 : Int64) (x4 : Int64) (x5 : Int64) (x6 : Int64) (x7 : Int64) (x8 : Int64) (h0 : Heap) (n0 : Nat) (v : Option Value) (h : Heap) (L : List Loc) : Prop := ∃ (ww : Int32) (y0 : Int64) (y1 : Int64) (y2 : Int64) (y3 : Int64) (y4 : Int64) (y5 : Int64) (y6 : Int64) (y7 : Int64) (y8 : Int64), v = some (.int ww) ∧ Fr n0 L ∧ Keep h0 h [a1, bb] ∧ (Exa Z h a1 "com/example/chronoscope/chronoscope/sim/Zone") ∧ (Fld Z h a1 "com/example/chronoscope/chronoscope/sim/Zone" "size" "I" (.int (3 : Int32))) ∧ (Fld Z h a1 "com/example/chronoscope/chronoscope/sim/Zone" "bounds" "[J" (.ref bb)) ∧ (Arv Z h bb kk .long (9 : Int32) [(.long y0), (.long y1), (.long y2), (.long y3), (.long y4), (.long y5), (.long y6), (.long y7), (.long y8)] (.long (0 : Int64))) ∧ (y0 = x0 ∧ y4 = x4 ∧ y8 = x8)
set_option maxRecDepth 65536 in
set_option maxHeartbeats 40000000 in
theorem rm5_1 (l : Launch) (Z : State) (a0 : Array Value) (hw : ∀ d ∈ tables_1, d.before a0 Z = true) (ws : List Jvm.Cond) (a1 : Addr) (q4 : Int64) (bb : Addr) (kk : ClassId) (x0 : Int64) (x1 : Int64) (x2 : Int64) (x3 : Int64) (x4 : Int64) (x5 : Int64) (x6 : Int64) (x7 : Int64) (x8 : Int64) (h0 : Heap) (n0 : Nat) (Z0 : n0 ≤ h0.size) (P0 : Exa Z h0 a1 "com/example/chronoscope/chronoscope/sim/Zone") (P1 : Fld Z h0 a1 "com/example/chronoscope/chronoscope/sim/Zone" "size" "I" (.int (3 : Int32))) (P2 : Fld Z h0 a1 "com/example/chronoscope/chronoscope/sim/Zone" "bounds" "[J" (.ref bb)) (P3 : Fld Z h0 a1 "com/example/chronoscope/chronoscope/sim/Zone" "empty" "Z" (.int (0 : Int32))) (P4 : Arv Z h0 bb kk .long (9 : Int32) [(.long x0), (.long x1), (.long x2), (.long x3), (.long x4), (.long x5), (.long x6), (.long x7), (.long x8)] (.long (0 : Int64))) (g_a1 : n0 ≤ a1) (g_bb : n0 ≤ bb) (ne_a1_bb : a1 ≠ bb) (h22_1 : q4 < x3) (h59_1 : ¬ x1 = (9223372036854775807 : Int64)) (hN : ¬ (x1 + q4) < (0 : Int64) → (¬ x0 = (9223372036854775807 : Int64)) ∧ (¬ ((x1 + q4) + x0) < x0) ∧ (¬ ((x1 + q4) + x1) < x1) ∧ (¬ x2 = (9223372036854775807 : Int64)) ∧ (¬ ((x1 + q4) + x2) < x2) ∧ (¬ x4 = (9223372036854775807 : Int64)) ∧ (¬ ((x4 + q4) + x0) < q4) ∧ (¬ ((x4 + q4) + x1) < x4) ∧ (¬ ((x4 + q4) + x2) < x5) ∧ (x7 = (9223372036854775807 : Int64))) :
    MetFree l (⟨"com/example/chronoscope/chronoscope/sim/Zone", "constrain", "(IIJ)Z"⟩ : MethodName) (head1 (Jvm.Cond.code (⟨"com/example/chronoscope/chronoscope/sim/Zone", "constrain", "(IIJ)Z"⟩ : MethodName) prog_347_method_7_code 13 (some .boolean) :: ws) ({ frames := 0, cells := 0, slots := 0, locals := 0 } : Room)) (fun a U => a = #[(.ref a1), (.int (1 : Int32)), (.int (0 : Int32)), (.long q4)] ∧ Z.Warmed39 U.vm ∧ U.heap = h0) (fun _ _ _ _ _ => True) (fun _ U o U' => ∃ v L, o = .returned v ∧ Q5_1 Z a1 q4 bb kk x0 x1 x2 x3 x4 x5 x6 x7 x8 h0 n0 v U'.heap L ∧ FrameEnd U o U' L ({ frames := 0, cells := 0, slots := 0, locals := 0 } : Room).cells ({ frames := 0, cells := 0, slots := 0, locals := 0 } : Room).slots) := by
  by_cases hE : (x1 + q4) < (0 : Int64)
  · exact rm5_1e l Z a0 hw ws a1 q4 bb kk x0 x1 x2 x3 x4 x5 x6 x7 x8 h0 n0 Z0 P0 P1 P2 P3 P4 g_a1 g_bb ne_a1_bb h22_1 h59_1 hE
  · obtain ⟨h166_1, h192_1, h192_2, h166_3, h192_3, h126_2, h192_4, h192_5, h192_6, h126_3⟩ := hN hE
    exact rm5_1n l Z a0 hw ws a1 q4 bb kk x0 x1 x2 x3 x4 x5 x6 x7 x8 h0 n0 Z0 P0 P1 P2 P3 P4 g_a1 g_bb ne_a1_bb h22_1 h59_1 hE h166_1 h192_1 h192_2 h166_3 h192_3 h126_2 h192_4 h192_5 h192_6 h126_3
theorem d5_2e_0 : decode prog_347_method_7_code 0 = .ok (.aload_n 0, 1) := by decide +kernel
theorem d5_2e_1 : decode prog_347_method_7_code 1 = .ok (.getfield 24, 3) := by decide +kernel
theorem d5_2e_4 : decode prog_347_method_7_code 4 = .ok (.ifCond .ne 21, 3) := by decide +kernel
theorem d5_2e_7 : decode prog_347_method_7_code 7 = .ok (.lload_n 3, 1) := by decide +kernel
theorem d5_2e_8 : decode prog_347_method_7_code 8 = .ok (.aload_n 0, 1) := by decide +kernel
theorem d5_2e_9 : decode prog_347_method_7_code 9 = .ok (.getfield 15, 3) := by decide +kernel
theorem d5_2e_12 : decode prog_347_method_7_code 12 = .ok (.iload_n 1, 1) := by decide +kernel
theorem d5_2e_13 : decode prog_347_method_7_code 13 = .ok (.aload_n 0, 1) := by decide +kernel
theorem d5_2e_14 : decode prog_347_method_7_code 14 = .ok (.getfield 9, 3) := by decide +kernel
theorem d5_2e_17 : decode prog_347_method_7_code 17 = .ok (.imul, 1) := by decide +kernel
theorem d5_2e_18 : decode prog_347_method_7_code 18 = .ok (.iload_n 2, 1) := by decide +kernel
theorem d5_2e_19 : decode prog_347_method_7_code 19 = .ok (.iadd, 1) := by decide +kernel
theorem d5_2e_20 : decode prog_347_method_7_code 20 = .ok (.laload, 1) := by decide +kernel
theorem d5_2e_21 : decode prog_347_method_7_code 21 = .ok (.lcmp, 1) := by decide +kernel
theorem d5_2e_22 : decode prog_347_method_7_code 22 = .ok (.ifCond .lt 16, 3) := by decide +kernel
theorem d5_2e_38 : decode prog_347_method_7_code 38 = .ok (.aload_n 0, 1) := by decide +kernel
theorem d5_2e_39 : decode prog_347_method_7_code 39 = .ok (.getfield 15, 3) := by decide +kernel
theorem d5_2e_42 : decode prog_347_method_7_code 42 = .ok (.iload_n 2, 1) := by decide +kernel
theorem d5_2e_43 : decode prog_347_method_7_code 43 = .ok (.aload_n 0, 1) := by decide +kernel
theorem d5_2e_44 : decode prog_347_method_7_code 44 = .ok (.getfield 9, 3) := by decide +kernel
theorem d5_2e_47 : decode prog_347_method_7_code 47 = .ok (.imul, 1) := by decide +kernel
theorem d5_2e_48 : decode prog_347_method_7_code 48 = .ok (.iload_n 1, 1) := by decide +kernel
theorem d5_2e_49 : decode prog_347_method_7_code 49 = .ok (.iadd, 1) := by decide +kernel
theorem d5_2e_50 : decode prog_347_method_7_code 50 = .ok (.laload, 1) := by decide +kernel
theorem d5_2e_51 : decode prog_347_method_7_code 51 = .ok (.lstore 5, 2) := by decide +kernel
theorem d5_2e_53 : decode prog_347_method_7_code 53 = .ok (.lload 5, 2) := by decide +kernel
theorem d5_2e_55 : decode prog_347_method_7_code 55 = .ok (.ldc2_w 31, 3) := by decide +kernel
theorem d5_2e_58 : decode prog_347_method_7_code 58 = .ok (.lcmp, 1) := by decide +kernel
theorem d5_2e_59 : decode prog_347_method_7_code 59 = .ok (.ifCond .eq 19, 3) := by decide +kernel
theorem d5_2e_62 : decode prog_347_method_7_code 62 = .ok (.lload 5, 2) := by decide +kernel
theorem d5_2e_64 : decode prog_347_method_7_code 64 = .ok (.lload_n 3, 1) := by decide +kernel
theorem d5_2e_65 : decode prog_347_method_7_code 65 = .ok (.ladd, 1) := by decide +kernel
theorem d5_2e_66 : decode prog_347_method_7_code 66 = .ok (.lconst 0, 1) := by decide +kernel
theorem d5_2e_67 : decode prog_347_method_7_code 67 = .ok (.lcmp, 1) := by decide +kernel
theorem d5_2e_68 : decode prog_347_method_7_code 68 = .ok (.ifCond .ge 10, 3) := by decide +kernel
theorem d5_2e_71 : decode prog_347_method_7_code 71 = .ok (.aload_n 0, 1) := by decide +kernel
theorem d5_2e_72 : decode prog_347_method_7_code 72 = .ok (.iconst 1, 1) := by decide +kernel
theorem d5_2e_73 : decode prog_347_method_7_code 73 = .ok (.putfield 24, 3) := by decide +kernel
theorem d5_2e_76 : decode prog_347_method_7_code 76 = .ok (.iconst 0, 1) := by decide +kernel
theorem d5_2e_77 : decode prog_347_method_7_code 77 = .ok (.ireturn, 1) := by decide +kernel
theorem pn_5_2e : plainName "com/example/chronoscope/chronoscope/sim/Zone" = true := by first | (simp [plainName, overriddenIn]; done) | decide +kernel
theorem ef_5_2e (m : MethodId) (x0 : Addr) (x1 : Int32) (x2 : Int32) (x3 : Int64) : entryFrame m #[(.ref x0), (.int x1), (.int x2), (.long x3)] 13 = mkF m 0 #[.val (.ref x0), .val (.int x1), .val (.int x2), .val (.long x3), .second, .unset, .unset, .unset, .unset, .unset, .unset, .unset, .unset] [] := by first | (simp [entryFrame, mkF, argsToLocals, Value.category]; done) | rfl
def Q5_2e (Z : State) (a1 : Addr) (q4 : Int64) (bb : Addr) (kk : ClassId) (x0 : Int64) (x1 : Int64) (x2 : Int64) (x3 : Int64) (x4 : Int64) (x5 : Int64) (x6 : Int64) (x7 : Int64) (x8 : Int64) (h0 : Heap) (n0 : Nat) (v : Option Value) (h : Heap) (L : List Loc) : Prop := ∃ (ww : Int32) (y0 : Int64) (y1 : Int64) (y2 : Int64) (y3 : Int64) (y4 : Int64) (y5 : Int64) (y6 : Int64) (y7 : Int64) (y8 : Int64), v = some (.int ww) ∧ Fr n0 L ∧ Keep h0 h [a1, bb] ∧ (Exa Z h a1 "com/example/chronoscope/chronoscope/sim/Zone") ∧ (Fld Z h a1 "com/example/chronoscope/chronoscope/sim/Zone" "size" "I" (.int (3 : Int32))) ∧ (Fld Z h a1 "com/example/chronoscope/chronoscope/sim/Zone" "bounds" "[J" (.ref bb)) ∧ (Arv Z h bb kk .long (9 : Int32) [(.long y0), (.long y1), (.long y2), (.long y3), (.long y4), (.long y5), (.long y6), (.long y7), (.long y8)] (.long (0 : Int64))) ∧ (y0 = x0 ∧ y4 = x4 ∧ y8 = x8)
set_option maxRecDepth 65536 in
set_option maxHeartbeats 40000000 in
theorem rm5_2e (l : Launch) (Z : State) (a0 : Array Value) (hw : ∀ d ∈ tables_1, d.before a0 Z = true) (ws : List Jvm.Cond) (a1 : Addr) (q4 : Int64) (bb : Addr) (kk : ClassId) (x0 : Int64) (x1 : Int64) (x2 : Int64) (x3 : Int64) (x4 : Int64) (x5 : Int64) (x6 : Int64) (x7 : Int64) (x8 : Int64) (h0 : Heap) (n0 : Nat) (Z0 : n0 ≤ h0.size) (P0 : Exa Z h0 a1 "com/example/chronoscope/chronoscope/sim/Zone") (P1 : Fld Z h0 a1 "com/example/chronoscope/chronoscope/sim/Zone" "size" "I" (.int (3 : Int32))) (P2 : Fld Z h0 a1 "com/example/chronoscope/chronoscope/sim/Zone" "bounds" "[J" (.ref bb)) (P3 : Fld Z h0 a1 "com/example/chronoscope/chronoscope/sim/Zone" "empty" "Z" (.int (0 : Int32))) (P4 : Arv Z h0 bb kk .long (9 : Int32) [(.long x0), (.long x1), (.long x2), (.long x3), (.long x4), (.long x5), (.long x6), (.long x7), (.long x8)] (.long (0 : Int64))) (g_a1 : n0 ≤ a1) (g_bb : n0 ≤ bb) (ne_a1_bb : a1 ≠ bb) (h22_1 : q4 < x6) (h59_1 : ¬ x2 = (9223372036854775807 : Int64)) (h68_1 : (x2 + q4) < (0 : Int64)) :
    MetFree l (⟨"com/example/chronoscope/chronoscope/sim/Zone", "constrain", "(IIJ)Z"⟩ : MethodName) (head1 (Jvm.Cond.code (⟨"com/example/chronoscope/chronoscope/sim/Zone", "constrain", "(IIJ)Z"⟩ : MethodName) prog_347_method_7_code 13 (some .boolean) :: ws) ({ frames := 0, cells := 0, slots := 0, locals := 0 } : Room)) (fun a U => a = #[(.ref a1), (.int (2 : Int32)), (.int (0 : Int32)), (.long q4)] ∧ Z.Warmed39 U.vm ∧ U.heap = h0) (fun _ _ _ _ _ => True) (fun _ U o U' => ∃ v L, o = .returned v ∧ Q5_2e Z a1 q4 bb kk x0 x1 x2 x3 x4 x5 x6 x7 x8 h0 n0 v U'.heap L ∧ FrameEnd U o U' L ({ frames := 0, cells := 0, slots := 0, locals := 0 } : Room).cells ({ frames := 0, cells := 0, slots := 0, locals := 0 } : Room).slots) := by
  refine MetFree.of_bodySF (plainFor_of_name pn_5_2e) hisR ?_
  intro p e s m args below meth c s₁ Bd hml0 hP hK
  obtain ⟨rfl, hZ, hh⟩ := hP
  have w4_ := hw _ (List.mem_of_getElem? (i := 4) rfl)
  have w12_ := hw _ (List.mem_of_getElem? (i := 12) rfl)
  have w13_ := hw _ (List.mem_of_getElem? (i := 13) rfl)
  have w14_ := hw _ (List.mem_of_getElem? (i := 14) rfl)
  have w15_ := hw _ (List.mem_of_getElem? (i := 15) rfl)
  have w21_ := hw _ (List.mem_of_getElem? (i := 21) rfl)
  have w32_ := hw _ (List.mem_of_getElem? (i := 32) rfl)
  have w33_ := hw _ (List.mem_of_getElem? (i := 33) rfl)
  have hx := Bd.exec
  have hby := Bd.bytes
  have hml : c.maxLocals = 13 := hml0
  have hown : s.vm.findClass "com/example/chronoscope/chronoscope/sim/Zone" = some m.cls := findClass_of_methodNamed Bd.named
  have hnm := (name_of_methodNamed Bd.named Bd.method).1
  have X0 : Stand p l e ({ frames := 0, cells := 0, slots := 0, locals := 0 } : Room) s m #[(.ref a1), (.int (2 : Int32)), (.int (0 : Int32)), (.long q4)] below meth c s₁ [] 0 0 := Stand.of_body Bd
  have e0 : s₁.heap = h0 := by rw [← hh, Bd.state]; rfl
  have N0 := Fr.nil n0
  have pre0 : ∀ t, Steps p.tables e below (s₁.setTop (mkF m 0 #[.val (.ref a1), .val (.int (2 : Int32)), .val (.int (0 : Int32)), .val (.long q4), .second, .unset, .unset, .unset, .unset, .unset, .unset, .unset, .unset] [])) t → Steps p.tables e below (s₁.setTop (entryFrame m #[(.ref a1), (.int (2 : Int32)), (.int (0 : Int32)), (.long q4)] 13)) t := fun t k => castTop (ef_5_2e m a1 (2 : Int32) (0 : Int32) q4) k
  let Lo1 : Array Slot := #[.val (.ref a1), .val (.int (2 : Int32)), .val (.int (0 : Int32)), .val (.long q4), .second, .unset, .unset, .unset, .unset, .unset, .unset, .unset, .unset]
  obtain ⟨T1, X1, e1, st1⟩ := getF X0 hx hZ hown (host := "") (Or.inl w32_) Via.refl e0 P3 (g := (mkF m 1 Lo1 [(.ref a1)])) rfl rfl (hb hby d5_2e_1)
  obtain ⟨T2, X2, e2, st2⟩ := getF X1 hx hZ hown (host := "") (Or.inl w14_) Via.refl e1 P2 (g := (mkF m 9 Lo1 [(.ref a1), (.long q4)])) rfl rfl (hb hby d5_2e_9)
  obtain ⟨T3, X3, e3, st3⟩ := getF X2 hx hZ hown (host := "") (Or.inl w12_) Via.refl e2 P1 (g := (mkF m 14 Lo1 [(.ref a1), (.int (2 : Int32)), (.ref bb), (.long q4)])) rfl rfl (hb hby d5_2e_14)
  obtain ⟨T4, X4, e4, st4⟩ := getF X3 hx hZ hown (host := "") (Or.inl w14_) Via.refl e3 P2 (g := (mkF m 39 Lo1 [(.ref a1)])) rfl rfl (hb hby d5_2e_39)
  obtain ⟨T5, X5, e5, st5⟩ := getF X4 hx hZ hown (host := "") (Or.inl w12_) Via.refl e4 P1 (g := (mkF m 44 Lo1 [(.ref a1), (.int (0 : Int32)), (.ref bb)])) rfl rfl (hb hby d5_2e_44)
  let Lo2 : Array Slot := #[.val (.ref a1), .val (.int (2 : Int32)), .val (.int (0 : Int32)), .val (.long q4), .second, .val (.long x2), .second, .unset, .unset, .unset, .unset, .unset, .unset]
  obtain ⟨T6, h6, X6, e6, W6, st6⟩ := putF X5 hx hZ hown (host := "") (Or.inl w32_) Via.refl e5 P3 P0 (Or.inl w33_) w4_ (ty := .boolean) (by decide) rfl rfl (g := (mkF m 73 Lo2 [(.int (1 : Int32)), (.ref a1)])) rfl rfl (hb hby d5_2e_73)
  have F6_size_a1 := P1.other W6 (Or.inr (slot_ne (Or.inr w13_) (Or.inl w33_) (by decide) (t := .int) (t' := .boolean) (by decide) (by decide)))
  have F6_bounds_a1 := P2.other W6 (Or.inr (slot_ne (Or.inr w15_) (Or.inl w33_) (by decide) (t := (.array .long)) (t' := .boolean) (by decide) (by decide)))
  have F6_empty_a1 := P3.same W6
  have E6_a1 := P0.wr W6
  have A6_bb := P4.other W6 (Ne.symm ne_a1_bb)
  have K6 : Keep h0 h6 [a1, bb] := (Keep.refl h0 [a1, bb]).wr W6 (Or.inl (List.mem_of_getElem? (i := 0) rfl))
  have Z6 : n0 ≤ h6.size := Nat.le_trans Z0 (Keep.of_wr W6).1
  have N6 := Fr.snoc X6 N0 g_a1
  obtain ⟨fs, hr, hrun, hended, hW, hsame⟩ := X6.leave (v := some (.int (0 : Int32))) (fun h => by rw [Bd.returns] at h; cases h)
  refine ⟨_, _, pre0 _ ?_, hrun, hended, _, _, rfl, ?_, ⟨_, rfl⟩, hW, hsame.mono (by decide) (by decide)⟩
  · show Steps p.tables e below (s₁.setTop (mkF m 0 Lo1 [])) _
    refine XS.aloadN X0.here hx rfl (hb hby d5_2e_0) rfl rfl ?_
    show Steps p.tables e below (s₁.setTop (mkF m 1 Lo1 [(.ref a1)])) _
    refine st1 _ ?_
    show Steps p.tables e below (T1.setTop (mkF m 4 Lo1 [(.int (0 : Int32))])) _
    refine XS.ifNo X1.here hx rfl (hb hby d5_2e_4) rfl (by first | rfl | decide) ?_
    show Steps p.tables e below (T1.setTop (mkF m 7 Lo1 [])) _
    refine XS.lloadN X1.here hx rfl (hb hby d5_2e_7) rfl ?_
    show Steps p.tables e below (T1.setTop (mkF m 8 Lo1 [(.long q4)])) _
    refine XS.aloadN X1.here hx rfl (hb hby d5_2e_8) rfl rfl ?_
    show Steps p.tables e below (T1.setTop (mkF m 9 Lo1 [(.ref a1), (.long q4)])) _
    refine st2 _ ?_
    show Steps p.tables e below (T2.setTop (mkF m 12 Lo1 [(.ref bb), (.long q4)])) _
    refine XS.iloadN X2.here hx rfl (hb hby d5_2e_12) rfl ?_
    show Steps p.tables e below (T2.setTop (mkF m 13 Lo1 [(.int (2 : Int32)), (.ref bb), (.long q4)])) _
    refine XS.aloadN X2.here hx rfl (hb hby d5_2e_13) rfl rfl ?_
    show Steps p.tables e below (T2.setTop (mkF m 14 Lo1 [(.ref a1), (.int (2 : Int32)), (.ref bb), (.long q4)])) _
    refine st3 _ ?_
    show Steps p.tables e below (T3.setTop (mkF m 17 Lo1 [(.int (3 : Int32)), (.int (2 : Int32)), (.ref bb), (.long q4)])) _
    refine XS.imul X3.here hx rfl (hb hby d5_2e_17) rfl ?_
    show Steps p.tables e below (T3.setTop (mkF m 18 Lo1 [(.int (6 : Int32)), (.ref bb), (.long q4)])) _
    refine XS.iloadN X3.here hx rfl (hb hby d5_2e_18) rfl ?_
    show Steps p.tables e below (T3.setTop (mkF m 19 Lo1 [(.int (0 : Int32)), (.int (6 : Int32)), (.ref bb), (.long q4)])) _
    refine XS.iadd X3.here hx rfl (hb hby d5_2e_19) rfl ?_
    show Steps p.tables e below (T3.setTop (mkF m 20 Lo1 [(.int (6 : Int32)), (.ref bb), (.long q4)])) _
    refine own_ldJ X3 hx hZ e3 P4 (j := (6 : Int32)) (by decide) (w := x6) rfl (g := (mkF m 20 Lo1 [(.int (6 : Int32)), (.ref bb), (.long q4)])) rfl rfl (hb hby d5_2e_20) _ ?_
    show Steps p.tables e below (T3.setTop (mkF m 21 Lo1 [(.long x6), (.long q4)])) _
    refine XS.lcmp X3.here hx rfl (hb hby d5_2e_21) rfl ?_
    show Steps p.tables e below (T3.setTop (mkF m 22 Lo1 [(.int (lcmpW q4 x6))])) _
    refine XS.ifYes X3.here hx rfl (pc0 := 22) (pc' := 38) rfl (hb hby d5_2e_22) rfl (own_lw_lt_t h22_1) (by decide) (by decide) ?_
    show Steps p.tables e below (T3.setTop (mkF m 38 Lo1 [])) _
    refine XS.aloadN X3.here hx rfl (hb hby d5_2e_38) rfl rfl ?_
    show Steps p.tables e below (T3.setTop (mkF m 39 Lo1 [(.ref a1)])) _
    refine st4 _ ?_
    show Steps p.tables e below (T4.setTop (mkF m 42 Lo1 [(.ref bb)])) _
    refine XS.iloadN X4.here hx rfl (hb hby d5_2e_42) rfl ?_
    show Steps p.tables e below (T4.setTop (mkF m 43 Lo1 [(.int (0 : Int32)), (.ref bb)])) _
    refine XS.aloadN X4.here hx rfl (hb hby d5_2e_43) rfl rfl ?_
    show Steps p.tables e below (T4.setTop (mkF m 44 Lo1 [(.ref a1), (.int (0 : Int32)), (.ref bb)])) _
    refine st5 _ ?_
    show Steps p.tables e below (T5.setTop (mkF m 47 Lo1 [(.int (3 : Int32)), (.int (0 : Int32)), (.ref bb)])) _
    refine XS.imul X5.here hx rfl (hb hby d5_2e_47) rfl ?_
    show Steps p.tables e below (T5.setTop (mkF m 48 Lo1 [(.int (0 : Int32)), (.ref bb)])) _
    refine XS.iloadN X5.here hx rfl (hb hby d5_2e_48) rfl ?_
    show Steps p.tables e below (T5.setTop (mkF m 49 Lo1 [(.int (2 : Int32)), (.int (0 : Int32)), (.ref bb)])) _
    refine XS.iadd X5.here hx rfl (hb hby d5_2e_49) rfl ?_
    show Steps p.tables e below (T5.setTop (mkF m 50 Lo1 [(.int (2 : Int32)), (.ref bb)])) _
    refine own_ldJ X5 hx hZ e5 P4 (j := (2 : Int32)) (by decide) (w := x2) rfl (g := (mkF m 50 Lo1 [(.int (2 : Int32)), (.ref bb)])) rfl rfl (hb hby d5_2e_50) _ ?_
    show Steps p.tables e below (T5.setTop (mkF m 51 Lo1 [(.long x2)])) _
    refine XS.lstore X5.here hx rfl (hb hby d5_2e_51) rfl (l' := Lo2) rfl ?_
    show Steps p.tables e below (T5.setTop (mkF m 53 Lo2 [])) _
    refine XS.lload X5.here hx rfl (hb hby d5_2e_53) rfl ?_
    show Steps p.tables e below (T5.setTop (mkF m 55 Lo2 [(.long x2)])) _
    refine X5.ldc2Long hx hown (mvT hZ w21_) (g := (mkF m 55 Lo2 [(.long x2)])) rfl (hb hby d5_2e_55) _ ?_
    show Steps p.tables e below (T5.setTop (mkF m 58 Lo2 [(.long (9223372036854775807 : Int64)), (.long x2)])) _
    refine XS.lcmp X5.here hx rfl (hb hby d5_2e_58) rfl ?_
    show Steps p.tables e below (T5.setTop (mkF m 59 Lo2 [(.int (lcmpW x2 (9223372036854775807 : Int64)))])) _
    refine XS.ifNo X5.here hx rfl (hb hby d5_2e_59) rfl (own_lw_eq_f h59_1) ?_
    show Steps p.tables e below (T5.setTop (mkF m 62 Lo2 [])) _
    refine XS.lload X5.here hx rfl (hb hby d5_2e_62) rfl ?_
    show Steps p.tables e below (T5.setTop (mkF m 64 Lo2 [(.long x2)])) _
    refine XS.lloadN X5.here hx rfl (hb hby d5_2e_64) rfl ?_
    show Steps p.tables e below (T5.setTop (mkF m 65 Lo2 [(.long q4), (.long x2)])) _
    refine XS.ladd X5.here hx rfl (hb hby d5_2e_65) rfl ?_
    show Steps p.tables e below (T5.setTop (mkF m 66 Lo2 [(.long (x2 + q4))])) _
    refine XS.lconst X5.here hx rfl (hb hby d5_2e_66) ?_
    show Steps p.tables e below (T5.setTop (mkF m 67 Lo2 [(.long (0 : Int64)), (.long (x2 + q4))])) _
    refine XS.lcmp X5.here hx rfl (hb hby d5_2e_67) rfl ?_
    show Steps p.tables e below (T5.setTop (mkF m 68 Lo2 [(.int (lcmpW (x2 + q4) (0 : Int64)))])) _
    refine XS.ifNo X5.here hx rfl (hb hby d5_2e_68) rfl (own_lw_ge_f h68_1) ?_
    show Steps p.tables e below (T5.setTop (mkF m 71 Lo2 [])) _
    refine XS.aloadN X5.here hx rfl (hb hby d5_2e_71) rfl rfl ?_
    show Steps p.tables e below (T5.setTop (mkF m 72 Lo2 [(.ref a1)])) _
    refine XS.iconst X5.here hx rfl (hb hby d5_2e_72) ?_
    show Steps p.tables e below (T5.setTop (mkF m 73 Lo2 [(.int (1 : Int32)), (.ref a1)])) _
    refine st6 _ ?_
    show Steps p.tables e below (T6.setTop (mkF m 76 Lo2 [])) _
    refine XS.iconst X6.here hx rfl (hb hby d5_2e_76) ?_
    show Steps p.tables e below (T6.setTop (mkF m 77 Lo2 [(.int (0 : Int32))])) _
    exact own_retZ X6 hx Bd.returns (hb hby d5_2e_77) rfl rfl hr
  · show Q5_2e Z a1 q4 bb kk x0 x1 x2 x3 x4 x5 x6 x7 x8 h0 n0 _ T6.heap _
    rw [e6]
    exact ⟨(0 : Int32), x0, x1, x2, x3, x4, x5, x6, x7, x8, rfl, N6, K6, E6_a1, F6_size_a1, F6_bounds_a1, A6_bb, ⟨rfl, rfl, rfl⟩⟩
theorem d5_2n_0 : decode prog_347_method_7_code 0 = .ok (.aload_n 0, 1) := by decide +kernel
theorem d5_2n_1 : decode prog_347_method_7_code 1 = .ok (.getfield 24, 3) := by decide +kernel
theorem d5_2n_4 : decode prog_347_method_7_code 4 = .ok (.ifCond .ne 21, 3) := by decide +kernel
theorem d5_2n_7 : decode prog_347_method_7_code 7 = .ok (.lload_n 3, 1) := by decide +kernel
theorem d5_2n_8 : decode prog_347_method_7_code 8 = .ok (.aload_n 0, 1) := by decide +kernel
theorem d5_2n_9 : decode prog_347_method_7_code 9 = .ok (.getfield 15, 3) := by decide +kernel
theorem d5_2n_12 : decode prog_347_method_7_code 12 = .ok (.iload_n 1, 1) := by decide +kernel
theorem d5_2n_13 : decode prog_347_method_7_code 13 = .ok (.aload_n 0, 1) := by decide +kernel
theorem d5_2n_14 : decode prog_347_method_7_code 14 = .ok (.getfield 9, 3) := by decide +kernel
theorem d5_2n_17 : decode prog_347_method_7_code 17 = .ok (.imul, 1) := by decide +kernel
theorem d5_2n_18 : decode prog_347_method_7_code 18 = .ok (.iload_n 2, 1) := by decide +kernel
theorem d5_2n_19 : decode prog_347_method_7_code 19 = .ok (.iadd, 1) := by decide +kernel
theorem d5_2n_20 : decode prog_347_method_7_code 20 = .ok (.laload, 1) := by decide +kernel
theorem d5_2n_21 : decode prog_347_method_7_code 21 = .ok (.lcmp, 1) := by decide +kernel
theorem d5_2n_22 : decode prog_347_method_7_code 22 = .ok (.ifCond .lt 16, 3) := by decide +kernel
theorem d5_2n_38 : decode prog_347_method_7_code 38 = .ok (.aload_n 0, 1) := by decide +kernel
theorem d5_2n_39 : decode prog_347_method_7_code 39 = .ok (.getfield 15, 3) := by decide +kernel
theorem d5_2n_42 : decode prog_347_method_7_code 42 = .ok (.iload_n 2, 1) := by decide +kernel
theorem d5_2n_43 : decode prog_347_method_7_code 43 = .ok (.aload_n 0, 1) := by decide +kernel
theorem d5_2n_44 : decode prog_347_method_7_code 44 = .ok (.getfield 9, 3) := by decide +kernel
theorem d5_2n_47 : decode prog_347_method_7_code 47 = .ok (.imul, 1) := by decide +kernel
theorem d5_2n_48 : decode prog_347_method_7_code 48 = .ok (.iload_n 1, 1) := by decide +kernel
theorem d5_2n_49 : decode prog_347_method_7_code 49 = .ok (.iadd, 1) := by decide +kernel
theorem d5_2n_50 : decode prog_347_method_7_code 50 = .ok (.laload, 1) := by decide +kernel
theorem d5_2n_51 : decode prog_347_method_7_code 51 = .ok (.lstore 5, 2) := by decide +kernel
theorem d5_2n_53 : decode prog_347_method_7_code 53 = .ok (.lload 5, 2) := by decide +kernel
theorem d5_2n_55 : decode prog_347_method_7_code 55 = .ok (.ldc2_w 31, 3) := by decide +kernel
theorem d5_2n_58 : decode prog_347_method_7_code 58 = .ok (.lcmp, 1) := by decide +kernel
theorem d5_2n_59 : decode prog_347_method_7_code 59 = .ok (.ifCond .eq 19, 3) := by decide +kernel
theorem d5_2n_62 : decode prog_347_method_7_code 62 = .ok (.lload 5, 2) := by decide +kernel
theorem d5_2n_64 : decode prog_347_method_7_code 64 = .ok (.lload_n 3, 1) := by decide +kernel
theorem d5_2n_65 : decode prog_347_method_7_code 65 = .ok (.ladd, 1) := by decide +kernel
theorem d5_2n_66 : decode prog_347_method_7_code 66 = .ok (.lconst 0, 1) := by decide +kernel
theorem d5_2n_67 : decode prog_347_method_7_code 67 = .ok (.lcmp, 1) := by decide +kernel
theorem d5_2n_68 : decode prog_347_method_7_code 68 = .ok (.ifCond .ge 10, 3) := by decide +kernel
theorem d5_2n_78 : decode prog_347_method_7_code 78 = .ok (.aload_n 0, 1) := by decide +kernel
theorem d5_2n_79 : decode prog_347_method_7_code 79 = .ok (.getfield 15, 3) := by decide +kernel
theorem d5_2n_82 : decode prog_347_method_7_code 82 = .ok (.iload_n 1, 1) := by decide +kernel
theorem d5_2n_83 : decode prog_347_method_7_code 83 = .ok (.aload_n 0, 1) := by decide +kernel
theorem d5_2n_84 : decode prog_347_method_7_code 84 = .ok (.getfield 9, 3) := by decide +kernel
theorem d5_2n_87 : decode prog_347_method_7_code 87 = .ok (.imul, 1) := by decide +kernel
theorem d5_2n_88 : decode prog_347_method_7_code 88 = .ok (.iload_n 2, 1) := by decide +kernel
theorem d5_2n_89 : decode prog_347_method_7_code 89 = .ok (.iadd, 1) := by decide +kernel
theorem d5_2n_90 : decode prog_347_method_7_code 90 = .ok (.lload_n 3, 1) := by decide +kernel
theorem d5_2n_91 : decode prog_347_method_7_code 91 = .ok (.lastore, 1) := by decide +kernel
theorem d5_2n_92 : decode prog_347_method_7_code 92 = .ok (.iconst 0, 1) := by decide +kernel
theorem d5_2n_93 : decode prog_347_method_7_code 93 = .ok (.istore 7, 2) := by decide +kernel
theorem d5_2n_95 : decode prog_347_method_7_code 95 = .ok (.iload 7, 2) := by decide +kernel
theorem d5_2n_97 : decode prog_347_method_7_code 97 = .ok (.aload_n 0, 1) := by decide +kernel
theorem d5_2n_98 : decode prog_347_method_7_code 98 = .ok (.getfield 9, 3) := by decide +kernel
theorem d5_2n_101 : decode prog_347_method_7_code 101 = .ok (.if_icmp .ge 128, 3) := by decide +kernel
theorem d5_2n_104 : decode prog_347_method_7_code 104 = .ok (.aload_n 0, 1) := by decide +kernel
theorem d5_2n_105 : decode prog_347_method_7_code 105 = .ok (.getfield 15, 3) := by decide +kernel
theorem d5_2n_108 : decode prog_347_method_7_code 108 = .ok (.iload 7, 2) := by decide +kernel
theorem d5_2n_110 : decode prog_347_method_7_code 110 = .ok (.aload_n 0, 1) := by decide +kernel
theorem d5_2n_111 : decode prog_347_method_7_code 111 = .ok (.getfield 9, 3) := by decide +kernel
theorem d5_2n_114 : decode prog_347_method_7_code 114 = .ok (.imul, 1) := by decide +kernel
theorem d5_2n_115 : decode prog_347_method_7_code 115 = .ok (.iload_n 1, 1) := by decide +kernel
theorem d5_2n_116 : decode prog_347_method_7_code 116 = .ok (.iadd, 1) := by decide +kernel
theorem d5_2n_117 : decode prog_347_method_7_code 117 = .ok (.laload, 1) := by decide +kernel
theorem d5_2n_118 : decode prog_347_method_7_code 118 = .ok (.lstore 8, 2) := by decide +kernel
theorem d5_2n_120 : decode prog_347_method_7_code 120 = .ok (.lload 8, 2) := by decide +kernel
theorem d5_2n_122 : decode prog_347_method_7_code 122 = .ok (.ldc2_w 31, 3) := by decide +kernel
theorem d5_2n_125 : decode prog_347_method_7_code 125 = .ok (.lcmp, 1) := by decide +kernel
theorem d5_2n_126 : decode prog_347_method_7_code 126 = .ok (.ifCond .ne 6, 3) := by decide +kernel
theorem d5_2n_129 : decode prog_347_method_7_code 129 = .ok (.goto 94, 3) := by decide +kernel
theorem d5_2n_132 : decode prog_347_method_7_code 132 = .ok (.iconst 0, 1) := by decide +kernel
theorem d5_2n_133 : decode prog_347_method_7_code 133 = .ok (.istore 10, 2) := by decide +kernel
theorem d5_2n_135 : decode prog_347_method_7_code 135 = .ok (.iload 10, 2) := by decide +kernel
theorem d5_2n_137 : decode prog_347_method_7_code 137 = .ok (.aload_n 0, 1) := by decide +kernel
theorem d5_2n_138 : decode prog_347_method_7_code 138 = .ok (.getfield 9, 3) := by decide +kernel
theorem d5_2n_141 : decode prog_347_method_7_code 141 = .ok (.if_icmp .ge 82, 3) := by decide +kernel
theorem d5_2n_144 : decode prog_347_method_7_code 144 = .ok (.aload_n 0, 1) := by decide +kernel
theorem d5_2n_145 : decode prog_347_method_7_code 145 = .ok (.getfield 15, 3) := by decide +kernel
theorem d5_2n_148 : decode prog_347_method_7_code 148 = .ok (.iload_n 2, 1) := by decide +kernel
theorem d5_2n_149 : decode prog_347_method_7_code 149 = .ok (.aload_n 0, 1) := by decide +kernel
theorem d5_2n_150 : decode prog_347_method_7_code 150 = .ok (.getfield 9, 3) := by decide +kernel
theorem d5_2n_153 : decode prog_347_method_7_code 153 = .ok (.imul, 1) := by decide +kernel
theorem d5_2n_154 : decode prog_347_method_7_code 154 = .ok (.iload 10, 2) := by decide +kernel
theorem d5_2n_156 : decode prog_347_method_7_code 156 = .ok (.iadd, 1) := by decide +kernel
theorem d5_2n_157 : decode prog_347_method_7_code 157 = .ok (.laload, 1) := by decide +kernel
theorem d5_2n_158 : decode prog_347_method_7_code 158 = .ok (.lstore 11, 2) := by decide +kernel
theorem d5_2n_160 : decode prog_347_method_7_code 160 = .ok (.lload 11, 2) := by decide +kernel
theorem d5_2n_162 : decode prog_347_method_7_code 162 = .ok (.ldc2_w 31, 3) := by decide +kernel
theorem d5_2n_165 : decode prog_347_method_7_code 165 = .ok (.lcmp, 1) := by decide +kernel
theorem d5_2n_166 : decode prog_347_method_7_code 166 = .ok (.ifCond .eq 51, 3) := by decide +kernel
theorem d5_2n_169 : decode prog_347_method_7_code 169 = .ok (.lload 8, 2) := by decide +kernel
theorem d5_2n_171 : decode prog_347_method_7_code 171 = .ok (.lload_n 3, 1) := by decide +kernel
theorem d5_2n_172 : decode prog_347_method_7_code 172 = .ok (.ladd, 1) := by decide +kernel
theorem d5_2n_173 : decode prog_347_method_7_code 173 = .ok (.lload 11, 2) := by decide +kernel
theorem d5_2n_175 : decode prog_347_method_7_code 175 = .ok (.ladd, 1) := by decide +kernel
theorem d5_2n_176 : decode prog_347_method_7_code 176 = .ok (.aload_n 0, 1) := by decide +kernel
theorem d5_2n_177 : decode prog_347_method_7_code 177 = .ok (.getfield 15, 3) := by decide +kernel
theorem d5_2n_180 : decode prog_347_method_7_code 180 = .ok (.iload 7, 2) := by decide +kernel
theorem d5_2n_182 : decode prog_347_method_7_code 182 = .ok (.aload_n 0, 1) := by decide +kernel
theorem d5_2n_183 : decode prog_347_method_7_code 183 = .ok (.getfield 9, 3) := by decide +kernel
theorem d5_2n_186 : decode prog_347_method_7_code 186 = .ok (.imul, 1) := by decide +kernel
theorem d5_2n_187 : decode prog_347_method_7_code 187 = .ok (.iload 10, 2) := by decide +kernel
theorem d5_2n_189 : decode prog_347_method_7_code 189 = .ok (.iadd, 1) := by decide +kernel
theorem d5_2n_190 : decode prog_347_method_7_code 190 = .ok (.laload, 1) := by decide +kernel
theorem d5_2n_191 : decode prog_347_method_7_code 191 = .ok (.lcmp, 1) := by decide +kernel
theorem d5_2n_192 : decode prog_347_method_7_code 192 = .ok (.ifCond .ge 25, 3) := by decide +kernel
theorem d5_2n_217 : decode prog_347_method_7_code 217 = .ok (.iinc 10 1, 3) := by decide +kernel
theorem d5_2n_220 : decode prog_347_method_7_code 220 = .ok (.goto (-85), 3) := by decide +kernel
theorem d5_2n_223 : decode prog_347_method_7_code 223 = .ok (.iinc 7 1, 3) := by decide +kernel
theorem d5_2n_226 : decode prog_347_method_7_code 226 = .ok (.goto (-131), 3) := by decide +kernel
theorem d5_2n_229 : decode prog_347_method_7_code 229 = .ok (.iconst 1, 1) := by decide +kernel
theorem d5_2n_230 : decode prog_347_method_7_code 230 = .ok (.ireturn, 1) := by decide +kernel
theorem pn_5_2n : plainName "com/example/chronoscope/chronoscope/sim/Zone" = true := by first | (simp [plainName, overriddenIn]; done) | decide +kernel
theorem ef_5_2n (m : MethodId) (x0 : Addr) (x1 : Int32) (x2 : Int32) (x3 : Int64) : entryFrame m #[(.ref x0), (.int x1), (.int x2), (.long x3)] 13 = mkF m 0 #[.val (.ref x0), .val (.int x1), .val (.int x2), .val (.long x3), .second, .unset, .unset, .unset, .unset, .unset, .unset, .unset, .unset] [] := by first | (simp [entryFrame, mkF, argsToLocals, Value.category]; done) | rfl
def Q5_2n (Z : State) (a1 : Addr) (q4 : Int64) (bb : Addr) (kk : ClassId) (x0 : Int64) (x1 : Int64) (x2 : Int64) (x3 : Int64) (x4 : Int64) (x5 : Int64) (x6 : Int64) (x7 : Int64) (x8 : Int64) (h0 : Heap) (n0 : Nat) (v : Option Value) (h : Heap) (L : List Loc) : Prop := ∃ (ww : Int32) (y0 : Int64) (y1 : Int64) (y2 : Int64) (y3 : Int64) (y4 : Int64) (y5 : Int64) (y6 : Int64) (y7 : Int64) (y8 : Int64), v = some (.int ww) ∧ Fr n0 L ∧ Keep h0 h [a1, bb] ∧ (Exa Z h a1 "com/example/chronoscope/chronoscope/sim/Zone") ∧ (Fld Z h a1 "com/example/chronoscope/chronoscope/sim/Zone" "size" "I" (.int (3 : Int32))) ∧ (Fld Z h a1 "com/example/chronoscope/chronoscope/sim/Zone" "bounds" "[J" (.ref bb)) ∧ (Arv Z h bb kk .long (9 : Int32) [(.long y0), (.long y1), (.long y2), (.long y3), (.long y4), (.long y5), (.long y6), (.long y7), (.long y8)] (.long (0 : Int64))) ∧ (y0 = x0 ∧ y4 = x4 ∧ y8 = x8)
set_option maxRecDepth 65536 in
set_option maxHeartbeats 40000000 in
theorem rm5_2n (l : Launch) (Z : State) (a0 : Array Value) (hw : ∀ d ∈ tables_1, d.before a0 Z = true) (ws : List Jvm.Cond) (a1 : Addr) (q4 : Int64) (bb : Addr) (kk : ClassId) (x0 : Int64) (x1 : Int64) (x2 : Int64) (x3 : Int64) (x4 : Int64) (x5 : Int64) (x6 : Int64) (x7 : Int64) (x8 : Int64) (h0 : Heap) (n0 : Nat) (Z0 : n0 ≤ h0.size) (P0 : Exa Z h0 a1 "com/example/chronoscope/chronoscope/sim/Zone") (P1 : Fld Z h0 a1 "com/example/chronoscope/chronoscope/sim/Zone" "size" "I" (.int (3 : Int32))) (P2 : Fld Z h0 a1 "com/example/chronoscope/chronoscope/sim/Zone" "bounds" "[J" (.ref bb)) (P3 : Fld Z h0 a1 "com/example/chronoscope/chronoscope/sim/Zone" "empty" "Z" (.int (0 : Int32))) (P4 : Arv Z h0 bb kk .long (9 : Int32) [(.long x0), (.long x1), (.long x2), (.long x3), (.long x4), (.long x5), (.long x6), (.long x7), (.long x8)] (.long (0 : Int64))) (g_a1 : n0 ≤ a1) (g_bb : n0 ≤ bb) (ne_a1_bb : a1 ≠ bb) (h22_1 : q4 < x6) (h59_1 : ¬ x2 = (9223372036854775807 : Int64)) (h68_1 : ¬ (x2 + q4) < (0 : Int64)) (h166_1 : ¬ x0 = (9223372036854775807 : Int64)) (h192_1 : ¬ ((x2 + q4) + x0) < x0) (h166_2 : ¬ x1 = (9223372036854775807 : Int64)) (h192_2 : ¬ ((x2 + q4) + x1) < x1) (h192_3 : ¬ ((x2 + q4) + x2) < x2) (h126_2 : x5 = (9223372036854775807 : Int64)) (h126_3 : ¬ x8 = (9223372036854775807 : Int64)) (h192_4 : ¬ ((x8 + q4) + x0) < q4) (h192_5 : ¬ ((x8 + q4) + x1) < x7) (h192_6 : ¬ ((x8 + q4) + x2) < x8) :
    MetFree l (⟨"com/example/chronoscope/chronoscope/sim/Zone", "constrain", "(IIJ)Z"⟩ : MethodName) (head1 (Jvm.Cond.code (⟨"com/example/chronoscope/chronoscope/sim/Zone", "constrain", "(IIJ)Z"⟩ : MethodName) prog_347_method_7_code 13 (some .boolean) :: ws) ({ frames := 0, cells := 0, slots := 0, locals := 0 } : Room)) (fun a U => a = #[(.ref a1), (.int (2 : Int32)), (.int (0 : Int32)), (.long q4)] ∧ Z.Warmed39 U.vm ∧ U.heap = h0) (fun _ _ _ _ _ => True) (fun _ U o U' => ∃ v L, o = .returned v ∧ Q5_2n Z a1 q4 bb kk x0 x1 x2 x3 x4 x5 x6 x7 x8 h0 n0 v U'.heap L ∧ FrameEnd U o U' L ({ frames := 0, cells := 0, slots := 0, locals := 0 } : Room).cells ({ frames := 0, cells := 0, slots := 0, locals := 0 } : Room).slots) := by
  refine MetFree.of_bodySF (plainFor_of_name pn_5_2n) hisR ?_
  intro p e s m args below meth c s₁ Bd hml0 hP hK
  obtain ⟨rfl, hZ, hh⟩ := hP
  have w12_ := hw _ (List.mem_of_getElem? (i := 12) rfl)
  have w14_ := hw _ (List.mem_of_getElem? (i := 14) rfl)
  have w21_ := hw _ (List.mem_of_getElem? (i := 21) rfl)
  have w32_ := hw _ (List.mem_of_getElem? (i := 32) rfl)
  have hx := Bd.exec
  have hby := Bd.bytes
  have hml : c.maxLocals = 13 := hml0
  have hown : s.vm.findClass "com/example/chronoscope/chronoscope/sim/Zone" = some m.cls := findClass_of_methodNamed Bd.named
  have hnm := (name_of_methodNamed Bd.named Bd.method).1
  have X0 : Stand p l e ({ frames := 0, cells := 0, slots := 0, locals := 0 } : Room) s m #[(.ref a1), (.int (2 : Int32)), (.int (0 : Int32)), (.long q4)] below meth c s₁ [] 0 0 := Stand.of_body Bd
  have e0 : s₁.heap = h0 := by rw [← hh, Bd.state]; rfl
  have N0 := Fr.nil n0
  have pre0 : ∀ t, Steps p.tables e below (s₁.setTop (mkF m 0 #[.val (.ref a1), .val (.int (2 : Int32)), .val (.int (0 : Int32)), .val (.long q4), .second, .unset, .unset, .unset, .unset, .unset, .unset, .unset, .unset] [])) t → Steps p.tables e below (s₁.setTop (entryFrame m #[(.ref a1), (.int (2 : Int32)), (.int (0 : Int32)), (.long q4)] 13)) t := fun t k => castTop (ef_5_2n m a1 (2 : Int32) (0 : Int32) q4) k
  let Lo1 : Array Slot := #[.val (.ref a1), .val (.int (2 : Int32)), .val (.int (0 : Int32)), .val (.long q4), .second, .unset, .unset, .unset, .unset, .unset, .unset, .unset, .unset]
  obtain ⟨T1, X1, e1, st1⟩ := getF X0 hx hZ hown (host := "") (Or.inl w32_) Via.refl e0 P3 (g := (mkF m 1 Lo1 [(.ref a1)])) rfl rfl (hb hby d5_2n_1)
  obtain ⟨T2, X2, e2, st2⟩ := getF X1 hx hZ hown (host := "") (Or.inl w14_) Via.refl e1 P2 (g := (mkF m 9 Lo1 [(.ref a1), (.long q4)])) rfl rfl (hb hby d5_2n_9)
  obtain ⟨T3, X3, e3, st3⟩ := getF X2 hx hZ hown (host := "") (Or.inl w12_) Via.refl e2 P1 (g := (mkF m 14 Lo1 [(.ref a1), (.int (2 : Int32)), (.ref bb), (.long q4)])) rfl rfl (hb hby d5_2n_14)
  obtain ⟨T4, X4, e4, st4⟩ := getF X3 hx hZ hown (host := "") (Or.inl w14_) Via.refl e3 P2 (g := (mkF m 39 Lo1 [(.ref a1)])) rfl rfl (hb hby d5_2n_39)
  obtain ⟨T5, X5, e5, st5⟩ := getF X4 hx hZ hown (host := "") (Or.inl w12_) Via.refl e4 P1 (g := (mkF m 44 Lo1 [(.ref a1), (.int (0 : Int32)), (.ref bb)])) rfl rfl (hb hby d5_2n_44)
  let Lo2 : Array Slot := #[.val (.ref a1), .val (.int (2 : Int32)), .val (.int (0 : Int32)), .val (.long q4), .second, .val (.long x2), .second, .unset, .unset, .unset, .unset, .unset, .unset]
  obtain ⟨T6, X6, e6, st6⟩ := getF X5 hx hZ hown (host := "") (Or.inl w14_) Via.refl e5 P2 (g := (mkF m 79 Lo2 [(.ref a1)])) rfl rfl (hb hby d5_2n_79)
  obtain ⟨T7, X7, e7, st7⟩ := getF X6 hx hZ hown (host := "") (Or.inl w12_) Via.refl e6 P1 (g := (mkF m 84 Lo2 [(.ref a1), (.int (2 : Int32)), (.ref bb)])) rfl rfl (hb hby d5_2n_84)
  obtain ⟨T8, h8, X8, e8, W8, V8, st8⟩ := own_stJ X7 hx hZ e7 P4 (j := (6 : Int32)) (x := q4) (by decide) (i := 6) (by decide) (by show 6 < 9; decide) (g := (mkF m 91 Lo2 [(.long q4), (.int (6 : Int32)), (.ref bb)])) rfl rfl (hb hby d5_2n_91)
  have A8 : Arv Z h8 bb kk .long (9 : Int32) [(.long x0), (.long x1), (.long x2), (.long x3), (.long x4), (.long x5), (.long q4), (.long x7), (.long x8)] (.long (0 : Int64)) := V8
  have F8_size_a1 := P1.other W8 (Or.inl ne_a1_bb)
  have F8_bounds_a1 := P2.other W8 (Or.inl ne_a1_bb)
  have F8_empty_a1 := P3.other W8 (Or.inl ne_a1_bb)
  have E8_a1 := P0.wr W8
  have K8 : Keep h0 h8 [a1, bb] := (Keep.refl h0 [a1, bb]).wr W8 (Or.inl (List.mem_of_getElem? (i := 1) rfl))
  have Z8 : n0 ≤ h8.size := Nat.le_trans Z0 (Keep.of_wr W8).1
  have N8 := Fr.snoc X8 N0 g_bb
  let Lo3 : Array Slot := #[.val (.ref a1), .val (.int (2 : Int32)), .val (.int (0 : Int32)), .val (.long q4), .second, .val (.long x2), .second, .val (.int (0 : Int32)), .unset, .unset, .unset, .unset, .unset]
  obtain ⟨T9, X9, e9, st9⟩ := getF X8 hx hZ hown (host := "") (Or.inl w12_) Via.refl e8 F8_size_a1 (g := (mkF m 98 Lo3 [(.ref a1), (.int (0 : Int32))])) rfl rfl (hb hby d5_2n_98)
  obtain ⟨T10, X10, e10, st10⟩ := getF X9 hx hZ hown (host := "") (Or.inl w14_) Via.refl e9 F8_bounds_a1 (g := (mkF m 105 Lo3 [(.ref a1)])) rfl rfl (hb hby d5_2n_105)
  obtain ⟨T11, X11, e11, st11⟩ := getF X10 hx hZ hown (host := "") (Or.inl w12_) Via.refl e10 F8_size_a1 (g := (mkF m 111 Lo3 [(.ref a1), (.int (0 : Int32)), (.ref bb)])) rfl rfl (hb hby d5_2n_111)
  let Lo4 : Array Slot := #[.val (.ref a1), .val (.int (2 : Int32)), .val (.int (0 : Int32)), .val (.long q4), .second, .val (.long x2), .second, .val (.int (0 : Int32)), .val (.long x2), .second, .unset, .unset, .unset]
  let Lo5 : Array Slot := #[.val (.ref a1), .val (.int (2 : Int32)), .val (.int (0 : Int32)), .val (.long q4), .second, .val (.long x2), .second, .val (.int (0 : Int32)), .val (.long x2), .second, .val (.int (0 : Int32)), .unset, .unset]
  obtain ⟨T12, X12, e12, st12⟩ := getF X11 hx hZ hown (host := "") (Or.inl w12_) Via.refl e11 F8_size_a1 (g := (mkF m 138 Lo5 [(.ref a1), (.int (0 : Int32))])) rfl rfl (hb hby d5_2n_138)
  obtain ⟨T13, X13, e13, st13⟩ := getF X12 hx hZ hown (host := "") (Or.inl w14_) Via.refl e12 F8_bounds_a1 (g := (mkF m 145 Lo5 [(.ref a1)])) rfl rfl (hb hby d5_2n_145)
  obtain ⟨T14, X14, e14, st14⟩ := getF X13 hx hZ hown (host := "") (Or.inl w12_) Via.refl e13 F8_size_a1 (g := (mkF m 150 Lo5 [(.ref a1), (.int (0 : Int32)), (.ref bb)])) rfl rfl (hb hby d5_2n_150)
  let Lo6 : Array Slot := #[.val (.ref a1), .val (.int (2 : Int32)), .val (.int (0 : Int32)), .val (.long q4), .second, .val (.long x2), .second, .val (.int (0 : Int32)), .val (.long x2), .second, .val (.int (0 : Int32)), .val (.long x0), .second]
  obtain ⟨T15, X15, e15, st15⟩ := getF X14 hx hZ hown (host := "") (Or.inl w14_) Via.refl e14 F8_bounds_a1 (g := (mkF m 177 Lo6 [(.ref a1), (.long ((x2 + q4) + x0))])) rfl rfl (hb hby d5_2n_177)
  obtain ⟨T16, X16, e16, st16⟩ := getF X15 hx hZ hown (host := "") (Or.inl w12_) Via.refl e15 F8_size_a1 (g := (mkF m 183 Lo6 [(.ref a1), (.int (0 : Int32)), (.ref bb), (.long ((x2 + q4) + x0))])) rfl rfl (hb hby d5_2n_183)
  let Lo7 : Array Slot := #[.val (.ref a1), .val (.int (2 : Int32)), .val (.int (0 : Int32)), .val (.long q4), .second, .val (.long x2), .second, .val (.int (0 : Int32)), .val (.long x2), .second, .val (.int (1 : Int32)), .val (.long x0), .second]
  obtain ⟨T17, X17, e17, st17⟩ := getF X16 hx hZ hown (host := "") (Or.inl w12_) Via.refl e16 F8_size_a1 (g := (mkF m 138 Lo7 [(.ref a1), (.int (1 : Int32))])) rfl rfl (hb hby d5_2n_138)
  obtain ⟨T18, X18, e18, st18⟩ := getF X17 hx hZ hown (host := "") (Or.inl w14_) Via.refl e17 F8_bounds_a1 (g := (mkF m 145 Lo7 [(.ref a1)])) rfl rfl (hb hby d5_2n_145)
  obtain ⟨T19, X19, e19, st19⟩ := getF X18 hx hZ hown (host := "") (Or.inl w12_) Via.refl e18 F8_size_a1 (g := (mkF m 150 Lo7 [(.ref a1), (.int (0 : Int32)), (.ref bb)])) rfl rfl (hb hby d5_2n_150)
  let Lo8 : Array Slot := #[.val (.ref a1), .val (.int (2 : Int32)), .val (.int (0 : Int32)), .val (.long q4), .second, .val (.long x2), .second, .val (.int (0 : Int32)), .val (.long x2), .second, .val (.int (1 : Int32)), .val (.long x1), .second]
  obtain ⟨T20, X20, e20, st20⟩ := getF X19 hx hZ hown (host := "") (Or.inl w14_) Via.refl e19 F8_bounds_a1 (g := (mkF m 177 Lo8 [(.ref a1), (.long ((x2 + q4) + x1))])) rfl rfl (hb hby d5_2n_177)
  obtain ⟨T21, X21, e21, st21⟩ := getF X20 hx hZ hown (host := "") (Or.inl w12_) Via.refl e20 F8_size_a1 (g := (mkF m 183 Lo8 [(.ref a1), (.int (0 : Int32)), (.ref bb), (.long ((x2 + q4) + x1))])) rfl rfl (hb hby d5_2n_183)
  let Lo9 : Array Slot := #[.val (.ref a1), .val (.int (2 : Int32)), .val (.int (0 : Int32)), .val (.long q4), .second, .val (.long x2), .second, .val (.int (0 : Int32)), .val (.long x2), .second, .val (.int (2 : Int32)), .val (.long x1), .second]
  obtain ⟨T22, X22, e22, st22⟩ := getF X21 hx hZ hown (host := "") (Or.inl w12_) Via.refl e21 F8_size_a1 (g := (mkF m 138 Lo9 [(.ref a1), (.int (2 : Int32))])) rfl rfl (hb hby d5_2n_138)
  obtain ⟨T23, X23, e23, st23⟩ := getF X22 hx hZ hown (host := "") (Or.inl w14_) Via.refl e22 F8_bounds_a1 (g := (mkF m 145 Lo9 [(.ref a1)])) rfl rfl (hb hby d5_2n_145)
  obtain ⟨T24, X24, e24, st24⟩ := getF X23 hx hZ hown (host := "") (Or.inl w12_) Via.refl e23 F8_size_a1 (g := (mkF m 150 Lo9 [(.ref a1), (.int (0 : Int32)), (.ref bb)])) rfl rfl (hb hby d5_2n_150)
  let Lo10 : Array Slot := #[.val (.ref a1), .val (.int (2 : Int32)), .val (.int (0 : Int32)), .val (.long q4), .second, .val (.long x2), .second, .val (.int (0 : Int32)), .val (.long x2), .second, .val (.int (2 : Int32)), .val (.long x2), .second]
  obtain ⟨T25, X25, e25, st25⟩ := getF X24 hx hZ hown (host := "") (Or.inl w14_) Via.refl e24 F8_bounds_a1 (g := (mkF m 177 Lo10 [(.ref a1), (.long ((x2 + q4) + x2))])) rfl rfl (hb hby d5_2n_177)
  obtain ⟨T26, X26, e26, st26⟩ := getF X25 hx hZ hown (host := "") (Or.inl w12_) Via.refl e25 F8_size_a1 (g := (mkF m 183 Lo10 [(.ref a1), (.int (0 : Int32)), (.ref bb), (.long ((x2 + q4) + x2))])) rfl rfl (hb hby d5_2n_183)
  let Lo11 : Array Slot := #[.val (.ref a1), .val (.int (2 : Int32)), .val (.int (0 : Int32)), .val (.long q4), .second, .val (.long x2), .second, .val (.int (0 : Int32)), .val (.long x2), .second, .val (.int (3 : Int32)), .val (.long x2), .second]
  obtain ⟨T27, X27, e27, st27⟩ := getF X26 hx hZ hown (host := "") (Or.inl w12_) Via.refl e26 F8_size_a1 (g := (mkF m 138 Lo11 [(.ref a1), (.int (3 : Int32))])) rfl rfl (hb hby d5_2n_138)
  let Lo12 : Array Slot := #[.val (.ref a1), .val (.int (2 : Int32)), .val (.int (0 : Int32)), .val (.long q4), .second, .val (.long x2), .second, .val (.int (1 : Int32)), .val (.long x2), .second, .val (.int (3 : Int32)), .val (.long x2), .second]
  obtain ⟨T28, X28, e28, st28⟩ := getF X27 hx hZ hown (host := "") (Or.inl w12_) Via.refl e27 F8_size_a1 (g := (mkF m 98 Lo12 [(.ref a1), (.int (1 : Int32))])) rfl rfl (hb hby d5_2n_98)
  obtain ⟨T29, X29, e29, st29⟩ := getF X28 hx hZ hown (host := "") (Or.inl w14_) Via.refl e28 F8_bounds_a1 (g := (mkF m 105 Lo12 [(.ref a1)])) rfl rfl (hb hby d5_2n_105)
  obtain ⟨T30, X30, e30, st30⟩ := getF X29 hx hZ hown (host := "") (Or.inl w12_) Via.refl e29 F8_size_a1 (g := (mkF m 111 Lo12 [(.ref a1), (.int (1 : Int32)), (.ref bb)])) rfl rfl (hb hby d5_2n_111)
  let Lo13 : Array Slot := #[.val (.ref a1), .val (.int (2 : Int32)), .val (.int (0 : Int32)), .val (.long q4), .second, .val (.long x2), .second, .val (.int (1 : Int32)), .val (.long x5), .second, .val (.int (3 : Int32)), .val (.long x2), .second]
  let Lo14 : Array Slot := #[.val (.ref a1), .val (.int (2 : Int32)), .val (.int (0 : Int32)), .val (.long q4), .second, .val (.long x2), .second, .val (.int (2 : Int32)), .val (.long x5), .second, .val (.int (3 : Int32)), .val (.long x2), .second]
  obtain ⟨T31, X31, e31, st31⟩ := getF X30 hx hZ hown (host := "") (Or.inl w12_) Via.refl e30 F8_size_a1 (g := (mkF m 98 Lo14 [(.ref a1), (.int (2 : Int32))])) rfl rfl (hb hby d5_2n_98)
  obtain ⟨T32, X32, e32, st32⟩ := getF X31 hx hZ hown (host := "") (Or.inl w14_) Via.refl e31 F8_bounds_a1 (g := (mkF m 105 Lo14 [(.ref a1)])) rfl rfl (hb hby d5_2n_105)
  obtain ⟨T33, X33, e33, st33⟩ := getF X32 hx hZ hown (host := "") (Or.inl w12_) Via.refl e32 F8_size_a1 (g := (mkF m 111 Lo14 [(.ref a1), (.int (2 : Int32)), (.ref bb)])) rfl rfl (hb hby d5_2n_111)
  let Lo15 : Array Slot := #[.val (.ref a1), .val (.int (2 : Int32)), .val (.int (0 : Int32)), .val (.long q4), .second, .val (.long x2), .second, .val (.int (2 : Int32)), .val (.long x8), .second, .val (.int (3 : Int32)), .val (.long x2), .second]
  let Lo16 : Array Slot := #[.val (.ref a1), .val (.int (2 : Int32)), .val (.int (0 : Int32)), .val (.long q4), .second, .val (.long x2), .second, .val (.int (2 : Int32)), .val (.long x8), .second, .val (.int (0 : Int32)), .val (.long x2), .second]
  obtain ⟨T34, X34, e34, st34⟩ := getF X33 hx hZ hown (host := "") (Or.inl w12_) Via.refl e33 F8_size_a1 (g := (mkF m 138 Lo16 [(.ref a1), (.int (0 : Int32))])) rfl rfl (hb hby d5_2n_138)
  obtain ⟨T35, X35, e35, st35⟩ := getF X34 hx hZ hown (host := "") (Or.inl w14_) Via.refl e34 F8_bounds_a1 (g := (mkF m 145 Lo16 [(.ref a1)])) rfl rfl (hb hby d5_2n_145)
  obtain ⟨T36, X36, e36, st36⟩ := getF X35 hx hZ hown (host := "") (Or.inl w12_) Via.refl e35 F8_size_a1 (g := (mkF m 150 Lo16 [(.ref a1), (.int (0 : Int32)), (.ref bb)])) rfl rfl (hb hby d5_2n_150)
  let Lo17 : Array Slot := #[.val (.ref a1), .val (.int (2 : Int32)), .val (.int (0 : Int32)), .val (.long q4), .second, .val (.long x2), .second, .val (.int (2 : Int32)), .val (.long x8), .second, .val (.int (0 : Int32)), .val (.long x0), .second]
  obtain ⟨T37, X37, e37, st37⟩ := getF X36 hx hZ hown (host := "") (Or.inl w14_) Via.refl e36 F8_bounds_a1 (g := (mkF m 177 Lo17 [(.ref a1), (.long ((x8 + q4) + x0))])) rfl rfl (hb hby d5_2n_177)
  obtain ⟨T38, X38, e38, st38⟩ := getF X37 hx hZ hown (host := "") (Or.inl w12_) Via.refl e37 F8_size_a1 (g := (mkF m 183 Lo17 [(.ref a1), (.int (2 : Int32)), (.ref bb), (.long ((x8 + q4) + x0))])) rfl rfl (hb hby d5_2n_183)
  let Lo18 : Array Slot := #[.val (.ref a1), .val (.int (2 : Int32)), .val (.int (0 : Int32)), .val (.long q4), .second, .val (.long x2), .second, .val (.int (2 : Int32)), .val (.long x8), .second, .val (.int (1 : Int32)), .val (.long x0), .second]
  obtain ⟨T39, X39, e39, st39⟩ := getF X38 hx hZ hown (host := "") (Or.inl w12_) Via.refl e38 F8_size_a1 (g := (mkF m 138 Lo18 [(.ref a1), (.int (1 : Int32))])) rfl rfl (hb hby d5_2n_138)
  obtain ⟨T40, X40, e40, st40⟩ := getF X39 hx hZ hown (host := "") (Or.inl w14_) Via.refl e39 F8_bounds_a1 (g := (mkF m 145 Lo18 [(.ref a1)])) rfl rfl (hb hby d5_2n_145)
  obtain ⟨T41, X41, e41, st41⟩ := getF X40 hx hZ hown (host := "") (Or.inl w12_) Via.refl e40 F8_size_a1 (g := (mkF m 150 Lo18 [(.ref a1), (.int (0 : Int32)), (.ref bb)])) rfl rfl (hb hby d5_2n_150)
  let Lo19 : Array Slot := #[.val (.ref a1), .val (.int (2 : Int32)), .val (.int (0 : Int32)), .val (.long q4), .second, .val (.long x2), .second, .val (.int (2 : Int32)), .val (.long x8), .second, .val (.int (1 : Int32)), .val (.long x1), .second]
  obtain ⟨T42, X42, e42, st42⟩ := getF X41 hx hZ hown (host := "") (Or.inl w14_) Via.refl e41 F8_bounds_a1 (g := (mkF m 177 Lo19 [(.ref a1), (.long ((x8 + q4) + x1))])) rfl rfl (hb hby d5_2n_177)
  obtain ⟨T43, X43, e43, st43⟩ := getF X42 hx hZ hown (host := "") (Or.inl w12_) Via.refl e42 F8_size_a1 (g := (mkF m 183 Lo19 [(.ref a1), (.int (2 : Int32)), (.ref bb), (.long ((x8 + q4) + x1))])) rfl rfl (hb hby d5_2n_183)
  let Lo20 : Array Slot := #[.val (.ref a1), .val (.int (2 : Int32)), .val (.int (0 : Int32)), .val (.long q4), .second, .val (.long x2), .second, .val (.int (2 : Int32)), .val (.long x8), .second, .val (.int (2 : Int32)), .val (.long x1), .second]
  obtain ⟨T44, X44, e44, st44⟩ := getF X43 hx hZ hown (host := "") (Or.inl w12_) Via.refl e43 F8_size_a1 (g := (mkF m 138 Lo20 [(.ref a1), (.int (2 : Int32))])) rfl rfl (hb hby d5_2n_138)
  obtain ⟨T45, X45, e45, st45⟩ := getF X44 hx hZ hown (host := "") (Or.inl w14_) Via.refl e44 F8_bounds_a1 (g := (mkF m 145 Lo20 [(.ref a1)])) rfl rfl (hb hby d5_2n_145)
  obtain ⟨T46, X46, e46, st46⟩ := getF X45 hx hZ hown (host := "") (Or.inl w12_) Via.refl e45 F8_size_a1 (g := (mkF m 150 Lo20 [(.ref a1), (.int (0 : Int32)), (.ref bb)])) rfl rfl (hb hby d5_2n_150)
  let Lo21 : Array Slot := #[.val (.ref a1), .val (.int (2 : Int32)), .val (.int (0 : Int32)), .val (.long q4), .second, .val (.long x2), .second, .val (.int (2 : Int32)), .val (.long x8), .second, .val (.int (2 : Int32)), .val (.long x2), .second]
  obtain ⟨T47, X47, e47, st47⟩ := getF X46 hx hZ hown (host := "") (Or.inl w14_) Via.refl e46 F8_bounds_a1 (g := (mkF m 177 Lo21 [(.ref a1), (.long ((x8 + q4) + x2))])) rfl rfl (hb hby d5_2n_177)
  obtain ⟨T48, X48, e48, st48⟩ := getF X47 hx hZ hown (host := "") (Or.inl w12_) Via.refl e47 F8_size_a1 (g := (mkF m 183 Lo21 [(.ref a1), (.int (2 : Int32)), (.ref bb), (.long ((x8 + q4) + x2))])) rfl rfl (hb hby d5_2n_183)
  obtain ⟨T49, X49, e49, st49⟩ := getF X48 hx hZ hown (host := "") (Or.inl w12_) Via.refl e48 F8_size_a1 (g := (mkF m 138 Lo15 [(.ref a1), (.int (3 : Int32))])) rfl rfl (hb hby d5_2n_138)
  let Lo22 : Array Slot := #[.val (.ref a1), .val (.int (2 : Int32)), .val (.int (0 : Int32)), .val (.long q4), .second, .val (.long x2), .second, .val (.int (3 : Int32)), .val (.long x8), .second, .val (.int (3 : Int32)), .val (.long x2), .second]
  obtain ⟨T50, X50, e50, st50⟩ := getF X49 hx hZ hown (host := "") (Or.inl w12_) Via.refl e49 F8_size_a1 (g := (mkF m 98 Lo22 [(.ref a1), (.int (3 : Int32))])) rfl rfl (hb hby d5_2n_98)
  obtain ⟨fs, hr, hrun, hended, hW, hsame⟩ := X50.leave (v := some (.int (1 : Int32))) (fun h => by rw [Bd.returns] at h; cases h)
  refine ⟨_, _, pre0 _ ?_, hrun, hended, _, _, rfl, ?_, ⟨_, rfl⟩, hW, hsame.mono (by decide) (by decide)⟩
  · show Steps p.tables e below (s₁.setTop (mkF m 0 Lo1 [])) _
    refine XS.aloadN X0.here hx rfl (hb hby d5_2n_0) rfl rfl ?_
    show Steps p.tables e below (s₁.setTop (mkF m 1 Lo1 [(.ref a1)])) _
    refine st1 _ ?_
    show Steps p.tables e below (T1.setTop (mkF m 4 Lo1 [(.int (0 : Int32))])) _
    refine XS.ifNo X1.here hx rfl (hb hby d5_2n_4) rfl (by first | rfl | decide) ?_
    show Steps p.tables e below (T1.setTop (mkF m 7 Lo1 [])) _
    refine XS.lloadN X1.here hx rfl (hb hby d5_2n_7) rfl ?_
    show Steps p.tables e below (T1.setTop (mkF m 8 Lo1 [(.long q4)])) _
    refine XS.aloadN X1.here hx rfl (hb hby d5_2n_8) rfl rfl ?_
    show Steps p.tables e below (T1.setTop (mkF m 9 Lo1 [(.ref a1), (.long q4)])) _
    refine st2 _ ?_
    show Steps p.tables e below (T2.setTop (mkF m 12 Lo1 [(.ref bb), (.long q4)])) _
    refine XS.iloadN X2.here hx rfl (hb hby d5_2n_12) rfl ?_
    show Steps p.tables e below (T2.setTop (mkF m 13 Lo1 [(.int (2 : Int32)), (.ref bb), (.long q4)])) _
    refine XS.aloadN X2.here hx rfl (hb hby d5_2n_13) rfl rfl ?_
    show Steps p.tables e below (T2.setTop (mkF m 14 Lo1 [(.ref a1), (.int (2 : Int32)), (.ref bb), (.long q4)])) _
    refine st3 _ ?_
    show Steps p.tables e below (T3.setTop (mkF m 17 Lo1 [(.int (3 : Int32)), (.int (2 : Int32)), (.ref bb), (.long q4)])) _
    refine XS.imul X3.here hx rfl (hb hby d5_2n_17) rfl ?_
    show Steps p.tables e below (T3.setTop (mkF m 18 Lo1 [(.int (6 : Int32)), (.ref bb), (.long q4)])) _
    refine XS.iloadN X3.here hx rfl (hb hby d5_2n_18) rfl ?_
    show Steps p.tables e below (T3.setTop (mkF m 19 Lo1 [(.int (0 : Int32)), (.int (6 : Int32)), (.ref bb), (.long q4)])) _
    refine XS.iadd X3.here hx rfl (hb hby d5_2n_19) rfl ?_
    show Steps p.tables e below (T3.setTop (mkF m 20 Lo1 [(.int (6 : Int32)), (.ref bb), (.long q4)])) _
    refine own_ldJ X3 hx hZ e3 P4 (j := (6 : Int32)) (by decide) (w := x6) rfl (g := (mkF m 20 Lo1 [(.int (6 : Int32)), (.ref bb), (.long q4)])) rfl rfl (hb hby d5_2n_20) _ ?_
    show Steps p.tables e below (T3.setTop (mkF m 21 Lo1 [(.long x6), (.long q4)])) _
    refine XS.lcmp X3.here hx rfl (hb hby d5_2n_21) rfl ?_
    show Steps p.tables e below (T3.setTop (mkF m 22 Lo1 [(.int (lcmpW q4 x6))])) _
    refine XS.ifYes X3.here hx rfl (pc0 := 22) (pc' := 38) rfl (hb hby d5_2n_22) rfl (own_lw_lt_t h22_1) (by decide) (by decide) ?_
    show Steps p.tables e below (T3.setTop (mkF m 38 Lo1 [])) _
    refine XS.aloadN X3.here hx rfl (hb hby d5_2n_38) rfl rfl ?_
    show Steps p.tables e below (T3.setTop (mkF m 39 Lo1 [(.ref a1)])) _
    refine st4 _ ?_
    show Steps p.tables e below (T4.setTop (mkF m 42 Lo1 [(.ref bb)])) _
    refine XS.iloadN X4.here hx rfl (hb hby d5_2n_42) rfl ?_
    show Steps p.tables e below (T4.setTop (mkF m 43 Lo1 [(.int (0 : Int32)), (.ref bb)])) _
    refine XS.aloadN X4.here hx rfl (hb hby d5_2n_43) rfl rfl ?_
    show Steps p.tables e below (T4.setTop (mkF m 44 Lo1 [(.ref a1), (.int (0 : Int32)), (.ref bb)])) _
    refine st5 _ ?_
    show Steps p.tables e below (T5.setTop (mkF m 47 Lo1 [(.int (3 : Int32)), (.int (0 : Int32)), (.ref bb)])) _
    refine XS.imul X5.here hx rfl (hb hby d5_2n_47) rfl ?_
    show Steps p.tables e below (T5.setTop (mkF m 48 Lo1 [(.int (0 : Int32)), (.ref bb)])) _
    refine XS.iloadN X5.here hx rfl (hb hby d5_2n_48) rfl ?_
    show Steps p.tables e below (T5.setTop (mkF m 49 Lo1 [(.int (2 : Int32)), (.int (0 : Int32)), (.ref bb)])) _
    refine XS.iadd X5.here hx rfl (hb hby d5_2n_49) rfl ?_
    show Steps p.tables e below (T5.setTop (mkF m 50 Lo1 [(.int (2 : Int32)), (.ref bb)])) _
    refine own_ldJ X5 hx hZ e5 P4 (j := (2 : Int32)) (by decide) (w := x2) rfl (g := (mkF m 50 Lo1 [(.int (2 : Int32)), (.ref bb)])) rfl rfl (hb hby d5_2n_50) _ ?_
    show Steps p.tables e below (T5.setTop (mkF m 51 Lo1 [(.long x2)])) _
    refine XS.lstore X5.here hx rfl (hb hby d5_2n_51) rfl (l' := Lo2) rfl ?_
    show Steps p.tables e below (T5.setTop (mkF m 53 Lo2 [])) _
    refine XS.lload X5.here hx rfl (hb hby d5_2n_53) rfl ?_
    show Steps p.tables e below (T5.setTop (mkF m 55 Lo2 [(.long x2)])) _
    refine X5.ldc2Long hx hown (mvT hZ w21_) (g := (mkF m 55 Lo2 [(.long x2)])) rfl (hb hby d5_2n_55) _ ?_
    show Steps p.tables e below (T5.setTop (mkF m 58 Lo2 [(.long (9223372036854775807 : Int64)), (.long x2)])) _
    refine XS.lcmp X5.here hx rfl (hb hby d5_2n_58) rfl ?_
    show Steps p.tables e below (T5.setTop (mkF m 59 Lo2 [(.int (lcmpW x2 (9223372036854775807 : Int64)))])) _
    refine XS.ifNo X5.here hx rfl (hb hby d5_2n_59) rfl (own_lw_eq_f h59_1) ?_
    show Steps p.tables e below (T5.setTop (mkF m 62 Lo2 [])) _
    refine XS.lload X5.here hx rfl (hb hby d5_2n_62) rfl ?_
    show Steps p.tables e below (T5.setTop (mkF m 64 Lo2 [(.long x2)])) _
    refine XS.lloadN X5.here hx rfl (hb hby d5_2n_64) rfl ?_
    show Steps p.tables e below (T5.setTop (mkF m 65 Lo2 [(.long q4), (.long x2)])) _
    refine XS.ladd X5.here hx rfl (hb hby d5_2n_65) rfl ?_
    show Steps p.tables e below (T5.setTop (mkF m 66 Lo2 [(.long (x2 + q4))])) _
    refine XS.lconst X5.here hx rfl (hb hby d5_2n_66) ?_
    show Steps p.tables e below (T5.setTop (mkF m 67 Lo2 [(.long (0 : Int64)), (.long (x2 + q4))])) _
    refine XS.lcmp X5.here hx rfl (hb hby d5_2n_67) rfl ?_
    show Steps p.tables e below (T5.setTop (mkF m 68 Lo2 [(.int (lcmpW (x2 + q4) (0 : Int64)))])) _
    refine XS.ifYes X5.here hx rfl (pc0 := 68) (pc' := 78) rfl (hb hby d5_2n_68) rfl (own_lw_ge_t h68_1) (by decide) (by decide) ?_
    show Steps p.tables e below (T5.setTop (mkF m 78 Lo2 [])) _
    refine XS.aloadN X5.here hx rfl (hb hby d5_2n_78) rfl rfl ?_
    show Steps p.tables e below (T5.setTop (mkF m 79 Lo2 [(.ref a1)])) _
    refine st6 _ ?_
    show Steps p.tables e below (T6.setTop (mkF m 82 Lo2 [(.ref bb)])) _
    refine XS.iloadN X6.here hx rfl (hb hby d5_2n_82) rfl ?_
    show Steps p.tables e below (T6.setTop (mkF m 83 Lo2 [(.int (2 : Int32)), (.ref bb)])) _
    refine XS.aloadN X6.here hx rfl (hb hby d5_2n_83) rfl rfl ?_
    show Steps p.tables e below (T6.setTop (mkF m 84 Lo2 [(.ref a1), (.int (2 : Int32)), (.ref bb)])) _
    refine st7 _ ?_
    show Steps p.tables e below (T7.setTop (mkF m 87 Lo2 [(.int (3 : Int32)), (.int (2 : Int32)), (.ref bb)])) _
    refine XS.imul X7.here hx rfl (hb hby d5_2n_87) rfl ?_
    show Steps p.tables e below (T7.setTop (mkF m 88 Lo2 [(.int (6 : Int32)), (.ref bb)])) _
    refine XS.iloadN X7.here hx rfl (hb hby d5_2n_88) rfl ?_
    show Steps p.tables e below (T7.setTop (mkF m 89 Lo2 [(.int (0 : Int32)), (.int (6 : Int32)), (.ref bb)])) _
    refine XS.iadd X7.here hx rfl (hb hby d5_2n_89) rfl ?_
    show Steps p.tables e below (T7.setTop (mkF m 90 Lo2 [(.int (6 : Int32)), (.ref bb)])) _
    refine XS.lloadN X7.here hx rfl (hb hby d5_2n_90) rfl ?_
    show Steps p.tables e below (T7.setTop (mkF m 91 Lo2 [(.long q4), (.int (6 : Int32)), (.ref bb)])) _
    refine st8 _ ?_
    show Steps p.tables e below (T8.setTop (mkF m 92 Lo2 [])) _
    refine XS.iconst X8.here hx rfl (hb hby d5_2n_92) ?_
    show Steps p.tables e below (T8.setTop (mkF m 93 Lo2 [(.int (0 : Int32))])) _
    refine XS.istore X8.here hx rfl (hb hby d5_2n_93) rfl (l' := Lo3) rfl ?_
    show Steps p.tables e below (T8.setTop (mkF m 95 Lo3 [])) _
    refine XS.iload X8.here hx rfl (hb hby d5_2n_95) rfl ?_
    show Steps p.tables e below (T8.setTop (mkF m 97 Lo3 [(.int (0 : Int32))])) _
    refine XS.aloadN X8.here hx rfl (hb hby d5_2n_97) rfl rfl ?_
    show Steps p.tables e below (T8.setTop (mkF m 98 Lo3 [(.ref a1), (.int (0 : Int32))])) _
    refine st9 _ ?_
    show Steps p.tables e below (T9.setTop (mkF m 101 Lo3 [(.int (3 : Int32)), (.int (0 : Int32))])) _
    refine XS.icmpNo X9.here hx rfl (hb hby d5_2n_101) rfl (by first | rfl | decide) ?_
    show Steps p.tables e below (T9.setTop (mkF m 104 Lo3 [])) _
    refine XS.aloadN X9.here hx rfl (hb hby d5_2n_104) rfl rfl ?_
    show Steps p.tables e below (T9.setTop (mkF m 105 Lo3 [(.ref a1)])) _
    refine st10 _ ?_
    show Steps p.tables e below (T10.setTop (mkF m 108 Lo3 [(.ref bb)])) _
    refine XS.iload X10.here hx rfl (hb hby d5_2n_108) rfl ?_
    show Steps p.tables e below (T10.setTop (mkF m 110 Lo3 [(.int (0 : Int32)), (.ref bb)])) _
    refine XS.aloadN X10.here hx rfl (hb hby d5_2n_110) rfl rfl ?_
    show Steps p.tables e below (T10.setTop (mkF m 111 Lo3 [(.ref a1), (.int (0 : Int32)), (.ref bb)])) _
    refine st11 _ ?_
    show Steps p.tables e below (T11.setTop (mkF m 114 Lo3 [(.int (3 : Int32)), (.int (0 : Int32)), (.ref bb)])) _
    refine XS.imul X11.here hx rfl (hb hby d5_2n_114) rfl ?_
    show Steps p.tables e below (T11.setTop (mkF m 115 Lo3 [(.int (0 : Int32)), (.ref bb)])) _
    refine XS.iloadN X11.here hx rfl (hb hby d5_2n_115) rfl ?_
    show Steps p.tables e below (T11.setTop (mkF m 116 Lo3 [(.int (2 : Int32)), (.int (0 : Int32)), (.ref bb)])) _
    refine XS.iadd X11.here hx rfl (hb hby d5_2n_116) rfl ?_
    show Steps p.tables e below (T11.setTop (mkF m 117 Lo3 [(.int (2 : Int32)), (.ref bb)])) _
    refine own_ldJ X11 hx hZ e11 A8 (j := (2 : Int32)) (by decide) (w := x2) rfl (g := (mkF m 117 Lo3 [(.int (2 : Int32)), (.ref bb)])) rfl rfl (hb hby d5_2n_117) _ ?_
    show Steps p.tables e below (T11.setTop (mkF m 118 Lo3 [(.long x2)])) _
    refine XS.lstore X11.here hx rfl (hb hby d5_2n_118) rfl (l' := Lo4) rfl ?_
    show Steps p.tables e below (T11.setTop (mkF m 120 Lo4 [])) _
    refine XS.lload X11.here hx rfl (hb hby d5_2n_120) rfl ?_
    show Steps p.tables e below (T11.setTop (mkF m 122 Lo4 [(.long x2)])) _
    refine X11.ldc2Long hx hown (mvT hZ w21_) (g := (mkF m 122 Lo4 [(.long x2)])) rfl (hb hby d5_2n_122) _ ?_
    show Steps p.tables e below (T11.setTop (mkF m 125 Lo4 [(.long (9223372036854775807 : Int64)), (.long x2)])) _
    refine XS.lcmp X11.here hx rfl (hb hby d5_2n_125) rfl ?_
    show Steps p.tables e below (T11.setTop (mkF m 126 Lo4 [(.int (lcmpW x2 (9223372036854775807 : Int64)))])) _
    refine XS.ifYes X11.here hx rfl (pc0 := 126) (pc' := 132) rfl (hb hby d5_2n_126) rfl (own_lw_ne_t h59_1) (by decide) (by decide) ?_
    show Steps p.tables e below (T11.setTop (mkF m 132 Lo4 [])) _
    refine XS.iconst X11.here hx rfl (hb hby d5_2n_132) ?_
    show Steps p.tables e below (T11.setTop (mkF m 133 Lo4 [(.int (0 : Int32))])) _
    refine XS.istore X11.here hx rfl (hb hby d5_2n_133) rfl (l' := Lo5) rfl ?_
    show Steps p.tables e below (T11.setTop (mkF m 135 Lo5 [])) _
    refine XS.iload X11.here hx rfl (hb hby d5_2n_135) rfl ?_
    show Steps p.tables e below (T11.setTop (mkF m 137 Lo5 [(.int (0 : Int32))])) _
    refine XS.aloadN X11.here hx rfl (hb hby d5_2n_137) rfl rfl ?_
    show Steps p.tables e below (T11.setTop (mkF m 138 Lo5 [(.ref a1), (.int (0 : Int32))])) _
    refine st12 _ ?_
    show Steps p.tables e below (T12.setTop (mkF m 141 Lo5 [(.int (3 : Int32)), (.int (0 : Int32))])) _
    refine XS.icmpNo X12.here hx rfl (hb hby d5_2n_141) rfl (by first | rfl | decide) ?_
    show Steps p.tables e below (T12.setTop (mkF m 144 Lo5 [])) _
    refine XS.aloadN X12.here hx rfl (hb hby d5_2n_144) rfl rfl ?_
    show Steps p.tables e below (T12.setTop (mkF m 145 Lo5 [(.ref a1)])) _
    refine st13 _ ?_
    show Steps p.tables e below (T13.setTop (mkF m 148 Lo5 [(.ref bb)])) _
    refine XS.iloadN X13.here hx rfl (hb hby d5_2n_148) rfl ?_
    show Steps p.tables e below (T13.setTop (mkF m 149 Lo5 [(.int (0 : Int32)), (.ref bb)])) _
    refine XS.aloadN X13.here hx rfl (hb hby d5_2n_149) rfl rfl ?_
    show Steps p.tables e below (T13.setTop (mkF m 150 Lo5 [(.ref a1), (.int (0 : Int32)), (.ref bb)])) _
    refine st14 _ ?_
    show Steps p.tables e below (T14.setTop (mkF m 153 Lo5 [(.int (3 : Int32)), (.int (0 : Int32)), (.ref bb)])) _
    refine XS.imul X14.here hx rfl (hb hby d5_2n_153) rfl ?_
    show Steps p.tables e below (T14.setTop (mkF m 154 Lo5 [(.int (0 : Int32)), (.ref bb)])) _
    refine XS.iload X14.here hx rfl (hb hby d5_2n_154) rfl ?_
    show Steps p.tables e below (T14.setTop (mkF m 156 Lo5 [(.int (0 : Int32)), (.int (0 : Int32)), (.ref bb)])) _
    refine XS.iadd X14.here hx rfl (hb hby d5_2n_156) rfl ?_
    show Steps p.tables e below (T14.setTop (mkF m 157 Lo5 [(.int (0 : Int32)), (.ref bb)])) _
    refine own_ldJ X14 hx hZ e14 A8 (j := (0 : Int32)) (by decide) (w := x0) rfl (g := (mkF m 157 Lo5 [(.int (0 : Int32)), (.ref bb)])) rfl rfl (hb hby d5_2n_157) _ ?_
    show Steps p.tables e below (T14.setTop (mkF m 158 Lo5 [(.long x0)])) _
    refine XS.lstore X14.here hx rfl (hb hby d5_2n_158) rfl (l' := Lo6) rfl ?_
    show Steps p.tables e below (T14.setTop (mkF m 160 Lo6 [])) _
    refine XS.lload X14.here hx rfl (hb hby d5_2n_160) rfl ?_
    show Steps p.tables e below (T14.setTop (mkF m 162 Lo6 [(.long x0)])) _
    refine X14.ldc2Long hx hown (mvT hZ w21_) (g := (mkF m 162 Lo6 [(.long x0)])) rfl (hb hby d5_2n_162) _ ?_
    show Steps p.tables e below (T14.setTop (mkF m 165 Lo6 [(.long (9223372036854775807 : Int64)), (.long x0)])) _
    refine XS.lcmp X14.here hx rfl (hb hby d5_2n_165) rfl ?_
    show Steps p.tables e below (T14.setTop (mkF m 166 Lo6 [(.int (lcmpW x0 (9223372036854775807 : Int64)))])) _
    refine XS.ifNo X14.here hx rfl (hb hby d5_2n_166) rfl (own_lw_eq_f h166_1) ?_
    show Steps p.tables e below (T14.setTop (mkF m 169 Lo6 [])) _
    refine XS.lload X14.here hx rfl (hb hby d5_2n_169) rfl ?_
    show Steps p.tables e below (T14.setTop (mkF m 171 Lo6 [(.long x2)])) _
    refine XS.lloadN X14.here hx rfl (hb hby d5_2n_171) rfl ?_
    show Steps p.tables e below (T14.setTop (mkF m 172 Lo6 [(.long q4), (.long x2)])) _
    refine XS.ladd X14.here hx rfl (hb hby d5_2n_172) rfl ?_
    show Steps p.tables e below (T14.setTop (mkF m 173 Lo6 [(.long (x2 + q4))])) _
    refine XS.lload X14.here hx rfl (hb hby d5_2n_173) rfl ?_
    show Steps p.tables e below (T14.setTop (mkF m 175 Lo6 [(.long x0), (.long (x2 + q4))])) _
    refine XS.ladd X14.here hx rfl (hb hby d5_2n_175) rfl ?_
    show Steps p.tables e below (T14.setTop (mkF m 176 Lo6 [(.long ((x2 + q4) + x0))])) _
    refine XS.aloadN X14.here hx rfl (hb hby d5_2n_176) rfl rfl ?_
    show Steps p.tables e below (T14.setTop (mkF m 177 Lo6 [(.ref a1), (.long ((x2 + q4) + x0))])) _
    refine st15 _ ?_
    show Steps p.tables e below (T15.setTop (mkF m 180 Lo6 [(.ref bb), (.long ((x2 + q4) + x0))])) _
    refine XS.iload X15.here hx rfl (hb hby d5_2n_180) rfl ?_
    show Steps p.tables e below (T15.setTop (mkF m 182 Lo6 [(.int (0 : Int32)), (.ref bb), (.long ((x2 + q4) + x0))])) _
    refine XS.aloadN X15.here hx rfl (hb hby d5_2n_182) rfl rfl ?_
    show Steps p.tables e below (T15.setTop (mkF m 183 Lo6 [(.ref a1), (.int (0 : Int32)), (.ref bb), (.long ((x2 + q4) + x0))])) _
    refine st16 _ ?_
    show Steps p.tables e below (T16.setTop (mkF m 186 Lo6 [(.int (3 : Int32)), (.int (0 : Int32)), (.ref bb), (.long ((x2 + q4) + x0))])) _
    refine XS.imul X16.here hx rfl (hb hby d5_2n_186) rfl ?_
    show Steps p.tables e below (T16.setTop (mkF m 187 Lo6 [(.int (0 : Int32)), (.ref bb), (.long ((x2 + q4) + x0))])) _
    refine XS.iload X16.here hx rfl (hb hby d5_2n_187) rfl ?_
    show Steps p.tables e below (T16.setTop (mkF m 189 Lo6 [(.int (0 : Int32)), (.int (0 : Int32)), (.ref bb), (.long ((x2 + q4) + x0))])) _
    refine XS.iadd X16.here hx rfl (hb hby d5_2n_189) rfl ?_
    show Steps p.tables e below (T16.setTop (mkF m 190 Lo6 [(.int (0 : Int32)), (.ref bb), (.long ((x2 + q4) + x0))])) _
    refine own_ldJ X16 hx hZ e16 A8 (j := (0 : Int32)) (by decide) (w := x0) rfl (g := (mkF m 190 Lo6 [(.int (0 : Int32)), (.ref bb), (.long ((x2 + q4) + x0))])) rfl rfl (hb hby d5_2n_190) _ ?_
    show Steps p.tables e below (T16.setTop (mkF m 191 Lo6 [(.long x0), (.long ((x2 + q4) + x0))])) _
    refine XS.lcmp X16.here hx rfl (hb hby d5_2n_191) rfl ?_
    show Steps p.tables e below (T16.setTop (mkF m 192 Lo6 [(.int (lcmpW ((x2 + q4) + x0) x0))])) _
    refine XS.ifYes X16.here hx rfl (pc0 := 192) (pc' := 217) rfl (hb hby d5_2n_192) rfl (own_lw_ge_t h192_1) (by decide) (by decide) ?_
    show Steps p.tables e below (T16.setTop (mkF m 217 Lo6 [])) _
    refine XS.iinc X16.here hx rfl (hb hby d5_2n_217) rfl (l' := Lo7) rfl ?_
    show Steps p.tables e below (T16.setTop (mkF m 220 Lo7 [])) _
    refine XS.goto X16.here hx rfl (pc0 := 220) (pc' := 135) rfl (hb hby d5_2n_220) (by decide) (by decide) ?_
    show Steps p.tables e below (T16.setTop (mkF m 135 Lo7 [])) _
    refine XS.iload X16.here hx rfl (hb hby d5_2n_135) rfl ?_
    show Steps p.tables e below (T16.setTop (mkF m 137 Lo7 [(.int (1 : Int32))])) _
    refine XS.aloadN X16.here hx rfl (hb hby d5_2n_137) rfl rfl ?_
    show Steps p.tables e below (T16.setTop (mkF m 138 Lo7 [(.ref a1), (.int (1 : Int32))])) _
    refine st17 _ ?_
    show Steps p.tables e below (T17.setTop (mkF m 141 Lo7 [(.int (3 : Int32)), (.int (1 : Int32))])) _
    refine XS.icmpNo X17.here hx rfl (hb hby d5_2n_141) rfl (by first | rfl | decide) ?_
    show Steps p.tables e below (T17.setTop (mkF m 144 Lo7 [])) _
    refine XS.aloadN X17.here hx rfl (hb hby d5_2n_144) rfl rfl ?_
    show Steps p.tables e below (T17.setTop (mkF m 145 Lo7 [(.ref a1)])) _
    refine st18 _ ?_
    show Steps p.tables e below (T18.setTop (mkF m 148 Lo7 [(.ref bb)])) _
    refine XS.iloadN X18.here hx rfl (hb hby d5_2n_148) rfl ?_
    show Steps p.tables e below (T18.setTop (mkF m 149 Lo7 [(.int (0 : Int32)), (.ref bb)])) _
    refine XS.aloadN X18.here hx rfl (hb hby d5_2n_149) rfl rfl ?_
    show Steps p.tables e below (T18.setTop (mkF m 150 Lo7 [(.ref a1), (.int (0 : Int32)), (.ref bb)])) _
    refine st19 _ ?_
    show Steps p.tables e below (T19.setTop (mkF m 153 Lo7 [(.int (3 : Int32)), (.int (0 : Int32)), (.ref bb)])) _
    refine XS.imul X19.here hx rfl (hb hby d5_2n_153) rfl ?_
    show Steps p.tables e below (T19.setTop (mkF m 154 Lo7 [(.int (0 : Int32)), (.ref bb)])) _
    refine XS.iload X19.here hx rfl (hb hby d5_2n_154) rfl ?_
    show Steps p.tables e below (T19.setTop (mkF m 156 Lo7 [(.int (1 : Int32)), (.int (0 : Int32)), (.ref bb)])) _
    refine XS.iadd X19.here hx rfl (hb hby d5_2n_156) rfl ?_
    show Steps p.tables e below (T19.setTop (mkF m 157 Lo7 [(.int (1 : Int32)), (.ref bb)])) _
    refine own_ldJ X19 hx hZ e19 A8 (j := (1 : Int32)) (by decide) (w := x1) rfl (g := (mkF m 157 Lo7 [(.int (1 : Int32)), (.ref bb)])) rfl rfl (hb hby d5_2n_157) _ ?_
    show Steps p.tables e below (T19.setTop (mkF m 158 Lo7 [(.long x1)])) _
    refine XS.lstore X19.here hx rfl (hb hby d5_2n_158) rfl (l' := Lo8) rfl ?_
    show Steps p.tables e below (T19.setTop (mkF m 160 Lo8 [])) _
    refine XS.lload X19.here hx rfl (hb hby d5_2n_160) rfl ?_
    show Steps p.tables e below (T19.setTop (mkF m 162 Lo8 [(.long x1)])) _
    refine X19.ldc2Long hx hown (mvT hZ w21_) (g := (mkF m 162 Lo8 [(.long x1)])) rfl (hb hby d5_2n_162) _ ?_
    show Steps p.tables e below (T19.setTop (mkF m 165 Lo8 [(.long (9223372036854775807 : Int64)), (.long x1)])) _
    refine XS.lcmp X19.here hx rfl (hb hby d5_2n_165) rfl ?_
    show Steps p.tables e below (T19.setTop (mkF m 166 Lo8 [(.int (lcmpW x1 (9223372036854775807 : Int64)))])) _
    refine XS.ifNo X19.here hx rfl (hb hby d5_2n_166) rfl (own_lw_eq_f h166_2) ?_
    show Steps p.tables e below (T19.setTop (mkF m 169 Lo8 [])) _
    refine XS.lload X19.here hx rfl (hb hby d5_2n_169) rfl ?_
    show Steps p.tables e below (T19.setTop (mkF m 171 Lo8 [(.long x2)])) _
    refine XS.lloadN X19.here hx rfl (hb hby d5_2n_171) rfl ?_
    show Steps p.tables e below (T19.setTop (mkF m 172 Lo8 [(.long q4), (.long x2)])) _
    refine XS.ladd X19.here hx rfl (hb hby d5_2n_172) rfl ?_
    show Steps p.tables e below (T19.setTop (mkF m 173 Lo8 [(.long (x2 + q4))])) _
    refine XS.lload X19.here hx rfl (hb hby d5_2n_173) rfl ?_
    show Steps p.tables e below (T19.setTop (mkF m 175 Lo8 [(.long x1), (.long (x2 + q4))])) _
    refine XS.ladd X19.here hx rfl (hb hby d5_2n_175) rfl ?_
    show Steps p.tables e below (T19.setTop (mkF m 176 Lo8 [(.long ((x2 + q4) + x1))])) _
    refine XS.aloadN X19.here hx rfl (hb hby d5_2n_176) rfl rfl ?_
    show Steps p.tables e below (T19.setTop (mkF m 177 Lo8 [(.ref a1), (.long ((x2 + q4) + x1))])) _
    refine st20 _ ?_
    show Steps p.tables e below (T20.setTop (mkF m 180 Lo8 [(.ref bb), (.long ((x2 + q4) + x1))])) _
    refine XS.iload X20.here hx rfl (hb hby d5_2n_180) rfl ?_
    show Steps p.tables e below (T20.setTop (mkF m 182 Lo8 [(.int (0 : Int32)), (.ref bb), (.long ((x2 + q4) + x1))])) _
    refine XS.aloadN X20.here hx rfl (hb hby d5_2n_182) rfl rfl ?_
    show Steps p.tables e below (T20.setTop (mkF m 183 Lo8 [(.ref a1), (.int (0 : Int32)), (.ref bb), (.long ((x2 + q4) + x1))])) _
    refine st21 _ ?_
    show Steps p.tables e below (T21.setTop (mkF m 186 Lo8 [(.int (3 : Int32)), (.int (0 : Int32)), (.ref bb), (.long ((x2 + q4) + x1))])) _
    refine XS.imul X21.here hx rfl (hb hby d5_2n_186) rfl ?_
    show Steps p.tables e below (T21.setTop (mkF m 187 Lo8 [(.int (0 : Int32)), (.ref bb), (.long ((x2 + q4) + x1))])) _
    refine XS.iload X21.here hx rfl (hb hby d5_2n_187) rfl ?_
    show Steps p.tables e below (T21.setTop (mkF m 189 Lo8 [(.int (1 : Int32)), (.int (0 : Int32)), (.ref bb), (.long ((x2 + q4) + x1))])) _
    refine XS.iadd X21.here hx rfl (hb hby d5_2n_189) rfl ?_
    show Steps p.tables e below (T21.setTop (mkF m 190 Lo8 [(.int (1 : Int32)), (.ref bb), (.long ((x2 + q4) + x1))])) _
    refine own_ldJ X21 hx hZ e21 A8 (j := (1 : Int32)) (by decide) (w := x1) rfl (g := (mkF m 190 Lo8 [(.int (1 : Int32)), (.ref bb), (.long ((x2 + q4) + x1))])) rfl rfl (hb hby d5_2n_190) _ ?_
    show Steps p.tables e below (T21.setTop (mkF m 191 Lo8 [(.long x1), (.long ((x2 + q4) + x1))])) _
    refine XS.lcmp X21.here hx rfl (hb hby d5_2n_191) rfl ?_
    show Steps p.tables e below (T21.setTop (mkF m 192 Lo8 [(.int (lcmpW ((x2 + q4) + x1) x1))])) _
    refine XS.ifYes X21.here hx rfl (pc0 := 192) (pc' := 217) rfl (hb hby d5_2n_192) rfl (own_lw_ge_t h192_2) (by decide) (by decide) ?_
    show Steps p.tables e below (T21.setTop (mkF m 217 Lo8 [])) _
    refine XS.iinc X21.here hx rfl (hb hby d5_2n_217) rfl (l' := Lo9) rfl ?_
    show Steps p.tables e below (T21.setTop (mkF m 220 Lo9 [])) _
    refine XS.goto X21.here hx rfl (pc0 := 220) (pc' := 135) rfl (hb hby d5_2n_220) (by decide) (by decide) ?_
    show Steps p.tables e below (T21.setTop (mkF m 135 Lo9 [])) _
    refine XS.iload X21.here hx rfl (hb hby d5_2n_135) rfl ?_
    show Steps p.tables e below (T21.setTop (mkF m 137 Lo9 [(.int (2 : Int32))])) _
    refine XS.aloadN X21.here hx rfl (hb hby d5_2n_137) rfl rfl ?_
    show Steps p.tables e below (T21.setTop (mkF m 138 Lo9 [(.ref a1), (.int (2 : Int32))])) _
    refine st22 _ ?_
    show Steps p.tables e below (T22.setTop (mkF m 141 Lo9 [(.int (3 : Int32)), (.int (2 : Int32))])) _
    refine XS.icmpNo X22.here hx rfl (hb hby d5_2n_141) rfl (by first | rfl | decide) ?_
    show Steps p.tables e below (T22.setTop (mkF m 144 Lo9 [])) _
    refine XS.aloadN X22.here hx rfl (hb hby d5_2n_144) rfl rfl ?_
    show Steps p.tables e below (T22.setTop (mkF m 145 Lo9 [(.ref a1)])) _
    refine st23 _ ?_
    show Steps p.tables e below (T23.setTop (mkF m 148 Lo9 [(.ref bb)])) _
    refine XS.iloadN X23.here hx rfl (hb hby d5_2n_148) rfl ?_
    show Steps p.tables e below (T23.setTop (mkF m 149 Lo9 [(.int (0 : Int32)), (.ref bb)])) _
    refine XS.aloadN X23.here hx rfl (hb hby d5_2n_149) rfl rfl ?_
    show Steps p.tables e below (T23.setTop (mkF m 150 Lo9 [(.ref a1), (.int (0 : Int32)), (.ref bb)])) _
    refine st24 _ ?_
    show Steps p.tables e below (T24.setTop (mkF m 153 Lo9 [(.int (3 : Int32)), (.int (0 : Int32)), (.ref bb)])) _
    refine XS.imul X24.here hx rfl (hb hby d5_2n_153) rfl ?_
    show Steps p.tables e below (T24.setTop (mkF m 154 Lo9 [(.int (0 : Int32)), (.ref bb)])) _
    refine XS.iload X24.here hx rfl (hb hby d5_2n_154) rfl ?_
    show Steps p.tables e below (T24.setTop (mkF m 156 Lo9 [(.int (2 : Int32)), (.int (0 : Int32)), (.ref bb)])) _
    refine XS.iadd X24.here hx rfl (hb hby d5_2n_156) rfl ?_
    show Steps p.tables e below (T24.setTop (mkF m 157 Lo9 [(.int (2 : Int32)), (.ref bb)])) _
    refine own_ldJ X24 hx hZ e24 A8 (j := (2 : Int32)) (by decide) (w := x2) rfl (g := (mkF m 157 Lo9 [(.int (2 : Int32)), (.ref bb)])) rfl rfl (hb hby d5_2n_157) _ ?_
    show Steps p.tables e below (T24.setTop (mkF m 158 Lo9 [(.long x2)])) _
    refine XS.lstore X24.here hx rfl (hb hby d5_2n_158) rfl (l' := Lo10) rfl ?_
    show Steps p.tables e below (T24.setTop (mkF m 160 Lo10 [])) _
    refine XS.lload X24.here hx rfl (hb hby d5_2n_160) rfl ?_
    show Steps p.tables e below (T24.setTop (mkF m 162 Lo10 [(.long x2)])) _
    refine X24.ldc2Long hx hown (mvT hZ w21_) (g := (mkF m 162 Lo10 [(.long x2)])) rfl (hb hby d5_2n_162) _ ?_
    show Steps p.tables e below (T24.setTop (mkF m 165 Lo10 [(.long (9223372036854775807 : Int64)), (.long x2)])) _
    refine XS.lcmp X24.here hx rfl (hb hby d5_2n_165) rfl ?_
    show Steps p.tables e below (T24.setTop (mkF m 166 Lo10 [(.int (lcmpW x2 (9223372036854775807 : Int64)))])) _
    refine XS.ifNo X24.here hx rfl (hb hby d5_2n_166) rfl (own_lw_eq_f h59_1) ?_
    show Steps p.tables e below (T24.setTop (mkF m 169 Lo10 [])) _
    refine XS.lload X24.here hx rfl (hb hby d5_2n_169) rfl ?_
    show Steps p.tables e below (T24.setTop (mkF m 171 Lo10 [(.long x2)])) _
    refine XS.lloadN X24.here hx rfl (hb hby d5_2n_171) rfl ?_
    show Steps p.tables e below (T24.setTop (mkF m 172 Lo10 [(.long q4), (.long x2)])) _
    refine XS.ladd X24.here hx rfl (hb hby d5_2n_172) rfl ?_
    show Steps p.tables e below (T24.setTop (mkF m 173 Lo10 [(.long (x2 + q4))])) _
    refine XS.lload X24.here hx rfl (hb hby d5_2n_173) rfl ?_
    show Steps p.tables e below (T24.setTop (mkF m 175 Lo10 [(.long x2), (.long (x2 + q4))])) _
    refine XS.ladd X24.here hx rfl (hb hby d5_2n_175) rfl ?_
    show Steps p.tables e below (T24.setTop (mkF m 176 Lo10 [(.long ((x2 + q4) + x2))])) _
    refine XS.aloadN X24.here hx rfl (hb hby d5_2n_176) rfl rfl ?_
    show Steps p.tables e below (T24.setTop (mkF m 177 Lo10 [(.ref a1), (.long ((x2 + q4) + x2))])) _
    refine st25 _ ?_
    show Steps p.tables e below (T25.setTop (mkF m 180 Lo10 [(.ref bb), (.long ((x2 + q4) + x2))])) _
    refine XS.iload X25.here hx rfl (hb hby d5_2n_180) rfl ?_
    show Steps p.tables e below (T25.setTop (mkF m 182 Lo10 [(.int (0 : Int32)), (.ref bb), (.long ((x2 + q4) + x2))])) _
    refine XS.aloadN X25.here hx rfl (hb hby d5_2n_182) rfl rfl ?_
    show Steps p.tables e below (T25.setTop (mkF m 183 Lo10 [(.ref a1), (.int (0 : Int32)), (.ref bb), (.long ((x2 + q4) + x2))])) _
    refine st26 _ ?_
    show Steps p.tables e below (T26.setTop (mkF m 186 Lo10 [(.int (3 : Int32)), (.int (0 : Int32)), (.ref bb), (.long ((x2 + q4) + x2))])) _
    refine XS.imul X26.here hx rfl (hb hby d5_2n_186) rfl ?_
    show Steps p.tables e below (T26.setTop (mkF m 187 Lo10 [(.int (0 : Int32)), (.ref bb), (.long ((x2 + q4) + x2))])) _
    refine XS.iload X26.here hx rfl (hb hby d5_2n_187) rfl ?_
    show Steps p.tables e below (T26.setTop (mkF m 189 Lo10 [(.int (2 : Int32)), (.int (0 : Int32)), (.ref bb), (.long ((x2 + q4) + x2))])) _
    refine XS.iadd X26.here hx rfl (hb hby d5_2n_189) rfl ?_
    show Steps p.tables e below (T26.setTop (mkF m 190 Lo10 [(.int (2 : Int32)), (.ref bb), (.long ((x2 + q4) + x2))])) _
    refine own_ldJ X26 hx hZ e26 A8 (j := (2 : Int32)) (by decide) (w := x2) rfl (g := (mkF m 190 Lo10 [(.int (2 : Int32)), (.ref bb), (.long ((x2 + q4) + x2))])) rfl rfl (hb hby d5_2n_190) _ ?_
    show Steps p.tables e below (T26.setTop (mkF m 191 Lo10 [(.long x2), (.long ((x2 + q4) + x2))])) _
    refine XS.lcmp X26.here hx rfl (hb hby d5_2n_191) rfl ?_
    show Steps p.tables e below (T26.setTop (mkF m 192 Lo10 [(.int (lcmpW ((x2 + q4) + x2) x2))])) _
    refine XS.ifYes X26.here hx rfl (pc0 := 192) (pc' := 217) rfl (hb hby d5_2n_192) rfl (own_lw_ge_t h192_3) (by decide) (by decide) ?_
    show Steps p.tables e below (T26.setTop (mkF m 217 Lo10 [])) _
    refine XS.iinc X26.here hx rfl (hb hby d5_2n_217) rfl (l' := Lo11) rfl ?_
    show Steps p.tables e below (T26.setTop (mkF m 220 Lo11 [])) _
    refine XS.goto X26.here hx rfl (pc0 := 220) (pc' := 135) rfl (hb hby d5_2n_220) (by decide) (by decide) ?_
    show Steps p.tables e below (T26.setTop (mkF m 135 Lo11 [])) _
    refine XS.iload X26.here hx rfl (hb hby d5_2n_135) rfl ?_
    show Steps p.tables e below (T26.setTop (mkF m 137 Lo11 [(.int (3 : Int32))])) _
    refine XS.aloadN X26.here hx rfl (hb hby d5_2n_137) rfl rfl ?_
    show Steps p.tables e below (T26.setTop (mkF m 138 Lo11 [(.ref a1), (.int (3 : Int32))])) _
    refine st27 _ ?_
    show Steps p.tables e below (T27.setTop (mkF m 141 Lo11 [(.int (3 : Int32)), (.int (3 : Int32))])) _
    refine XS.icmpYes X27.here hx rfl (pc0 := 141) (pc' := 223) rfl (hb hby d5_2n_141) rfl (by first | rfl | decide) (by decide) (by decide) ?_
    show Steps p.tables e below (T27.setTop (mkF m 223 Lo11 [])) _
    refine XS.iinc X27.here hx rfl (hb hby d5_2n_223) rfl (l' := Lo12) rfl ?_
    show Steps p.tables e below (T27.setTop (mkF m 226 Lo12 [])) _
    refine XS.goto X27.here hx rfl (pc0 := 226) (pc' := 95) rfl (hb hby d5_2n_226) (by decide) (by decide) ?_
    show Steps p.tables e below (T27.setTop (mkF m 95 Lo12 [])) _
    refine XS.iload X27.here hx rfl (hb hby d5_2n_95) rfl ?_
    show Steps p.tables e below (T27.setTop (mkF m 97 Lo12 [(.int (1 : Int32))])) _
    refine XS.aloadN X27.here hx rfl (hb hby d5_2n_97) rfl rfl ?_
    show Steps p.tables e below (T27.setTop (mkF m 98 Lo12 [(.ref a1), (.int (1 : Int32))])) _
    refine st28 _ ?_
    show Steps p.tables e below (T28.setTop (mkF m 101 Lo12 [(.int (3 : Int32)), (.int (1 : Int32))])) _
    refine XS.icmpNo X28.here hx rfl (hb hby d5_2n_101) rfl (by first | rfl | decide) ?_
    show Steps p.tables e below (T28.setTop (mkF m 104 Lo12 [])) _
    refine XS.aloadN X28.here hx rfl (hb hby d5_2n_104) rfl rfl ?_
    show Steps p.tables e below (T28.setTop (mkF m 105 Lo12 [(.ref a1)])) _
    refine st29 _ ?_
    show Steps p.tables e below (T29.setTop (mkF m 108 Lo12 [(.ref bb)])) _
    refine XS.iload X29.here hx rfl (hb hby d5_2n_108) rfl ?_
    show Steps p.tables e below (T29.setTop (mkF m 110 Lo12 [(.int (1 : Int32)), (.ref bb)])) _
    refine XS.aloadN X29.here hx rfl (hb hby d5_2n_110) rfl rfl ?_
    show Steps p.tables e below (T29.setTop (mkF m 111 Lo12 [(.ref a1), (.int (1 : Int32)), (.ref bb)])) _
    refine st30 _ ?_
    show Steps p.tables e below (T30.setTop (mkF m 114 Lo12 [(.int (3 : Int32)), (.int (1 : Int32)), (.ref bb)])) _
    refine XS.imul X30.here hx rfl (hb hby d5_2n_114) rfl ?_
    show Steps p.tables e below (T30.setTop (mkF m 115 Lo12 [(.int (3 : Int32)), (.ref bb)])) _
    refine XS.iloadN X30.here hx rfl (hb hby d5_2n_115) rfl ?_
    show Steps p.tables e below (T30.setTop (mkF m 116 Lo12 [(.int (2 : Int32)), (.int (3 : Int32)), (.ref bb)])) _
    refine XS.iadd X30.here hx rfl (hb hby d5_2n_116) rfl ?_
    show Steps p.tables e below (T30.setTop (mkF m 117 Lo12 [(.int (5 : Int32)), (.ref bb)])) _
    refine own_ldJ X30 hx hZ e30 A8 (j := (5 : Int32)) (by decide) (w := x5) rfl (g := (mkF m 117 Lo12 [(.int (5 : Int32)), (.ref bb)])) rfl rfl (hb hby d5_2n_117) _ ?_
    show Steps p.tables e below (T30.setTop (mkF m 118 Lo12 [(.long x5)])) _
    refine XS.lstore X30.here hx rfl (hb hby d5_2n_118) rfl (l' := Lo13) rfl ?_
    show Steps p.tables e below (T30.setTop (mkF m 120 Lo13 [])) _
    refine XS.lload X30.here hx rfl (hb hby d5_2n_120) rfl ?_
    show Steps p.tables e below (T30.setTop (mkF m 122 Lo13 [(.long x5)])) _
    refine X30.ldc2Long hx hown (mvT hZ w21_) (g := (mkF m 122 Lo13 [(.long x5)])) rfl (hb hby d5_2n_122) _ ?_
    show Steps p.tables e below (T30.setTop (mkF m 125 Lo13 [(.long (9223372036854775807 : Int64)), (.long x5)])) _
    refine XS.lcmp X30.here hx rfl (hb hby d5_2n_125) rfl ?_
    show Steps p.tables e below (T30.setTop (mkF m 126 Lo13 [(.int (lcmpW x5 (9223372036854775807 : Int64)))])) _
    refine XS.ifNo X30.here hx rfl (hb hby d5_2n_126) rfl (own_lw_ne_f h126_2) ?_
    show Steps p.tables e below (T30.setTop (mkF m 129 Lo13 [])) _
    refine XS.goto X30.here hx rfl (pc0 := 129) (pc' := 223) rfl (hb hby d5_2n_129) (by decide) (by decide) ?_
    show Steps p.tables e below (T30.setTop (mkF m 223 Lo13 [])) _
    refine XS.iinc X30.here hx rfl (hb hby d5_2n_223) rfl (l' := Lo14) rfl ?_
    show Steps p.tables e below (T30.setTop (mkF m 226 Lo14 [])) _
    refine XS.goto X30.here hx rfl (pc0 := 226) (pc' := 95) rfl (hb hby d5_2n_226) (by decide) (by decide) ?_
    show Steps p.tables e below (T30.setTop (mkF m 95 Lo14 [])) _
    refine XS.iload X30.here hx rfl (hb hby d5_2n_95) rfl ?_
    show Steps p.tables e below (T30.setTop (mkF m 97 Lo14 [(.int (2 : Int32))])) _
    refine XS.aloadN X30.here hx rfl (hb hby d5_2n_97) rfl rfl ?_
    show Steps p.tables e below (T30.setTop (mkF m 98 Lo14 [(.ref a1), (.int (2 : Int32))])) _
    refine st31 _ ?_
    show Steps p.tables e below (T31.setTop (mkF m 101 Lo14 [(.int (3 : Int32)), (.int (2 : Int32))])) _
    refine XS.icmpNo X31.here hx rfl (hb hby d5_2n_101) rfl (by first | rfl | decide) ?_
    show Steps p.tables e below (T31.setTop (mkF m 104 Lo14 [])) _
    refine XS.aloadN X31.here hx rfl (hb hby d5_2n_104) rfl rfl ?_
    show Steps p.tables e below (T31.setTop (mkF m 105 Lo14 [(.ref a1)])) _
    refine st32 _ ?_
    show Steps p.tables e below (T32.setTop (mkF m 108 Lo14 [(.ref bb)])) _
    refine XS.iload X32.here hx rfl (hb hby d5_2n_108) rfl ?_
    show Steps p.tables e below (T32.setTop (mkF m 110 Lo14 [(.int (2 : Int32)), (.ref bb)])) _
    refine XS.aloadN X32.here hx rfl (hb hby d5_2n_110) rfl rfl ?_
    show Steps p.tables e below (T32.setTop (mkF m 111 Lo14 [(.ref a1), (.int (2 : Int32)), (.ref bb)])) _
    refine st33 _ ?_
    show Steps p.tables e below (T33.setTop (mkF m 114 Lo14 [(.int (3 : Int32)), (.int (2 : Int32)), (.ref bb)])) _
    refine XS.imul X33.here hx rfl (hb hby d5_2n_114) rfl ?_
    show Steps p.tables e below (T33.setTop (mkF m 115 Lo14 [(.int (6 : Int32)), (.ref bb)])) _
    refine XS.iloadN X33.here hx rfl (hb hby d5_2n_115) rfl ?_
    show Steps p.tables e below (T33.setTop (mkF m 116 Lo14 [(.int (2 : Int32)), (.int (6 : Int32)), (.ref bb)])) _
    refine XS.iadd X33.here hx rfl (hb hby d5_2n_116) rfl ?_
    show Steps p.tables e below (T33.setTop (mkF m 117 Lo14 [(.int (8 : Int32)), (.ref bb)])) _
    refine own_ldJ X33 hx hZ e33 A8 (j := (8 : Int32)) (by decide) (w := x8) rfl (g := (mkF m 117 Lo14 [(.int (8 : Int32)), (.ref bb)])) rfl rfl (hb hby d5_2n_117) _ ?_
    show Steps p.tables e below (T33.setTop (mkF m 118 Lo14 [(.long x8)])) _
    refine XS.lstore X33.here hx rfl (hb hby d5_2n_118) rfl (l' := Lo15) rfl ?_
    show Steps p.tables e below (T33.setTop (mkF m 120 Lo15 [])) _
    refine XS.lload X33.here hx rfl (hb hby d5_2n_120) rfl ?_
    show Steps p.tables e below (T33.setTop (mkF m 122 Lo15 [(.long x8)])) _
    refine X33.ldc2Long hx hown (mvT hZ w21_) (g := (mkF m 122 Lo15 [(.long x8)])) rfl (hb hby d5_2n_122) _ ?_
    show Steps p.tables e below (T33.setTop (mkF m 125 Lo15 [(.long (9223372036854775807 : Int64)), (.long x8)])) _
    refine XS.lcmp X33.here hx rfl (hb hby d5_2n_125) rfl ?_
    show Steps p.tables e below (T33.setTop (mkF m 126 Lo15 [(.int (lcmpW x8 (9223372036854775807 : Int64)))])) _
    refine XS.ifYes X33.here hx rfl (pc0 := 126) (pc' := 132) rfl (hb hby d5_2n_126) rfl (own_lw_ne_t h126_3) (by decide) (by decide) ?_
    show Steps p.tables e below (T33.setTop (mkF m 132 Lo15 [])) _
    refine XS.iconst X33.here hx rfl (hb hby d5_2n_132) ?_
    show Steps p.tables e below (T33.setTop (mkF m 133 Lo15 [(.int (0 : Int32))])) _
    refine XS.istore X33.here hx rfl (hb hby d5_2n_133) rfl (l' := Lo16) rfl ?_
    show Steps p.tables e below (T33.setTop (mkF m 135 Lo16 [])) _
    refine XS.iload X33.here hx rfl (hb hby d5_2n_135) rfl ?_
    show Steps p.tables e below (T33.setTop (mkF m 137 Lo16 [(.int (0 : Int32))])) _
    refine XS.aloadN X33.here hx rfl (hb hby d5_2n_137) rfl rfl ?_
    show Steps p.tables e below (T33.setTop (mkF m 138 Lo16 [(.ref a1), (.int (0 : Int32))])) _
    refine st34 _ ?_
    show Steps p.tables e below (T34.setTop (mkF m 141 Lo16 [(.int (3 : Int32)), (.int (0 : Int32))])) _
    refine XS.icmpNo X34.here hx rfl (hb hby d5_2n_141) rfl (by first | rfl | decide) ?_
    show Steps p.tables e below (T34.setTop (mkF m 144 Lo16 [])) _
    refine XS.aloadN X34.here hx rfl (hb hby d5_2n_144) rfl rfl ?_
    show Steps p.tables e below (T34.setTop (mkF m 145 Lo16 [(.ref a1)])) _
    refine st35 _ ?_
    show Steps p.tables e below (T35.setTop (mkF m 148 Lo16 [(.ref bb)])) _
    refine XS.iloadN X35.here hx rfl (hb hby d5_2n_148) rfl ?_
    show Steps p.tables e below (T35.setTop (mkF m 149 Lo16 [(.int (0 : Int32)), (.ref bb)])) _
    refine XS.aloadN X35.here hx rfl (hb hby d5_2n_149) rfl rfl ?_
    show Steps p.tables e below (T35.setTop (mkF m 150 Lo16 [(.ref a1), (.int (0 : Int32)), (.ref bb)])) _
    refine st36 _ ?_
    show Steps p.tables e below (T36.setTop (mkF m 153 Lo16 [(.int (3 : Int32)), (.int (0 : Int32)), (.ref bb)])) _
    refine XS.imul X36.here hx rfl (hb hby d5_2n_153) rfl ?_
    show Steps p.tables e below (T36.setTop (mkF m 154 Lo16 [(.int (0 : Int32)), (.ref bb)])) _
    refine XS.iload X36.here hx rfl (hb hby d5_2n_154) rfl ?_
    show Steps p.tables e below (T36.setTop (mkF m 156 Lo16 [(.int (0 : Int32)), (.int (0 : Int32)), (.ref bb)])) _
    refine XS.iadd X36.here hx rfl (hb hby d5_2n_156) rfl ?_
    show Steps p.tables e below (T36.setTop (mkF m 157 Lo16 [(.int (0 : Int32)), (.ref bb)])) _
    refine own_ldJ X36 hx hZ e36 A8 (j := (0 : Int32)) (by decide) (w := x0) rfl (g := (mkF m 157 Lo16 [(.int (0 : Int32)), (.ref bb)])) rfl rfl (hb hby d5_2n_157) _ ?_
    show Steps p.tables e below (T36.setTop (mkF m 158 Lo16 [(.long x0)])) _
    refine XS.lstore X36.here hx rfl (hb hby d5_2n_158) rfl (l' := Lo17) rfl ?_
    show Steps p.tables e below (T36.setTop (mkF m 160 Lo17 [])) _
    refine XS.lload X36.here hx rfl (hb hby d5_2n_160) rfl ?_
    show Steps p.tables e below (T36.setTop (mkF m 162 Lo17 [(.long x0)])) _
    refine X36.ldc2Long hx hown (mvT hZ w21_) (g := (mkF m 162 Lo17 [(.long x0)])) rfl (hb hby d5_2n_162) _ ?_
    show Steps p.tables e below (T36.setTop (mkF m 165 Lo17 [(.long (9223372036854775807 : Int64)), (.long x0)])) _
    refine XS.lcmp X36.here hx rfl (hb hby d5_2n_165) rfl ?_
    show Steps p.tables e below (T36.setTop (mkF m 166 Lo17 [(.int (lcmpW x0 (9223372036854775807 : Int64)))])) _
    refine XS.ifNo X36.here hx rfl (hb hby d5_2n_166) rfl (own_lw_eq_f h166_1) ?_
    show Steps p.tables e below (T36.setTop (mkF m 169 Lo17 [])) _
    refine XS.lload X36.here hx rfl (hb hby d5_2n_169) rfl ?_
    show Steps p.tables e below (T36.setTop (mkF m 171 Lo17 [(.long x8)])) _
    refine XS.lloadN X36.here hx rfl (hb hby d5_2n_171) rfl ?_
    show Steps p.tables e below (T36.setTop (mkF m 172 Lo17 [(.long q4), (.long x8)])) _
    refine XS.ladd X36.here hx rfl (hb hby d5_2n_172) rfl ?_
    show Steps p.tables e below (T36.setTop (mkF m 173 Lo17 [(.long (x8 + q4))])) _
    refine XS.lload X36.here hx rfl (hb hby d5_2n_173) rfl ?_
    show Steps p.tables e below (T36.setTop (mkF m 175 Lo17 [(.long x0), (.long (x8 + q4))])) _
    refine XS.ladd X36.here hx rfl (hb hby d5_2n_175) rfl ?_
    show Steps p.tables e below (T36.setTop (mkF m 176 Lo17 [(.long ((x8 + q4) + x0))])) _
    refine XS.aloadN X36.here hx rfl (hb hby d5_2n_176) rfl rfl ?_
    show Steps p.tables e below (T36.setTop (mkF m 177 Lo17 [(.ref a1), (.long ((x8 + q4) + x0))])) _
    refine st37 _ ?_
    show Steps p.tables e below (T37.setTop (mkF m 180 Lo17 [(.ref bb), (.long ((x8 + q4) + x0))])) _
    refine XS.iload X37.here hx rfl (hb hby d5_2n_180) rfl ?_
    show Steps p.tables e below (T37.setTop (mkF m 182 Lo17 [(.int (2 : Int32)), (.ref bb), (.long ((x8 + q4) + x0))])) _
    refine XS.aloadN X37.here hx rfl (hb hby d5_2n_182) rfl rfl ?_
    show Steps p.tables e below (T37.setTop (mkF m 183 Lo17 [(.ref a1), (.int (2 : Int32)), (.ref bb), (.long ((x8 + q4) + x0))])) _
    refine st38 _ ?_
    show Steps p.tables e below (T38.setTop (mkF m 186 Lo17 [(.int (3 : Int32)), (.int (2 : Int32)), (.ref bb), (.long ((x8 + q4) + x0))])) _
    refine XS.imul X38.here hx rfl (hb hby d5_2n_186) rfl ?_
    show Steps p.tables e below (T38.setTop (mkF m 187 Lo17 [(.int (6 : Int32)), (.ref bb), (.long ((x8 + q4) + x0))])) _
    refine XS.iload X38.here hx rfl (hb hby d5_2n_187) rfl ?_
    show Steps p.tables e below (T38.setTop (mkF m 189 Lo17 [(.int (0 : Int32)), (.int (6 : Int32)), (.ref bb), (.long ((x8 + q4) + x0))])) _
    refine XS.iadd X38.here hx rfl (hb hby d5_2n_189) rfl ?_
    show Steps p.tables e below (T38.setTop (mkF m 190 Lo17 [(.int (6 : Int32)), (.ref bb), (.long ((x8 + q4) + x0))])) _
    refine own_ldJ X38 hx hZ e38 A8 (j := (6 : Int32)) (by decide) (w := q4) rfl (g := (mkF m 190 Lo17 [(.int (6 : Int32)), (.ref bb), (.long ((x8 + q4) + x0))])) rfl rfl (hb hby d5_2n_190) _ ?_
    show Steps p.tables e below (T38.setTop (mkF m 191 Lo17 [(.long q4), (.long ((x8 + q4) + x0))])) _
    refine XS.lcmp X38.here hx rfl (hb hby d5_2n_191) rfl ?_
    show Steps p.tables e below (T38.setTop (mkF m 192 Lo17 [(.int (lcmpW ((x8 + q4) + x0) q4))])) _
    refine XS.ifYes X38.here hx rfl (pc0 := 192) (pc' := 217) rfl (hb hby d5_2n_192) rfl (own_lw_ge_t h192_4) (by decide) (by decide) ?_
    show Steps p.tables e below (T38.setTop (mkF m 217 Lo17 [])) _
    refine XS.iinc X38.here hx rfl (hb hby d5_2n_217) rfl (l' := Lo18) rfl ?_
    show Steps p.tables e below (T38.setTop (mkF m 220 Lo18 [])) _
    refine XS.goto X38.here hx rfl (pc0 := 220) (pc' := 135) rfl (hb hby d5_2n_220) (by decide) (by decide) ?_
    show Steps p.tables e below (T38.setTop (mkF m 135 Lo18 [])) _
    refine XS.iload X38.here hx rfl (hb hby d5_2n_135) rfl ?_
    show Steps p.tables e below (T38.setTop (mkF m 137 Lo18 [(.int (1 : Int32))])) _
    refine XS.aloadN X38.here hx rfl (hb hby d5_2n_137) rfl rfl ?_
    show Steps p.tables e below (T38.setTop (mkF m 138 Lo18 [(.ref a1), (.int (1 : Int32))])) _
    refine st39 _ ?_
    show Steps p.tables e below (T39.setTop (mkF m 141 Lo18 [(.int (3 : Int32)), (.int (1 : Int32))])) _
    refine XS.icmpNo X39.here hx rfl (hb hby d5_2n_141) rfl (by first | rfl | decide) ?_
    show Steps p.tables e below (T39.setTop (mkF m 144 Lo18 [])) _
    refine XS.aloadN X39.here hx rfl (hb hby d5_2n_144) rfl rfl ?_
    show Steps p.tables e below (T39.setTop (mkF m 145 Lo18 [(.ref a1)])) _
    refine st40 _ ?_
    show Steps p.tables e below (T40.setTop (mkF m 148 Lo18 [(.ref bb)])) _
    refine XS.iloadN X40.here hx rfl (hb hby d5_2n_148) rfl ?_
    show Steps p.tables e below (T40.setTop (mkF m 149 Lo18 [(.int (0 : Int32)), (.ref bb)])) _
    refine XS.aloadN X40.here hx rfl (hb hby d5_2n_149) rfl rfl ?_
    show Steps p.tables e below (T40.setTop (mkF m 150 Lo18 [(.ref a1), (.int (0 : Int32)), (.ref bb)])) _
    refine st41 _ ?_
    show Steps p.tables e below (T41.setTop (mkF m 153 Lo18 [(.int (3 : Int32)), (.int (0 : Int32)), (.ref bb)])) _
    refine XS.imul X41.here hx rfl (hb hby d5_2n_153) rfl ?_
    show Steps p.tables e below (T41.setTop (mkF m 154 Lo18 [(.int (0 : Int32)), (.ref bb)])) _
    refine XS.iload X41.here hx rfl (hb hby d5_2n_154) rfl ?_
    show Steps p.tables e below (T41.setTop (mkF m 156 Lo18 [(.int (1 : Int32)), (.int (0 : Int32)), (.ref bb)])) _
    refine XS.iadd X41.here hx rfl (hb hby d5_2n_156) rfl ?_
    show Steps p.tables e below (T41.setTop (mkF m 157 Lo18 [(.int (1 : Int32)), (.ref bb)])) _
    refine own_ldJ X41 hx hZ e41 A8 (j := (1 : Int32)) (by decide) (w := x1) rfl (g := (mkF m 157 Lo18 [(.int (1 : Int32)), (.ref bb)])) rfl rfl (hb hby d5_2n_157) _ ?_
    show Steps p.tables e below (T41.setTop (mkF m 158 Lo18 [(.long x1)])) _
    refine XS.lstore X41.here hx rfl (hb hby d5_2n_158) rfl (l' := Lo19) rfl ?_
    show Steps p.tables e below (T41.setTop (mkF m 160 Lo19 [])) _
    refine XS.lload X41.here hx rfl (hb hby d5_2n_160) rfl ?_
    show Steps p.tables e below (T41.setTop (mkF m 162 Lo19 [(.long x1)])) _
    refine X41.ldc2Long hx hown (mvT hZ w21_) (g := (mkF m 162 Lo19 [(.long x1)])) rfl (hb hby d5_2n_162) _ ?_
    show Steps p.tables e below (T41.setTop (mkF m 165 Lo19 [(.long (9223372036854775807 : Int64)), (.long x1)])) _
    refine XS.lcmp X41.here hx rfl (hb hby d5_2n_165) rfl ?_
    show Steps p.tables e below (T41.setTop (mkF m 166 Lo19 [(.int (lcmpW x1 (9223372036854775807 : Int64)))])) _
    refine XS.ifNo X41.here hx rfl (hb hby d5_2n_166) rfl (own_lw_eq_f h166_2) ?_
    show Steps p.tables e below (T41.setTop (mkF m 169 Lo19 [])) _
    refine XS.lload X41.here hx rfl (hb hby d5_2n_169) rfl ?_
    show Steps p.tables e below (T41.setTop (mkF m 171 Lo19 [(.long x8)])) _
    refine XS.lloadN X41.here hx rfl (hb hby d5_2n_171) rfl ?_
    show Steps p.tables e below (T41.setTop (mkF m 172 Lo19 [(.long q4), (.long x8)])) _
    refine XS.ladd X41.here hx rfl (hb hby d5_2n_172) rfl ?_
    show Steps p.tables e below (T41.setTop (mkF m 173 Lo19 [(.long (x8 + q4))])) _
    refine XS.lload X41.here hx rfl (hb hby d5_2n_173) rfl ?_
    show Steps p.tables e below (T41.setTop (mkF m 175 Lo19 [(.long x1), (.long (x8 + q4))])) _
    refine XS.ladd X41.here hx rfl (hb hby d5_2n_175) rfl ?_
    show Steps p.tables e below (T41.setTop (mkF m 176 Lo19 [(.long ((x8 + q4) + x1))])) _
    refine XS.aloadN X41.here hx rfl (hb hby d5_2n_176) rfl rfl ?_
    show Steps p.tables e below (T41.setTop (mkF m 177 Lo19 [(.ref a1), (.long ((x8 + q4) + x1))])) _
    refine st42 _ ?_
    show Steps p.tables e below (T42.setTop (mkF m 180 Lo19 [(.ref bb), (.long ((x8 + q4) + x1))])) _
    refine XS.iload X42.here hx rfl (hb hby d5_2n_180) rfl ?_
    show Steps p.tables e below (T42.setTop (mkF m 182 Lo19 [(.int (2 : Int32)), (.ref bb), (.long ((x8 + q4) + x1))])) _
    refine XS.aloadN X42.here hx rfl (hb hby d5_2n_182) rfl rfl ?_
    show Steps p.tables e below (T42.setTop (mkF m 183 Lo19 [(.ref a1), (.int (2 : Int32)), (.ref bb), (.long ((x8 + q4) + x1))])) _
    refine st43 _ ?_
    show Steps p.tables e below (T43.setTop (mkF m 186 Lo19 [(.int (3 : Int32)), (.int (2 : Int32)), (.ref bb), (.long ((x8 + q4) + x1))])) _
    refine XS.imul X43.here hx rfl (hb hby d5_2n_186) rfl ?_
    show Steps p.tables e below (T43.setTop (mkF m 187 Lo19 [(.int (6 : Int32)), (.ref bb), (.long ((x8 + q4) + x1))])) _
    refine XS.iload X43.here hx rfl (hb hby d5_2n_187) rfl ?_
    show Steps p.tables e below (T43.setTop (mkF m 189 Lo19 [(.int (1 : Int32)), (.int (6 : Int32)), (.ref bb), (.long ((x8 + q4) + x1))])) _
    refine XS.iadd X43.here hx rfl (hb hby d5_2n_189) rfl ?_
    show Steps p.tables e below (T43.setTop (mkF m 190 Lo19 [(.int (7 : Int32)), (.ref bb), (.long ((x8 + q4) + x1))])) _
    refine own_ldJ X43 hx hZ e43 A8 (j := (7 : Int32)) (by decide) (w := x7) rfl (g := (mkF m 190 Lo19 [(.int (7 : Int32)), (.ref bb), (.long ((x8 + q4) + x1))])) rfl rfl (hb hby d5_2n_190) _ ?_
    show Steps p.tables e below (T43.setTop (mkF m 191 Lo19 [(.long x7), (.long ((x8 + q4) + x1))])) _
    refine XS.lcmp X43.here hx rfl (hb hby d5_2n_191) rfl ?_
    show Steps p.tables e below (T43.setTop (mkF m 192 Lo19 [(.int (lcmpW ((x8 + q4) + x1) x7))])) _
    refine XS.ifYes X43.here hx rfl (pc0 := 192) (pc' := 217) rfl (hb hby d5_2n_192) rfl (own_lw_ge_t h192_5) (by decide) (by decide) ?_
    show Steps p.tables e below (T43.setTop (mkF m 217 Lo19 [])) _
    refine XS.iinc X43.here hx rfl (hb hby d5_2n_217) rfl (l' := Lo20) rfl ?_
    show Steps p.tables e below (T43.setTop (mkF m 220 Lo20 [])) _
    refine XS.goto X43.here hx rfl (pc0 := 220) (pc' := 135) rfl (hb hby d5_2n_220) (by decide) (by decide) ?_
    show Steps p.tables e below (T43.setTop (mkF m 135 Lo20 [])) _
    refine XS.iload X43.here hx rfl (hb hby d5_2n_135) rfl ?_
    show Steps p.tables e below (T43.setTop (mkF m 137 Lo20 [(.int (2 : Int32))])) _
    refine XS.aloadN X43.here hx rfl (hb hby d5_2n_137) rfl rfl ?_
    show Steps p.tables e below (T43.setTop (mkF m 138 Lo20 [(.ref a1), (.int (2 : Int32))])) _
    refine st44 _ ?_
    show Steps p.tables e below (T44.setTop (mkF m 141 Lo20 [(.int (3 : Int32)), (.int (2 : Int32))])) _
    refine XS.icmpNo X44.here hx rfl (hb hby d5_2n_141) rfl (by first | rfl | decide) ?_
    show Steps p.tables e below (T44.setTop (mkF m 144 Lo20 [])) _
    refine XS.aloadN X44.here hx rfl (hb hby d5_2n_144) rfl rfl ?_
    show Steps p.tables e below (T44.setTop (mkF m 145 Lo20 [(.ref a1)])) _
    refine st45 _ ?_
    show Steps p.tables e below (T45.setTop (mkF m 148 Lo20 [(.ref bb)])) _
    refine XS.iloadN X45.here hx rfl (hb hby d5_2n_148) rfl ?_
    show Steps p.tables e below (T45.setTop (mkF m 149 Lo20 [(.int (0 : Int32)), (.ref bb)])) _
    refine XS.aloadN X45.here hx rfl (hb hby d5_2n_149) rfl rfl ?_
    show Steps p.tables e below (T45.setTop (mkF m 150 Lo20 [(.ref a1), (.int (0 : Int32)), (.ref bb)])) _
    refine st46 _ ?_
    show Steps p.tables e below (T46.setTop (mkF m 153 Lo20 [(.int (3 : Int32)), (.int (0 : Int32)), (.ref bb)])) _
    refine XS.imul X46.here hx rfl (hb hby d5_2n_153) rfl ?_
    show Steps p.tables e below (T46.setTop (mkF m 154 Lo20 [(.int (0 : Int32)), (.ref bb)])) _
    refine XS.iload X46.here hx rfl (hb hby d5_2n_154) rfl ?_
    show Steps p.tables e below (T46.setTop (mkF m 156 Lo20 [(.int (2 : Int32)), (.int (0 : Int32)), (.ref bb)])) _
    refine XS.iadd X46.here hx rfl (hb hby d5_2n_156) rfl ?_
    show Steps p.tables e below (T46.setTop (mkF m 157 Lo20 [(.int (2 : Int32)), (.ref bb)])) _
    refine own_ldJ X46 hx hZ e46 A8 (j := (2 : Int32)) (by decide) (w := x2) rfl (g := (mkF m 157 Lo20 [(.int (2 : Int32)), (.ref bb)])) rfl rfl (hb hby d5_2n_157) _ ?_
    show Steps p.tables e below (T46.setTop (mkF m 158 Lo20 [(.long x2)])) _
    refine XS.lstore X46.here hx rfl (hb hby d5_2n_158) rfl (l' := Lo21) rfl ?_
    show Steps p.tables e below (T46.setTop (mkF m 160 Lo21 [])) _
    refine XS.lload X46.here hx rfl (hb hby d5_2n_160) rfl ?_
    show Steps p.tables e below (T46.setTop (mkF m 162 Lo21 [(.long x2)])) _
    refine X46.ldc2Long hx hown (mvT hZ w21_) (g := (mkF m 162 Lo21 [(.long x2)])) rfl (hb hby d5_2n_162) _ ?_
    show Steps p.tables e below (T46.setTop (mkF m 165 Lo21 [(.long (9223372036854775807 : Int64)), (.long x2)])) _
    refine XS.lcmp X46.here hx rfl (hb hby d5_2n_165) rfl ?_
    show Steps p.tables e below (T46.setTop (mkF m 166 Lo21 [(.int (lcmpW x2 (9223372036854775807 : Int64)))])) _
    refine XS.ifNo X46.here hx rfl (hb hby d5_2n_166) rfl (own_lw_eq_f h59_1) ?_
    show Steps p.tables e below (T46.setTop (mkF m 169 Lo21 [])) _
    refine XS.lload X46.here hx rfl (hb hby d5_2n_169) rfl ?_
    show Steps p.tables e below (T46.setTop (mkF m 171 Lo21 [(.long x8)])) _
    refine XS.lloadN X46.here hx rfl (hb hby d5_2n_171) rfl ?_
    show Steps p.tables e below (T46.setTop (mkF m 172 Lo21 [(.long q4), (.long x8)])) _
    refine XS.ladd X46.here hx rfl (hb hby d5_2n_172) rfl ?_
    show Steps p.tables e below (T46.setTop (mkF m 173 Lo21 [(.long (x8 + q4))])) _
    refine XS.lload X46.here hx rfl (hb hby d5_2n_173) rfl ?_
    show Steps p.tables e below (T46.setTop (mkF m 175 Lo21 [(.long x2), (.long (x8 + q4))])) _
    refine XS.ladd X46.here hx rfl (hb hby d5_2n_175) rfl ?_
    show Steps p.tables e below (T46.setTop (mkF m 176 Lo21 [(.long ((x8 + q4) + x2))])) _
    refine XS.aloadN X46.here hx rfl (hb hby d5_2n_176) rfl rfl ?_
    show Steps p.tables e below (T46.setTop (mkF m 177 Lo21 [(.ref a1), (.long ((x8 + q4) + x2))])) _
    refine st47 _ ?_
    show Steps p.tables e below (T47.setTop (mkF m 180 Lo21 [(.ref bb), (.long ((x8 + q4) + x2))])) _
    refine XS.iload X47.here hx rfl (hb hby d5_2n_180) rfl ?_
    show Steps p.tables e below (T47.setTop (mkF m 182 Lo21 [(.int (2 : Int32)), (.ref bb), (.long ((x8 + q4) + x2))])) _
    refine XS.aloadN X47.here hx rfl (hb hby d5_2n_182) rfl rfl ?_
    show Steps p.tables e below (T47.setTop (mkF m 183 Lo21 [(.ref a1), (.int (2 : Int32)), (.ref bb), (.long ((x8 + q4) + x2))])) _
    refine st48 _ ?_
    show Steps p.tables e below (T48.setTop (mkF m 186 Lo21 [(.int (3 : Int32)), (.int (2 : Int32)), (.ref bb), (.long ((x8 + q4) + x2))])) _
    refine XS.imul X48.here hx rfl (hb hby d5_2n_186) rfl ?_
    show Steps p.tables e below (T48.setTop (mkF m 187 Lo21 [(.int (6 : Int32)), (.ref bb), (.long ((x8 + q4) + x2))])) _
    refine XS.iload X48.here hx rfl (hb hby d5_2n_187) rfl ?_
    show Steps p.tables e below (T48.setTop (mkF m 189 Lo21 [(.int (2 : Int32)), (.int (6 : Int32)), (.ref bb), (.long ((x8 + q4) + x2))])) _
    refine XS.iadd X48.here hx rfl (hb hby d5_2n_189) rfl ?_
    show Steps p.tables e below (T48.setTop (mkF m 190 Lo21 [(.int (8 : Int32)), (.ref bb), (.long ((x8 + q4) + x2))])) _
    refine own_ldJ X48 hx hZ e48 A8 (j := (8 : Int32)) (by decide) (w := x8) rfl (g := (mkF m 190 Lo21 [(.int (8 : Int32)), (.ref bb), (.long ((x8 + q4) + x2))])) rfl rfl (hb hby d5_2n_190) _ ?_
    show Steps p.tables e below (T48.setTop (mkF m 191 Lo21 [(.long x8), (.long ((x8 + q4) + x2))])) _
    refine XS.lcmp X48.here hx rfl (hb hby d5_2n_191) rfl ?_
    show Steps p.tables e below (T48.setTop (mkF m 192 Lo21 [(.int (lcmpW ((x8 + q4) + x2) x8))])) _
    refine XS.ifYes X48.here hx rfl (pc0 := 192) (pc' := 217) rfl (hb hby d5_2n_192) rfl (own_lw_ge_t h192_6) (by decide) (by decide) ?_
    show Steps p.tables e below (T48.setTop (mkF m 217 Lo21 [])) _
    refine XS.iinc X48.here hx rfl (hb hby d5_2n_217) rfl (l' := Lo15) rfl ?_
    show Steps p.tables e below (T48.setTop (mkF m 220 Lo15 [])) _
    refine XS.goto X48.here hx rfl (pc0 := 220) (pc' := 135) rfl (hb hby d5_2n_220) (by decide) (by decide) ?_
    show Steps p.tables e below (T48.setTop (mkF m 135 Lo15 [])) _
    refine XS.iload X48.here hx rfl (hb hby d5_2n_135) rfl ?_
    show Steps p.tables e below (T48.setTop (mkF m 137 Lo15 [(.int (3 : Int32))])) _
    refine XS.aloadN X48.here hx rfl (hb hby d5_2n_137) rfl rfl ?_
    show Steps p.tables e below (T48.setTop (mkF m 138 Lo15 [(.ref a1), (.int (3 : Int32))])) _
    refine st49 _ ?_
    show Steps p.tables e below (T49.setTop (mkF m 141 Lo15 [(.int (3 : Int32)), (.int (3 : Int32))])) _
    refine XS.icmpYes X49.here hx rfl (pc0 := 141) (pc' := 223) rfl (hb hby d5_2n_141) rfl (by first | rfl | decide) (by decide) (by decide) ?_
    show Steps p.tables e below (T49.setTop (mkF m 223 Lo15 [])) _
    refine XS.iinc X49.here hx rfl (hb hby d5_2n_223) rfl (l' := Lo22) rfl ?_
    show Steps p.tables e below (T49.setTop (mkF m 226 Lo22 [])) _
    refine XS.goto X49.here hx rfl (pc0 := 226) (pc' := 95) rfl (hb hby d5_2n_226) (by decide) (by decide) ?_
    show Steps p.tables e below (T49.setTop (mkF m 95 Lo22 [])) _
    refine XS.iload X49.here hx rfl (hb hby d5_2n_95) rfl ?_
    show Steps p.tables e below (T49.setTop (mkF m 97 Lo22 [(.int (3 : Int32))])) _
    refine XS.aloadN X49.here hx rfl (hb hby d5_2n_97) rfl rfl ?_
    show Steps p.tables e below (T49.setTop (mkF m 98 Lo22 [(.ref a1), (.int (3 : Int32))])) _
    refine st50 _ ?_
    show Steps p.tables e below (T50.setTop (mkF m 101 Lo22 [(.int (3 : Int32)), (.int (3 : Int32))])) _
    refine XS.icmpYes X50.here hx rfl (pc0 := 101) (pc' := 229) rfl (hb hby d5_2n_101) rfl (by first | rfl | decide) (by decide) (by decide) ?_
    show Steps p.tables e below (T50.setTop (mkF m 229 Lo22 [])) _
    refine XS.iconst X50.here hx rfl (hb hby d5_2n_229) ?_
    show Steps p.tables e below (T50.setTop (mkF m 230 Lo22 [(.int (1 : Int32))])) _
    exact own_retZ X50 hx Bd.returns (hb hby d5_2n_230) rfl rfl hr
  · show Q5_2n Z a1 q4 bb kk x0 x1 x2 x3 x4 x5 x6 x7 x8 h0 n0 _ T50.heap _
    rw [e50]
    exact ⟨(1 : Int32), x0, x1, x2, x3, x4, x5, q4, x7, x8, rfl, N8, K8, E8_a1, F8_size_a1, F8_bounds_a1, A8, ⟨rfl, rfl, rfl⟩⟩
def Q5_2 (Z : State) (a1 : Addr) (q4 : Int64) (bb : Addr) (kk : ClassId) (x0 : Int64) (x1 : Int64) (x2 : Int64) (x3 : Int64) (x4 : Int64) (x5 : Int64) (x6 : Int64) (x7 : Int64) (x8 : Int64) (h0 : Heap) (n0 : Nat) (v : Option Value) (h : Heap) (L : List Loc) : Prop := ∃ (ww : Int32) (y0 : Int64) (y1 : Int64) (y2 : Int64) (y3 : Int64) (y4 : Int64) (y5 : Int64) (y6 : Int64) (y7 : Int64) (y8 : Int64), v = some (.int ww) ∧ Fr n0 L ∧ Keep h0 h [a1, bb] ∧ (Exa Z h a1 "com/example/chronoscope/chronoscope/sim/Zone") ∧ (Fld Z h a1 "com/example/chronoscope/chronoscope/sim/Zone" "size" "I" (.int (3 : Int32))) ∧ (Fld Z h a1 "com/example/chronoscope/chronoscope/sim/Zone" "bounds" "[J" (.ref bb)) ∧ (Arv Z h bb kk .long (9 : Int32) [(.long y0), (.long y1), (.long y2), (.long y3), (.long y4), (.long y5), (.long y6), (.long y7), (.long y8)] (.long (0 : Int64))) ∧ (y0 = x0 ∧ y4 = x4 ∧ y8 = x8)
set_option maxRecDepth 65536 in
set_option maxHeartbeats 40000000 in
theorem rm5_2 (l : Launch) (Z : State) (a0 : Array Value) (hw : ∀ d ∈ tables_1, d.before a0 Z = true) (ws : List Jvm.Cond) (a1 : Addr) (q4 : Int64) (bb : Addr) (kk : ClassId) (x0 : Int64) (x1 : Int64) (x2 : Int64) (x3 : Int64) (x4 : Int64) (x5 : Int64) (x6 : Int64) (x7 : Int64) (x8 : Int64) (h0 : Heap) (n0 : Nat) (Z0 : n0 ≤ h0.size) (P0 : Exa Z h0 a1 "com/example/chronoscope/chronoscope/sim/Zone") (P1 : Fld Z h0 a1 "com/example/chronoscope/chronoscope/sim/Zone" "size" "I" (.int (3 : Int32))) (P2 : Fld Z h0 a1 "com/example/chronoscope/chronoscope/sim/Zone" "bounds" "[J" (.ref bb)) (P3 : Fld Z h0 a1 "com/example/chronoscope/chronoscope/sim/Zone" "empty" "Z" (.int (0 : Int32))) (P4 : Arv Z h0 bb kk .long (9 : Int32) [(.long x0), (.long x1), (.long x2), (.long x3), (.long x4), (.long x5), (.long x6), (.long x7), (.long x8)] (.long (0 : Int64))) (g_a1 : n0 ≤ a1) (g_bb : n0 ≤ bb) (ne_a1_bb : a1 ≠ bb) (h22_1 : q4 < x6) (h59_1 : ¬ x2 = (9223372036854775807 : Int64)) (hN : ¬ (x2 + q4) < (0 : Int64) → (¬ x0 = (9223372036854775807 : Int64)) ∧ (¬ ((x2 + q4) + x0) < x0) ∧ (¬ x1 = (9223372036854775807 : Int64)) ∧ (¬ ((x2 + q4) + x1) < x1) ∧ (¬ ((x2 + q4) + x2) < x2) ∧ (x5 = (9223372036854775807 : Int64)) ∧ (¬ x8 = (9223372036854775807 : Int64)) ∧ (¬ ((x8 + q4) + x0) < q4) ∧ (¬ ((x8 + q4) + x1) < x7) ∧ (¬ ((x8 + q4) + x2) < x8)) :
    MetFree l (⟨"com/example/chronoscope/chronoscope/sim/Zone", "constrain", "(IIJ)Z"⟩ : MethodName) (head1 (Jvm.Cond.code (⟨"com/example/chronoscope/chronoscope/sim/Zone", "constrain", "(IIJ)Z"⟩ : MethodName) prog_347_method_7_code 13 (some .boolean) :: ws) ({ frames := 0, cells := 0, slots := 0, locals := 0 } : Room)) (fun a U => a = #[(.ref a1), (.int (2 : Int32)), (.int (0 : Int32)), (.long q4)] ∧ Z.Warmed39 U.vm ∧ U.heap = h0) (fun _ _ _ _ _ => True) (fun _ U o U' => ∃ v L, o = .returned v ∧ Q5_2 Z a1 q4 bb kk x0 x1 x2 x3 x4 x5 x6 x7 x8 h0 n0 v U'.heap L ∧ FrameEnd U o U' L ({ frames := 0, cells := 0, slots := 0, locals := 0 } : Room).cells ({ frames := 0, cells := 0, slots := 0, locals := 0 } : Room).slots) := by
  by_cases hE : (x2 + q4) < (0 : Int64)
  · exact rm5_2e l Z a0 hw ws a1 q4 bb kk x0 x1 x2 x3 x4 x5 x6 x7 x8 h0 n0 Z0 P0 P1 P2 P3 P4 g_a1 g_bb ne_a1_bb h22_1 h59_1 hE
  · obtain ⟨h166_1, h192_1, h166_2, h192_2, h192_3, h126_2, h126_3, h192_4, h192_5, h192_6⟩ := hN hE
    exact rm5_2n l Z a0 hw ws a1 q4 bb kk x0 x1 x2 x3 x4 x5 x6 x7 x8 h0 n0 Z0 P0 P1 P2 P3 P4 g_a1 g_bb ne_a1_bb h22_1 h59_1 hE h166_1 h192_1 h166_2 h192_2 h192_3 h126_2 h126_3 h192_4 h192_5 h192_6
def own_con (r : Int32) (q4 : Int64) (x0 x1 x2 x3 x4 x5 x6 x7 x8 : Int64) : Prop := (r = (1 : Int32) ∧ (q4 < x3) ∧ (¬ x1 = (9223372036854775807 : Int64)) ∧ (¬ (x1 + q4) < (0 : Int64) → (¬ x0 = (9223372036854775807 : Int64)) ∧ (¬ ((x1 + q4) + x0) < x0) ∧ (¬ ((x1 + q4) + x1) < x1) ∧ (¬ x2 = (9223372036854775807 : Int64)) ∧ (¬ ((x1 + q4) + x2) < x2) ∧ (¬ x4 = (9223372036854775807 : Int64)) ∧ (¬ ((x4 + q4) + x0) < q4) ∧ (¬ ((x4 + q4) + x1) < x4) ∧ (¬ ((x4 + q4) + x2) < x5) ∧ (x7 = (9223372036854775807 : Int64)))) ∨ (r = (2 : Int32) ∧ (q4 < x6) ∧ (¬ x2 = (9223372036854775807 : Int64)) ∧ (¬ (x2 + q4) < (0 : Int64) → (¬ x0 = (9223372036854775807 : Int64)) ∧ (¬ ((x2 + q4) + x0) < x0) ∧ (¬ x1 = (9223372036854775807 : Int64)) ∧ (¬ ((x2 + q4) + x1) < x1) ∧ (¬ ((x2 + q4) + x2) < x2) ∧ (x5 = (9223372036854775807 : Int64)) ∧ (¬ x8 = (9223372036854775807 : Int64)) ∧ (¬ ((x8 + q4) + x0) < q4) ∧ (¬ ((x8 + q4) + x1) < x7) ∧ (¬ ((x8 + q4) + x2) < x8)))
def Q5 (Z : State) (a1 : Addr) (r : Int32) (q4 : Int64) (bb : Addr) (kk : ClassId) (x0 : Int64) (x1 : Int64) (x2 : Int64) (x3 : Int64) (x4 : Int64) (x5 : Int64) (x6 : Int64) (x7 : Int64) (x8 : Int64) (h0 : Heap) (n0 : Nat) (v : Option Value) (h : Heap) (L : List Loc) : Prop := ∃ (ww : Int32) (y0 : Int64) (y1 : Int64) (y2 : Int64) (y3 : Int64) (y4 : Int64) (y5 : Int64) (y6 : Int64) (y7 : Int64) (y8 : Int64), v = some (.int ww) ∧ Fr n0 L ∧ Keep h0 h [a1, bb] ∧ (Exa Z h a1 "com/example/chronoscope/chronoscope/sim/Zone") ∧ (Fld Z h a1 "com/example/chronoscope/chronoscope/sim/Zone" "size" "I" (.int (3 : Int32))) ∧ (Fld Z h a1 "com/example/chronoscope/chronoscope/sim/Zone" "bounds" "[J" (.ref bb)) ∧ (Arv Z h bb kk .long (9 : Int32) [(.long y0), (.long y1), (.long y2), (.long y3), (.long y4), (.long y5), (.long y6), (.long y7), (.long y8)] (.long (0 : Int64))) ∧ (y0 = x0 ∧ y4 = x4 ∧ y8 = x8)
set_option maxRecDepth 65536 in
set_option maxHeartbeats 40000000 in
theorem rm5 (l : Launch) (Z : State) (a0 : Array Value) (hw : ∀ d ∈ tables_1, d.before a0 Z = true) (ws : List Jvm.Cond) (a1 : Addr) (r : Int32) (q4 : Int64) (bb : Addr) (kk : ClassId) (x0 : Int64) (x1 : Int64) (x2 : Int64) (x3 : Int64) (x4 : Int64) (x5 : Int64) (x6 : Int64) (x7 : Int64) (x8 : Int64) (h0 : Heap) (n0 : Nat) (Z0 : n0 ≤ h0.size) (P0 : Exa Z h0 a1 "com/example/chronoscope/chronoscope/sim/Zone") (P1 : Fld Z h0 a1 "com/example/chronoscope/chronoscope/sim/Zone" "size" "I" (.int (3 : Int32))) (P2 : Fld Z h0 a1 "com/example/chronoscope/chronoscope/sim/Zone" "bounds" "[J" (.ref bb)) (P3 : Fld Z h0 a1 "com/example/chronoscope/chronoscope/sim/Zone" "empty" "Z" (.int (0 : Int32))) (P4 : Arv Z h0 bb kk .long (9 : Int32) [(.long x0), (.long x1), (.long x2), (.long x3), (.long x4), (.long x5), (.long x6), (.long x7), (.long x8)] (.long (0 : Int64))) (g_a1 : n0 ≤ a1) (g_bb : n0 ≤ bb) (ne_a1_bb : a1 ≠ bb) (hcon : own_con r q4 x0 x1 x2 x3 x4 x5 x6 x7 x8) :
    MetFree l (⟨"com/example/chronoscope/chronoscope/sim/Zone", "constrain", "(IIJ)Z"⟩ : MethodName) (head1 (Jvm.Cond.code (⟨"com/example/chronoscope/chronoscope/sim/Zone", "constrain", "(IIJ)Z"⟩ : MethodName) prog_347_method_7_code 13 (some .boolean) :: ws) ({ frames := 0, cells := 0, slots := 0, locals := 0 } : Room)) (fun a U => a = #[(.ref a1), (.int r), (.int (0 : Int32)), (.long q4)] ∧ Z.Warmed39 U.vm ∧ U.heap = h0) (fun _ _ _ _ _ => True) (fun _ U o U' => ∃ v L, o = .returned v ∧ Q5 Z a1 r q4 bb kk x0 x1 x2 x3 x4 x5 x6 x7 x8 h0 n0 v U'.heap L ∧ FrameEnd U o U' L ({ frames := 0, cells := 0, slots := 0, locals := 0 } : Room).cells ({ frames := 0, cells := 0, slots := 0, locals := 0 } : Room).slots) := by
  rcases hcon with ⟨rfl, h22_1, h59_1, hN⟩ | ⟨rfl, h22_1, h59_1, hN⟩
  · exact rm5_1 l Z a0 hw ws a1 q4 bb kk x0 x1 x2 x3 x4 x5 x6 x7 x8 h0 n0 Z0 P0 P1 P2 P3 P4 g_a1 g_bb ne_a1_bb h22_1 h59_1 hN
  · exact rm5_2 l Z a0 hw ws a1 q4 bb kk x0 x1 x2 x3 x4 x5 x6 x7 x8 h0 n0 Z0 P0 P1 P2 P3 P4 g_a1 g_bb ne_a1_bb h22_1 h59_1 hN
theorem d6_0 : decode prog_347_method_20_code 0 = .ok (.aload_n 0, 1) := by decide +kernel
theorem d6_1 : decode prog_347_method_20_code 1 = .ok (.getfield 15, 3) := by decide +kernel
theorem d6_4 : decode prog_347_method_20_code 4 = .ok (.iconst 0, 1) := by decide +kernel
theorem d6_5 : decode prog_347_method_20_code 5 = .ok (.aload_n 1, 1) := by decide +kernel
theorem d6_6 : decode prog_347_method_20_code 6 = .ok (.iload_n 2, 1) := by decide +kernel
theorem d6_7 : decode prog_347_method_20_code 7 = .ok (.aload_n 0, 1) := by decide +kernel
theorem d6_8 : decode prog_347_method_20_code 8 = .ok (.getfield 15, 3) := by decide +kernel
theorem d6_11 : decode prog_347_method_20_code 11 = .ok (.arraylength, 1) := by decide +kernel
theorem d6_12 : decode prog_347_method_20_code 12 = .ok (.invokestatic 64, 3) := by decide +kernel
theorem d6_15 : decode prog_347_method_20_code 15 = .ok (.return_, 1) := by decide +kernel
theorem pn_6 : plainName "com/example/chronoscope/chronoscope/sim/Zone" = true := by first | (simp [plainName, overriddenIn]; done) | decide +kernel
theorem ef_6 (m : MethodId) (x0 : Addr) (x1 : Addr) (x2 : Int32) : entryFrame m #[(.ref x0), (.ref x1), (.int x2)] 3 = mkF m 0 #[.val (.ref x0), .val (.ref x1), .val (.int x2)] [] := by first | (simp [entryFrame, mkF, argsToLocals, Value.category]; done) | rfl
def Q6 (Z : State) (a1 : Addr) (a2 : Addr) (bb : Addr) (kk : ClassId) (k2 : ClassId) (x0 : Int64) (x1 : Int64) (x2 : Int64) (x3 : Int64) (x4 : Int64) (x5 : Int64) (x6 : Int64) (x7 : Int64) (x8 : Int64) (h0 : Heap) (n0 : Nat) (v : Option Value) (h : Heap) (L : List Loc) : Prop := v = none ∧ Fr n0 L ∧ Keep h0 h [a2] ∧ (Arv Z h a2 k2 .long (9 : Int32) [(.long x0), (.long x1), (.long x2), (.long x3), (.long x4), (.long x5), (.long x6), (.long x7), (.long x8)] (.long (0 : Int64)))
set_option maxRecDepth 65536 in
set_option maxHeartbeats 40000000 in
theorem rm6 (l : Launch) (Z : State) (a0 : Array Value) (hw : ∀ d ∈ tables_1, d.before a0 Z = true) (ws : List Jvm.Cond) (a1 : Addr) (a2 : Addr) (bb : Addr) (kk : ClassId) (k2 : ClassId) (x0 : Int64) (x1 : Int64) (x2 : Int64) (x3 : Int64) (x4 : Int64) (x5 : Int64) (x6 : Int64) (x7 : Int64) (x8 : Int64) (h0 : Heap) (n0 : Nat) (Z0 : n0 ≤ h0.size) (P0 : Fld Z h0 a1 "com/example/chronoscope/chronoscope/sim/Zone" "bounds" "[J" (.ref bb)) (P1 : Arv Z h0 bb kk .long (9 : Int32) [(.long x0), (.long x1), (.long x2), (.long x3), (.long x4), (.long x5), (.long x6), (.long x7), (.long x8)] (.long (0 : Int64))) (P2 : Arv Z h0 a2 k2 .long (9 : Int32) [(.long (0 : Int64)), (.long (0 : Int64)), (.long (0 : Int64)), (.long (0 : Int64)), (.long (0 : Int64)), (.long (0 : Int64)), (.long (0 : Int64)), (.long (0 : Int64)), (.long (0 : Int64))] (.long (0 : Int64))) (g_a2 : n0 ≤ a2) :
    MetFree l (⟨"com/example/chronoscope/chronoscope/sim/Zone", "copyTo", "([JI)V"⟩ : MethodName) (head1 (Jvm.Cond.code (⟨"com/example/chronoscope/chronoscope/sim/Zone", "copyTo", "([JI)V"⟩ : MethodName) prog_347_method_20_code 3 none :: ws) ({ frames := 1, cells := 0, slots := 0, locals := 20 } : Room)) (fun a U => a = #[(.ref a1), (.ref a2), (.int (0 : Int32))] ∧ Z.Warmed39 U.vm ∧ U.heap = h0) (fun _ _ _ _ _ => True) (fun _ U o U' => ∃ v L, o = .returned v ∧ Q6 Z a1 a2 bb kk k2 x0 x1 x2 x3 x4 x5 x6 x7 x8 h0 n0 v U'.heap L ∧ FrameEnd U o U' L ({ frames := 1, cells := 0, slots := 0, locals := 20 } : Room).cells ({ frames := 1, cells := 0, slots := 0, locals := 20 } : Room).slots) := by
  refine MetFree.of_bodySF (plainFor_of_name pn_6) hisR ?_
  intro p e s m args below meth c s₁ Bd hml0 hP hK
  obtain ⟨rfl, hZ, hh⟩ := hP
  have w14_ := hw _ (List.mem_of_getElem? (i := 14) rfl)
  have w39_ := hw _ (List.mem_of_getElem? (i := 39) rfl)
  have w40_ := hw _ (List.mem_of_getElem? (i := 40) rfl)
  have w41_ := hw _ (List.mem_of_getElem? (i := 41) rfl)
  have w42_ := hw _ (List.mem_of_getElem? (i := 42) rfl)
  have hx := Bd.exec
  have hby := Bd.bytes
  have hml : c.maxLocals = 3 := hml0
  have hown : s.vm.findClass "com/example/chronoscope/chronoscope/sim/Zone" = some m.cls := findClass_of_methodNamed Bd.named
  have hnm := (name_of_methodNamed Bd.named Bd.method).1
  have X0 : Stand p l e ({ frames := 1, cells := 0, slots := 0, locals := 20 } : Room) s m #[(.ref a1), (.ref a2), (.int (0 : Int32))] below meth c s₁ [] 0 0 := Stand.of_body Bd
  have e0 : s₁.heap = h0 := by rw [← hh, Bd.state]; rfl
  have N0 := Fr.nil n0
  have pre0 : ∀ t, Steps p.tables e below (s₁.setTop (mkF m 0 #[.val (.ref a1), .val (.ref a2), .val (.int (0 : Int32))] [])) t → Steps p.tables e below (s₁.setTop (entryFrame m #[(.ref a1), (.ref a2), (.int (0 : Int32))] 3)) t := fun t k => castTop (ef_6 m a1 a2 (0 : Int32)) k
  let Lo1 : Array Slot := #[.val (.ref a1), .val (.ref a2), .val (.int (0 : Int32))]
  obtain ⟨T1, X1, e1, st1⟩ := getF X0 hx hZ hown (host := "") (Or.inl w14_) Via.refl e0 P0 (g := (mkF m 1 Lo1 [(.ref a1)])) rfl rfl (hb hby d6_1)
  obtain ⟨T2, X2, e2, st2⟩ := getF X1 hx hZ hown (host := "") (Or.inl w14_) Via.refl e1 P0 (g := (mkF m 8 Lo1 [(.ref a1), (.int (0 : Int32)), (.ref a2), (.int (0 : Int32)), (.ref bb)])) rfl rfl (hb hby d6_8)
  obtain ⟨T3, h3, L3, X3, e3, N3, K3q, V3, st3⟩ := cpA X2 hx hZ hown w39_ w42_ w40_ w41_ e2 P1 P2 (us := [(.long x0), (.long x1), (.long x2), (.long x3), (.long x4), (.long x5), (.long x6), (.long x7), (.long x8)]) (Or.inl ⟨rfl, rfl⟩) (by decide) (by decide) (by decide) (by decide) (by decide) rfl (by decide) N0 g_a2 (g := (mkF m 12 Lo1 [(.int (9 : Int32)), (.int (0 : Int32)), (.ref a2), (.int (0 : Int32)), (.ref bb)])) rfl (by rw [hml]; rfl) (rest := []) rfl (hb hby d6_12) (by decide) (W := 0) (by show 2 * 0 + _ ≤ _; exact Nat.le_of_eq rfl) (by rw [nativeFrameWords_plain 5 (by decide)]; decide)
  have A3 : Arv Z h3 a2 k2 .long (9 : Int32) [(.long x0), (.long x1), (.long x2), (.long x3), (.long x4), (.long x5), (.long x6), (.long x7), (.long x8)] (.long (0 : Int64)) := V3
  obtain ⟨fs, hr, hrun, hended, hW, hsame⟩ := X3.leave (v := none) (fun _ => rfl)
  refine ⟨_, _, pre0 _ ?_, hrun, hended, _, _, rfl, ?_, ⟨_, rfl⟩, hW, hsame.mono (by decide) (by decide)⟩
  · show Steps p.tables e below (s₁.setTop (mkF m 0 Lo1 [])) _
    refine XS.aloadN X0.here hx rfl (hb hby d6_0) rfl rfl ?_
    show Steps p.tables e below (s₁.setTop (mkF m 1 Lo1 [(.ref a1)])) _
    refine st1 _ ?_
    show Steps p.tables e below (T1.setTop (mkF m 4 Lo1 [(.ref bb)])) _
    refine XS.iconst X1.here hx rfl (hb hby d6_4) ?_
    show Steps p.tables e below (T1.setTop (mkF m 5 Lo1 [(.int (0 : Int32)), (.ref bb)])) _
    refine XS.aloadN X1.here hx rfl (hb hby d6_5) rfl rfl ?_
    show Steps p.tables e below (T1.setTop (mkF m 6 Lo1 [(.ref a2), (.int (0 : Int32)), (.ref bb)])) _
    refine XS.iloadN X1.here hx rfl (hb hby d6_6) rfl ?_
    show Steps p.tables e below (T1.setTop (mkF m 7 Lo1 [(.int (0 : Int32)), (.ref a2), (.int (0 : Int32)), (.ref bb)])) _
    refine XS.aloadN X1.here hx rfl (hb hby d6_7) rfl rfl ?_
    show Steps p.tables e below (T1.setTop (mkF m 8 Lo1 [(.ref a1), (.int (0 : Int32)), (.ref a2), (.int (0 : Int32)), (.ref bb)])) _
    refine st2 _ ?_
    show Steps p.tables e below (T2.setTop (mkF m 11 Lo1 [(.ref bb), (.int (0 : Int32)), (.ref a2), (.int (0 : Int32)), (.ref bb)])) _
    refine own_len X2 hx hZ e2 P1 (g := (mkF m 11 Lo1 [(.ref bb), (.int (0 : Int32)), (.ref a2), (.int (0 : Int32)), (.ref bb)])) rfl rfl (hb hby d6_11) _ ?_
    show Steps p.tables e below (T2.setTop (mkF m 12 Lo1 [(.int (9 : Int32)), (.int (0 : Int32)), (.ref a2), (.int (0 : Int32)), (.ref bb)])) _
    refine st3 _ ?_
    show Steps p.tables e below (T3.setTop (mkF m 15 Lo1 [])) _
    exact X3.returnOut hx Bd.returns (hb hby d6_15) hr
  · show Q6 Z a1 a2 bb kk k2 x0 x1 x2 x3 x4 x5 x6 x7 x8 h0 n0 _ T3.heap _
    rw [e3]
    exact ⟨rfl, N3, K3q, A3⟩
theorem d8e_0 : decode method_4_code 0 = .ok (.iload 4, 2) := by decide +kernel
theorem d8e_2 : decode method_4_code 2 = .ok (.iload_n 2, 1) := by decide +kernel
theorem d8e_3 : decode method_4_code 3 = .ok (.iload_n 3, 1) := by decide +kernel
theorem d8e_4 : decode method_4_code 4 = .ok (.invokestatic 40, 3) := by decide +kernel
theorem d8e_7 : decode method_4_code 7 = .ok (.istore 6, 2) := by decide +kernel
theorem d8e_9 : decode method_4_code 9 = .ok (.iload 5, 2) := by decide +kernel
theorem d8e_11 : decode method_4_code 11 = .ok (.iload_n 2, 1) := by decide +kernel
theorem d8e_12 : decode method_4_code 12 = .ok (.iload_n 3, 1) := by decide +kernel
theorem d8e_13 : decode method_4_code 13 = .ok (.invokestatic 40, 3) := by decide +kernel
theorem d8e_16 : decode method_4_code 16 = .ok (.istore 7, 2) := by decide +kernel
theorem d8e_18 : decode method_4_code 18 = .ok (.iload 6, 2) := by decide +kernel
theorem d8e_20 : decode method_4_code 20 = .ok (.iload 7, 2) := by decide +kernel
theorem d8e_22 : decode method_4_code 22 = .ok (.if_icmp .ne 7, 3) := by decide +kernel
theorem d8e_25 : decode method_4_code 25 = .ok (.lconst 0, 1) := by decide +kernel
theorem d8e_26 : decode method_4_code 26 = .ok (.goto 12, 3) := by decide +kernel
theorem d8e_38 : decode method_4_code 38 = .ok (.lstore 8, 2) := by decide +kernel
theorem d8e_40 : decode method_4_code 40 = .ok (.aload_n 1, 1) := by decide +kernel
theorem d8e_41 : decode method_4_code 41 = .ok (.iload 4, 2) := by decide +kernel
theorem d8e_43 : decode method_4_code 43 = .ok (.iconst 3, 1) := by decide +kernel
theorem d8e_44 : decode method_4_code 44 = .ok (.imul, 1) := by decide +kernel
theorem d8e_45 : decode method_4_code 45 = .ok (.iload 5, 2) := by decide +kernel
theorem d8e_47 : decode method_4_code 47 = .ok (.iadd, 1) := by decide +kernel
theorem d8e_48 : decode method_4_code 48 = .ok (.laload, 1) := by decide +kernel
theorem d8e_49 : decode method_4_code 49 = .ok (.lload 8, 2) := by decide +kernel
theorem d8e_51 : decode method_4_code 51 = .ok (.lcmp, 1) := by decide +kernel
theorem d8e_52 : decode method_4_code 52 = .ok (.ifCond .ne 7, 3) := by decide +kernel
theorem d8e_55 : decode method_4_code 55 = .ok (.iconst 1, 1) := by decide +kernel
theorem d8e_56 : decode method_4_code 56 = .ok (.goto 4, 3) := by decide +kernel
theorem d8e_60 : decode method_4_code 60 = .ok (.ireturn, 1) := by decide +kernel
theorem pn_8e : plainName "com/example/chronoscope/chronoscope/sim/ZoneAssignPinLaw" = true := by first | (simp [plainName, overriddenIn]; done) | decide +kernel
theorem ef_8e (m : MethodId) (x0 : Addr) (x1 : Addr) (x2 : Int32) (x3 : Int32) (x4 : Int32) (x5 : Int32) : entryFrame m #[(.ref x0), (.ref x1), (.int x2), (.int x3), (.int x4), (.int x5)] 10 = mkF m 0 #[.val (.ref x0), .val (.ref x1), .val (.int x2), .val (.int x3), .val (.int x4), .val (.int x5), .unset, .unset, .unset, .unset] [] := by first | (simp [entryFrame, mkF, argsToLocals, Value.category]; done) | rfl
theorem pd_8e_9 : parseMethodDescriptor "(III)I" = some ⟨[.int, .int, .int], some .int⟩ := by decide +kernel
def Q8e (Z : State) (a1 : Addr) (a2 : Addr) (p3 : Int32) (p4 : Int32) (p5 : Int32) (p6 : Int32) (kb : ClassId) (ka : ClassId) (vb : List Value) (va : List Value) (h0 : Heap) (n0 : Nat) (v : Option Value) (h : Heap) (L : List Loc) : Prop := v = some (.int (1 : Int32)) ∧ Fr n0 L ∧ h = h0
set_option maxRecDepth 65536 in
set_option maxHeartbeats 40000000 in
theorem rm8e (l : Launch) (Z : State) (a0 : Array Value) (hw : ∀ d ∈ tables_1, d.before a0 Z = true) (ws : List Jvm.Cond) (a1 : Addr) (a2 : Addr) (p3 : Int32) (p4 : Int32) (p5 : Int32) (p6 : Int32) (kb : ClassId) (ka : ClassId) (vb : List Value) (va : List Value) (h0 : Heap) (n0 : Nat) (Z0 : n0 ≤ h0.size) (P0 : Arv Z h0 a1 kb .long (9 : Int32) vb (.long (0 : Int64))) (P1 : Arv Z h0 a2 ka .long (9 : Int32) va (.long (0 : Int64))) (hse : (own_sig p5 p3 p4) = (own_sig p6 p3 p4)) (hj2 : ¬ ((p5 * (3 : Int32)) + p6) < 0 ∧ ((p5 * (3 : Int32)) + p6) < 9) (hv2 : va.getD ((p5 * (3 : Int32)) + p6).toNatClampNeg (.long (0 : Int64)) = .long (0 : Int64)) :
    MetFree l (⟨"com/example/chronoscope/chronoscope/sim/ZoneAssignPinLaw", "cell", "([J[JIIII)Z"⟩ : MethodName) (head1 (Jvm.Cond.code (⟨"com/example/chronoscope/chronoscope/sim/ZoneAssignPinLaw", "cell", "([J[JIIII)Z"⟩ : MethodName) method_4_code 10 (some .boolean) :: ws) ({ frames := 1, cells := 0, slots := 0, locals := 14 } : Room)) (fun a U => a = #[(.ref a1), (.ref a2), (.int p3), (.int p4), (.int p5), (.int p6)] ∧ Z.Warmed39 U.vm ∧ U.heap = h0) (fun _ _ _ _ _ => True) (fun _ U o U' => ∃ v L, o = .returned v ∧ Q8e Z a1 a2 p3 p4 p5 p6 kb ka vb va h0 n0 v U'.heap L ∧ FrameEnd U o U' L ({ frames := 1, cells := 0, slots := 0, locals := 14 } : Room).cells ({ frames := 1, cells := 0, slots := 0, locals := 14 } : Room).slots) := by
  refine MetFree.of_bodySF (plainFor_of_name pn_8e) hisR ?_
  intro p e s m args below meth c s₁ Bd hml0 hP hK
  obtain ⟨rfl, hZ, hh⟩ := hP
  have w50_ := hw _ (List.mem_of_getElem? (i := 50) rfl)
  have w52_ := hw _ (List.mem_of_getElem? (i := 52) rfl)
  have w53_ := hw _ (List.mem_of_getElem? (i := 53) rfl)
  have w54_ := hw _ (List.mem_of_getElem? (i := 54) rfl)
  have hx := Bd.exec
  have hby := Bd.bytes
  have hml : c.maxLocals = 10 := hml0
  have hown : s.vm.findClass "com/example/chronoscope/chronoscope/sim/ZoneAssignPinLaw" = some m.cls := findClass_of_methodNamed Bd.named
  have hnm := (name_of_methodNamed Bd.named Bd.method).1
  have X0 : Stand p l e ({ frames := 1, cells := 0, slots := 0, locals := 14 } : Room) s m #[(.ref a1), (.ref a2), (.int p3), (.int p4), (.int p5), (.int p6)] below meth c s₁ [] 0 0 := Stand.of_body Bd
  have e0 : s₁.heap = h0 := by rw [← hh, Bd.state]; rfl
  have N0 := Fr.nil n0
  have pre0 : ∀ t, Steps p.tables e below (s₁.setTop (mkF m 0 #[.val (.ref a1), .val (.ref a2), .val (.int p3), .val (.int p4), .val (.int p5), .val (.int p6), .unset, .unset, .unset, .unset] [])) t → Steps p.tables e below (s₁.setTop (entryFrame m #[(.ref a1), (.ref a2), (.int p3), (.int p4), (.int p5), (.int p6)] 10)) t := fun t k => castTop (ef_8e m a1 a2 p3 p4 p5 p6) k
  let Lo1 : Array Slot := #[.val (.ref a1), .val (.ref a2), .val (.int p3), .val (.int p4), .val (.int p5), .val (.int p6), .unset, .unset, .unset, .unset]
  obtain ⟨_, _, ⟨T1, L1, k1, n1⟩, -, X1, ⟨Lc1, hQ1, l1, y1, z1⟩, st1⟩ := Jvm.LawKit.callS X0 hx (y := (⟨"com/example/chronoscope/chronoscope/sim/ZoneAssignPinLaw", "sigma", "(III)I"⟩ : MethodName)) hown (mvT hZ w52_) (mvT hZ w53_) (mvT hZ w50_) (mvT hZ w54_) (by decide) (backOf (W := 0) (rm9 l Z a0 hw [] p5 p3 p4 h0 n0 Z0 ) hZ w54_ w50_ (by decide) (by decide)) (g := (mkF m 4 Lo1 [(.int p4), (.int p3), (.int p5)])) rfl (by rw [hml]; rfl) (argsL := [(.int p5), (.int p3), (.int p4)]) (rest := []) (lenOf pd_8e_9 rfl) rfl (by show 2 * 0 + _ ≤ _; exact Nat.le_of_eq rfl) (hb hby d8e_4) (fun _ _ => ⟨rfl, e0, (by decide : 0 + 0 ≤ _), (by decide : 0 + 0 ≤ _)⟩)
  dsimp only [Pt.U, Pt.locs, Pt.cells, Pt.slots] at X1 l1 y1 z1 st1 hQ1
  subst l1 y1 z1
  obtain ⟨rfl, N1q, qq1⟩ := hQ1
  have N1 := Fr.app N0 N1q
  have e1 : T1.heap = h0 := qq1
  let Lo2 : Array Slot := #[.val (.ref a1), .val (.ref a2), .val (.int p3), .val (.int p4), .val (.int p5), .val (.int p6), .val (.int (own_sig p5 p3 p4)), .unset, .unset, .unset]
  obtain ⟨_, _, ⟨T2, L2, k2, n2⟩, -, X2, ⟨Lc2, hQ2, l2, y2, z2⟩, st2⟩ := Jvm.LawKit.callS X1 hx (y := (⟨"com/example/chronoscope/chronoscope/sim/ZoneAssignPinLaw", "sigma", "(III)I"⟩ : MethodName)) hown (mvT hZ w52_) (mvT hZ w53_) (mvT hZ w50_) (mvT hZ w54_) (by decide) (backOf (W := 0) (rm9 l Z a0 hw [] p6 p3 p4 h0 n0 Z0 ) hZ w54_ w50_ (by decide) (by decide)) (g := (mkF m 13 Lo2 [(.int p4), (.int p3), (.int p6)])) rfl (by rw [hml]; rfl) (argsL := [(.int p6), (.int p3), (.int p4)]) (rest := []) (lenOf pd_8e_9 rfl) rfl (by show 2 * 0 + _ ≤ _; exact Nat.le_of_eq rfl) (hb hby d8e_13) (fun _ _ => ⟨rfl, e1, (by decide : 0 + 0 ≤ _), (by decide : 0 + 0 ≤ _)⟩)
  dsimp only [Pt.U, Pt.locs, Pt.cells, Pt.slots] at X2 l2 y2 z2 st2 hQ2
  subst l2 y2 z2
  obtain ⟨rfl, N2q, qq2⟩ := hQ2
  have N2 := Fr.app N1 N2q
  have e2 : T2.heap = h0 := qq2
  let Lo3 : Array Slot := #[.val (.ref a1), .val (.ref a2), .val (.int p3), .val (.int p4), .val (.int p5), .val (.int p6), .val (.int (own_sig p5 p3 p4)), .val (.int (own_sig p6 p3 p4)), .unset, .unset]
  let Lo4 : Array Slot := #[.val (.ref a1), .val (.ref a2), .val (.int p3), .val (.int p4), .val (.int p5), .val (.int p6), .val (.int (own_sig p5 p3 p4)), .val (.int (own_sig p6 p3 p4)), .val (.long (0 : Int64)), .second]
  obtain ⟨fs, hr, hrun, hended, hW, hsame⟩ := X2.leave (v := some (.int (1 : Int32))) (fun h => by rw [Bd.returns] at h; cases h)
  refine ⟨_, _, pre0 _ ?_, hrun, hended, _, _, rfl, ?_, ⟨_, rfl⟩, hW, hsame.mono (by decide) (by decide)⟩
  · show Steps p.tables e below (s₁.setTop (mkF m 0 Lo1 [])) _
    refine XS.iload X0.here hx rfl (hb hby d8e_0) rfl ?_
    show Steps p.tables e below (s₁.setTop (mkF m 2 Lo1 [(.int p5)])) _
    refine XS.iloadN X0.here hx rfl (hb hby d8e_2) rfl ?_
    show Steps p.tables e below (s₁.setTop (mkF m 3 Lo1 [(.int p3), (.int p5)])) _
    refine XS.iloadN X0.here hx rfl (hb hby d8e_3) rfl ?_
    show Steps p.tables e below (s₁.setTop (mkF m 4 Lo1 [(.int p4), (.int p3), (.int p5)])) _
    refine st1 _ ?_
    show Steps p.tables e below (T1.setTop (mkF m 7 Lo1 [(.int (own_sig p5 p3 p4))])) _
    refine XS.istore X1.here hx rfl (hb hby d8e_7) rfl (l' := Lo2) rfl ?_
    show Steps p.tables e below (T1.setTop (mkF m 9 Lo2 [])) _
    refine XS.iload X1.here hx rfl (hb hby d8e_9) rfl ?_
    show Steps p.tables e below (T1.setTop (mkF m 11 Lo2 [(.int p6)])) _
    refine XS.iloadN X1.here hx rfl (hb hby d8e_11) rfl ?_
    show Steps p.tables e below (T1.setTop (mkF m 12 Lo2 [(.int p3), (.int p6)])) _
    refine XS.iloadN X1.here hx rfl (hb hby d8e_12) rfl ?_
    show Steps p.tables e below (T1.setTop (mkF m 13 Lo2 [(.int p4), (.int p3), (.int p6)])) _
    refine st2 _ ?_
    show Steps p.tables e below (T2.setTop (mkF m 16 Lo2 [(.int (own_sig p6 p3 p4))])) _
    refine XS.istore X2.here hx rfl (hb hby d8e_16) rfl (l' := Lo3) rfl ?_
    show Steps p.tables e below (T2.setTop (mkF m 18 Lo3 [])) _
    refine XS.iload X2.here hx rfl (hb hby d8e_18) rfl ?_
    show Steps p.tables e below (T2.setTop (mkF m 20 Lo3 [(.int (own_sig p5 p3 p4))])) _
    refine XS.iload X2.here hx rfl (hb hby d8e_20) rfl ?_
    show Steps p.tables e below (T2.setTop (mkF m 22 Lo3 [(.int (own_sig p6 p3 p4)), (.int (own_sig p5 p3 p4))])) _
    refine XS.icmpNo X2.here hx rfl (hb hby d8e_22) rfl (Jvm.Free.XT.ii_ne_f hse) ?_
    show Steps p.tables e below (T2.setTop (mkF m 25 Lo3 [])) _
    refine XS.lconst X2.here hx rfl (hb hby d8e_25) ?_
    show Steps p.tables e below (T2.setTop (mkF m 26 Lo3 [(.long (0 : Int64))])) _
    refine XS.goto X2.here hx rfl (pc0 := 26) (pc' := 38) rfl (hb hby d8e_26) (by decide) (by decide) ?_
    show Steps p.tables e below (T2.setTop (mkF m 38 Lo3 [(.long (0 : Int64))])) _
    refine XS.lstore X2.here hx rfl (hb hby d8e_38) rfl (l' := Lo4) rfl ?_
    show Steps p.tables e below (T2.setTop (mkF m 40 Lo4 [])) _
    refine XS.aloadN X2.here hx rfl (hb hby d8e_40) rfl rfl ?_
    show Steps p.tables e below (T2.setTop (mkF m 41 Lo4 [(.ref a2)])) _
    refine XS.iload X2.here hx rfl (hb hby d8e_41) rfl ?_
    show Steps p.tables e below (T2.setTop (mkF m 43 Lo4 [(.int p5), (.ref a2)])) _
    refine XS.iconst X2.here hx rfl (hb hby d8e_43) ?_
    show Steps p.tables e below (T2.setTop (mkF m 44 Lo4 [(.int (3 : Int32)), (.int p5), (.ref a2)])) _
    refine XS.imul X2.here hx rfl (hb hby d8e_44) rfl ?_
    show Steps p.tables e below (T2.setTop (mkF m 45 Lo4 [(.int (p5 * (3 : Int32))), (.ref a2)])) _
    refine XS.iload X2.here hx rfl (hb hby d8e_45) rfl ?_
    show Steps p.tables e below (T2.setTop (mkF m 47 Lo4 [(.int p6), (.int (p5 * (3 : Int32))), (.ref a2)])) _
    refine XS.iadd X2.here hx rfl (hb hby d8e_47) rfl ?_
    show Steps p.tables e below (T2.setTop (mkF m 48 Lo4 [(.int ((p5 * (3 : Int32)) + p6)), (.ref a2)])) _
    refine own_ldJ X2 hx hZ e2 P1 (j := ((p5 * (3 : Int32)) + p6)) hj2 (w := (0 : Int64)) hv2 (g := (mkF m 48 Lo4 [(.int ((p5 * (3 : Int32)) + p6)), (.ref a2)])) rfl rfl (hb hby d8e_48) _ ?_
    show Steps p.tables e below (T2.setTop (mkF m 49 Lo4 [(.long (0 : Int64))])) _
    refine XS.lload X2.here hx rfl (hb hby d8e_49) rfl ?_
    show Steps p.tables e below (T2.setTop (mkF m 51 Lo4 [(.long (0 : Int64)), (.long (0 : Int64))])) _
    refine XS.lcmp X2.here hx rfl (hb hby d8e_51) rfl ?_
    show Steps p.tables e below (T2.setTop (mkF m 52 Lo4 [(.int (lcmpW (0 : Int64) (0 : Int64)))])) _
    refine XS.ifNo X2.here hx rfl (hb hby d8e_52) rfl (own_lw_ne_f rfl) ?_
    show Steps p.tables e below (T2.setTop (mkF m 55 Lo4 [])) _
    refine XS.iconst X2.here hx rfl (hb hby d8e_55) ?_
    show Steps p.tables e below (T2.setTop (mkF m 56 Lo4 [(.int (1 : Int32))])) _
    refine XS.goto X2.here hx rfl (pc0 := 56) (pc' := 60) rfl (hb hby d8e_56) (by decide) (by decide) ?_
    show Steps p.tables e below (T2.setTop (mkF m 60 Lo4 [(.int (1 : Int32))])) _
    exact own_retZ X2 hx Bd.returns (hb hby d8e_60) rfl rfl hr
  · show Q8e Z a1 a2 p3 p4 p5 p6 kb ka vb va h0 n0 _ T2.heap _
    rw [e2]
    exact ⟨rfl, N2, rfl⟩
theorem d8n_0 : decode method_4_code 0 = .ok (.iload 4, 2) := by decide +kernel
theorem d8n_2 : decode method_4_code 2 = .ok (.iload_n 2, 1) := by decide +kernel
theorem d8n_3 : decode method_4_code 3 = .ok (.iload_n 3, 1) := by decide +kernel
theorem d8n_4 : decode method_4_code 4 = .ok (.invokestatic 40, 3) := by decide +kernel
theorem d8n_7 : decode method_4_code 7 = .ok (.istore 6, 2) := by decide +kernel
theorem d8n_9 : decode method_4_code 9 = .ok (.iload 5, 2) := by decide +kernel
theorem d8n_11 : decode method_4_code 11 = .ok (.iload_n 2, 1) := by decide +kernel
theorem d8n_12 : decode method_4_code 12 = .ok (.iload_n 3, 1) := by decide +kernel
theorem d8n_13 : decode method_4_code 13 = .ok (.invokestatic 40, 3) := by decide +kernel
theorem d8n_16 : decode method_4_code 16 = .ok (.istore 7, 2) := by decide +kernel
theorem d8n_18 : decode method_4_code 18 = .ok (.iload 6, 2) := by decide +kernel
theorem d8n_20 : decode method_4_code 20 = .ok (.iload 7, 2) := by decide +kernel
theorem d8n_22 : decode method_4_code 22 = .ok (.if_icmp .ne 7, 3) := by decide +kernel
theorem d8n_29 : decode method_4_code 29 = .ok (.aload_n 0, 1) := by decide +kernel
theorem d8n_30 : decode method_4_code 30 = .ok (.iload 6, 2) := by decide +kernel
theorem d8n_32 : decode method_4_code 32 = .ok (.iconst 3, 1) := by decide +kernel
theorem d8n_33 : decode method_4_code 33 = .ok (.imul, 1) := by decide +kernel
theorem d8n_34 : decode method_4_code 34 = .ok (.iload 7, 2) := by decide +kernel
theorem d8n_36 : decode method_4_code 36 = .ok (.iadd, 1) := by decide +kernel
theorem d8n_37 : decode method_4_code 37 = .ok (.laload, 1) := by decide +kernel
theorem d8n_38 : decode method_4_code 38 = .ok (.lstore 8, 2) := by decide +kernel
theorem d8n_40 : decode method_4_code 40 = .ok (.aload_n 1, 1) := by decide +kernel
theorem d8n_41 : decode method_4_code 41 = .ok (.iload 4, 2) := by decide +kernel
theorem d8n_43 : decode method_4_code 43 = .ok (.iconst 3, 1) := by decide +kernel
theorem d8n_44 : decode method_4_code 44 = .ok (.imul, 1) := by decide +kernel
theorem d8n_45 : decode method_4_code 45 = .ok (.iload 5, 2) := by decide +kernel
theorem d8n_47 : decode method_4_code 47 = .ok (.iadd, 1) := by decide +kernel
theorem d8n_48 : decode method_4_code 48 = .ok (.laload, 1) := by decide +kernel
theorem d8n_49 : decode method_4_code 49 = .ok (.lload 8, 2) := by decide +kernel
theorem d8n_51 : decode method_4_code 51 = .ok (.lcmp, 1) := by decide +kernel
theorem d8n_52 : decode method_4_code 52 = .ok (.ifCond .ne 7, 3) := by decide +kernel
theorem d8n_55 : decode method_4_code 55 = .ok (.iconst 1, 1) := by decide +kernel
theorem d8n_56 : decode method_4_code 56 = .ok (.goto 4, 3) := by decide +kernel
theorem d8n_60 : decode method_4_code 60 = .ok (.ireturn, 1) := by decide +kernel
theorem pn_8n : plainName "com/example/chronoscope/chronoscope/sim/ZoneAssignPinLaw" = true := by first | (simp [plainName, overriddenIn]; done) | decide +kernel
theorem ef_8n (m : MethodId) (x0 : Addr) (x1 : Addr) (x2 : Int32) (x3 : Int32) (x4 : Int32) (x5 : Int32) : entryFrame m #[(.ref x0), (.ref x1), (.int x2), (.int x3), (.int x4), (.int x5)] 10 = mkF m 0 #[.val (.ref x0), .val (.ref x1), .val (.int x2), .val (.int x3), .val (.int x4), .val (.int x5), .unset, .unset, .unset, .unset] [] := by first | (simp [entryFrame, mkF, argsToLocals, Value.category]; done) | rfl
theorem pd_8n_9 : parseMethodDescriptor "(III)I" = some ⟨[.int, .int, .int], some .int⟩ := by decide +kernel
def Q8n (Z : State) (a1 : Addr) (a2 : Addr) (p3 : Int32) (p4 : Int32) (p5 : Int32) (p6 : Int32) (kb : ClassId) (ka : ClassId) (vb : List Value) (va : List Value) (w : Int64) (h0 : Heap) (n0 : Nat) (v : Option Value) (h : Heap) (L : List Loc) : Prop := v = some (.int (1 : Int32)) ∧ Fr n0 L ∧ h = h0
set_option maxRecDepth 65536 in
set_option maxHeartbeats 40000000 in
theorem rm8n (l : Launch) (Z : State) (a0 : Array Value) (hw : ∀ d ∈ tables_1, d.before a0 Z = true) (ws : List Jvm.Cond) (a1 : Addr) (a2 : Addr) (p3 : Int32) (p4 : Int32) (p5 : Int32) (p6 : Int32) (kb : ClassId) (ka : ClassId) (vb : List Value) (va : List Value) (w : Int64) (h0 : Heap) (n0 : Nat) (Z0 : n0 ≤ h0.size) (P0 : Arv Z h0 a1 kb .long (9 : Int32) vb (.long (0 : Int64))) (P1 : Arv Z h0 a2 ka .long (9 : Int32) va (.long (0 : Int64))) (hse : ¬ (own_sig p5 p3 p4) = (own_sig p6 p3 p4)) (hj1 : ¬ (((own_sig p5 p3 p4) * (3 : Int32)) + (own_sig p6 p3 p4)) < 0 ∧ (((own_sig p5 p3 p4) * (3 : Int32)) + (own_sig p6 p3 p4)) < 9) (hv1 : vb.getD (((own_sig p5 p3 p4) * (3 : Int32)) + (own_sig p6 p3 p4)).toNatClampNeg (.long (0 : Int64)) = .long w) (hj2 : ¬ ((p5 * (3 : Int32)) + p6) < 0 ∧ ((p5 * (3 : Int32)) + p6) < 9) (hv2 : va.getD ((p5 * (3 : Int32)) + p6).toNatClampNeg (.long (0 : Int64)) = .long w) :
    MetFree l (⟨"com/example/chronoscope/chronoscope/sim/ZoneAssignPinLaw", "cell", "([J[JIIII)Z"⟩ : MethodName) (head1 (Jvm.Cond.code (⟨"com/example/chronoscope/chronoscope/sim/ZoneAssignPinLaw", "cell", "([J[JIIII)Z"⟩ : MethodName) method_4_code 10 (some .boolean) :: ws) ({ frames := 1, cells := 0, slots := 0, locals := 14 } : Room)) (fun a U => a = #[(.ref a1), (.ref a2), (.int p3), (.int p4), (.int p5), (.int p6)] ∧ Z.Warmed39 U.vm ∧ U.heap = h0) (fun _ _ _ _ _ => True) (fun _ U o U' => ∃ v L, o = .returned v ∧ Q8n Z a1 a2 p3 p4 p5 p6 kb ka vb va w h0 n0 v U'.heap L ∧ FrameEnd U o U' L ({ frames := 1, cells := 0, slots := 0, locals := 14 } : Room).cells ({ frames := 1, cells := 0, slots := 0, locals := 14 } : Room).slots) := by
  refine MetFree.of_bodySF (plainFor_of_name pn_8n) hisR ?_
  intro p e s m args below meth c s₁ Bd hml0 hP hK
  obtain ⟨rfl, hZ, hh⟩ := hP
  have w50_ := hw _ (List.mem_of_getElem? (i := 50) rfl)
  have w52_ := hw _ (List.mem_of_getElem? (i := 52) rfl)
  have w53_ := hw _ (List.mem_of_getElem? (i := 53) rfl)
  have w54_ := hw _ (List.mem_of_getElem? (i := 54) rfl)
  have hx := Bd.exec
  have hby := Bd.bytes
  have hml : c.maxLocals = 10 := hml0
  have hown : s.vm.findClass "com/example/chronoscope/chronoscope/sim/ZoneAssignPinLaw" = some m.cls := findClass_of_methodNamed Bd.named
  have hnm := (name_of_methodNamed Bd.named Bd.method).1
  have X0 : Stand p l e ({ frames := 1, cells := 0, slots := 0, locals := 14 } : Room) s m #[(.ref a1), (.ref a2), (.int p3), (.int p4), (.int p5), (.int p6)] below meth c s₁ [] 0 0 := Stand.of_body Bd
  have e0 : s₁.heap = h0 := by rw [← hh, Bd.state]; rfl
  have N0 := Fr.nil n0
  have pre0 : ∀ t, Steps p.tables e below (s₁.setTop (mkF m 0 #[.val (.ref a1), .val (.ref a2), .val (.int p3), .val (.int p4), .val (.int p5), .val (.int p6), .unset, .unset, .unset, .unset] [])) t → Steps p.tables e below (s₁.setTop (entryFrame m #[(.ref a1), (.ref a2), (.int p3), (.int p4), (.int p5), (.int p6)] 10)) t := fun t k => castTop (ef_8n m a1 a2 p3 p4 p5 p6) k
  let Lo1 : Array Slot := #[.val (.ref a1), .val (.ref a2), .val (.int p3), .val (.int p4), .val (.int p5), .val (.int p6), .unset, .unset, .unset, .unset]
  obtain ⟨_, _, ⟨T1, L1, k1, n1⟩, -, X1, ⟨Lc1, hQ1, l1, y1, z1⟩, st1⟩ := Jvm.LawKit.callS X0 hx (y := (⟨"com/example/chronoscope/chronoscope/sim/ZoneAssignPinLaw", "sigma", "(III)I"⟩ : MethodName)) hown (mvT hZ w52_) (mvT hZ w53_) (mvT hZ w50_) (mvT hZ w54_) (by decide) (backOf (W := 0) (rm9 l Z a0 hw [] p5 p3 p4 h0 n0 Z0 ) hZ w54_ w50_ (by decide) (by decide)) (g := (mkF m 4 Lo1 [(.int p4), (.int p3), (.int p5)])) rfl (by rw [hml]; rfl) (argsL := [(.int p5), (.int p3), (.int p4)]) (rest := []) (lenOf pd_8n_9 rfl) rfl (by show 2 * 0 + _ ≤ _; exact Nat.le_of_eq rfl) (hb hby d8n_4) (fun _ _ => ⟨rfl, e0, (by decide : 0 + 0 ≤ _), (by decide : 0 + 0 ≤ _)⟩)
  dsimp only [Pt.U, Pt.locs, Pt.cells, Pt.slots] at X1 l1 y1 z1 st1 hQ1
  subst l1 y1 z1
  obtain ⟨rfl, N1q, qq1⟩ := hQ1
  have N1 := Fr.app N0 N1q
  have e1 : T1.heap = h0 := qq1
  let Lo2 : Array Slot := #[.val (.ref a1), .val (.ref a2), .val (.int p3), .val (.int p4), .val (.int p5), .val (.int p6), .val (.int (own_sig p5 p3 p4)), .unset, .unset, .unset]
  obtain ⟨_, _, ⟨T2, L2, k2, n2⟩, -, X2, ⟨Lc2, hQ2, l2, y2, z2⟩, st2⟩ := Jvm.LawKit.callS X1 hx (y := (⟨"com/example/chronoscope/chronoscope/sim/ZoneAssignPinLaw", "sigma", "(III)I"⟩ : MethodName)) hown (mvT hZ w52_) (mvT hZ w53_) (mvT hZ w50_) (mvT hZ w54_) (by decide) (backOf (W := 0) (rm9 l Z a0 hw [] p6 p3 p4 h0 n0 Z0 ) hZ w54_ w50_ (by decide) (by decide)) (g := (mkF m 13 Lo2 [(.int p4), (.int p3), (.int p6)])) rfl (by rw [hml]; rfl) (argsL := [(.int p6), (.int p3), (.int p4)]) (rest := []) (lenOf pd_8n_9 rfl) rfl (by show 2 * 0 + _ ≤ _; exact Nat.le_of_eq rfl) (hb hby d8n_13) (fun _ _ => ⟨rfl, e1, (by decide : 0 + 0 ≤ _), (by decide : 0 + 0 ≤ _)⟩)
  dsimp only [Pt.U, Pt.locs, Pt.cells, Pt.slots] at X2 l2 y2 z2 st2 hQ2
  subst l2 y2 z2
  obtain ⟨rfl, N2q, qq2⟩ := hQ2
  have N2 := Fr.app N1 N2q
  have e2 : T2.heap = h0 := qq2
  let Lo3 : Array Slot := #[.val (.ref a1), .val (.ref a2), .val (.int p3), .val (.int p4), .val (.int p5), .val (.int p6), .val (.int (own_sig p5 p3 p4)), .val (.int (own_sig p6 p3 p4)), .unset, .unset]
  let Lo4 : Array Slot := #[.val (.ref a1), .val (.ref a2), .val (.int p3), .val (.int p4), .val (.int p5), .val (.int p6), .val (.int (own_sig p5 p3 p4)), .val (.int (own_sig p6 p3 p4)), .val (.long w), .second]
  obtain ⟨fs, hr, hrun, hended, hW, hsame⟩ := X2.leave (v := some (.int (1 : Int32))) (fun h => by rw [Bd.returns] at h; cases h)
  refine ⟨_, _, pre0 _ ?_, hrun, hended, _, _, rfl, ?_, ⟨_, rfl⟩, hW, hsame.mono (by decide) (by decide)⟩
  · show Steps p.tables e below (s₁.setTop (mkF m 0 Lo1 [])) _
    refine XS.iload X0.here hx rfl (hb hby d8n_0) rfl ?_
    show Steps p.tables e below (s₁.setTop (mkF m 2 Lo1 [(.int p5)])) _
    refine XS.iloadN X0.here hx rfl (hb hby d8n_2) rfl ?_
    show Steps p.tables e below (s₁.setTop (mkF m 3 Lo1 [(.int p3), (.int p5)])) _
    refine XS.iloadN X0.here hx rfl (hb hby d8n_3) rfl ?_
    show Steps p.tables e below (s₁.setTop (mkF m 4 Lo1 [(.int p4), (.int p3), (.int p5)])) _
    refine st1 _ ?_
    show Steps p.tables e below (T1.setTop (mkF m 7 Lo1 [(.int (own_sig p5 p3 p4))])) _
    refine XS.istore X1.here hx rfl (hb hby d8n_7) rfl (l' := Lo2) rfl ?_
    show Steps p.tables e below (T1.setTop (mkF m 9 Lo2 [])) _
    refine XS.iload X1.here hx rfl (hb hby d8n_9) rfl ?_
    show Steps p.tables e below (T1.setTop (mkF m 11 Lo2 [(.int p6)])) _
    refine XS.iloadN X1.here hx rfl (hb hby d8n_11) rfl ?_
    show Steps p.tables e below (T1.setTop (mkF m 12 Lo2 [(.int p3), (.int p6)])) _
    refine XS.iloadN X1.here hx rfl (hb hby d8n_12) rfl ?_
    show Steps p.tables e below (T1.setTop (mkF m 13 Lo2 [(.int p4), (.int p3), (.int p6)])) _
    refine st2 _ ?_
    show Steps p.tables e below (T2.setTop (mkF m 16 Lo2 [(.int (own_sig p6 p3 p4))])) _
    refine XS.istore X2.here hx rfl (hb hby d8n_16) rfl (l' := Lo3) rfl ?_
    show Steps p.tables e below (T2.setTop (mkF m 18 Lo3 [])) _
    refine XS.iload X2.here hx rfl (hb hby d8n_18) rfl ?_
    show Steps p.tables e below (T2.setTop (mkF m 20 Lo3 [(.int (own_sig p5 p3 p4))])) _
    refine XS.iload X2.here hx rfl (hb hby d8n_20) rfl ?_
    show Steps p.tables e below (T2.setTop (mkF m 22 Lo3 [(.int (own_sig p6 p3 p4)), (.int (own_sig p5 p3 p4))])) _
    refine XS.icmpYes X2.here hx rfl (pc0 := 22) (pc' := 29) rfl (hb hby d8n_22) rfl (Jvm.Free.XT.ii_ne_t hse) (by decide) (by decide) ?_
    show Steps p.tables e below (T2.setTop (mkF m 29 Lo3 [])) _
    refine XS.aloadN X2.here hx rfl (hb hby d8n_29) rfl rfl ?_
    show Steps p.tables e below (T2.setTop (mkF m 30 Lo3 [(.ref a1)])) _
    refine XS.iload X2.here hx rfl (hb hby d8n_30) rfl ?_
    show Steps p.tables e below (T2.setTop (mkF m 32 Lo3 [(.int (own_sig p5 p3 p4)), (.ref a1)])) _
    refine XS.iconst X2.here hx rfl (hb hby d8n_32) ?_
    show Steps p.tables e below (T2.setTop (mkF m 33 Lo3 [(.int (3 : Int32)), (.int (own_sig p5 p3 p4)), (.ref a1)])) _
    refine XS.imul X2.here hx rfl (hb hby d8n_33) rfl ?_
    show Steps p.tables e below (T2.setTop (mkF m 34 Lo3 [(.int ((own_sig p5 p3 p4) * (3 : Int32))), (.ref a1)])) _
    refine XS.iload X2.here hx rfl (hb hby d8n_34) rfl ?_
    show Steps p.tables e below (T2.setTop (mkF m 36 Lo3 [(.int (own_sig p6 p3 p4)), (.int ((own_sig p5 p3 p4) * (3 : Int32))), (.ref a1)])) _
    refine XS.iadd X2.here hx rfl (hb hby d8n_36) rfl ?_
    show Steps p.tables e below (T2.setTop (mkF m 37 Lo3 [(.int (((own_sig p5 p3 p4) * (3 : Int32)) + (own_sig p6 p3 p4))), (.ref a1)])) _
    refine own_ldJ X2 hx hZ e2 P0 (j := (((own_sig p5 p3 p4) * (3 : Int32)) + (own_sig p6 p3 p4))) hj1 (w := w) hv1 (g := (mkF m 37 Lo3 [(.int (((own_sig p5 p3 p4) * (3 : Int32)) + (own_sig p6 p3 p4))), (.ref a1)])) rfl rfl (hb hby d8n_37) _ ?_
    show Steps p.tables e below (T2.setTop (mkF m 38 Lo3 [(.long w)])) _
    refine XS.lstore X2.here hx rfl (hb hby d8n_38) rfl (l' := Lo4) rfl ?_
    show Steps p.tables e below (T2.setTop (mkF m 40 Lo4 [])) _
    refine XS.aloadN X2.here hx rfl (hb hby d8n_40) rfl rfl ?_
    show Steps p.tables e below (T2.setTop (mkF m 41 Lo4 [(.ref a2)])) _
    refine XS.iload X2.here hx rfl (hb hby d8n_41) rfl ?_
    show Steps p.tables e below (T2.setTop (mkF m 43 Lo4 [(.int p5), (.ref a2)])) _
    refine XS.iconst X2.here hx rfl (hb hby d8n_43) ?_
    show Steps p.tables e below (T2.setTop (mkF m 44 Lo4 [(.int (3 : Int32)), (.int p5), (.ref a2)])) _
    refine XS.imul X2.here hx rfl (hb hby d8n_44) rfl ?_
    show Steps p.tables e below (T2.setTop (mkF m 45 Lo4 [(.int (p5 * (3 : Int32))), (.ref a2)])) _
    refine XS.iload X2.here hx rfl (hb hby d8n_45) rfl ?_
    show Steps p.tables e below (T2.setTop (mkF m 47 Lo4 [(.int p6), (.int (p5 * (3 : Int32))), (.ref a2)])) _
    refine XS.iadd X2.here hx rfl (hb hby d8n_47) rfl ?_
    show Steps p.tables e below (T2.setTop (mkF m 48 Lo4 [(.int ((p5 * (3 : Int32)) + p6)), (.ref a2)])) _
    refine own_ldJ X2 hx hZ e2 P1 (j := ((p5 * (3 : Int32)) + p6)) hj2 (w := w) hv2 (g := (mkF m 48 Lo4 [(.int ((p5 * (3 : Int32)) + p6)), (.ref a2)])) rfl rfl (hb hby d8n_48) _ ?_
    show Steps p.tables e below (T2.setTop (mkF m 49 Lo4 [(.long w)])) _
    refine XS.lload X2.here hx rfl (hb hby d8n_49) rfl ?_
    show Steps p.tables e below (T2.setTop (mkF m 51 Lo4 [(.long w), (.long w)])) _
    refine XS.lcmp X2.here hx rfl (hb hby d8n_51) rfl ?_
    show Steps p.tables e below (T2.setTop (mkF m 52 Lo4 [(.int (lcmpW w w))])) _
    refine XS.ifNo X2.here hx rfl (hb hby d8n_52) rfl (own_lw_ne_f rfl) ?_
    show Steps p.tables e below (T2.setTop (mkF m 55 Lo4 [])) _
    refine XS.iconst X2.here hx rfl (hb hby d8n_55) ?_
    show Steps p.tables e below (T2.setTop (mkF m 56 Lo4 [(.int (1 : Int32))])) _
    refine XS.goto X2.here hx rfl (pc0 := 56) (pc' := 60) rfl (hb hby d8n_56) (by decide) (by decide) ?_
    show Steps p.tables e below (T2.setTop (mkF m 60 Lo4 [(.int (1 : Int32))])) _
    exact own_retZ X2 hx Bd.returns (hb hby d8n_60) rfl rfl hr
  · show Q8n Z a1 a2 p3 p4 p5 p6 kb ka vb va w h0 n0 _ T2.heap _
    rw [e2]
    exact ⟨rfl, N2, rfl⟩
def Q8 (Z : State) (a1 : Addr) (a2 : Addr) (p3 : Int32) (p4 : Int32) (p5 : Int32) (p6 : Int32) (kb : ClassId) (ka : ClassId) (vb : List Value) (va : List Value) (h0 : Heap) (n0 : Nat) (v : Option Value) (h : Heap) (L : List Loc) : Prop := v = some (.int (1 : Int32)) ∧ Fr n0 L ∧ h = h0
set_option maxRecDepth 65536 in
set_option maxHeartbeats 40000000 in
theorem rm8 (l : Launch) (Z : State) (a0 : Array Value) (hw : ∀ d ∈ tables_1, d.before a0 Z = true) (ws : List Jvm.Cond) (a1 : Addr) (a2 : Addr) (p3 : Int32) (p4 : Int32) (p5 : Int32) (p6 : Int32) (kb : ClassId) (ka : ClassId) (vb : List Value) (va : List Value) (h0 : Heap) (n0 : Nat) (Z0 : n0 ≤ h0.size) (P0 : Arv Z h0 a1 kb .long (9 : Int32) vb (.long (0 : Int64))) (P1 : Arv Z h0 a2 ka .long (9 : Int32) va (.long (0 : Int64))) (hok : own_cellok p3 p4 p5 p6 vb va) :
    MetFree l (⟨"com/example/chronoscope/chronoscope/sim/ZoneAssignPinLaw", "cell", "([J[JIIII)Z"⟩ : MethodName) (head1 (Jvm.Cond.code (⟨"com/example/chronoscope/chronoscope/sim/ZoneAssignPinLaw", "cell", "([J[JIIII)Z"⟩ : MethodName) method_4_code 10 (some .boolean) :: ws) ({ frames := 1, cells := 0, slots := 0, locals := 14 } : Room)) (fun a U => a = #[(.ref a1), (.ref a2), (.int p3), (.int p4), (.int p5), (.int p6)] ∧ Z.Warmed39 U.vm ∧ U.heap = h0) (fun _ _ _ _ _ => True) (fun _ U o U' => ∃ v L, o = .returned v ∧ Q8 Z a1 a2 p3 p4 p5 p6 kb ka vb va h0 n0 v U'.heap L ∧ FrameEnd U o U' L ({ frames := 1, cells := 0, slots := 0, locals := 14 } : Room).cells ({ frames := 1, cells := 0, slots := 0, locals := 14 } : Room).slots) := by
  rcases hok with ⟨o1, o2, o3⟩ | ⟨o1, o2, o3, w, o4, o5⟩
  · exact rm8e l Z a0 hw ws a1 a2 p3 p4 p5 p6 kb ka vb va h0 n0 Z0 P0 P1 o1 o2 o3
  · exact rm8n l Z a0 hw ws a1 a2 p3 p4 p5 p6 kb ka vb va w h0 n0 Z0 P0 P1 o1 o2 o4 o3 o5
theorem own_mask (q : Int64) : 0 ≤ (q &&& (4294967295 : Int64)).toInt ∧ (q &&& (4294967295 : Int64)).toInt < 4294967296 := by
  have h : (q &&& (4294967295 : Int64)).toBitVec = q.toBitVec &&& 4294967295#64 := rfl
  have b : (q.toBitVec &&& 4294967295#64).toNat ≤ 4294967295 := by
    rw [BitVec.toNat_and]
    exact Nat.and_le_right
  have e : (q &&& (4294967295 : Int64)).toInt = (q.toBitVec &&& 4294967295#64).toInt := rfl
  rw [e, BitVec.toInt_eq_toNat_of_lt (by omega)]
  omega
theorem own_two (p : Int32) : ((1 : Int32) + (p &&& (1 : Int32))) = (1 : Int32) ∨ ((1 : Int32) + (p &&& (1 : Int32))) = (2 : Int32) := by
  have h : (p &&& (1 : Int32)).toBitVec = p.toBitVec &&& 1#32 := rfl
  have q : (p &&& (1 : Int32)).toBitVec.toNat < 2 := by
    rw [h, BitVec.toNat_and]
    exact Nat.lt_of_le_of_lt Nat.and_le_right (by decide)
  have r : (p &&& (1 : Int32)).toBitVec.toNat = 0 ∨ (p &&& (1 : Int32)).toBitVec.toNat = 1 := by omega
  rcases r with r | r
  · have z : (p &&& (1 : Int32)) = 0 := Int32.toBitVec_inj.mp (BitVec.eq_of_toNat_eq r)
    rw [z]; exact Or.inl rfl
  · have z : (p &&& (1 : Int32)) = 1 := Int32.toBitVec_inj.mp (BitVec.eq_of_toNat_eq r)
    rw [z]; exact Or.inr rfl
def own_i (s : Int32) : Int32 := if s = (0 : Int32) then (1 : Int32) else if s = (1 : Int32) then (2 : Int32) else if s = (2 : Int32) then (1 : Int32) else (2 : Int32)
def own_j (s : Int32) : Int32 := if s = (0 : Int32) then (0 : Int32) else if s = (1 : Int32) then (0 : Int32) else if s = (2 : Int32) then (2 : Int32) else (1 : Int32)
theorem own_ij (s : Int32) : (own_i s = (1 : Int32) ∧ own_j s = (0 : Int32)) ∨ (own_i s = (2 : Int32) ∧ own_j s = (0 : Int32)) ∨ (own_i s = (1 : Int32) ∧ own_j s = (2 : Int32)) ∨ (own_i s = (2 : Int32) ∧ own_j s = (1 : Int32)) := by
  unfold own_i own_j
  by_cases h0 : s = (0 : Int32)
  · rw [if_pos h0, if_pos h0]; exact Or.inl ⟨rfl, rfl⟩
  · rw [if_neg h0, if_neg h0]
    by_cases h1 : s = (1 : Int32)
    · rw [if_pos h1, if_pos h1]; exact Or.inr (Or.inl ⟨rfl, rfl⟩)
    · rw [if_neg h1, if_neg h1]
      by_cases h2 : s = (2 : Int32)
      · rw [if_pos h2, if_pos h2]; exact Or.inr (Or.inr (Or.inl ⟨rfl, rfl⟩))
      · rw [if_neg h2, if_neg h2]; exact Or.inr (Or.inr (Or.inr ⟨rfl, rfl⟩))
theorem own_d0 {y : Int64} (h : y = (0 : Int64)) : y = (0 : Int64) := h
theorem own_d4 {r : Int32} {y : Int64} (hr : r = (1 : Int32) ∨ r = (2 : Int32)) (h : y = (if r = (1 : Int32) then (0 : Int64) else (0 : Int64))) : y = (0 : Int64) := by rw [h]; split <;> rfl
theorem own_d8 {r : Int32} {y : Int64} (hr : r = (1 : Int32) ∨ r = (2 : Int32)) (h : y = (if r = (1 : Int32) then (0 : Int64) else (0 : Int64))) : y = (0 : Int64) := by rw [h]; split <;> rfl
theorem own_add {x y : Int64} {m n : Int} (hx : x.toInt = m) (hy : y.toInt = n) (h1 : -9223372036854775808 ≤ m + n) (h2 : m + n < 9223372036854775808) : (x + y).toInt = m + n := by
  rw [Int64.toInt_add, hx, hy]
  exact Int.bmod_eq_of_le (by omega) (by omega)
theorem own_sub {x y : Int64} {m n : Int} (hx : x.toInt = m) (hy : y.toInt = n) (h1 : -9223372036854775808 ≤ m - n) (h2 : m - n < 9223372036854775808) : (x - y).toInt = m - n := by
  rw [Int64.toInt_sub, hx, hy]
  exact Int.bmod_eq_of_le (by omega) (by omega)
theorem own_lt {x y : Int64} {m n : Int} (hx : x.toInt = m) (hy : y.toInt = n) (h : m < n) : x < y := by rw [Int64.lt_iff_toInt_lt, hx, hy]; exact h
theorem own_nlt {x y : Int64} {m n : Int} (hx : x.toInt = m) (hy : y.toInt = n) (h : n ≤ m) : ¬ x < y := by rw [Int64.lt_iff_toInt_lt, hx, hy]; omega
theorem own_ne {x y : Int64} {m n : Int} (hx : x.toInt = m) (hy : y.toInt = n) (h : m ≠ n) : ¬ x = y := fun q => h (by rw [← hx, ← hy, q])
theorem own_pre (r : Int32) (a b c : Int64) (hr : r = (1 : Int32) ∨ r = (2 : Int32)) (ba : 0 ≤ a.toInt ∧ a.toInt < 4294967296) (bb : 0 ≤ b.toInt ∧ b.toInt < 4294967296) (bc : 0 ≤ c.toInt ∧ c.toInt < 4294967296) {y0 y1 y2 y3 y4 y5 y6 y7 y8 : Int64}
    (h0 : y0 = (0 : Int64)) (h1 : y1 = (if r = (1 : Int32) then (0 : Int64) else ((0 : Int64) - a))) (h2 : y2 = (if r = (1 : Int32) then ((0 : Int64) - a) else (0 : Int64))) (h3 : y3 = (if r = (1 : Int32) then (0 : Int64) else (9223372036854775807 : Int64))) (h4 : y4 = (if r = (1 : Int32) then (0 : Int64) else (0 : Int64))) (h5 : y5 = (if r = (1 : Int32) then ((0 : Int64) - a) else (9223372036854775807 : Int64))) (h6 : y6 = (if r = (1 : Int32) then (9223372036854775807 : Int64) else (0 : Int64))) (h7 : y7 = (if r = (1 : Int32) then (9223372036854775807 : Int64) else ((0 : Int64) - a))) (h8 : y8 = (if r = (1 : Int32) then (0 : Int64) else (0 : Int64))) :
    own_con r c y0 (y1 - b) (y2 - b) (9223372036854775807 : Int64) y4 y5 (9223372036854775807 : Int64) y7 y8 := by
  obtain ⟨a1, a2⟩ := ba
  obtain ⟨b1, b2⟩ := bb
  obtain ⟨c1, c2⟩ := bc
  obtain ⟨A, hA⟩ : ∃ n, a.toInt = n := ⟨_, rfl⟩
  obtain ⟨B, hB⟩ : ∃ n, b.toInt = n := ⟨_, rfl⟩
  obtain ⟨D, hC⟩ : ∃ n, c.toInt = n := ⟨_, rfl⟩
  rw [hA] at a1 a2
  rw [hB] at b1 b2
  rw [hC] at c1 c2
  have z0 : (0 : Int64).toInt = 0 := by decide
  have zi : (9223372036854775807 : Int64).toInt = 9223372036854775807 := by decide
  have e1 : ((0 : Int64) - b).toInt = 0 - B := own_sub z0 hB (by omega) (by omega)
  have e2 : ((0 : Int64) - a).toInt = 0 - A := own_sub z0 hA (by omega) (by omega)
  have e3 : (((0 : Int64) - a) - b).toInt = 0 - A - B := own_sub e2 hB (by omega) (by omega)
  have e4 : (((0 : Int64) - b) + c).toInt = 0 - B + D := own_add e1 hC (by omega) (by omega)
  have e5 : ((((0 : Int64) - b) + c) + (0 : Int64)).toInt = 0 - B + D + 0 := own_add e4 z0 (by omega) (by omega)
  have e6 : ((((0 : Int64) - b) + c) + ((0 : Int64) - b)).toInt = 0 - B + D + (0 - B) := own_add e4 e1 (by omega) (by omega)
  have e7 : ((((0 : Int64) - b) + c) + (((0 : Int64) - a) - b)).toInt = 0 - B + D + (0 - A - B) := own_add e4 e3 (by omega) (by omega)
  have e8 : ((0 : Int64) + c).toInt = 0 + D := own_add z0 hC (by omega) (by omega)
  have e9 : (((0 : Int64) + c) + (0 : Int64)).toInt = 0 + D + 0 := own_add e8 z0 (by omega) (by omega)
  have e10 : (((0 : Int64) + c) + ((0 : Int64) - b)).toInt = 0 + D + (0 - B) := own_add e8 e1 (by omega) (by omega)
  have e11 : (((0 : Int64) + c) + (((0 : Int64) - a) - b)).toInt = 0 + D + (0 - A - B) := own_add e8 e3 (by omega) (by omega)
  have up : ¬ (((0 : Int64) - b) + c) < (0 : Int64) → 0 ≤ 0 - B + D := fun q => by
    rw [Int64.lt_iff_toInt_lt, e4, z0] at q
    omega
  rcases hr with rfl | rfl
  · have n11 : (1 : Int32) = (1 : Int32) := rfl
    rw [if_pos n11] at h1 h2 h4 h5 h7 h8
    subst h0 h1 h2 h4 h5 h7 h8
    refine Or.inl ⟨rfl, own_lt hC zi (by omega), own_ne e1 zi (by omega), fun q => ?_⟩
    have g := up q
    exact ⟨own_ne z0 zi (by omega), own_nlt e5 z0 (by omega), own_nlt e6 e1 (by omega), own_ne e3 zi (by omega), own_nlt e7 e3 (by omega), own_ne z0 zi (by omega), own_nlt e9 hC (by omega), own_nlt e10 z0 (by omega), own_nlt e11 e2 (by omega), rfl⟩
  · have n12 : ¬ (2 : Int32) = (1 : Int32) := by decide
    rw [if_neg n12] at h1 h2 h4 h5 h7 h8
    subst h0 h1 h2 h4 h5 h7 h8
    refine Or.inr ⟨rfl, own_lt hC zi (by omega), own_ne e1 zi (by omega), fun q => ?_⟩
    have g := up q
    exact ⟨own_ne z0 zi (by omega), own_nlt e5 z0 (by omega), own_ne e3 zi (by omega), own_nlt e7 e3 (by omega), own_nlt e6 e1 (by omega), rfl, own_ne z0 zi (by omega), own_nlt e9 hC (by omega), own_nlt e11 e2 (by omega), own_nlt e10 z0 (by omega)⟩
theorem pn_0 : plainName "com/example/chronoscope/chronoscope/sim/ZoneAssignPinLaw" = true := by first | (simp [plainName, overriddenIn]; done) | decide +kernel
theorem ef_0 (m : MethodId) (x0 : Int32) (x1 : Int32) (x2 : Int64) (x3 : Int64) (x4 : Int64) : entryFrame m #[(.int x0), (.int x1), (.long x2), (.long x3), (.long x4)] maxLocals = mkF m 0 #[.val (.int x0), .val (.int x1), .val (.long x2), .second, .val (.long x3), .second, .val (.long x4), .second, .unset, .unset, .unset, .unset, .unset, .unset, .unset, .unset, .unset, .unset, .unset, .unset, .unset] [] := by first | (simp [entryFrame, mkF, argsToLocals, Value.category, maxLocals]; done) | rfl
theorem pd_0_1 : parseMethodDescriptor "(I)V" = some ⟨[.int], none⟩ := by decide +kernel
theorem pd_0_3 : parseMethodDescriptor "(J)V" = some ⟨[.long], none⟩ := by decide +kernel
theorem pd_0_5 : parseMethodDescriptor "(IIJ)Z" = some ⟨[.int, .int, .long], some .boolean⟩ := by decide +kernel
theorem pd_0_6 : parseMethodDescriptor "([JI)V" = some ⟨[(.array .long), .int], none⟩ := by decide +kernel
theorem pd_0_7 : parseMethodDescriptor "(II)V" = some ⟨[.int, .int], none⟩ := by decide +kernel
theorem pd_0_8 : parseMethodDescriptor "([J[JIIII)Z" = some ⟨[(.array .long), (.array .long), .int, .int, .int, .int], some .boolean⟩ := by decide +kernel
def Q0 (Z : State) (p1 : Int32) (p2 : Int32) (q3 : Int64) (q4 : Int64) (q5 : Int64) (h0 : Heap) (n0 : Nat) (v : Option Value) (h : Heap) (L : List Loc) : Prop := v = some (.int 1) ∧ Fr n0 L
set_option maxRecDepth 65536 in
set_option maxHeartbeats 40000000 in
theorem rm0 (l : Launch) (Z : State) (a0 : Array Value) (hw : ∀ d ∈ tables_1, d.before a0 Z = true) (ws : List Jvm.Cond) (p1 : Int32) (p2 : Int32) (q3 : Int64) (q4 : Int64) (q5 : Int64) (h0 : Heap) (n0 : Nat) (Z0 : n0 ≤ h0.size)  :
    MetFree l x (head1 (Jvm.Cond.code x code maxLocals ret :: ws) room_1) (fun a U => a = #[(.int p1), (.int p2), (.long q3), (.long q4), (.long q5)] ∧ Z.Warmed39 U.vm ∧ U.heap = h0) (fun _ _ _ _ _ => True) (fun _ U o U' => ∃ v L, o = .returned v ∧ Q0 Z p1 p2 q3 q4 q5 h0 n0 v U'.heap L ∧ FrameEnd U o U' L room_1.cells room_1.slots) := by
  refine MetFree.of_bodySF (plainFor_of_name pn_0) hisR ?_
  intro p e s m args below meth c s₁ Bd hml0 hP hK
  obtain ⟨rfl, hZ, hh⟩ := hP
  have w0_ := hw _ (List.mem_of_getElem? (i := 0) rfl)
  have w1_ := hw _ (List.mem_of_getElem? (i := 1) rfl)
  have w2_ := hw _ (List.mem_of_getElem? (i := 2) rfl)
  have w3_ := hw _ (List.mem_of_getElem? (i := 3) rfl)
  have w4_ := hw _ (List.mem_of_getElem? (i := 4) rfl)
  have w5_ := hw _ (List.mem_of_getElem? (i := 5) rfl)
  have w6_ := hw _ (List.mem_of_getElem? (i := 6) rfl)
  have w7_ := hw _ (List.mem_of_getElem? (i := 7) rfl)
  have w8_ := hw _ (List.mem_of_getElem? (i := 8) rfl)
  have w13_ := hw _ (List.mem_of_getElem? (i := 13) rfl)
  have w15_ := hw _ (List.mem_of_getElem? (i := 15) rfl)
  have w16_ := hw _ (List.mem_of_getElem? (i := 16) rfl)
  have w17_ := hw _ (List.mem_of_getElem? (i := 17) rfl)
  have w18_ := hw _ (List.mem_of_getElem? (i := 18) rfl)
  have w19_ := hw _ (List.mem_of_getElem? (i := 19) rfl)
  have w20_ := hw _ (List.mem_of_getElem? (i := 20) rfl)
  have w22_ := hw _ (List.mem_of_getElem? (i := 22) rfl)
  have w23_ := hw _ (List.mem_of_getElem? (i := 23) rfl)
  have w24_ := hw _ (List.mem_of_getElem? (i := 24) rfl)
  have w25_ := hw _ (List.mem_of_getElem? (i := 25) rfl)
  have w26_ := hw _ (List.mem_of_getElem? (i := 26) rfl)
  have w27_ := hw _ (List.mem_of_getElem? (i := 27) rfl)
  have w28_ := hw _ (List.mem_of_getElem? (i := 28) rfl)
  have w29_ := hw _ (List.mem_of_getElem? (i := 29) rfl)
  have w30_ := hw _ (List.mem_of_getElem? (i := 30) rfl)
  have w31_ := hw _ (List.mem_of_getElem? (i := 31) rfl)
  have w33_ := hw _ (List.mem_of_getElem? (i := 33) rfl)
  have w34_ := hw _ (List.mem_of_getElem? (i := 34) rfl)
  have w35_ := hw _ (List.mem_of_getElem? (i := 35) rfl)
  have w36_ := hw _ (List.mem_of_getElem? (i := 36) rfl)
  have w37_ := hw _ (List.mem_of_getElem? (i := 37) rfl)
  have w38_ := hw _ (List.mem_of_getElem? (i := 38) rfl)
  have w43_ := hw _ (List.mem_of_getElem? (i := 43) rfl)
  have w44_ := hw _ (List.mem_of_getElem? (i := 44) rfl)
  have w45_ := hw _ (List.mem_of_getElem? (i := 45) rfl)
  have w46_ := hw _ (List.mem_of_getElem? (i := 46) rfl)
  have w47_ := hw _ (List.mem_of_getElem? (i := 47) rfl)
  have w48_ := hw _ (List.mem_of_getElem? (i := 48) rfl)
  have w49_ := hw _ (List.mem_of_getElem? (i := 49) rfl)
  have w50_ := hw _ (List.mem_of_getElem? (i := 50) rfl)
  have w51_ := hw _ (List.mem_of_getElem? (i := 51) rfl)
  have hx := Bd.exec
  have hby := Bd.bytes
  have hml : c.maxLocals = 21 := hml0
  have hown : s.vm.findClass "com/example/chronoscope/chronoscope/sim/ZoneAssignPinLaw" = some m.cls := findClass_of_methodNamed Bd.named
  have hnm := (name_of_methodNamed Bd.named Bd.method).1
  have X0 : Stand p l e room_1 s m #[(.int p1), (.int p2), (.long q3), (.long q4), (.long q5)] below meth c s₁ [] 0 0 := Stand.of_body Bd
  have e0 : s₁.heap = h0 := by rw [← hh, Bd.state]; rfl
  have N0 := Fr.nil n0
  have pre0 : ∀ t, Steps p.tables e below (s₁.setTop (mkF m 0 #[.val (.int p1), .val (.int p2), .val (.long q3), .second, .val (.long q4), .second, .val (.long q5), .second, .unset, .unset, .unset, .unset, .unset, .unset, .unset, .unset, .unset, .unset, .unset, .unset, .unset] [])) t → Steps p.tables e below (s₁.setTop (entryFrame m #[(.int p1), (.int p2), (.long q3), (.long q4), (.long q5)] maxLocals)) t := fun t k => castTop (ef_0 m p1 p2 q3 q4 q5) k
  obtain ⟨aa, haa⟩ : ∃ z, z = (q3 &&& (4294967295 : Int64)) := ⟨_, rfl⟩
  obtain ⟨bb, hbb⟩ : ∃ z, z = (q4 &&& (4294967295 : Int64)) := ⟨_, rfl⟩
  obtain ⟨cc, hcc⟩ : ∃ z, z = (q5 &&& (4294967295 : Int64)) := ⟨_, rfl⟩
  obtain ⟨rr, hrr⟩ : ∃ z, z = ((1 : Int32) + (p2 &&& (1 : Int32))) := ⟨_, rfl⟩
  obtain ⟨ci, hci⟩ : ∃ z, z = own_i ((p1 &&& (2147483647 : Int32)) - ((p1 &&& (2147483647 : Int32)) / (4 : Int32)) * (4 : Int32)) := ⟨_, rfl⟩
  obtain ⟨cj, hcj⟩ : ∃ z, z = own_j ((p1 &&& (2147483647 : Int32)) - ((p1 &&& (2147483647 : Int32)) / (4 : Int32)) * (4 : Int32)) := ⟨_, rfl⟩
  have ba : 0 ≤ aa.toInt ∧ aa.toInt < 4294967296 := by rw [haa]; exact own_mask q3
  have bbd : 0 ≤ bb.toInt ∧ bb.toInt < 4294967296 := by rw [hbb]; exact own_mask q4
  have bc : 0 ≤ cc.toInt ∧ cc.toInt < 4294967296 := by rw [hcc]; exact own_mask q5
  have hr12 : rr = (1 : Int32) ∨ rr = (2 : Int32) := by rw [hrr]; exact own_two p2
  have hij : (ci = (1 : Int32) ∧ cj = (0 : Int32)) ∨ (ci = (2 : Int32) ∧ cj = (0 : Int32)) ∨ (ci = (1 : Int32) ∧ cj = (2 : Int32)) ∨ (ci = (2 : Int32) ∧ cj = (1 : Int32)) := by rw [hci, hcj]; exact own_ij _
  let Lo1 : Array Slot := #[.val (.int p1), .val (.int p2), .val (.long q3), .second, .val (.long q4), .second, .val (.long q5), .second, .unset, .unset, .unset, .unset, .unset, .unset, .unset, .unset, .unset, .unset, .unset, .unset, .unset]
  obtain ⟨T1, h1, c1, X1, e1, E1, A1, st1⟩ := newP (aty := .long) X0 hx hZ w0_ e0 (g := (mkF m 2 Lo1 [(.int (9 : Int32))])) rfl (hb hby at_2) rfl (by decide : ¬ ((9 : Int32) < (0 : Int32))) (cap := 9) (by decide : (9 : Int32).toNatClampNeg ≤ 9) (by decide) (by decide) (by decide)
  obtain ⟨b1, g1⟩ : ∃ z, z = h0.size := ⟨_, rfl⟩
  rw [← g1] at A1 st1
  have g_b1 : n0 ≤ b1 := Nat.le_trans Z0 (Nat.le_of_eq g1.symm)
  have Z1 : n0 ≤ h1.size := Nat.le_trans Z0 E1.1
  have V1 : Arv Z h1 b1 c1 .long (9 : Int32) [(.long (0 : Int64)), (.long (0 : Int64)), (.long (0 : Int64)), (.long (0 : Int64)), (.long (0 : Int64)), (.long (0 : Int64)), (.long (0 : Int64)), (.long (0 : Int64)), (.long (0 : Int64))] (.long (0 : Int64)) := (Arv.new A1 (by decide)).pad (pad_rep [] _ 9)
  let Lo2 : Array Slot := #[.val (.int p1), .val (.int p2), .val (.long q3), .second, .val (.long q4), .second, .val (.long q5), .second, .val (.ref b1), .unset, .unset, .unset, .unset, .unset, .unset, .unset, .unset, .unset, .unset, .unset, .unset]
  obtain ⟨T2, h2, c2, X2, e2, E2, A2, st2⟩ := newP (aty := .long) X1 hx hZ w0_ e1 (g := (mkF m 8 Lo2 [(.int (9 : Int32))])) rfl (hb hby at_8) rfl (by decide : ¬ ((9 : Int32) < (0 : Int32))) (cap := 9) (by decide : (9 : Int32).toNatClampNeg ≤ 9) (by decide) (by decide) (by decide)
  obtain ⟨b2, g2⟩ : ∃ z, z = h1.size := ⟨_, rfl⟩
  rw [← g2] at A2 st2
  have ne_b1_b2 : b1 ≠ b2 := Nat.ne_of_lt (Nat.lt_of_lt_of_le V1.lt (Nat.le_of_eq g2.symm))
  have g_b2 : n0 ≤ b2 := Nat.le_trans Z1 (Nat.le_of_eq g2.symm)
  have A2_b1 := V1.ext E2
  have Z2 : n0 ≤ h2.size := Nat.le_trans Z1 E2.1
  have V2 : Arv Z h2 b2 c2 .long (9 : Int32) [(.long (0 : Int64)), (.long (0 : Int64)), (.long (0 : Int64)), (.long (0 : Int64)), (.long (0 : Int64)), (.long (0 : Int64)), (.long (0 : Int64)), (.long (0 : Int64)), (.long (0 : Int64))] (.long (0 : Int64)) := (Arv.new A2 (by decide)).pad (pad_rep [] _ 9)
  let Lo3 : Array Slot := #[.val (.int p1), .val (.int p2), .val (.long q3), .second, .val (.long q4), .second, .val (.long q5), .second, .val (.ref b1), .val (.ref b2), .unset, .unset, .unset, .unset, .unset, .unset, .unset, .unset, .unset, .unset, .unset]
  let Lo4 : Array Slot := #[.val (.int p1), .val (.int p2), .val (.long q3), .second, .val (.long q4), .second, .val (.long q5), .second, .val (.ref b1), .val (.ref b2), .val (.long aa), .second, .unset, .unset, .unset, .unset, .unset, .unset, .unset, .unset, .unset]
  let Lo5 : Array Slot := #[.val (.int p1), .val (.int p2), .val (.long q3), .second, .val (.long q4), .second, .val (.long q5), .second, .val (.ref b1), .val (.ref b2), .val (.long aa), .second, .val (.long bb), .second, .unset, .unset, .unset, .unset, .unset, .unset, .unset]
  let Lo6 : Array Slot := #[.val (.int p1), .val (.int p2), .val (.long q3), .second, .val (.long q4), .second, .val (.long q5), .second, .val (.ref b1), .val (.ref b2), .val (.long aa), .second, .val (.long bb), .second, .val (.long cc), .second, .unset, .unset, .unset, .unset, .unset]
  let Lo7 : Array Slot := #[.val (.int p1), .val (.int p2), .val (.long q3), .second, .val (.long q4), .second, .val (.long q5), .second, .val (.ref b1), .val (.ref b2), .val (.long aa), .second, .val (.long bb), .second, .val (.long cc), .second, .val (.int rr), .unset, .unset, .unset, .unset]
  let Lo8 : Array Slot := #[.val (.int p1), .val (.int p2), .val (.long q3), .second, .val (.long q4), .second, .val (.long q5), .second, .val (.ref b1), .val (.ref b2), .val (.long aa), .second, .val (.long bb), .second, .val (.long cc), .second, .val (.int rr), .val (.int ((p1 &&& (2147483647 : Int32)) - ((p1 &&& (2147483647 : Int32)) / (4 : Int32)) * (4 : Int32))), .unset, .unset, .unset]
  let Lo9 : Array Slot := #[.val (.int p1), .val (.int p2), .val (.long q3), .second, .val (.long q4), .second, .val (.long q5), .second, .val (.ref b1), .val (.ref b2), .val (.long aa), .second, .val (.long bb), .second, .val (.long cc), .second, .val (.int rr), .val (.int ((p1 &&& (2147483647 : Int32)) - ((p1 &&& (2147483647 : Int32)) / (4 : Int32)) * (4 : Int32))), .val (.int ci), .val (.int cj), .unset]
  obtain ⟨T3, h3, X3, e3, E3, A3, D3, -, st3⟩ := newO X2 hx hZ hown w3_ w4_ w5_ e2 (g := (mkF m 100 Lo9 [])) rfl (hb hby at_100) (by decide) (by decide)
  obtain ⟨b3, g3⟩ : ∃ z, z = h2.size := ⟨_, rfl⟩
  rw [← g3] at A3 D3 st3
  have ne_b1_b3 : b1 ≠ b3 := Nat.ne_of_lt (Nat.lt_of_lt_of_le A2_b1.lt (Nat.le_of_eq g3.symm))
  have ne_b2_b3 : b2 ≠ b3 := Nat.ne_of_lt (Nat.lt_of_lt_of_le V2.lt (Nat.le_of_eq g3.symm))
  have g_b3 : n0 ≤ b3 := Nat.le_trans Z2 (Nat.le_of_eq g3.symm)
  have A3_b1 := A2_b1.ext E3
  have A3_b2 := V2.ext E3
  have Z3 : n0 ≤ h3.size := Nat.le_trans Z2 E3.1
  have F3_size_b3 : Fld Z h3 b3 "com/example/chronoscope/chronoscope/sim/Zone" "size" "I" (.int (0 : Int32)) := D3 (Or.inr w13_) (ty := .int) (by decide)
  have F3_bounds_b3 : Fld Z h3 b3 "com/example/chronoscope/chronoscope/sim/Zone" "bounds" "[J" .null := D3 (Or.inr w15_) (ty := (.array .long)) (by decide)
  have F3_empty_b3 : Fld Z h3 b3 "com/example/chronoscope/chronoscope/sim/Zone" "empty" "Z" (.int (0 : Int32)) := D3 (Or.inl w33_) (ty := .boolean) (by decide)
  obtain ⟨_, _, ⟨T4, L4, k4, n4⟩, -, X4, ⟨Lc4, hQ4, l4, y4, z4⟩, st4⟩ := X3.specialBack hx (y := (⟨"com/example/chronoscope/chronoscope/sim/Zone", "<init>", "(I)V"⟩ : MethodName)) rfl hown (mvT hZ w6_) (mvT hZ w7_) (mvT hZ w8_) (by decide) (backOf (W := 1) (rm1 l Z a0 hw [] b3 h3 n0 Z3 A3 F3_size_b3 F3_bounds_b3 F3_empty_b3 g_b3) hZ w8_ w5_ (by decide) (by decide)) (g := (mkF m 105 Lo9 [(.int (2 : Int32)), (.ref b3), (.ref b3)])) rfl (by rw [hml]; rfl) (Steps.refl _) (a := b3) (argsL := [(.int (2 : Int32))]) (rest := [(.ref b3)]) (lenOf pd_0_1 rfl) rfl (by show 2 * 0 + _ ≤ _; exact Nat.le_of_eq rfl) (hb hby at_105) (fun _ _ => ⟨rfl, e3, (by decide : 3 + 1 ≤ _), (by decide : 21 + 9 ≤ _)⟩)
  dsimp only [Pt.U, Pt.locs, Pt.cells, Pt.slots] at X4 l4 y4 z4 st4 hQ4
  subst l4 y4 z4
  obtain ⟨bb_4, kk_4, rfl, N4q, qq4, p4_0, p4_1, p4_2, p4_3, p4_4, hx_bb_4⟩ := hQ4
  have N4 := Fr.app N0 N4q
  have E4_b3 := A3.keep qq4
  have A4_b1 := A3_b1.keep qq4 (fun hm => ne_b1_b3 (List.mem_singleton.mp hm))
  have A4_b2 := A3_b2.keep qq4 (fun hm => ne_b2_b3 (List.mem_singleton.mp hm))
  have Z4 : n0 ≤ T4.heap.size := Nat.le_trans Z3 qq4.1
  have ne_b3_bb_4 : b3 ≠ bb_4 := Nat.ne_of_lt (Nat.lt_of_lt_of_le A3.lt hx_bb_4)
  have ne_b1_bb_4 : b1 ≠ bb_4 := Nat.ne_of_lt (Nat.lt_of_lt_of_le A3_b1.lt hx_bb_4)
  have ne_b2_bb_4 : b2 ≠ bb_4 := Nat.ne_of_lt (Nat.lt_of_lt_of_le A3_b2.lt hx_bb_4)
  have g_bb_4 : n0 ≤ bb_4 := Nat.le_trans Z3 hx_bb_4
  let Lo10 : Array Slot := #[.val (.int p1), .val (.int p2), .val (.long q3), .second, .val (.long q4), .second, .val (.long q5), .second, .val (.ref b1), .val (.ref b2), .val (.long aa), .second, .val (.long bb), .second, .val (.long cc), .second, .val (.int rr), .val (.int ((p1 &&& (2147483647 : Int32)) - ((p1 &&& (2147483647 : Int32)) / (4 : Int32)) * (4 : Int32))), .val (.int ci), .val (.int cj), .val (.ref b3)]
  obtain ⟨cq5, kq5, q5a, q5b, q5c⟩ := isOf hZ rfl p4_0
  obtain ⟨_, _, ⟨T5, L5, k5, n5⟩, -, X5, ⟨Lc5, hQ5, l5, y5, z5⟩, st5⟩ := X4.virtualBack hx (y := (⟨"com/example/chronoscope/chronoscope/sim/Zone", "delay", "(J)V"⟩ : MethodName)) (z := (⟨"com/example/chronoscope/chronoscope/sim/Zone", "delay", "(J)V"⟩ : MethodName)) hown (mvT hZ w16_) (mvT hZ w17_) (notFace_of_selects (args := #[]) (mvT hZ w19_)) (mvT hZ w19_) (mvT hZ w18_) (by decide) (backOf (W := 0) (rm3 l Z a0 hw [] b3 aa bb_4 kk_4 (0 : Int64) (0 : Int64) (0 : Int64) (0 : Int64) (0 : Int64) (0 : Int64) (0 : Int64) (0 : Int64) (0 : Int64) T4.heap n0 Z4 p4_0 p4_1 p4_2 p4_4 g_bb_4 ne_b3_bb_4) hZ w20_ w5_ (by decide) (by decide)) q5a q5c (g := (mkF m 114 Lo10 [(.long aa), (.ref b3)])) rfl (by rw [hml]; rfl) (Steps.refl _) (argsL := [(.long aa)]) (rest := []) (lenOf pd_0_3 rfl) rfl (by show 2 * 0 + _ ≤ _; exact Nat.le_of_eq rfl) (hb hby at_114) (fun _ _ => ⟨rfl, rfl, (by decide : 4 + 0 ≤ _), (by decide : 30 + 0 ≤ _)⟩)
  dsimp only [Pt.U, Pt.locs, Pt.cells, Pt.slots] at X5 l5 y5 z5 st5 hQ5
  subst l5 y5 z5
  obtain ⟨rfl, N5q, qq5, p5_0⟩ := hQ5
  have N5 := Fr.app N4 N5q
  have F5_size_b3 := p4_1.keep qq5 (fun hm => ne_b3_bb_4 (List.mem_singleton.mp hm))
  have F5_bounds_b3 := p4_2.keep qq5 (fun hm => ne_b3_bb_4 (List.mem_singleton.mp hm))
  have F5_empty_b3 := p4_3.keep qq5 (fun hm => ne_b3_bb_4 (List.mem_singleton.mp hm))
  have E5_b3 := p4_0.keep qq5
  have A5_b1 := A4_b1.keep qq5 (fun hm => ne_b1_bb_4 (List.mem_singleton.mp hm))
  have A5_b2 := A4_b2.keep qq5 (fun hm => ne_b2_bb_4 (List.mem_singleton.mp hm))
  have Z5 : n0 ≤ T5.heap.size := Nat.le_trans Z4 qq5.1
  obtain ⟨cq6, kq6, q6a, q6b, q6c⟩ := isOf hZ rfl E5_b3
  obtain ⟨_, _, ⟨T6, L6, k6, n6⟩, -, X6, ⟨Lc6, hQ6, l6, y6, z6⟩, st6⟩ := X5.virtualBack hx (y := (⟨"com/example/chronoscope/chronoscope/sim/Zone", "reset", "(I)V"⟩ : MethodName)) (z := (⟨"com/example/chronoscope/chronoscope/sim/Zone", "reset", "(I)V"⟩ : MethodName)) hown (mvT hZ w22_) (mvT hZ w23_) (notFace_of_selects (args := #[]) (mvT hZ w25_)) (mvT hZ w25_) (mvT hZ w24_) (by decide) (backOf (W := 0) (rm4 l Z a0 hw [] b3 rr bb_4 kk_4 (0 : Int64) ((0 : Int64) - aa) ((0 : Int64) - aa) (9223372036854775807 : Int64) (0 : Int64) (0 : Int64) (9223372036854775807 : Int64) (0 : Int64) (0 : Int64) T5.heap n0 Z5 E5_b3 F5_size_b3 F5_bounds_b3 p5_0 g_bb_4 ne_b3_bb_4 hr12) hZ w26_ w5_ (by decide) (by decide)) q6a q6c (g := (mkF m 121 Lo10 [(.int rr), (.ref b3)])) rfl (by rw [hml]; rfl) (Steps.refl _) (argsL := [(.int rr)]) (rest := []) (lenOf pd_0_1 rfl) rfl (by show 2 * 0 + _ ≤ _; exact Nat.le_of_eq rfl) (hb hby at_121) (fun _ _ => ⟨rfl, rfl, (by decide : 4 + 0 ≤ _), (by decide : 30 + 0 ≤ _)⟩)
  dsimp only [Pt.U, Pt.locs, Pt.cells, Pt.slots] at X6 l6 y6 z6 st6 hQ6
  subst l6 y6 z6
  obtain ⟨ya0, ya1, ya2, ya3, ya4, ya5, ya6, ya7, ya8, rfl, N6q, qq6, p6_0, hx_ya0, hx_ya1, hx_ya2, hx_ya3, hx_ya4, hx_ya5, hx_ya6, hx_ya7, hx_ya8⟩ := hQ6
  have N6 := Fr.app N5 N6q
  have F6_size_b3 := F5_size_b3.keep qq6 (fun hm => ne_b3_bb_4 (List.mem_singleton.mp hm))
  have F6_bounds_b3 := F5_bounds_b3.keep qq6 (fun hm => ne_b3_bb_4 (List.mem_singleton.mp hm))
  have F6_empty_b3 := F5_empty_b3.keep qq6 (fun hm => ne_b3_bb_4 (List.mem_singleton.mp hm))
  have E6_b3 := E5_b3.keep qq6
  have A6_b1 := A5_b1.keep qq6 (fun hm => ne_b1_bb_4 (List.mem_singleton.mp hm))
  have A6_b2 := A5_b2.keep qq6 (fun hm => ne_b2_bb_4 (List.mem_singleton.mp hm))
  have Z6 : n0 ≤ T6.heap.size := Nat.le_trans Z5 qq6.1
  obtain ⟨cq7, kq7, q7a, q7b, q7c⟩ := isOf hZ rfl E6_b3
  obtain ⟨_, _, ⟨T7, L7, k7, n7⟩, -, X7, ⟨Lc7, hQ7, l7, y7, z7⟩, st7⟩ := X6.virtualBack hx (y := (⟨"com/example/chronoscope/chronoscope/sim/Zone", "delay", "(J)V"⟩ : MethodName)) (z := (⟨"com/example/chronoscope/chronoscope/sim/Zone", "delay", "(J)V"⟩ : MethodName)) hown (mvT hZ w16_) (mvT hZ w17_) (notFace_of_selects (args := #[]) (mvT hZ w19_)) (mvT hZ w19_) (mvT hZ w18_) (by decide) (backOf (W := 0) (rm3 l Z a0 hw [] b3 bb bb_4 kk_4 ya0 ya1 ya2 ya3 ya4 ya5 ya6 ya7 ya8 T6.heap n0 Z6 E6_b3 F6_size_b3 F6_bounds_b3 p6_0 g_bb_4 ne_b3_bb_4) hZ w20_ w5_ (by decide) (by decide)) q7a q7c (g := (mkF m 128 Lo10 [(.long bb), (.ref b3)])) rfl (by rw [hml]; rfl) (Steps.refl _) (argsL := [(.long bb)]) (rest := []) (lenOf pd_0_3 rfl) rfl (by show 2 * 0 + _ ≤ _; exact Nat.le_of_eq rfl) (hb hby at_128) (fun _ _ => ⟨rfl, rfl, (by decide : 4 + 0 ≤ _), (by decide : 30 + 0 ≤ _)⟩)
  dsimp only [Pt.U, Pt.locs, Pt.cells, Pt.slots] at X7 l7 y7 z7 st7 hQ7
  subst l7 y7 z7
  obtain ⟨rfl, N7q, qq7, p7_0⟩ := hQ7
  have N7 := Fr.app N6 N7q
  have F7_size_b3 := F6_size_b3.keep qq7 (fun hm => ne_b3_bb_4 (List.mem_singleton.mp hm))
  have F7_bounds_b3 := F6_bounds_b3.keep qq7 (fun hm => ne_b3_bb_4 (List.mem_singleton.mp hm))
  have F7_empty_b3 := F6_empty_b3.keep qq7 (fun hm => ne_b3_bb_4 (List.mem_singleton.mp hm))
  have E7_b3 := E6_b3.keep qq7
  have A7_b1 := A6_b1.keep qq7 (fun hm => ne_b1_bb_4 (List.mem_singleton.mp hm))
  have A7_b2 := A6_b2.keep qq7 (fun hm => ne_b2_bb_4 (List.mem_singleton.mp hm))
  have Z7 : n0 ≤ T7.heap.size := Nat.le_trans Z6 qq7.1
  obtain ⟨cq8, kq8, q8a, q8b, q8c⟩ := isOf hZ rfl E7_b3
  obtain ⟨_, _, ⟨T8, L8, k8, n8⟩, -, X8, ⟨Lc8, hQ8, l8, y8, z8⟩, st8⟩ := X7.virtualBack hx (y := (⟨"com/example/chronoscope/chronoscope/sim/Zone", "constrain", "(IIJ)Z"⟩ : MethodName)) (z := (⟨"com/example/chronoscope/chronoscope/sim/Zone", "constrain", "(IIJ)Z"⟩ : MethodName)) hown (mvT hZ w27_) (mvT hZ w28_) (notFace_of_selects (args := #[]) (mvT hZ w30_)) (mvT hZ w30_) (mvT hZ w29_) (by decide) (backOf (W := 0) (rm5 l Z a0 hw [] b3 rr cc bb_4 kk_4 ya0 (ya1 - bb) (ya2 - bb) (9223372036854775807 : Int64) ya4 ya5 (9223372036854775807 : Int64) ya7 ya8 T7.heap n0 Z7 E7_b3 F7_size_b3 F7_bounds_b3 F7_empty_b3 p7_0 g_b3 g_bb_4 ne_b3_bb_4 (own_pre rr aa bb cc hr12 ba bbd bc hx_ya0 hx_ya1 hx_ya2 hx_ya3 hx_ya4 hx_ya5 hx_ya6 hx_ya7 hx_ya8)) hZ w31_ w5_ (by decide) (by decide)) q8a q8c (g := (mkF m 138 Lo10 [(.long cc), (.int (0 : Int32)), (.int rr), (.ref b3)])) rfl (by rw [hml]; rfl) (Steps.refl _) (argsL := [(.int rr), (.int (0 : Int32)), (.long cc)]) (rest := []) (lenOf pd_0_5 rfl) rfl (by show 2 * 0 + _ ≤ _; exact Nat.le_of_eq rfl) (hb hby at_138) (fun _ _ => ⟨rfl, rfl, (by decide : 4 + 0 ≤ _), (by decide : 30 + 0 ≤ _)⟩)
  dsimp only [Pt.U, Pt.locs, Pt.cells, Pt.slots] at X8 l8 y8 z8 st8 hQ8
  subst l8 y8 z8
  obtain ⟨ww_8, yb0, yb1, yb2, yb3, yb4, yb5, yb6, yb7, yb8, rfl, N8q, qq8, p8_0, p8_1, p8_2, p8_3, hx_yb8⟩ := hQ8
  have N8 := Fr.app N7 N8q
  have E8_b3 := E7_b3.keep qq8
  have A8_b1 := A7_b1.keep qq8 (by simp only [List.mem_cons, List.not_mem_nil, or_false, not_or]; exact ⟨ne_b1_b3, ne_b1_bb_4⟩)
  have A8_b2 := A7_b2.keep qq8 (by simp only [List.mem_cons, List.not_mem_nil, or_false, not_or]; exact ⟨ne_b2_b3, ne_b2_bb_4⟩)
  have Z8 : n0 ≤ T8.heap.size := Nat.le_trans Z7 qq8.1
  obtain ⟨h048a, h048b, h048c⟩ := hx_yb8
  have hd0 : yb0 = (0 : Int64) := h048a.trans (own_d0 hx_ya0)
  have hd4 : yb4 = (0 : Int64) := h048b.trans (own_d4 hr12 hx_ya4)
  have hd8 : yb8 = (0 : Int64) := h048c.trans (own_d8 hr12 hx_ya8)
  obtain ⟨cq9, kq9, q9a, q9b, q9c⟩ := isOf hZ rfl p8_0
  obtain ⟨_, _, ⟨T9, L9, k9, n9⟩, -, X9, ⟨Lc9, hQ9, l9, y9, z9⟩, st9⟩ := X8.virtualBack hx (y := (⟨"com/example/chronoscope/chronoscope/sim/Zone", "copyTo", "([JI)V"⟩ : MethodName)) (z := (⟨"com/example/chronoscope/chronoscope/sim/Zone", "copyTo", "([JI)V"⟩ : MethodName)) hown (mvT hZ w34_) (mvT hZ w35_) (notFace_of_selects (args := #[]) (mvT hZ w37_)) (mvT hZ w37_) (mvT hZ w36_) (by decide) (backOf (W := 0) (rm6 l Z a0 hw [] b3 b1 bb_4 kk_4 c1 yb0 yb1 yb2 yb3 yb4 yb5 yb6 yb7 yb8 T8.heap n0 Z8 p8_2 p8_3 A8_b1 g_b1) hZ w38_ w5_ (by decide) (by decide)) q9a q9c (g := (mkF m 147 Lo10 [(.int (0 : Int32)), (.ref b1), (.ref b3)])) rfl (by rw [hml]; rfl) (Steps.refl _) (argsL := [(.ref b1), (.int (0 : Int32))]) (rest := []) (lenOf pd_0_6 rfl) rfl (by show 2 * 0 + _ ≤ _; exact Nat.le_of_eq rfl) (hb hby at_147) (fun _ _ => ⟨rfl, rfl, (by decide : 4 + 0 ≤ _), (by decide : 30 + 0 ≤ _)⟩)
  dsimp only [Pt.U, Pt.locs, Pt.cells, Pt.slots] at X9 l9 y9 z9 st9 hQ9
  subst l9 y9 z9
  obtain ⟨rfl, N9q, qq9, p9_0⟩ := hQ9
  have N9 := Fr.app N8 N9q
  have F9_size_b3 := p8_1.keep qq9 (fun hm => (Ne.symm ne_b1_b3) (List.mem_singleton.mp hm))
  have F9_bounds_b3 := p8_2.keep qq9 (fun hm => (Ne.symm ne_b1_b3) (List.mem_singleton.mp hm))
  have E9_b3 := p8_0.keep qq9
  have A9_b2 := A8_b2.keep qq9 (fun hm => (Ne.symm ne_b1_b2) (List.mem_singleton.mp hm))
  have A9_bb_4 := p8_3.keep qq9 (fun hm => (Ne.symm ne_b1_bb_4) (List.mem_singleton.mp hm))
  have Z9 : n0 ≤ T9.heap.size := Nat.le_trans Z8 qq9.1
  obtain ⟨cq10, kq10, q10a, q10b, q10c⟩ := isOf hZ rfl E9_b3
  obtain ⟨_, _, ⟨T10, L10, k10, n10⟩, -, X10, ⟨Lc10, hQ10, l10, y10, z10⟩, st10⟩ := X9.virtualBack hx (y := (⟨"com/example/chronoscope/chronoscope/sim/Zone", "assign", "(II)V"⟩ : MethodName)) (z := (⟨"com/example/chronoscope/chronoscope/sim/Zone", "assign", "(II)V"⟩ : MethodName)) hown (mvT hZ w43_) (mvT hZ w44_) (notFace_of_selects (args := #[]) (mvT hZ w46_)) (mvT hZ w46_) (mvT hZ w45_) (by decide) (backOf (W := 0) (rm7 l Z a0 hw [] b3 ci cj bb_4 kk_4 yb0 yb1 yb2 yb3 yb4 yb5 yb6 yb7 yb8 T9.heap n0 Z9 E9_b3 F9_size_b3 F9_bounds_b3 A9_bb_4 g_bb_4 ne_b3_bb_4 hij hd0 hd4 hd8) hZ w47_ w5_ (by decide) (by decide)) q10a q10c (g := (mkF m 156 Lo10 [(.int cj), (.int ci), (.ref b3)])) rfl (by rw [hml]; rfl) (Steps.refl _) (argsL := [(.int ci), (.int cj)]) (rest := []) (lenOf pd_0_7 rfl) rfl (by show 2 * 0 + _ ≤ _; exact Nat.le_of_eq rfl) (hb hby at_156) (fun _ _ => ⟨rfl, rfl, (by decide : 4 + 0 ≤ _), (by decide : 30 + 0 ≤ _)⟩)
  dsimp only [Pt.U, Pt.locs, Pt.cells, Pt.slots] at X10 l10 y10 z10 st10 hQ10
  subst l10 y10 z10
  obtain ⟨yc0, yc1, yc2, yc3, yc4, yc5, yc6, yc7, yc8, rfl, N10q, qq10, p10_0, hx_yc8⟩ := hQ10
  have N10 := Fr.app N9 N10q
  have F10_size_b3 := F9_size_b3.keep qq10 (fun hm => ne_b3_bb_4 (List.mem_singleton.mp hm))
  have F10_bounds_b3 := F9_bounds_b3.keep qq10 (fun hm => ne_b3_bb_4 (List.mem_singleton.mp hm))
  have E10_b3 := E9_b3.keep qq10
  have A10_b2 := A9_b2.keep qq10 (fun hm => ne_b2_bb_4 (List.mem_singleton.mp hm))
  have A10_b1 := p9_0.keep qq10 (fun hm => ne_b1_bb_4 (List.mem_singleton.mp hm))
  have Z10 : n0 ≤ T10.heap.size := Nat.le_trans Z9 qq10.1
  obtain ⟨hk00, hk01, hk02, hk10, hk11, hk12, hk20, hk21, hk22⟩ := hx_yc8
  obtain ⟨cq11, kq11, q11a, q11b, q11c⟩ := isOf hZ rfl E10_b3
  obtain ⟨_, _, ⟨T11, L11, k11, n11⟩, -, X11, ⟨Lc11, hQ11, l11, y11, z11⟩, st11⟩ := X10.virtualBack hx (y := (⟨"com/example/chronoscope/chronoscope/sim/Zone", "copyTo", "([JI)V"⟩ : MethodName)) (z := (⟨"com/example/chronoscope/chronoscope/sim/Zone", "copyTo", "([JI)V"⟩ : MethodName)) hown (mvT hZ w34_) (mvT hZ w35_) (notFace_of_selects (args := #[]) (mvT hZ w37_)) (mvT hZ w37_) (mvT hZ w36_) (by decide) (backOf (W := 0) (rm6 l Z a0 hw [] b3 b2 bb_4 kk_4 c2 yc0 yc1 yc2 yc3 yc4 yc5 yc6 yc7 yc8 T10.heap n0 Z10 F10_bounds_b3 p10_0 A10_b2 g_b2) hZ w38_ w5_ (by decide) (by decide)) q11a q11c (g := (mkF m 164 Lo10 [(.int (0 : Int32)), (.ref b2), (.ref b3)])) rfl (by rw [hml]; rfl) (Steps.refl _) (argsL := [(.ref b2), (.int (0 : Int32))]) (rest := []) (lenOf pd_0_6 rfl) rfl (by show 2 * 0 + _ ≤ _; exact Nat.le_of_eq rfl) (hb hby at_164) (fun _ _ => ⟨rfl, rfl, (by decide : 4 + 0 ≤ _), (by decide : 30 + 0 ≤ _)⟩)
  dsimp only [Pt.U, Pt.locs, Pt.cells, Pt.slots] at X11 l11 y11 z11 st11 hQ11
  subst l11 y11 z11
  obtain ⟨rfl, N11q, qq11, p11_0⟩ := hQ11
  have N11 := Fr.app N10 N11q
  have F11_size_b3 := F10_size_b3.keep qq11 (fun hm => (Ne.symm ne_b2_b3) (List.mem_singleton.mp hm))
  have F11_bounds_b3 := F10_bounds_b3.keep qq11 (fun hm => (Ne.symm ne_b2_b3) (List.mem_singleton.mp hm))
  have E11_b3 := E10_b3.keep qq11
  have A11_b1 := A10_b1.keep qq11 (fun hm => ne_b1_b2 (List.mem_singleton.mp hm))
  have A11_bb_4 := p10_0.keep qq11 (fun hm => (Ne.symm ne_b2_bb_4) (List.mem_singleton.mp hm))
  have Z11 : n0 ≤ T11.heap.size := Nat.le_trans Z10 qq11.1
  obtain ⟨_, _, ⟨T12, L12, k12, n12⟩, -, X12, ⟨Lc12, hQ12, l12, y12, z12⟩, st12⟩ := Jvm.LawKit.callS X11 hx (y := (⟨"com/example/chronoscope/chronoscope/sim/ZoneAssignPinLaw", "cell", "([J[JIIII)Z"⟩ : MethodName)) hown (mvT hZ w48_) (mvT hZ w49_) (mvT hZ w50_) (mvT hZ w51_) (by decide) (backOf (W := 0) (rm8 l Z a0 hw [] b1 b2 ci cj (0 : Int32) (0 : Int32) c1 c2 [(.long yb0), (.long yb1), (.long yb2), (.long yb3), (.long yb4), (.long yb5), (.long yb6), (.long yb7), (.long yb8)] [(.long yc0), (.long yc1), (.long yc2), (.long yc3), (.long yc4), (.long yc5), (.long yc6), (.long yc7), (.long yc8)] T11.heap n0 Z11 A11_b1 p11_0 hk00) hZ w51_ w50_ (by decide) (by decide)) (g := (mkF m 177 Lo10 [(.int (0 : Int32)), (.int (0 : Int32)), (.int cj), (.int ci), (.ref b2), (.ref b1)])) rfl (by rw [hml]; rfl) (argsL := [(.ref b1), (.ref b2), (.int ci), (.int cj), (.int (0 : Int32)), (.int (0 : Int32))]) (rest := []) (lenOf pd_0_8 rfl) rfl (by show 2 * 0 + _ ≤ _; exact Nat.le_of_eq rfl) (hb hby at_177) (fun _ _ => ⟨rfl, rfl, (by decide : 4 + 0 ≤ _), (by decide : 30 + 0 ≤ _)⟩)
  dsimp only [Pt.U, Pt.locs, Pt.cells, Pt.slots] at X12 l12 y12 z12 st12 hQ12
  subst l12 y12 z12
  obtain ⟨rfl, N12q, qq12⟩ := hQ12
  have N12 := Fr.app N11 N12q
  have e12 : T12.heap = T11.heap := qq12
  obtain ⟨_, _, ⟨T13, L13, k13, n13⟩, -, X13, ⟨Lc13, hQ13, l13, y13, z13⟩, st13⟩ := Jvm.LawKit.callS X12 hx (y := (⟨"com/example/chronoscope/chronoscope/sim/ZoneAssignPinLaw", "cell", "([J[JIIII)Z"⟩ : MethodName)) hown (mvT hZ w48_) (mvT hZ w49_) (mvT hZ w50_) (mvT hZ w51_) (by decide) (backOf (W := 0) (rm8 l Z a0 hw [] b1 b2 ci cj (0 : Int32) (1 : Int32) c1 c2 [(.long yb0), (.long yb1), (.long yb2), (.long yb3), (.long yb4), (.long yb5), (.long yb6), (.long yb7), (.long yb8)] [(.long yc0), (.long yc1), (.long yc2), (.long yc3), (.long yc4), (.long yc5), (.long yc6), (.long yc7), (.long yc8)] T11.heap n0 Z11 A11_b1 p11_0 hk01) hZ w51_ w50_ (by decide) (by decide)) (g := (mkF m 193 Lo10 [(.int (1 : Int32)), (.int (0 : Int32)), (.int cj), (.int ci), (.ref b2), (.ref b1)])) rfl (by rw [hml]; rfl) (argsL := [(.ref b1), (.ref b2), (.int ci), (.int cj), (.int (0 : Int32)), (.int (1 : Int32))]) (rest := []) (lenOf pd_0_8 rfl) rfl (by show 2 * 0 + _ ≤ _; exact Nat.le_of_eq rfl) (hb hby at_193) (fun _ _ => ⟨rfl, e12, (by decide : 4 + 0 ≤ _), (by decide : 30 + 0 ≤ _)⟩)
  dsimp only [Pt.U, Pt.locs, Pt.cells, Pt.slots] at X13 l13 y13 z13 st13 hQ13
  subst l13 y13 z13
  obtain ⟨rfl, N13q, qq13⟩ := hQ13
  have N13 := Fr.app N12 N13q
  have e13 : T13.heap = T11.heap := qq13
  obtain ⟨_, _, ⟨T14, L14, k14, n14⟩, -, X14, ⟨Lc14, hQ14, l14, y14, z14⟩, st14⟩ := Jvm.LawKit.callS X13 hx (y := (⟨"com/example/chronoscope/chronoscope/sim/ZoneAssignPinLaw", "cell", "([J[JIIII)Z"⟩ : MethodName)) hown (mvT hZ w48_) (mvT hZ w49_) (mvT hZ w50_) (mvT hZ w51_) (by decide) (backOf (W := 0) (rm8 l Z a0 hw [] b1 b2 ci cj (0 : Int32) (2 : Int32) c1 c2 [(.long yb0), (.long yb1), (.long yb2), (.long yb3), (.long yb4), (.long yb5), (.long yb6), (.long yb7), (.long yb8)] [(.long yc0), (.long yc1), (.long yc2), (.long yc3), (.long yc4), (.long yc5), (.long yc6), (.long yc7), (.long yc8)] T11.heap n0 Z11 A11_b1 p11_0 hk02) hZ w51_ w50_ (by decide) (by decide)) (g := (mkF m 209 Lo10 [(.int (2 : Int32)), (.int (0 : Int32)), (.int cj), (.int ci), (.ref b2), (.ref b1)])) rfl (by rw [hml]; rfl) (argsL := [(.ref b1), (.ref b2), (.int ci), (.int cj), (.int (0 : Int32)), (.int (2 : Int32))]) (rest := []) (lenOf pd_0_8 rfl) rfl (by show 2 * 0 + _ ≤ _; exact Nat.le_of_eq rfl) (hb hby at_209) (fun _ _ => ⟨rfl, e13, (by decide : 4 + 0 ≤ _), (by decide : 30 + 0 ≤ _)⟩)
  dsimp only [Pt.U, Pt.locs, Pt.cells, Pt.slots] at X14 l14 y14 z14 st14 hQ14
  subst l14 y14 z14
  obtain ⟨rfl, N14q, qq14⟩ := hQ14
  have N14 := Fr.app N13 N14q
  have e14 : T14.heap = T11.heap := qq14
  obtain ⟨_, _, ⟨T15, L15, k15, n15⟩, -, X15, ⟨Lc15, hQ15, l15, y15, z15⟩, st15⟩ := Jvm.LawKit.callS X14 hx (y := (⟨"com/example/chronoscope/chronoscope/sim/ZoneAssignPinLaw", "cell", "([J[JIIII)Z"⟩ : MethodName)) hown (mvT hZ w48_) (mvT hZ w49_) (mvT hZ w50_) (mvT hZ w51_) (by decide) (backOf (W := 0) (rm8 l Z a0 hw [] b1 b2 ci cj (1 : Int32) (0 : Int32) c1 c2 [(.long yb0), (.long yb1), (.long yb2), (.long yb3), (.long yb4), (.long yb5), (.long yb6), (.long yb7), (.long yb8)] [(.long yc0), (.long yc1), (.long yc2), (.long yc3), (.long yc4), (.long yc5), (.long yc6), (.long yc7), (.long yc8)] T11.heap n0 Z11 A11_b1 p11_0 hk10) hZ w51_ w50_ (by decide) (by decide)) (g := (mkF m 225 Lo10 [(.int (0 : Int32)), (.int (1 : Int32)), (.int cj), (.int ci), (.ref b2), (.ref b1)])) rfl (by rw [hml]; rfl) (argsL := [(.ref b1), (.ref b2), (.int ci), (.int cj), (.int (1 : Int32)), (.int (0 : Int32))]) (rest := []) (lenOf pd_0_8 rfl) rfl (by show 2 * 0 + _ ≤ _; exact Nat.le_of_eq rfl) (hb hby at_225) (fun _ _ => ⟨rfl, e14, (by decide : 4 + 0 ≤ _), (by decide : 30 + 0 ≤ _)⟩)
  dsimp only [Pt.U, Pt.locs, Pt.cells, Pt.slots] at X15 l15 y15 z15 st15 hQ15
  subst l15 y15 z15
  obtain ⟨rfl, N15q, qq15⟩ := hQ15
  have N15 := Fr.app N14 N15q
  have e15 : T15.heap = T11.heap := qq15
  obtain ⟨_, _, ⟨T16, L16, k16, n16⟩, -, X16, ⟨Lc16, hQ16, l16, y16, z16⟩, st16⟩ := Jvm.LawKit.callS X15 hx (y := (⟨"com/example/chronoscope/chronoscope/sim/ZoneAssignPinLaw", "cell", "([J[JIIII)Z"⟩ : MethodName)) hown (mvT hZ w48_) (mvT hZ w49_) (mvT hZ w50_) (mvT hZ w51_) (by decide) (backOf (W := 0) (rm8 l Z a0 hw [] b1 b2 ci cj (1 : Int32) (1 : Int32) c1 c2 [(.long yb0), (.long yb1), (.long yb2), (.long yb3), (.long yb4), (.long yb5), (.long yb6), (.long yb7), (.long yb8)] [(.long yc0), (.long yc1), (.long yc2), (.long yc3), (.long yc4), (.long yc5), (.long yc6), (.long yc7), (.long yc8)] T11.heap n0 Z11 A11_b1 p11_0 hk11) hZ w51_ w50_ (by decide) (by decide)) (g := (mkF m 241 Lo10 [(.int (1 : Int32)), (.int (1 : Int32)), (.int cj), (.int ci), (.ref b2), (.ref b1)])) rfl (by rw [hml]; rfl) (argsL := [(.ref b1), (.ref b2), (.int ci), (.int cj), (.int (1 : Int32)), (.int (1 : Int32))]) (rest := []) (lenOf pd_0_8 rfl) rfl (by show 2 * 0 + _ ≤ _; exact Nat.le_of_eq rfl) (hb hby at_241) (fun _ _ => ⟨rfl, e15, (by decide : 4 + 0 ≤ _), (by decide : 30 + 0 ≤ _)⟩)
  dsimp only [Pt.U, Pt.locs, Pt.cells, Pt.slots] at X16 l16 y16 z16 st16 hQ16
  subst l16 y16 z16
  obtain ⟨rfl, N16q, qq16⟩ := hQ16
  have N16 := Fr.app N15 N16q
  have e16 : T16.heap = T11.heap := qq16
  obtain ⟨_, _, ⟨T17, L17, k17, n17⟩, -, X17, ⟨Lc17, hQ17, l17, y17, z17⟩, st17⟩ := Jvm.LawKit.callS X16 hx (y := (⟨"com/example/chronoscope/chronoscope/sim/ZoneAssignPinLaw", "cell", "([J[JIIII)Z"⟩ : MethodName)) hown (mvT hZ w48_) (mvT hZ w49_) (mvT hZ w50_) (mvT hZ w51_) (by decide) (backOf (W := 0) (rm8 l Z a0 hw [] b1 b2 ci cj (1 : Int32) (2 : Int32) c1 c2 [(.long yb0), (.long yb1), (.long yb2), (.long yb3), (.long yb4), (.long yb5), (.long yb6), (.long yb7), (.long yb8)] [(.long yc0), (.long yc1), (.long yc2), (.long yc3), (.long yc4), (.long yc5), (.long yc6), (.long yc7), (.long yc8)] T11.heap n0 Z11 A11_b1 p11_0 hk12) hZ w51_ w50_ (by decide) (by decide)) (g := (mkF m 257 Lo10 [(.int (2 : Int32)), (.int (1 : Int32)), (.int cj), (.int ci), (.ref b2), (.ref b1)])) rfl (by rw [hml]; rfl) (argsL := [(.ref b1), (.ref b2), (.int ci), (.int cj), (.int (1 : Int32)), (.int (2 : Int32))]) (rest := []) (lenOf pd_0_8 rfl) rfl (by show 2 * 0 + _ ≤ _; exact Nat.le_of_eq rfl) (hb hby at_257) (fun _ _ => ⟨rfl, e16, (by decide : 4 + 0 ≤ _), (by decide : 30 + 0 ≤ _)⟩)
  dsimp only [Pt.U, Pt.locs, Pt.cells, Pt.slots] at X17 l17 y17 z17 st17 hQ17
  subst l17 y17 z17
  obtain ⟨rfl, N17q, qq17⟩ := hQ17
  have N17 := Fr.app N16 N17q
  have e17 : T17.heap = T11.heap := qq17
  obtain ⟨_, _, ⟨T18, L18, k18, n18⟩, -, X18, ⟨Lc18, hQ18, l18, y18, z18⟩, st18⟩ := Jvm.LawKit.callS X17 hx (y := (⟨"com/example/chronoscope/chronoscope/sim/ZoneAssignPinLaw", "cell", "([J[JIIII)Z"⟩ : MethodName)) hown (mvT hZ w48_) (mvT hZ w49_) (mvT hZ w50_) (mvT hZ w51_) (by decide) (backOf (W := 0) (rm8 l Z a0 hw [] b1 b2 ci cj (2 : Int32) (0 : Int32) c1 c2 [(.long yb0), (.long yb1), (.long yb2), (.long yb3), (.long yb4), (.long yb5), (.long yb6), (.long yb7), (.long yb8)] [(.long yc0), (.long yc1), (.long yc2), (.long yc3), (.long yc4), (.long yc5), (.long yc6), (.long yc7), (.long yc8)] T11.heap n0 Z11 A11_b1 p11_0 hk20) hZ w51_ w50_ (by decide) (by decide)) (g := (mkF m 273 Lo10 [(.int (0 : Int32)), (.int (2 : Int32)), (.int cj), (.int ci), (.ref b2), (.ref b1)])) rfl (by rw [hml]; rfl) (argsL := [(.ref b1), (.ref b2), (.int ci), (.int cj), (.int (2 : Int32)), (.int (0 : Int32))]) (rest := []) (lenOf pd_0_8 rfl) rfl (by show 2 * 0 + _ ≤ _; exact Nat.le_of_eq rfl) (hb hby at_273) (fun _ _ => ⟨rfl, e17, (by decide : 4 + 0 ≤ _), (by decide : 30 + 0 ≤ _)⟩)
  dsimp only [Pt.U, Pt.locs, Pt.cells, Pt.slots] at X18 l18 y18 z18 st18 hQ18
  subst l18 y18 z18
  obtain ⟨rfl, N18q, qq18⟩ := hQ18
  have N18 := Fr.app N17 N18q
  have e18 : T18.heap = T11.heap := qq18
  obtain ⟨_, _, ⟨T19, L19, k19, n19⟩, -, X19, ⟨Lc19, hQ19, l19, y19, z19⟩, st19⟩ := Jvm.LawKit.callS X18 hx (y := (⟨"com/example/chronoscope/chronoscope/sim/ZoneAssignPinLaw", "cell", "([J[JIIII)Z"⟩ : MethodName)) hown (mvT hZ w48_) (mvT hZ w49_) (mvT hZ w50_) (mvT hZ w51_) (by decide) (backOf (W := 0) (rm8 l Z a0 hw [] b1 b2 ci cj (2 : Int32) (1 : Int32) c1 c2 [(.long yb0), (.long yb1), (.long yb2), (.long yb3), (.long yb4), (.long yb5), (.long yb6), (.long yb7), (.long yb8)] [(.long yc0), (.long yc1), (.long yc2), (.long yc3), (.long yc4), (.long yc5), (.long yc6), (.long yc7), (.long yc8)] T11.heap n0 Z11 A11_b1 p11_0 hk21) hZ w51_ w50_ (by decide) (by decide)) (g := (mkF m 289 Lo10 [(.int (1 : Int32)), (.int (2 : Int32)), (.int cj), (.int ci), (.ref b2), (.ref b1)])) rfl (by rw [hml]; rfl) (argsL := [(.ref b1), (.ref b2), (.int ci), (.int cj), (.int (2 : Int32)), (.int (1 : Int32))]) (rest := []) (lenOf pd_0_8 rfl) rfl (by show 2 * 0 + _ ≤ _; exact Nat.le_of_eq rfl) (hb hby at_289) (fun _ _ => ⟨rfl, e18, (by decide : 4 + 0 ≤ _), (by decide : 30 + 0 ≤ _)⟩)
  dsimp only [Pt.U, Pt.locs, Pt.cells, Pt.slots] at X19 l19 y19 z19 st19 hQ19
  subst l19 y19 z19
  obtain ⟨rfl, N19q, qq19⟩ := hQ19
  have N19 := Fr.app N18 N19q
  have e19 : T19.heap = T11.heap := qq19
  obtain ⟨_, _, ⟨T20, L20, k20, n20⟩, -, X20, ⟨Lc20, hQ20, l20, y20, z20⟩, st20⟩ := Jvm.LawKit.callS X19 hx (y := (⟨"com/example/chronoscope/chronoscope/sim/ZoneAssignPinLaw", "cell", "([J[JIIII)Z"⟩ : MethodName)) hown (mvT hZ w48_) (mvT hZ w49_) (mvT hZ w50_) (mvT hZ w51_) (by decide) (backOf (W := 0) (rm8 l Z a0 hw [] b1 b2 ci cj (2 : Int32) (2 : Int32) c1 c2 [(.long yb0), (.long yb1), (.long yb2), (.long yb3), (.long yb4), (.long yb5), (.long yb6), (.long yb7), (.long yb8)] [(.long yc0), (.long yc1), (.long yc2), (.long yc3), (.long yc4), (.long yc5), (.long yc6), (.long yc7), (.long yc8)] T11.heap n0 Z11 A11_b1 p11_0 hk22) hZ w51_ w50_ (by decide) (by decide)) (g := (mkF m 305 Lo10 [(.int (2 : Int32)), (.int (2 : Int32)), (.int cj), (.int ci), (.ref b2), (.ref b1)])) rfl (by rw [hml]; rfl) (argsL := [(.ref b1), (.ref b2), (.int ci), (.int cj), (.int (2 : Int32)), (.int (2 : Int32))]) (rest := []) (lenOf pd_0_8 rfl) rfl (by show 2 * 0 + _ ≤ _; exact Nat.le_of_eq rfl) (hb hby at_305) (fun _ _ => ⟨rfl, e19, (by decide : 4 + 0 ≤ _), (by decide : 30 + 0 ≤ _)⟩)
  dsimp only [Pt.U, Pt.locs, Pt.cells, Pt.slots] at X20 l20 y20 z20 st20 hQ20
  subst l20 y20 z20
  obtain ⟨rfl, N20q, qq20⟩ := hQ20
  have N20 := Fr.app N19 N20q
  have e20 : T20.heap = T11.heap := qq20
  let Lo11 : Array Slot := #[.val (.int p1), .val (.int p2), .val (.long q3), .second, .val (.long q4), .second, .val (.long q5), .second, .val (.ref b1), .val (.ref b2), .val (.long aa), .second, .val (.long bb), .second, .val (.long cc), .second, .val (.int rr), .val (.int ((p1 &&& (2147483647 : Int32)) - ((p1 &&& (2147483647 : Int32)) / (4 : Int32)) * (4 : Int32))), .val (.int (1 : Int32)), .unset, .unset]
  let Lo12 : Array Slot := #[.val (.int p1), .val (.int p2), .val (.long q3), .second, .val (.long q4), .second, .val (.long q5), .second, .val (.ref b1), .val (.ref b2), .val (.long aa), .second, .val (.long bb), .second, .val (.long cc), .second, .val (.int rr), .val (.int ((p1 &&& (2147483647 : Int32)) - ((p1 &&& (2147483647 : Int32)) / (4 : Int32)) * (4 : Int32))), .val (.int (1 : Int32)), .val (.int (0 : Int32)), .unset]
  let Lo13 : Array Slot := #[.val (.int p1), .val (.int p2), .val (.long q3), .second, .val (.long q4), .second, .val (.long q5), .second, .val (.ref b1), .val (.ref b2), .val (.long aa), .second, .val (.long bb), .second, .val (.long cc), .second, .val (.int rr), .val (.int ((p1 &&& (2147483647 : Int32)) - ((p1 &&& (2147483647 : Int32)) / (4 : Int32)) * (4 : Int32))), .val (.int (2 : Int32)), .unset, .unset]
  let Lo14 : Array Slot := #[.val (.int p1), .val (.int p2), .val (.long q3), .second, .val (.long q4), .second, .val (.long q5), .second, .val (.ref b1), .val (.ref b2), .val (.long aa), .second, .val (.long bb), .second, .val (.long cc), .second, .val (.int rr), .val (.int ((p1 &&& (2147483647 : Int32)) - ((p1 &&& (2147483647 : Int32)) / (4 : Int32)) * (4 : Int32))), .val (.int (2 : Int32)), .val (.int (0 : Int32)), .unset]
  let Lo15 : Array Slot := #[.val (.int p1), .val (.int p2), .val (.long q3), .second, .val (.long q4), .second, .val (.long q5), .second, .val (.ref b1), .val (.ref b2), .val (.long aa), .second, .val (.long bb), .second, .val (.long cc), .second, .val (.int rr), .val (.int ((p1 &&& (2147483647 : Int32)) - ((p1 &&& (2147483647 : Int32)) / (4 : Int32)) * (4 : Int32))), .val (.int (1 : Int32)), .val (.int (2 : Int32)), .unset]
  let Lo16 : Array Slot := #[.val (.int p1), .val (.int p2), .val (.long q3), .second, .val (.long q4), .second, .val (.long q5), .second, .val (.ref b1), .val (.ref b2), .val (.long aa), .second, .val (.long bb), .second, .val (.long cc), .second, .val (.int rr), .val (.int ((p1 &&& (2147483647 : Int32)) - ((p1 &&& (2147483647 : Int32)) / (4 : Int32)) * (4 : Int32))), .val (.int (2 : Int32)), .val (.int (1 : Int32)), .unset]
  obtain ⟨fs, hr, hrun, hended, hW, hsame⟩ := X20.leave (v := some (.int 1)) (fun h => by rw [Bd.returns] at h; cases h)
  have J100 : ∀ (u0 : Int32), u0 = ci → ∀ (u1 : Int32), u1 = cj → Steps p.tables e below (T2.setTop (mkF m 100 #[.val (.int p1), .val (.int p2), .val (.long q3), .second, .val (.long q4), .second, .val (.long q5), .second, .val (.ref b1), .val (.ref b2), .val (.long aa), .second, .val (.long bb), .second, .val (.long cc), .second, .val (.int rr), .val (.int ((p1 &&& (2147483647 : Int32)) - ((p1 &&& (2147483647 : Int32)) / (4 : Int32)) * (4 : Int32))), .val (.int u0), .val (.int u1), .unset] [])) (T20.setFrames fs) := by
    intro u0 hu0 u1 hu1
    rw [hu0, hu1]
    show Steps p.tables e below (T2.setTop (mkF m 100 Lo9 [])) _
    refine st3 _ ?_
    show Steps p.tables e below (T3.setTop (mkF m 103 Lo9 [(.ref b3)])) _
    refine XS.dup X3.here hx rfl (hb hby at_103) rfl rfl ?_
    show Steps p.tables e below (T3.setTop (mkF m 104 Lo9 [(.ref b3), (.ref b3)])) _
    refine XS.iconst X3.here hx rfl (hb hby at_104) ?_
    show Steps p.tables e below (T3.setTop (mkF m 105 Lo9 [(.int (2 : Int32)), (.ref b3), (.ref b3)])) _
    refine st4.trans ?_
    show Steps p.tables e below (T4.setTop (mkF m 108 Lo9 [(.ref b3)])) _
    refine XS.astore X4.here hx rfl (hb hby at_108) rfl rfl (l' := Lo10) rfl ?_
    show Steps p.tables e below (T4.setTop (mkF m 110 Lo10 [])) _
    refine XS.aload X4.here hx rfl (hb hby at_110) rfl rfl ?_
    show Steps p.tables e below (T4.setTop (mkF m 112 Lo10 [(.ref b3)])) _
    refine XS.lload X4.here hx rfl (hb hby at_112) rfl ?_
    show Steps p.tables e below (T4.setTop (mkF m 114 Lo10 [(.long aa), (.ref b3)])) _
    refine st5.trans ?_
    show Steps p.tables e below (T5.setTop (mkF m 117 Lo10 [])) _
    refine XS.aload X5.here hx rfl (hb hby at_117) rfl rfl ?_
    show Steps p.tables e below (T5.setTop (mkF m 119 Lo10 [(.ref b3)])) _
    refine XS.iload X5.here hx rfl (hb hby at_119) rfl ?_
    show Steps p.tables e below (T5.setTop (mkF m 121 Lo10 [(.int rr), (.ref b3)])) _
    refine st6.trans ?_
    show Steps p.tables e below (T6.setTop (mkF m 124 Lo10 [])) _
    refine XS.aload X6.here hx rfl (hb hby at_124) rfl rfl ?_
    show Steps p.tables e below (T6.setTop (mkF m 126 Lo10 [(.ref b3)])) _
    refine XS.lload X6.here hx rfl (hb hby at_126) rfl ?_
    show Steps p.tables e below (T6.setTop (mkF m 128 Lo10 [(.long bb), (.ref b3)])) _
    refine st7.trans ?_
    show Steps p.tables e below (T7.setTop (mkF m 131 Lo10 [])) _
    refine XS.aload X7.here hx rfl (hb hby at_131) rfl rfl ?_
    show Steps p.tables e below (T7.setTop (mkF m 133 Lo10 [(.ref b3)])) _
    refine XS.iload X7.here hx rfl (hb hby at_133) rfl ?_
    show Steps p.tables e below (T7.setTop (mkF m 135 Lo10 [(.int rr), (.ref b3)])) _
    refine XS.iconst X7.here hx rfl (hb hby at_135) ?_
    show Steps p.tables e below (T7.setTop (mkF m 136 Lo10 [(.int (0 : Int32)), (.int rr), (.ref b3)])) _
    refine XS.lload X7.here hx rfl (hb hby at_136) rfl ?_
    show Steps p.tables e below (T7.setTop (mkF m 138 Lo10 [(.long cc), (.int (0 : Int32)), (.int rr), (.ref b3)])) _
    refine st8.trans ?_
    show Steps p.tables e below (T8.setTop (mkF m 141 Lo10 [(.int ww_8)])) _
    refine XS.pop X8.here hx rfl (hb hby at_141) rfl rfl ?_
    show Steps p.tables e below (T8.setTop (mkF m 142 Lo10 [])) _
    refine XS.aload X8.here hx rfl (hb hby at_142) rfl rfl ?_
    show Steps p.tables e below (T8.setTop (mkF m 144 Lo10 [(.ref b3)])) _
    refine XS.aload X8.here hx rfl (hb hby at_144) rfl rfl ?_
    show Steps p.tables e below (T8.setTop (mkF m 146 Lo10 [(.ref b1), (.ref b3)])) _
    refine XS.iconst X8.here hx rfl (hb hby at_146) ?_
    show Steps p.tables e below (T8.setTop (mkF m 147 Lo10 [(.int (0 : Int32)), (.ref b1), (.ref b3)])) _
    refine st9.trans ?_
    show Steps p.tables e below (T9.setTop (mkF m 150 Lo10 [])) _
    refine XS.aload X9.here hx rfl (hb hby at_150) rfl rfl ?_
    show Steps p.tables e below (T9.setTop (mkF m 152 Lo10 [(.ref b3)])) _
    refine XS.iload X9.here hx rfl (hb hby at_152) rfl ?_
    show Steps p.tables e below (T9.setTop (mkF m 154 Lo10 [(.int ci), (.ref b3)])) _
    refine XS.iload X9.here hx rfl (hb hby at_154) rfl ?_
    show Steps p.tables e below (T9.setTop (mkF m 156 Lo10 [(.int cj), (.int ci), (.ref b3)])) _
    refine st10.trans ?_
    show Steps p.tables e below (T10.setTop (mkF m 159 Lo10 [])) _
    refine XS.aload X10.here hx rfl (hb hby at_159) rfl rfl ?_
    show Steps p.tables e below (T10.setTop (mkF m 161 Lo10 [(.ref b3)])) _
    refine XS.aload X10.here hx rfl (hb hby at_161) rfl rfl ?_
    show Steps p.tables e below (T10.setTop (mkF m 163 Lo10 [(.ref b2), (.ref b3)])) _
    refine XS.iconst X10.here hx rfl (hb hby at_163) ?_
    show Steps p.tables e below (T10.setTop (mkF m 164 Lo10 [(.int (0 : Int32)), (.ref b2), (.ref b3)])) _
    refine st11.trans ?_
    show Steps p.tables e below (T11.setTop (mkF m 167 Lo10 [])) _
    refine XS.aload X11.here hx rfl (hb hby at_167) rfl rfl ?_
    show Steps p.tables e below (T11.setTop (mkF m 169 Lo10 [(.ref b1)])) _
    refine XS.aload X11.here hx rfl (hb hby at_169) rfl rfl ?_
    show Steps p.tables e below (T11.setTop (mkF m 171 Lo10 [(.ref b2), (.ref b1)])) _
    refine XS.iload X11.here hx rfl (hb hby at_171) rfl ?_
    show Steps p.tables e below (T11.setTop (mkF m 173 Lo10 [(.int ci), (.ref b2), (.ref b1)])) _
    refine XS.iload X11.here hx rfl (hb hby at_173) rfl ?_
    show Steps p.tables e below (T11.setTop (mkF m 175 Lo10 [(.int cj), (.int ci), (.ref b2), (.ref b1)])) _
    refine XS.iconst X11.here hx rfl (hb hby at_175) ?_
    show Steps p.tables e below (T11.setTop (mkF m 176 Lo10 [(.int (0 : Int32)), (.int cj), (.int ci), (.ref b2), (.ref b1)])) _
    refine XS.iconst X11.here hx rfl (hb hby at_176) ?_
    show Steps p.tables e below (T11.setTop (mkF m 177 Lo10 [(.int (0 : Int32)), (.int (0 : Int32)), (.int cj), (.int ci), (.ref b2), (.ref b1)])) _
    refine st12 _ ?_
    show Steps p.tables e below (T12.setTop (mkF m 180 Lo10 [(.int (1 : Int32))])) _
    refine XS.ifNo X12.here hx rfl (hb hby at_180) rfl (by first | rfl | decide) ?_
    show Steps p.tables e below (T12.setTop (mkF m 183 Lo10 [])) _
    refine XS.aload X12.here hx rfl (hb hby at_183) rfl rfl ?_
    show Steps p.tables e below (T12.setTop (mkF m 185 Lo10 [(.ref b1)])) _
    refine XS.aload X12.here hx rfl (hb hby at_185) rfl rfl ?_
    show Steps p.tables e below (T12.setTop (mkF m 187 Lo10 [(.ref b2), (.ref b1)])) _
    refine XS.iload X12.here hx rfl (hb hby at_187) rfl ?_
    show Steps p.tables e below (T12.setTop (mkF m 189 Lo10 [(.int ci), (.ref b2), (.ref b1)])) _
    refine XS.iload X12.here hx rfl (hb hby at_189) rfl ?_
    show Steps p.tables e below (T12.setTop (mkF m 191 Lo10 [(.int cj), (.int ci), (.ref b2), (.ref b1)])) _
    refine XS.iconst X12.here hx rfl (hb hby at_191) ?_
    show Steps p.tables e below (T12.setTop (mkF m 192 Lo10 [(.int (0 : Int32)), (.int cj), (.int ci), (.ref b2), (.ref b1)])) _
    refine XS.iconst X12.here hx rfl (hb hby at_192) ?_
    show Steps p.tables e below (T12.setTop (mkF m 193 Lo10 [(.int (1 : Int32)), (.int (0 : Int32)), (.int cj), (.int ci), (.ref b2), (.ref b1)])) _
    refine st13 _ ?_
    show Steps p.tables e below (T13.setTop (mkF m 196 Lo10 [(.int (1 : Int32))])) _
    refine XS.ifNo X13.here hx rfl (hb hby at_196) rfl (by first | rfl | decide) ?_
    show Steps p.tables e below (T13.setTop (mkF m 199 Lo10 [])) _
    refine XS.aload X13.here hx rfl (hb hby at_199) rfl rfl ?_
    show Steps p.tables e below (T13.setTop (mkF m 201 Lo10 [(.ref b1)])) _
    refine XS.aload X13.here hx rfl (hb hby at_201) rfl rfl ?_
    show Steps p.tables e below (T13.setTop (mkF m 203 Lo10 [(.ref b2), (.ref b1)])) _
    refine XS.iload X13.here hx rfl (hb hby at_203) rfl ?_
    show Steps p.tables e below (T13.setTop (mkF m 205 Lo10 [(.int ci), (.ref b2), (.ref b1)])) _
    refine XS.iload X13.here hx rfl (hb hby at_205) rfl ?_
    show Steps p.tables e below (T13.setTop (mkF m 207 Lo10 [(.int cj), (.int ci), (.ref b2), (.ref b1)])) _
    refine XS.iconst X13.here hx rfl (hb hby at_207) ?_
    show Steps p.tables e below (T13.setTop (mkF m 208 Lo10 [(.int (0 : Int32)), (.int cj), (.int ci), (.ref b2), (.ref b1)])) _
    refine XS.iconst X13.here hx rfl (hb hby at_208) ?_
    show Steps p.tables e below (T13.setTop (mkF m 209 Lo10 [(.int (2 : Int32)), (.int (0 : Int32)), (.int cj), (.int ci), (.ref b2), (.ref b1)])) _
    refine st14 _ ?_
    show Steps p.tables e below (T14.setTop (mkF m 212 Lo10 [(.int (1 : Int32))])) _
    refine XS.ifNo X14.here hx rfl (hb hby at_212) rfl (by first | rfl | decide) ?_
    show Steps p.tables e below (T14.setTop (mkF m 215 Lo10 [])) _
    refine XS.aload X14.here hx rfl (hb hby at_215) rfl rfl ?_
    show Steps p.tables e below (T14.setTop (mkF m 217 Lo10 [(.ref b1)])) _
    refine XS.aload X14.here hx rfl (hb hby at_217) rfl rfl ?_
    show Steps p.tables e below (T14.setTop (mkF m 219 Lo10 [(.ref b2), (.ref b1)])) _
    refine XS.iload X14.here hx rfl (hb hby at_219) rfl ?_
    show Steps p.tables e below (T14.setTop (mkF m 221 Lo10 [(.int ci), (.ref b2), (.ref b1)])) _
    refine XS.iload X14.here hx rfl (hb hby at_221) rfl ?_
    show Steps p.tables e below (T14.setTop (mkF m 223 Lo10 [(.int cj), (.int ci), (.ref b2), (.ref b1)])) _
    refine XS.iconst X14.here hx rfl (hb hby at_223) ?_
    show Steps p.tables e below (T14.setTop (mkF m 224 Lo10 [(.int (1 : Int32)), (.int cj), (.int ci), (.ref b2), (.ref b1)])) _
    refine XS.iconst X14.here hx rfl (hb hby at_224) ?_
    show Steps p.tables e below (T14.setTop (mkF m 225 Lo10 [(.int (0 : Int32)), (.int (1 : Int32)), (.int cj), (.int ci), (.ref b2), (.ref b1)])) _
    refine st15 _ ?_
    show Steps p.tables e below (T15.setTop (mkF m 228 Lo10 [(.int (1 : Int32))])) _
    refine XS.ifNo X15.here hx rfl (hb hby at_228) rfl (by first | rfl | decide) ?_
    show Steps p.tables e below (T15.setTop (mkF m 231 Lo10 [])) _
    refine XS.aload X15.here hx rfl (hb hby at_231) rfl rfl ?_
    show Steps p.tables e below (T15.setTop (mkF m 233 Lo10 [(.ref b1)])) _
    refine XS.aload X15.here hx rfl (hb hby at_233) rfl rfl ?_
    show Steps p.tables e below (T15.setTop (mkF m 235 Lo10 [(.ref b2), (.ref b1)])) _
    refine XS.iload X15.here hx rfl (hb hby at_235) rfl ?_
    show Steps p.tables e below (T15.setTop (mkF m 237 Lo10 [(.int ci), (.ref b2), (.ref b1)])) _
    refine XS.iload X15.here hx rfl (hb hby at_237) rfl ?_
    show Steps p.tables e below (T15.setTop (mkF m 239 Lo10 [(.int cj), (.int ci), (.ref b2), (.ref b1)])) _
    refine XS.iconst X15.here hx rfl (hb hby at_239) ?_
    show Steps p.tables e below (T15.setTop (mkF m 240 Lo10 [(.int (1 : Int32)), (.int cj), (.int ci), (.ref b2), (.ref b1)])) _
    refine XS.iconst X15.here hx rfl (hb hby at_240) ?_
    show Steps p.tables e below (T15.setTop (mkF m 241 Lo10 [(.int (1 : Int32)), (.int (1 : Int32)), (.int cj), (.int ci), (.ref b2), (.ref b1)])) _
    refine st16 _ ?_
    show Steps p.tables e below (T16.setTop (mkF m 244 Lo10 [(.int (1 : Int32))])) _
    refine XS.ifNo X16.here hx rfl (hb hby at_244) rfl (by first | rfl | decide) ?_
    show Steps p.tables e below (T16.setTop (mkF m 247 Lo10 [])) _
    refine XS.aload X16.here hx rfl (hb hby at_247) rfl rfl ?_
    show Steps p.tables e below (T16.setTop (mkF m 249 Lo10 [(.ref b1)])) _
    refine XS.aload X16.here hx rfl (hb hby at_249) rfl rfl ?_
    show Steps p.tables e below (T16.setTop (mkF m 251 Lo10 [(.ref b2), (.ref b1)])) _
    refine XS.iload X16.here hx rfl (hb hby at_251) rfl ?_
    show Steps p.tables e below (T16.setTop (mkF m 253 Lo10 [(.int ci), (.ref b2), (.ref b1)])) _
    refine XS.iload X16.here hx rfl (hb hby at_253) rfl ?_
    show Steps p.tables e below (T16.setTop (mkF m 255 Lo10 [(.int cj), (.int ci), (.ref b2), (.ref b1)])) _
    refine XS.iconst X16.here hx rfl (hb hby at_255) ?_
    show Steps p.tables e below (T16.setTop (mkF m 256 Lo10 [(.int (1 : Int32)), (.int cj), (.int ci), (.ref b2), (.ref b1)])) _
    refine XS.iconst X16.here hx rfl (hb hby at_256) ?_
    show Steps p.tables e below (T16.setTop (mkF m 257 Lo10 [(.int (2 : Int32)), (.int (1 : Int32)), (.int cj), (.int ci), (.ref b2), (.ref b1)])) _
    refine st17 _ ?_
    show Steps p.tables e below (T17.setTop (mkF m 260 Lo10 [(.int (1 : Int32))])) _
    refine XS.ifNo X17.here hx rfl (hb hby at_260) rfl (by first | rfl | decide) ?_
    show Steps p.tables e below (T17.setTop (mkF m 263 Lo10 [])) _
    refine XS.aload X17.here hx rfl (hb hby at_263) rfl rfl ?_
    show Steps p.tables e below (T17.setTop (mkF m 265 Lo10 [(.ref b1)])) _
    refine XS.aload X17.here hx rfl (hb hby at_265) rfl rfl ?_
    show Steps p.tables e below (T17.setTop (mkF m 267 Lo10 [(.ref b2), (.ref b1)])) _
    refine XS.iload X17.here hx rfl (hb hby at_267) rfl ?_
    show Steps p.tables e below (T17.setTop (mkF m 269 Lo10 [(.int ci), (.ref b2), (.ref b1)])) _
    refine XS.iload X17.here hx rfl (hb hby at_269) rfl ?_
    show Steps p.tables e below (T17.setTop (mkF m 271 Lo10 [(.int cj), (.int ci), (.ref b2), (.ref b1)])) _
    refine XS.iconst X17.here hx rfl (hb hby at_271) ?_
    show Steps p.tables e below (T17.setTop (mkF m 272 Lo10 [(.int (2 : Int32)), (.int cj), (.int ci), (.ref b2), (.ref b1)])) _
    refine XS.iconst X17.here hx rfl (hb hby at_272) ?_
    show Steps p.tables e below (T17.setTop (mkF m 273 Lo10 [(.int (0 : Int32)), (.int (2 : Int32)), (.int cj), (.int ci), (.ref b2), (.ref b1)])) _
    refine st18 _ ?_
    show Steps p.tables e below (T18.setTop (mkF m 276 Lo10 [(.int (1 : Int32))])) _
    refine XS.ifNo X18.here hx rfl (hb hby at_276) rfl (by first | rfl | decide) ?_
    show Steps p.tables e below (T18.setTop (mkF m 279 Lo10 [])) _
    refine XS.aload X18.here hx rfl (hb hby at_279) rfl rfl ?_
    show Steps p.tables e below (T18.setTop (mkF m 281 Lo10 [(.ref b1)])) _
    refine XS.aload X18.here hx rfl (hb hby at_281) rfl rfl ?_
    show Steps p.tables e below (T18.setTop (mkF m 283 Lo10 [(.ref b2), (.ref b1)])) _
    refine XS.iload X18.here hx rfl (hb hby at_283) rfl ?_
    show Steps p.tables e below (T18.setTop (mkF m 285 Lo10 [(.int ci), (.ref b2), (.ref b1)])) _
    refine XS.iload X18.here hx rfl (hb hby at_285) rfl ?_
    show Steps p.tables e below (T18.setTop (mkF m 287 Lo10 [(.int cj), (.int ci), (.ref b2), (.ref b1)])) _
    refine XS.iconst X18.here hx rfl (hb hby at_287) ?_
    show Steps p.tables e below (T18.setTop (mkF m 288 Lo10 [(.int (2 : Int32)), (.int cj), (.int ci), (.ref b2), (.ref b1)])) _
    refine XS.iconst X18.here hx rfl (hb hby at_288) ?_
    show Steps p.tables e below (T18.setTop (mkF m 289 Lo10 [(.int (1 : Int32)), (.int (2 : Int32)), (.int cj), (.int ci), (.ref b2), (.ref b1)])) _
    refine st19 _ ?_
    show Steps p.tables e below (T19.setTop (mkF m 292 Lo10 [(.int (1 : Int32))])) _
    refine XS.ifNo X19.here hx rfl (hb hby at_292) rfl (by first | rfl | decide) ?_
    show Steps p.tables e below (T19.setTop (mkF m 295 Lo10 [])) _
    refine XS.aload X19.here hx rfl (hb hby at_295) rfl rfl ?_
    show Steps p.tables e below (T19.setTop (mkF m 297 Lo10 [(.ref b1)])) _
    refine XS.aload X19.here hx rfl (hb hby at_297) rfl rfl ?_
    show Steps p.tables e below (T19.setTop (mkF m 299 Lo10 [(.ref b2), (.ref b1)])) _
    refine XS.iload X19.here hx rfl (hb hby at_299) rfl ?_
    show Steps p.tables e below (T19.setTop (mkF m 301 Lo10 [(.int ci), (.ref b2), (.ref b1)])) _
    refine XS.iload X19.here hx rfl (hb hby at_301) rfl ?_
    show Steps p.tables e below (T19.setTop (mkF m 303 Lo10 [(.int cj), (.int ci), (.ref b2), (.ref b1)])) _
    refine XS.iconst X19.here hx rfl (hb hby at_303) ?_
    show Steps p.tables e below (T19.setTop (mkF m 304 Lo10 [(.int (2 : Int32)), (.int cj), (.int ci), (.ref b2), (.ref b1)])) _
    refine XS.iconst X19.here hx rfl (hb hby at_304) ?_
    show Steps p.tables e below (T19.setTop (mkF m 305 Lo10 [(.int (2 : Int32)), (.int (2 : Int32)), (.int cj), (.int ci), (.ref b2), (.ref b1)])) _
    refine st20 _ ?_
    show Steps p.tables e below (T20.setTop (mkF m 308 Lo10 [(.int (1 : Int32))])) _
    refine XS.ifNo X20.here hx rfl (hb hby at_308) rfl (by first | rfl | decide) ?_
    show Steps p.tables e below (T20.setTop (mkF m 311 Lo10 [])) _
    refine XS.iconst X20.here hx rfl (hb hby at_311) ?_
    show Steps p.tables e below (T20.setTop (mkF m 312 Lo10 [(.int (1 : Int32))])) _
    refine XS.goto X20.here hx rfl (pc0 := 312) (pc' := 316) rfl (hb hby at_312) (by decide) (by decide) ?_
    show Steps p.tables e below (T20.setTop (mkF m 316 Lo10 [(.int (1 : Int32))])) _
    exact own_retZ X20 hx Bd.returns (hb hby at_316) rfl rfl hr
  refine ⟨_, _, pre0 _ ?_, hrun, hended, _, _, rfl, ?_, ⟨_, rfl⟩, hW, hsame.mono (by decide) (by decide)⟩
  · show Steps p.tables e below (s₁.setTop (mkF m 0 Lo1 [])) _
    refine XS.bipush X0.here hx rfl (hb hby at_0) ?_
    show Steps p.tables e below (s₁.setTop (mkF m 2 Lo1 [(.int (9 : Int32))])) _
    refine st1 _ ?_
    show Steps p.tables e below (T1.setTop (mkF m 4 Lo1 [(.ref b1)])) _
    refine XS.astore X1.here hx rfl (hb hby at_4) rfl rfl (l' := Lo2) rfl ?_
    show Steps p.tables e below (T1.setTop (mkF m 6 Lo2 [])) _
    refine XS.bipush X1.here hx rfl (hb hby at_6) ?_
    show Steps p.tables e below (T1.setTop (mkF m 8 Lo2 [(.int (9 : Int32))])) _
    refine st2 _ ?_
    show Steps p.tables e below (T2.setTop (mkF m 10 Lo2 [(.ref b2)])) _
    refine XS.astore X2.here hx rfl (hb hby at_10) rfl rfl (l' := Lo3) rfl ?_
    show Steps p.tables e below (T2.setTop (mkF m 12 Lo3 [])) _
    refine XS.lloadN X2.here hx rfl (hb hby at_12) rfl ?_
    show Steps p.tables e below (T2.setTop (mkF m 13 Lo3 [(.long q3)])) _
    refine X2.ldc2Long hx hown (mvT hZ w1_) (g := (mkF m 13 Lo3 [(.long q3)])) rfl (hb hby at_13) _ ?_
    show Steps p.tables e below (T2.setTop (mkF m 16 Lo3 [(.long (4294967295 : Int64)), (.long q3)])) _
    refine XS.land X2.here hx rfl (hb hby at_16) rfl ?_
    show Steps p.tables e below (T2.setTop (mkF m 17 Lo3 [(.long (q3 &&& (4294967295 : Int64)))])) _
    rw [← haa]
    show Steps p.tables e below (T2.setTop (mkF m 17 Lo3 [(.long aa)])) _
    refine XS.lstore X2.here hx rfl (hb hby at_17) rfl (l' := Lo4) rfl ?_
    show Steps p.tables e below (T2.setTop (mkF m 19 Lo4 [])) _
    refine XS.lload X2.here hx rfl (hb hby at_19) rfl ?_
    show Steps p.tables e below (T2.setTop (mkF m 21 Lo4 [(.long q4)])) _
    refine X2.ldc2Long hx hown (mvT hZ w1_) (g := (mkF m 21 Lo4 [(.long q4)])) rfl (hb hby at_21) _ ?_
    show Steps p.tables e below (T2.setTop (mkF m 24 Lo4 [(.long (4294967295 : Int64)), (.long q4)])) _
    refine XS.land X2.here hx rfl (hb hby at_24) rfl ?_
    show Steps p.tables e below (T2.setTop (mkF m 25 Lo4 [(.long (q4 &&& (4294967295 : Int64)))])) _
    rw [← hbb]
    show Steps p.tables e below (T2.setTop (mkF m 25 Lo4 [(.long bb)])) _
    refine XS.lstore X2.here hx rfl (hb hby at_25) rfl (l' := Lo5) rfl ?_
    show Steps p.tables e below (T2.setTop (mkF m 27 Lo5 [])) _
    refine XS.lload X2.here hx rfl (hb hby at_27) rfl ?_
    show Steps p.tables e below (T2.setTop (mkF m 29 Lo5 [(.long q5)])) _
    refine X2.ldc2Long hx hown (mvT hZ w1_) (g := (mkF m 29 Lo5 [(.long q5)])) rfl (hb hby at_29) _ ?_
    show Steps p.tables e below (T2.setTop (mkF m 32 Lo5 [(.long (4294967295 : Int64)), (.long q5)])) _
    refine XS.land X2.here hx rfl (hb hby at_32) rfl ?_
    show Steps p.tables e below (T2.setTop (mkF m 33 Lo5 [(.long (q5 &&& (4294967295 : Int64)))])) _
    rw [← hcc]
    show Steps p.tables e below (T2.setTop (mkF m 33 Lo5 [(.long cc)])) _
    refine XS.lstore X2.here hx rfl (hb hby at_33) rfl (l' := Lo6) rfl ?_
    show Steps p.tables e below (T2.setTop (mkF m 35 Lo6 [])) _
    refine XS.iconst X2.here hx rfl (hb hby at_35) ?_
    show Steps p.tables e below (T2.setTop (mkF m 36 Lo6 [(.int (1 : Int32))])) _
    refine XS.iloadN X2.here hx rfl (hb hby at_36) rfl ?_
    show Steps p.tables e below (T2.setTop (mkF m 37 Lo6 [(.int p2), (.int (1 : Int32))])) _
    refine XS.iconst X2.here hx rfl (hb hby at_37) ?_
    show Steps p.tables e below (T2.setTop (mkF m 38 Lo6 [(.int (1 : Int32)), (.int p2), (.int (1 : Int32))])) _
    refine XS.iand X2.here hx rfl (hb hby at_38) rfl ?_
    show Steps p.tables e below (T2.setTop (mkF m 39 Lo6 [(.int (p2 &&& (1 : Int32))), (.int (1 : Int32))])) _
    refine XS.iadd X2.here hx rfl (hb hby at_39) rfl ?_
    show Steps p.tables e below (T2.setTop (mkF m 40 Lo6 [(.int ((1 : Int32) + (p2 &&& (1 : Int32))))])) _
    rw [← hrr]
    show Steps p.tables e below (T2.setTop (mkF m 40 Lo6 [(.int rr)])) _
    refine XS.istore X2.here hx rfl (hb hby at_40) rfl (l' := Lo7) rfl ?_
    show Steps p.tables e below (T2.setTop (mkF m 42 Lo7 [])) _
    refine XS.iloadN X2.here hx rfl (hb hby at_42) rfl ?_
    show Steps p.tables e below (T2.setTop (mkF m 43 Lo7 [(.int p1)])) _
    refine X2.ldcInt hx hown (mvT hZ w2_) (g := (mkF m 43 Lo7 [(.int p1)])) rfl (hb hby at_43) _ ?_
    show Steps p.tables e below (T2.setTop (mkF m 45 Lo7 [(.int (2147483647 : Int32)), (.int p1)])) _
    refine XS.iand X2.here hx rfl (hb hby at_45) rfl ?_
    show Steps p.tables e below (T2.setTop (mkF m 46 Lo7 [(.int (p1 &&& (2147483647 : Int32)))])) _
    refine XS.iconst X2.here hx rfl (hb hby at_46) ?_
    show Steps p.tables e below (T2.setTop (mkF m 47 Lo7 [(.int (4 : Int32)), (.int (p1 &&& (2147483647 : Int32)))])) _
    refine XS.irem X2.here hx rfl (hb hby at_47) rfl (by decide) ?_
    show Steps p.tables e below (T2.setTop (mkF m 48 Lo7 [(.int ((p1 &&& (2147483647 : Int32)) - ((p1 &&& (2147483647 : Int32)) / (4 : Int32)) * (4 : Int32)))])) _
    refine XS.istore X2.here hx rfl (hb hby at_48) rfl (l' := Lo8) rfl ?_
    show Steps p.tables e below (T2.setTop (mkF m 50 Lo8 [])) _
    refine XS.iload X2.here hx rfl (hb hby at_50) rfl ?_
    show Steps p.tables e below (T2.setTop (mkF m 52 Lo8 [(.int ((p1 &&& (2147483647 : Int32)) - ((p1 &&& (2147483647 : Int32)) / (4 : Int32)) * (4 : Int32)))])) _
    by_cases hc52 : ((p1 &&& (2147483647 : Int32)) - ((p1 &&& (2147483647 : Int32)) / (4 : Int32)) * (4 : Int32)) = (0 : Int32)
    · refine XS.ifNo X2.here hx rfl (hb hby at_52) rfl (Jvm.Free.XT.i0_ne_f hc52) ?_
      show Steps p.tables e below (T2.setTop (mkF m 55 Lo8 [])) _
      refine XS.iconst X2.here hx rfl (hb hby at_55) ?_
      show Steps p.tables e below (T2.setTop (mkF m 56 Lo8 [(.int (1 : Int32))])) _
      refine XS.istore X2.here hx rfl (hb hby at_56) rfl (l' := Lo11) rfl ?_
      show Steps p.tables e below (T2.setTop (mkF m 58 Lo11 [])) _
      refine XS.iconst X2.here hx rfl (hb hby at_58) ?_
      show Steps p.tables e below (T2.setTop (mkF m 59 Lo11 [(.int (0 : Int32))])) _
      refine XS.istore X2.here hx rfl (hb hby at_59) rfl (l' := Lo12) rfl ?_
      show Steps p.tables e below (T2.setTop (mkF m 61 Lo12 [])) _
      refine XS.goto X2.here hx rfl (pc0 := 61) (pc' := 100) rfl (hb hby at_61) (by decide) (by decide) ?_
      show Steps p.tables e below (T2.setTop (mkF m 100 Lo12 [])) _
      exact J100 _ (by rw [hci, own_i, if_pos hc52]) _ (by rw [hcj, own_j, if_pos hc52])
    · refine XS.ifYes X2.here hx rfl (pc0 := 52) (pc' := 64) rfl (hb hby at_52) rfl (Jvm.Free.XT.i0_ne_t hc52) (by decide) (by decide) ?_
      show Steps p.tables e below (T2.setTop (mkF m 64 Lo8 [])) _
      refine XS.iload X2.here hx rfl (hb hby at_64) rfl ?_
      show Steps p.tables e below (T2.setTop (mkF m 66 Lo8 [(.int ((p1 &&& (2147483647 : Int32)) - ((p1 &&& (2147483647 : Int32)) / (4 : Int32)) * (4 : Int32)))])) _
      refine XS.iconst X2.here hx rfl (hb hby at_66) ?_
      show Steps p.tables e below (T2.setTop (mkF m 67 Lo8 [(.int (1 : Int32)), (.int ((p1 &&& (2147483647 : Int32)) - ((p1 &&& (2147483647 : Int32)) / (4 : Int32)) * (4 : Int32)))])) _
      by_cases hc67 : ((p1 &&& (2147483647 : Int32)) - ((p1 &&& (2147483647 : Int32)) / (4 : Int32)) * (4 : Int32)) = (1 : Int32)
      · refine XS.icmpNo X2.here hx rfl (hb hby at_67) rfl (Jvm.Free.XT.ii_ne_f hc67) ?_
        show Steps p.tables e below (T2.setTop (mkF m 70 Lo8 [])) _
        refine XS.iconst X2.here hx rfl (hb hby at_70) ?_
        show Steps p.tables e below (T2.setTop (mkF m 71 Lo8 [(.int (2 : Int32))])) _
        refine XS.istore X2.here hx rfl (hb hby at_71) rfl (l' := Lo13) rfl ?_
        show Steps p.tables e below (T2.setTop (mkF m 73 Lo13 [])) _
        refine XS.iconst X2.here hx rfl (hb hby at_73) ?_
        show Steps p.tables e below (T2.setTop (mkF m 74 Lo13 [(.int (0 : Int32))])) _
        refine XS.istore X2.here hx rfl (hb hby at_74) rfl (l' := Lo14) rfl ?_
        show Steps p.tables e below (T2.setTop (mkF m 76 Lo14 [])) _
        refine XS.goto X2.here hx rfl (pc0 := 76) (pc' := 100) rfl (hb hby at_76) (by decide) (by decide) ?_
        show Steps p.tables e below (T2.setTop (mkF m 100 Lo14 [])) _
        exact J100 _ (by rw [hci, own_i, if_neg hc52, if_pos hc67]) _ (by rw [hcj, own_j, if_neg hc52, if_pos hc67])
      · refine XS.icmpYes X2.here hx rfl (pc0 := 67) (pc' := 79) rfl (hb hby at_67) rfl (Jvm.Free.XT.ii_ne_t hc67) (by decide) (by decide) ?_
        show Steps p.tables e below (T2.setTop (mkF m 79 Lo8 [])) _
        refine XS.iload X2.here hx rfl (hb hby at_79) rfl ?_
        show Steps p.tables e below (T2.setTop (mkF m 81 Lo8 [(.int ((p1 &&& (2147483647 : Int32)) - ((p1 &&& (2147483647 : Int32)) / (4 : Int32)) * (4 : Int32)))])) _
        refine XS.iconst X2.here hx rfl (hb hby at_81) ?_
        show Steps p.tables e below (T2.setTop (mkF m 82 Lo8 [(.int (2 : Int32)), (.int ((p1 &&& (2147483647 : Int32)) - ((p1 &&& (2147483647 : Int32)) / (4 : Int32)) * (4 : Int32)))])) _
        by_cases hc82 : ((p1 &&& (2147483647 : Int32)) - ((p1 &&& (2147483647 : Int32)) / (4 : Int32)) * (4 : Int32)) = (2 : Int32)
        · refine XS.icmpNo X2.here hx rfl (hb hby at_82) rfl (Jvm.Free.XT.ii_ne_f hc82) ?_
          show Steps p.tables e below (T2.setTop (mkF m 85 Lo8 [])) _
          refine XS.iconst X2.here hx rfl (hb hby at_85) ?_
          show Steps p.tables e below (T2.setTop (mkF m 86 Lo8 [(.int (1 : Int32))])) _
          refine XS.istore X2.here hx rfl (hb hby at_86) rfl (l' := Lo11) rfl ?_
          show Steps p.tables e below (T2.setTop (mkF m 88 Lo11 [])) _
          refine XS.iconst X2.here hx rfl (hb hby at_88) ?_
          show Steps p.tables e below (T2.setTop (mkF m 89 Lo11 [(.int (2 : Int32))])) _
          refine XS.istore X2.here hx rfl (hb hby at_89) rfl (l' := Lo15) rfl ?_
          show Steps p.tables e below (T2.setTop (mkF m 91 Lo15 [])) _
          refine XS.goto X2.here hx rfl (pc0 := 91) (pc' := 100) rfl (hb hby at_91) (by decide) (by decide) ?_
          show Steps p.tables e below (T2.setTop (mkF m 100 Lo15 [])) _
          exact J100 _ (by rw [hci, own_i, if_neg hc52, if_neg hc67, if_pos hc82]) _ (by rw [hcj, own_j, if_neg hc52, if_neg hc67, if_pos hc82])
        · refine XS.icmpYes X2.here hx rfl (pc0 := 82) (pc' := 94) rfl (hb hby at_82) rfl (Jvm.Free.XT.ii_ne_t hc82) (by decide) (by decide) ?_
          show Steps p.tables e below (T2.setTop (mkF m 94 Lo8 [])) _
          refine XS.iconst X2.here hx rfl (hb hby at_94) ?_
          show Steps p.tables e below (T2.setTop (mkF m 95 Lo8 [(.int (2 : Int32))])) _
          refine XS.istore X2.here hx rfl (hb hby at_95) rfl (l' := Lo13) rfl ?_
          show Steps p.tables e below (T2.setTop (mkF m 97 Lo13 [])) _
          refine XS.iconst X2.here hx rfl (hb hby at_97) ?_
          show Steps p.tables e below (T2.setTop (mkF m 98 Lo13 [(.int (1 : Int32))])) _
          refine XS.istore X2.here hx rfl (hb hby at_98) rfl (l' := Lo16) rfl ?_
          show Steps p.tables e below (T2.setTop (mkF m 100 Lo16 [])) _
          exact J100 _ (by rw [hci, own_i, if_neg hc52, if_neg hc67, if_neg hc82]) _ (by rw [hcj, own_j, if_neg hc52, if_neg hc67, if_neg hc82])
  · show Q0 Z p1 p2 q3 q4 q5 h0 n0 _ T20.heap _
    exact ⟨rfl, N20⟩
set_option maxRecDepth 65536 in
set_option maxHeartbeats 40000000 in
theorem comes_1 {Post : Tables → Env → Array Value → State → Outcome → State → Prop} (hpost : ∀ tb e args s v u, (limb_1_1.after args s (.returned v) u = true ∧ limb_1_2.after args s (.returned v) u = true ∧ True) → FrameEnd s (.returned v) u (Jvm.fieldLocs frame_1_writes args s ++ Jvm.arrayLocs frame_1_arrays args s ++ Jvm.staticLocs frame_1_statics s) 16 128 → Post tb e args s (.returned v) u) :
    ArmFor flags0 classFile x code maxLocals ret World_1 tables_1 room_1 Calls_1 rest_1 Pre_1 Post := by
  intro l hfl _ _ p e ha hc hk s m args below hf hA hF happ hP
  obtain ⟨hcalls, hrest, hpre⟩ := hP
  obtain ⟨-, -, -, hnamed, -, -, -, hat⟩ := (Spec.applies_iff hf).mp happ
  obtain ⟨hg, hn⟩ := and_e (Cond.before_iff.mp (show (Jvm.Cond.and given_1 narrow_1).before args s = true from hpre))
  obtain ⟨gc, g0⟩ := and_e hg
  obtain ⟨ga0, gb0⟩ := and_e g0
  obtain ⟨ga1, gb1⟩ := and_e gb0
  obtain ⟨ga2, gb2⟩ := and_e gb1
  obtain ⟨ga3, gb3⟩ := and_e gb2
  obtain ⟨w0, w1, w2, w3, w4, rfl⟩ : ∃ w0 w1 w2 w3 w4 : Value, args = #[w0, w1, w2, w3, w4] := by
    have hs : args.size = 5 := by simpa [Cond.value, given_1] using gc
    obtain ⟨L⟩ := args
    match L, hs with
    | [w0, w1, w2, w3, w4], _ => exact ⟨w0, w1, w2, w3, w4, rfl⟩
  have hw := fun d (hd : d ∈ tables_1) => atoms_spec (ws := Jvm.Cond.code x code maxLocals ret :: tables_1) hat d (List.mem_cons_of_mem _ hd)
  obtain ⟨i0, ei0⟩ := is_v ga0
  obtain rfl : w0 = (.int i0) := Option.some.inj ei0
  obtain ⟨i1, ei1⟩ := is_v ga1
  obtain rfl : w1 = (.int i1) := Option.some.inj ei1
  obtain ⟨i2, ei2⟩ := isL_v ga2
  obtain rfl : w2 = (.long i2) := Option.some.inj ei2
  obtain ⟨i3, ei3⟩ := isL_v ga3
  obtain rfl : w3 = (.long i3) := Option.some.inj ei3
  obtain ⟨i4, ei4⟩ := isL_v gb3
  obtain rfl : w4 = (.long i4) := Option.some.inj ei4
  obtain ⟨n, o, h1, h2, h3, _, L, rfl, ⟨rfl, N⟩, hq⟩ := rm0 l s _ hw tables_1 i0 i1 i2 i3 i4 s.heap s.heap.size (Nat.le_refl _) p e ha hc hk s m _ below hf ((Spec.applies_iff_loose hf).mp happ).1 ⟨rfl, State.Warmed39.refl s, rfl⟩ trivial
  refine ⟨n, _, h1, h2, h3, hpost _ _ _ _ _ _ ⟨Cond.after_iff.mpr rfl, Cond.after_iff.mpr (eq_i res_at (Term.int_eval (1)) rfl), trivial⟩ ⟨hq.1, hq.2.1, (hq.2.2.sift fun y hy => Or.inr (N y hy)).mono (by decide) (by decide)⟩⟩
theorem main_1_1 : Claimed_1_1 := comes_1 fun _ _ _ _ _ _ h hF => ⟨h.1, hF⟩
theorem main_1_2 : Claimed_1_2 := comes_1 fun _ _ _ _ _ _ h hF => ⟨h.2.1, hF⟩
end Jvm.Pilot.@@N@@
namespace Jvm.Pilot.@@N@@
open Jvm Jvm.ClassFile Sem Op Lib Jvm.Free Jvm.Stand Jvm.Pilot.@@N@@.Jvm.D
/-! MADE BY PROGRAM (witnessworld.py) out of the Statement's table words and the real class files: 12 classes; the members and pool entries that the words name. The judged class is class 1, her method 1. -/
namespace start1
open Jvm.ClassFile
def u (s : String) : CpInfo := .utf8 (stringToUtf16 s)
/-- a pool by its gaps: so many unusable entries, then the entry; so many at the end -/
def gap : Nat → List CpInfo → List CpInfo
  | 0, r => r
  | n + 1, r => .unusable :: gap n r
def poolList (es : List (Nat × CpInfo)) (last : Nat) : List CpInfo := es.foldr (fun e r => gap e.1 (e.2 :: r)) (gap last [])
def pool (es : List (Nat × CpInfo)) (last : Nat) : Array CpInfo := ⟨poolList es last⟩
def fileOf (pool : Array CpInfo) (this : Nat) (attrs : Array Attribute := #[]) (ms : Array MethodInfo := #[]) (fl : Nat := 33) (sup : Nat := 0) (ifs : Array Nat := #[]) (fds : Array FieldInfo := #[]) : ClassFile where
  minorVersion := 0
  majorVersion := 65
  constantPool := pool
  accessFlags := fl
  thisClass := this
  superClass := sup
  interfaces := ifs
  fields := fds
  methods := ms
  attributes := attrs
def plain (name : String) (sup : Option ClassId) : Class where
  name := name
  kind := .ordinary
  loader := none
  accessFlags := 33
  super := sup
  interfaces := #[]
  cf := none
  fields := #[]
  methods := #[]
  instanceTypes := #[]
  staticTypes := #[]
  resolved := #[]
  callSites := []
  init := .initialized
  statics := none
  mirror := none

def pool0 : Array CpInfo := pool [(5, u "<init>"), (0, u "()V"), (1, .class_ 10), (1, u "java/lang/Object")] 113

def k0c0 : Code := { maxStack := 0, maxLocals := 1, code := object_method_1_code, exceptionTable := #[], attributes := #[] }
def k0m0 : Method := { name := "<init>", desc := "()V", sig := { parameters := [], returnType := none }, accessFlags := 1, code := some k0c0 }
/-- java/lang/Object -/
def k0 : Class := { plain "java/lang/Object" none with
  accessFlags := 33
  interfaces := #[]
  cf := some (fileOf pool0 8 #[] #[{ accessFlags := 1, nameIndex := 5, descriptorIndex := 6, attributes := #[] }] 33 0 #[] #[])
  fields := #[]
  methods := #[k0m0]
  instanceTypes := #[]
  staticTypes := #[]
  resolved := Array.replicate 124 none
  statics := none }

def pool1 : Array CpInfo := pool [(2, .class_ 4), (1, u "java/lang/Object"), (0, u "<init>"), (0, u "()V"), (0, .long 4294967295), (1, .integer 2147483647), (0, .class_ 11), (0, u "com/example/chronoscope/chronoscope/sim/Zone"), (0, .methodref 10 13), (0, .nameAndType 5 14), (0, u "(I)V"), (0, .methodref 10 16), (0, .nameAndType 17 18), (0, u "delay"), (0, u "(J)V"), (0, .methodref 10 20), (0, .nameAndType 21 14), (0, u "reset"), (0, .methodref 10 23), (0, .nameAndType 24 25), (0, u "constrain"), (0, u "(IIJ)Z"), (0, .methodref 10 27), (0, .nameAndType 28 29), (0, u "copyTo"), (0, u "([JI)V"), (0, .methodref 10 31), (0, .nameAndType 32 33), (0, u "assign"), (0, u "(II)V"), (0, .methodref 35 36), (0, .class_ 37), (0, .nameAndType 38 39), (0, u "com/example/chronoscope/chronoscope/sim/ZoneAssignPinLaw"), (0, u "cell"), (0, u "([J[JIIII)Z"), (0, .methodref 35 41), (0, .nameAndType 42 43), (0, u "sigma"), (0, u "(III)I"), (2, u "law"), (0, u "(IIJJJ)Z")] 5

def k1m0 : Method := { name := "<init>", desc := "()V", sig := { parameters := [], returnType := none }, accessFlags := 1, code := none }
def k1c1 : Code := { maxStack := 6, maxLocals := 21, code := code, exceptionTable := #[], attributes := #[] }
def k1m1 : Method := { name := "law", desc := "(IIJJJ)Z", sig := { parameters := [.int, .int, .long, .long, .long], returnType := some .boolean }, accessFlags := 9, code := some k1c1 }
def k1c2 : Code := { maxStack := 2, maxLocals := 3, code := method_3_code, exceptionTable := #[], attributes := #[] }
def k1m2 : Method := { name := "sigma", desc := "(III)I", sig := { parameters := [.int, .int, .int], returnType := some .int }, accessFlags := 10, code := some k1c2 }
def k1c3 : Code := { maxStack := 4, maxLocals := 10, code := method_4_code, exceptionTable := #[], attributes := #[] }
def k1m3 : Method := { name := "cell", desc := "([J[JIIII)Z", sig := { parameters := [(.array .long), (.array .long), .int, .int, .int, .int], returnType := some .boolean }, accessFlags := 10, code := some k1c3 }
/-- com/example/chronoscope/chronoscope/sim/ZoneAssignPinLaw -/
def k1 : Class := { plain "com/example/chronoscope/chronoscope/sim/ZoneAssignPinLaw" (some 0) with
  accessFlags := 49
  interfaces := #[]
  cf := some (fileOf pool1 35 #[] #[{ accessFlags := 1, nameIndex := 5, descriptorIndex := 6, attributes := #[] }, { accessFlags := 9, nameIndex := 46, descriptorIndex := 47, attributes := #[] }, { accessFlags := 10, nameIndex := 42, descriptorIndex := 43, attributes := #[] }, { accessFlags := 10, nameIndex := 38, descriptorIndex := 39, attributes := #[] }] 49 2 #[] #[])
  fields := #[]
  methods := #[k1m0, k1m1, k1m2, k1m3]
  instanceTypes := #[]
  staticTypes := #[]
  resolved := Array.replicate 53 none
  statics := none }

def pool2 : Array CpInfo := pool [(3, .methodref 4 5), (0, .class_ 6), (0, .nameAndType 7 8), (0, u "java/lang/Object"), (0, u "<init>"), (0, u "()V"), (0, .fieldref 10 11), (0, .class_ 12), (0, .nameAndType 13 14), (0, u "com/example/chronoscope/chronoscope/sim/Zone"), (0, u "size"), (0, u "I"), (0, .fieldref 10 16), (0, .nameAndType 17 18), (0, u "bounds"), (0, u "[J"), (5, .fieldref 10 25), (0, .nameAndType 26 27), (0, u "empty"), (0, u "Z"), (3, .long 9223372036854775807), (3, u "constrain"), (0, u "(IIJ)Z"), (18, .class_ 56), (0, u "com/example/chronoscope/chronoscope/sim/Zone$Extent"), (7, .methodref 65 66), (0, .class_ 67), (0, .nameAndType 68 69), (0, u "java/lang/System"), (0, u "arraycopy"), (0, u "(Ljava/lang/Object;ILjava/lang/Object;II)V"), (0, u "INFINITY"), (0, u "J"), (1, u "(I)V"), (14, u "reset"), (0, u "assign"), (0, u "(II)V"), (1, u "delay"), (0, u "(J)V"), (9, u "copyTo"), (0, u "([JI)V")] 8

def k2c0 : Code := { maxStack := 3, maxLocals := 2, code := prog_347_method_1_code, exceptionTable := #[], attributes := #[] }
def k2m0 : Method := { name := "<init>", desc := "(I)V", sig := { parameters := [.int], returnType := none }, accessFlags := 0, code := some k2c0 }
def k2c1 : Code := { maxStack := 6, maxLocals := 13, code := prog_347_method_7_code, exceptionTable := #[], attributes := #[] }
def k2m1 : Method := { name := "constrain", desc := "(IIJ)Z", sig := { parameters := [.int, .int, .long], returnType := some .boolean }, accessFlags := 0, code := some k2c1 }
def k2c2 : Code := { maxStack := 5, maxLocals := 3, code := prog_347_method_10_code, exceptionTable := #[], attributes := #[] }
def k2m2 : Method := { name := "reset", desc := "(I)V", sig := { parameters := [.int], returnType := none }, accessFlags := 0, code := some k2c2 }
def k2c3 : Code := { maxStack := 5, maxLocals := 4, code := prog_347_method_11_code, exceptionTable := #[], attributes := #[] }
def k2m3 : Method := { name := "assign", desc := "(II)V", sig := { parameters := [.int, .int], returnType := none }, accessFlags := 0, code := some k2c3 }
def k2c4 : Code := { maxStack := 6, maxLocals := 4, code := prog_347_method_13_code, exceptionTable := #[], attributes := #[] }
def k2m4 : Method := { name := "delay", desc := "(J)V", sig := { parameters := [.long], returnType := none }, accessFlags := 0, code := some k2c4 }
def k2c5 : Code := { maxStack := 5, maxLocals := 3, code := prog_347_method_20_code, exceptionTable := #[], attributes := #[] }
def k2m5 : Method := { name := "copyTo", desc := "([JI)V", sig := { parameters := [(.array .long), .int], returnType := none }, accessFlags := 0, code := some k2c5 }
/-- com/example/chronoscope/chronoscope/sim/Zone -/
def k2 : Class := { plain "com/example/chronoscope/chronoscope/sim/Zone" (some 0) with
  accessFlags := 48
  interfaces := #[]
  cf := some (fileOf pool2 10 #[.nestMembers #[55]] #[{ accessFlags := 0, nameIndex := 7, descriptorIndex := 73, attributes := #[] }, { accessFlags := 0, nameIndex := 35, descriptorIndex := 36, attributes := #[] }, { accessFlags := 0, nameIndex := 88, descriptorIndex := 73, attributes := #[] }, { accessFlags := 0, nameIndex := 89, descriptorIndex := 90, attributes := #[] }, { accessFlags := 0, nameIndex := 92, descriptorIndex := 93, attributes := #[] }, { accessFlags := 0, nameIndex := 103, descriptorIndex := 104, attributes := #[] }] 48 4 #[] #[{ accessFlags := 24, nameIndex := 70, descriptorIndex := 71, attributes := #[] }, { accessFlags := 18, nameIndex := 13, descriptorIndex := 14, attributes := #[] }, { accessFlags := 18, nameIndex := 17, descriptorIndex := 18, attributes := #[] }, { accessFlags := 2, nameIndex := 26, descriptorIndex := 27, attributes := #[] }])
  fields := #[{ name := "INFINITY", type := .long, accessFlags := 24, slot := 0, constantValue := 0 }, { name := "size", type := .int, accessFlags := 18, slot := 0, constantValue := 0 }, { name := "bounds", type := (.array .long), accessFlags := 18, slot := 1, constantValue := 0 }, { name := "empty", type := .boolean, accessFlags := 2, slot := 2, constantValue := 0 }]
  methods := #[k2m0, k2m1, k2m2, k2m3, k2m4, k2m5]
  instanceTypes := #[.int, (.array .long), .boolean]
  staticTypes := #[.long]
  resolved := Array.replicate 113 none
  statics := none }

def pool3 : Array CpInfo := pool [(2, .class_ 4), (1, u "java/lang/Object"), (0, u "<init>"), (0, u "()V"), (1, .class_ 10), (1, u "java/lang/System"), (0, u "allowSecurityManager"), (0, u "I"), (16, u "cons"), (0, u "Ljava/io/Console;"), (77, .class_ 110), (1, u "java/lang/System$CallersHolder"), (43, u "initialErrStream"), (0, u "Ljava/io/PrintStream;"), (19, u "security"), (0, u "Ljava/lang/SecurityManager;"), (31, .class_ 209), (0, u "java/lang/System$1"), (7, u "props"), (0, u "Ljava/util/Properties;"), (2, u "lineSeparator"), (0, u "Ljava/lang/String;"), (96, .class_ 321), (1, u "java/lang/System$LoggerFinder"), (5, .class_ 328), (0, u "java/lang/System$Logger"), (67, u "err"), (2, u "out"), (91, u "notSupportedJnuEncoding"), (15, u "in"), (17, u "initialIn"), (0, u "Ljava/io/InputStream;"), (35, u "bootLayer"), (0, u "Ljava/lang/ModuleLayer;"), (99, .class_ 664), (0, u "java/lang/System$2"), (9, u "NEVER"), (2, u "MAYBE"), (49, u "arraycopy"), (0, u "(Ljava/lang/Object;ILjava/lang/Object;II)V"), (72, .class_ 802), (0, u "java/lang/System$Logger$Level")] 31

def k3m0 : Method := { name := "<init>", desc := "()V", sig := { parameters := [], returnType := none }, accessFlags := 2, code := none }
def k3m1 : Method := { name := "arraycopy", desc := "(Ljava/lang/Object;ILjava/lang/Object;II)V", sig := { parameters := [(.object "java/lang/Object"), .int, (.object "java/lang/Object"), .int, .int], returnType := none }, accessFlags := 265, code := none }
/-- java/lang/System -/
def k3 : Class := { plain "java/lang/System" (some 0) with
  accessFlags := 49
  interfaces := #[]
  cf := some (fileOf pool3 8 #[.nestMembers #[319, 327, 801, 108, 663, 208]] #[{ accessFlags := 2, nameIndex := 5, descriptorIndex := 6, attributes := #[] }, { accessFlags := 265, nameIndex := 727, descriptorIndex := 728, attributes := #[] }] 49 2 #[] #[{ accessFlags := 25, nameIndex := 507, descriptorIndex := 526, attributes := #[] }, { accessFlags := 25, nameIndex := 399, descriptorIndex := 155, attributes := #[] }, { accessFlags := 25, nameIndex := 396, descriptorIndex := 155, attributes := #[] }, { accessFlags := 10, nameIndex := 525, descriptorIndex := 526, attributes := #[] }, { accessFlags := 26, nameIndex := 674, descriptorIndex := 12, attributes := #[] }, { accessFlags := 26, nameIndex := 677, descriptorIndex := 12, attributes := #[] }, { accessFlags := 10, nameIndex := 11, descriptorIndex := 12, attributes := #[] }, { accessFlags := 74, nameIndex := 175, descriptorIndex := 176, attributes := #[] }, { accessFlags := 10, nameIndex := 491, descriptorIndex := 222, attributes := #[] }, { accessFlags := 74, nameIndex := 29, descriptorIndex := 30, attributes := #[] }, { accessFlags := 74, nameIndex := 154, descriptorIndex := 155, attributes := #[] }, { accessFlags := 10, nameIndex := 217, descriptorIndex := 218, attributes := #[] }, { accessFlags := 10, nameIndex := 221, descriptorIndex := 222, attributes := #[] }, { accessFlags := 8, nameIndex := 562, descriptorIndex := 563, attributes := #[] }])
  fields := #[{ name := "in", type := (.object "java/io/InputStream"), accessFlags := 25, slot := 0, constantValue := 0 }, { name := "out", type := (.object "java/io/PrintStream"), accessFlags := 25, slot := 1, constantValue := 0 }, { name := "err", type := (.object "java/io/PrintStream"), accessFlags := 25, slot := 2, constantValue := 0 }, { name := "initialIn", type := (.object "java/io/InputStream"), accessFlags := 10, slot := 3, constantValue := 0 }, { name := "NEVER", type := .int, accessFlags := 26, slot := 4, constantValue := 0 }, { name := "MAYBE", type := .int, accessFlags := 26, slot := 5, constantValue := 0 }, { name := "allowSecurityManager", type := .int, accessFlags := 10, slot := 6, constantValue := 0 }, { name := "security", type := (.object "java/lang/SecurityManager"), accessFlags := 74, slot := 7, constantValue := 0 }, { name := "notSupportedJnuEncoding", type := (.object "java/lang/String"), accessFlags := 10, slot := 8, constantValue := 0 }, { name := "cons", type := (.object "java/io/Console"), accessFlags := 74, slot := 9, constantValue := 0 }, { name := "initialErrStream", type := (.object "java/io/PrintStream"), accessFlags := 74, slot := 10, constantValue := 0 }, { name := "props", type := (.object "java/util/Properties"), accessFlags := 10, slot := 11, constantValue := 0 }, { name := "lineSeparator", type := (.object "java/lang/String"), accessFlags := 10, slot := 12, constantValue := 0 }, { name := "bootLayer", type := (.object "java/lang/ModuleLayer"), accessFlags := 8, slot := 13, constantValue := 0 }]
  methods := #[k3m0, k3m1]
  instanceTypes := #[]
  staticTypes := #[(.object "java/io/InputStream"), (.object "java/io/PrintStream"), (.object "java/io/PrintStream"), (.object "java/io/InputStream"), .int, .int, .int, (.object "java/lang/SecurityManager"), (.object "java/lang/String"), (.object "java/io/Console"), (.object "java/io/PrintStream"), (.object "java/util/Properties"), (.object "java/lang/String"), (.object "java/lang/ModuleLayer")]
  resolved := Array.replicate 834 none
  statics := none }

def pool4 : Array CpInfo := pool [(1, u "java/lang/Cloneable"), (0, .class_ 1), (0, u "java/lang/Object"), (0, .class_ 3)] 3

/-- java/lang/Cloneable -/
def k4 : Class := { plain "java/lang/Cloneable" (some 0) with
  accessFlags := 1537
  interfaces := #[]
  cf := some (fileOf pool4 2 #[] #[] 1537 4 #[] #[])
  fields := #[]
  methods := #[]
  instanceTypes := #[]
  staticTypes := #[]
  resolved := Array.replicate 8 none
  statics := none }

def pool5 : Array CpInfo := pool [(1, u "java/io/Serializable"), (0, .class_ 1), (0, u "java/lang/Object"), (0, .class_ 3)] 3

/-- java/io/Serializable -/
def k5 : Class := { plain "java/io/Serializable" (some 0) with
  accessFlags := 1537
  interfaces := #[]
  cf := some (fileOf pool5 2 #[] #[] 1537 4 #[] #[])
  fields := #[]
  methods := #[]
  instanceTypes := #[]
  staticTypes := #[]
  resolved := Array.replicate 8 none
  statics := none }

/-- the primitive byte -/
def k6 : Class := { plain "byte" none with kind := .primitive 'B', accessFlags := 0x411 }
/-- [B -/
def k7 : Class := { plain "[B" (some 0) with kind := .array 6 .byte, interfaces := #[4, 5], accessFlags := 1041 }

/-- the primitive int -/
def k8 : Class := { plain "int" none with kind := .primitive 'I', accessFlags := 0x411 }
/-- [I -/
def k9 : Class := { plain "[I" (some 0) with kind := .array 8 .int, interfaces := #[4, 5], accessFlags := 1041 }

/-- the primitive long -/
def k10 : Class := { plain "long" none with kind := .primitive 'J', accessFlags := 0x411 }
/-- [J -/
def k11 : Class := { plain "[J" (some 0) with kind := .array 10 .long, interfaces := #[4, 5], accessFlags := 1041 }

def heap : Heap := #[]
def classes : Array Class := #[k0, k1, k2, k3, k4, k5, k6, k7, k8, k9, k10, k11]
def interned : List (Array UInt16 × Addr) := []
def slotsUsed : Nat := 0
def theMethod : MethodId := ⟨1, 1⟩
def args0 : Array Value := #[.int 1, .int 0, .long 5, .long 6, .long 7]
def aboutOver (below : List Frame) : State where
  vm := { classes := classes, interned := interned.toArray }
  heap := heap
  slotsUsed := slotsUsed
  threads := #[{ frames := .invoking theMethod args0 :: below }]
def below0 : List Frame := [.native { method := ⟨0, 0⟩, args := #[] }]
def about1 : State := aboutOver below0
def p0 : Program := .bare "" "" ""
def e0 : Env := launch0.env 0 0 0
theorem w_frames : about1.frames = Frame.invoking theMethod args0 :: below0 := rfl
set_option maxRecDepth 65536 in
theorem w_args : argsFit about1.vm theMethod args0 = true := by decide +kernel
set_option maxRecDepth 65536 in
theorem w_heap : heapFits about1 = true := by decide +kernel
set_option maxRecDepth 65536 in
theorem w_runnable : about1.curStatus? = some .runnable := by decide +kernel
set_option maxRecDepth 65536 in
theorem w_alone : about1.alone = true := by decide +kernel
set_option maxRecDepth 65536 in
theorem w_named : about1.methodNamed? x = some theMethod := by decide +kernel
set_option maxRecDepth 65536 in
theorem w_hears : about1.hears theMethod below0 = true := by decide +kernel
set_option maxRecDepth 65536 in
theorem w_ripe : about1.ripe theMethod args0 below0 = true := by decide +kernel
theorem w_running : about1.status = .running := rfl
set_option maxRecDepth 65536 in
theorem w_room : about1.hasRoom e0.platform room_1 = true :=
  launch0.hasRoom_least _ room_1 (by decide +kernel) (by decide +kernel) (by decide +kernel) (by decide +kernel) (by decide +kernel) (by decide +kernel)
theorem allAtoms_all (ts : List Jvm.Cond) (a : Array Jvm.Value) (st : Jvm.State) : (allAtoms ts).before a st = ts.all (fun c => c.before a st) := by
  induction ts with
  | nil => rfl
  | cons c t ih =>
    show (Jvm.Cond.and c (allAtoms t)).before a st = _
    rw [Jvm.Cond.before_and, ih, List.all_cons]
def words1 : List Jvm.Cond := Jvm.Cond.code x code maxLocals ret :: tables_1
/-- a 'code' word, met by the world's own term for the bytes: nothing is compared byte by byte -/
theorem code_word {y : MethodName} {bytes : ByteArray} {mx : Nat} {rt : Option FieldType} {a : Array Value} {s : State} {m : MethodId} {meth : Method} {c : Code} (h1 : s.methodNamed? y = some m) (h2 : s.vm.method? m = some meth) (h3 : meth.code = some c) (h4 : c.code = bytes)
    (h5 : (c.maxLocals == mx && c.exceptionTable.isEmpty && decide (c.maxStack ≤ mostOperands) && decide (meth.sig.returnType = rt) && !meth.locks && decide (parseMethodDescriptor y.desc = some meth.sig)) = true) : (Jvm.Cond.code y bytes mx rt).before a s = true := by
  simp only [Bool.and_eq_true, beq_iff_eq, Bool.not_eq_true', decide_eq_true_eq] at h5
  obtain ⟨⟨⟨⟨⟨g1, g2⟩, g3⟩, g4⟩, g5⟩, g6⟩ := h5
  simp [Cond.before, Cond.holds, Cond.value, h1, h2, h3, h4, g1, g2, g3, g4, g5, g6]
def isCode : Jvm.Cond → Bool
  | .code _ _ _ _ => true
  | _ => false
theorem all_split {L : List Jvm.Cond} {P : Jvm.Cond → Bool} (h1 : L.all (fun c => isCode c || P c) = true) (h2 : ∀ c ∈ L.filter isCode, P c = true) : L.all P = true := by
  refine List.all_eq_true.mpr fun c hc => ?_
  have h := List.all_eq_true.mp h1 c hc
  rcases Bool.eq_false_or_eq_true (isCode c) with hi | hi
  · exact h2 c (List.mem_filter.mpr ⟨hc, hi⟩)
  · simpa [hi] using h
set_option maxRecDepth 65536 in
theorem w_c0 : (Jvm.Cond.code x code maxLocals ret).before args0 about1 = true := code_word (m := ⟨1, 1⟩) (meth := k1m1) (c := k1c1) (by decide +kernel) rfl rfl rfl (by decide +kernel)
set_option maxRecDepth 65536 in
theorem w_c1 : (Jvm.Cond.code ({ cls := "com/example/chronoscope/chronoscope/sim/Zone", name := "<init>", desc := "(I)V" } : Jvm.MethodName) prog_347_method_1_code (2 : Nat) (Option.none : Option Jvm.ClassFile.FieldType)).before args0 about1 = true := code_word (m := ⟨2, 0⟩) (meth := k2m0) (c := k2c0) (by decide +kernel) rfl rfl rfl (by decide +kernel)
set_option maxRecDepth 65536 in
theorem w_c2 : (Jvm.Cond.code ({ cls := "java/lang/Object", name := "<init>", desc := "()V" } : Jvm.MethodName) object_method_1_code (1 : Nat) (Option.none : Option Jvm.ClassFile.FieldType)).before args0 about1 = true := code_word (m := ⟨0, 0⟩) (meth := k0m0) (c := k0c0) (by decide +kernel) rfl rfl rfl (by decide +kernel)
set_option maxRecDepth 65536 in
theorem w_c3 : (Jvm.Cond.code ({ cls := "com/example/chronoscope/chronoscope/sim/Zone", name := "delay", desc := "(J)V" } : Jvm.MethodName) prog_347_method_13_code (4 : Nat) (Option.none : Option Jvm.ClassFile.FieldType)).before args0 about1 = true := code_word (m := ⟨2, 4⟩) (meth := k2m4) (c := k2c4) (by decide +kernel) rfl rfl rfl (by decide +kernel)
set_option maxRecDepth 65536 in
theorem w_c4 : (Jvm.Cond.code ({ cls := "com/example/chronoscope/chronoscope/sim/Zone", name := "reset", desc := "(I)V" } : Jvm.MethodName) prog_347_method_10_code (3 : Nat) (Option.none : Option Jvm.ClassFile.FieldType)).before args0 about1 = true := code_word (m := ⟨2, 2⟩) (meth := k2m2) (c := k2c2) (by decide +kernel) rfl rfl rfl (by decide +kernel)
set_option maxRecDepth 65536 in
theorem w_c5 : (Jvm.Cond.code ({ cls := "com/example/chronoscope/chronoscope/sim/Zone", name := "constrain", desc := "(IIJ)Z" } : Jvm.MethodName) prog_347_method_7_code (13 : Nat) (Option.some Jvm.ClassFile.FieldType.boolean)).before args0 about1 = true := code_word (m := ⟨2, 1⟩) (meth := k2m1) (c := k2c1) (by decide +kernel) rfl rfl rfl (by decide +kernel)
set_option maxRecDepth 65536 in
theorem w_c6 : (Jvm.Cond.code ({ cls := "com/example/chronoscope/chronoscope/sim/Zone", name := "copyTo", desc := "([JI)V" } : Jvm.MethodName) prog_347_method_20_code (3 : Nat) (Option.none : Option Jvm.ClassFile.FieldType)).before args0 about1 = true := code_word (m := ⟨2, 5⟩) (meth := k2m5) (c := k2c5) (by decide +kernel) rfl rfl rfl (by decide +kernel)
set_option maxRecDepth 65536 in
theorem w_c7 : (Jvm.Cond.code ({ cls := "com/example/chronoscope/chronoscope/sim/Zone", name := "assign", desc := "(II)V" } : Jvm.MethodName) prog_347_method_11_code (4 : Nat) (Option.none : Option Jvm.ClassFile.FieldType)).before args0 about1 = true := code_word (m := ⟨2, 3⟩) (meth := k2m3) (c := k2c3) (by decide +kernel) rfl rfl rfl (by decide +kernel)
set_option maxRecDepth 65536 in
theorem w_c8 : (Jvm.Cond.code ({ cls := "com/example/chronoscope/chronoscope/sim/ZoneAssignPinLaw", name := "cell", desc := "([J[JIIII)Z" } : Jvm.MethodName) method_4_code (10 : Nat) (Option.some Jvm.ClassFile.FieldType.boolean)).before args0 about1 = true := code_word (m := ⟨1, 3⟩) (meth := k1m3) (c := k1c3) (by decide +kernel) rfl rfl rfl (by decide +kernel)
set_option maxRecDepth 65536 in
theorem w_c9 : (Jvm.Cond.code ({ cls := "com/example/chronoscope/chronoscope/sim/ZoneAssignPinLaw", name := "sigma", desc := "(III)I" } : Jvm.MethodName) method_3_code (3 : Nat) (Option.some Jvm.ClassFile.FieldType.int)).before args0 about1 = true := code_word (m := ⟨1, 2⟩) (meth := k1m2) (c := k1c2) (by decide +kernel) rfl rfl rfl (by decide +kernel)
def codes1 : List Jvm.Cond := [Jvm.Cond.code x code maxLocals ret, Jvm.Cond.code ({ cls := "com/example/chronoscope/chronoscope/sim/Zone", name := "<init>", desc := "(I)V" } : Jvm.MethodName) prog_347_method_1_code (2 : Nat) (Option.none : Option Jvm.ClassFile.FieldType), Jvm.Cond.code ({ cls := "java/lang/Object", name := "<init>", desc := "()V" } : Jvm.MethodName) object_method_1_code (1 : Nat) (Option.none : Option Jvm.ClassFile.FieldType), Jvm.Cond.code ({ cls := "com/example/chronoscope/chronoscope/sim/Zone", name := "delay", desc := "(J)V" } : Jvm.MethodName) prog_347_method_13_code (4 : Nat) (Option.none : Option Jvm.ClassFile.FieldType), Jvm.Cond.code ({ cls := "com/example/chronoscope/chronoscope/sim/Zone", name := "reset", desc := "(I)V" } : Jvm.MethodName) prog_347_method_10_code (3 : Nat) (Option.none : Option Jvm.ClassFile.FieldType), Jvm.Cond.code ({ cls := "com/example/chronoscope/chronoscope/sim/Zone", name := "constrain", desc := "(IIJ)Z" } : Jvm.MethodName) prog_347_method_7_code (13 : Nat) (Option.some Jvm.ClassFile.FieldType.boolean), Jvm.Cond.code ({ cls := "com/example/chronoscope/chronoscope/sim/Zone", name := "copyTo", desc := "([JI)V" } : Jvm.MethodName) prog_347_method_20_code (3 : Nat) (Option.none : Option Jvm.ClassFile.FieldType), Jvm.Cond.code ({ cls := "com/example/chronoscope/chronoscope/sim/Zone", name := "assign", desc := "(II)V" } : Jvm.MethodName) prog_347_method_11_code (4 : Nat) (Option.none : Option Jvm.ClassFile.FieldType), Jvm.Cond.code ({ cls := "com/example/chronoscope/chronoscope/sim/ZoneAssignPinLaw", name := "cell", desc := "([J[JIIII)Z" } : Jvm.MethodName) method_4_code (10 : Nat) (Option.some Jvm.ClassFile.FieldType.boolean), Jvm.Cond.code ({ cls := "com/example/chronoscope/chronoscope/sim/ZoneAssignPinLaw", name := "sigma", desc := "(III)I" } : Jvm.MethodName) method_3_code (3 : Nat) (Option.some Jvm.ClassFile.FieldType.int)]
set_option maxRecDepth 65536 in
theorem codes_eq : words1.filter isCode = codes1 := rfl
theorem w_codes : ∀ c ∈ words1.filter isCode, c.before args0 about1 = true := by
  rw [codes_eq]
  intro c hc
  simp only [codes1, List.mem_cons, List.not_mem_nil, or_false] at hc
  rcases hc with rfl | rfl | rfl | rfl | rfl | rfl | rfl | rfl | rfl | rfl
  · exact w_c0
  · exact w_c1
  · exact w_c2
  · exact w_c3
  · exact w_c4
  · exact w_c5
  · exact w_c6
  · exact w_c7
  · exact w_c8
  · exact w_c9
set_option maxRecDepth 65536 in
theorem w_t1 : (words1.take 24).all (fun c => isCode c || c.before args0 about1) = true := by decide +kernel
set_option maxRecDepth 65536 in
theorem w_t2 : ((words1.drop 24).take 24).all (fun c => isCode c || c.before args0 about1) = true := by decide +kernel
set_option maxRecDepth 65536 in
theorem w_t3 : ((words1.drop 24).drop 24).all (fun c => isCode c || c.before args0 about1) = true := by decide +kernel
theorem w_tables : (allAtoms (Jvm.Cond.code x code maxLocals ret :: tables_1)).before args0 about1 = true := by
  rw [allAtoms_all]
  show words1.all (fun c => c.before args0 about1) = true
  refine all_split ?_ w_codes
  rw [← List.take_append_drop 24 words1, List.all_append, w_t1, ← List.take_append_drop 24 (words1.drop 24), List.all_append, w_t2, w_t3]
  rfl
set_option maxRecDepth 65536 in
theorem w_case : (Jvm.Cond.and given_1 narrow_1).before args0 about1 = true := by decide +kernel
theorem w_applies : (headSpec (Jvm.Cond.code x code maxLocals ret :: tables_1) room_1).applies x e0.platform about1 = true :=
  (Spec.applies_iff w_frames).mpr ⟨w_running, w_runnable, w_alone, w_named, w_hears, w_ripe, w_room, w_tables⟩
theorem atStart : AtStart classFile x code maxLocals ret World_1 tables_1 room_1 Calls_1 rest_1 Pre_1 launch0 p0 e0 about1 theMethod args0 below0 :=
  ⟨lists_1, trivial, launch0.admits_env _ _ _, launch0.least_env, fairChoices_fair.cas, fairChoices_fair.clock, w_frames, w_args, w_heap, w_applies, trivial, trivial, w_case⟩
end start1
theorem witness_1 : WitnessClaimed_1 := ⟨start1.p0, start1.e0, start1.about1, start1.theMethod, start1.args0, start1.below0, start1.atStart⟩
end Jvm.Pilot.@@N@@
