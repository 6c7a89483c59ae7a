import JvmDerived
import JvmDerived.Pilot.@@N@@Statement
import JvmDerived.Pilot.@@N@@Code
set_option linter.unusedVariables false
set_option linter.unusedSimpArgs false
namespace Jvm.RoadKit
open Sem ClassFile Op Lib Jvm.Stand Jvm.Free Jvm.LawKit
section New
variable {p : Program} {l : Launch} {e : Env} {R : Room} {s : State} {m : MethodId} {args : Array Value} {below : List Frame} {meth : Method} {c : Code} {T : State} {locs : List Loc} {cells slots : Nat}
theorem retI (X : Stand p l e R s m args below meth c T locs cells slots) (hx : p.tables.exec = Jvm.exec) {pc : Nat} {Ls : Array Slot} {z : Int32} {rest : List Value} (hret : meth.sig.returnType = some .int) (hd : decode c.code pc = .ok (.ireturn, 1)) {fs : List Frame}
    (hl : ∀ (f : JFrame) (acts : List Action), f.method = m → f.locked = none → f.entered = [] → (doReturn e (T.setTop f) acts (some (.int z))).1 = T.setFrames fs) : Steps p.tables e below (T.setTop (mkF m pc Ls (.int z :: rest))) (T.setFrames fs) := by
  have hm' : T.vm.method? m = some meth := X.method'
  have hn : narrow .int (.int z) = .int z := rfl
  show Steps p.tables e below (T.setTop { method := m, pc := pc, locals := Ls, stack := _ :: rest, locked := none }) _
  jvm_step X.here [X.here.top, hx, hd, hm', hret, hn]
  first | (intro acts; rw [hl _ acts rfl rfl rfl]) | rw [hl _ _ rfl rfl rfl]
  exact Steps.refl _
end New
end Jvm.RoadKit
namespace Jvm.Pilot.@@N@@
open Jvm Jvm.ClassFile Sem Op Lib Jvm.Free Jvm.Stand Jvm.LawKit Jvm.RoadKit Bundle Jvm.Pilot.@@N@@.Jvm.D
/-- what a body that writes nothing leaves -/
def QN (w : Option Value) (h0 : Heap) (n0 : Nat) (v : Option Value) (h : Heap) (L : List Loc) : Prop := v = w ∧ Fr n0 L ∧ h = h0
theorem own_ltI {a b : Int32} (h : a.toInt < b.toInt) : a < b := Int32.lt_iff_toInt_lt.mpr h
theorem own_geI {a b : Int32} (h : b.toInt ≤ a.toInt) : ¬ a < b := fun q => by have := Int32.lt_iff_toInt_lt.mp q; omega
theorem own_eqI {a b : Int32} (h : a.toInt = b.toInt) : a = b := Int32.toInt_inj.mp h
theorem own_neI {a b : Int32} (h : a.toInt ≠ b.toInt) : ¬ a = b := fun q => h (congrArg _ q)
theorem own_ltL {a b : Int64} (h : a.toInt < b.toInt) : a < b := Int64.lt_iff_toInt_lt.mpr h
theorem own_geL {a b : Int64} (h : b.toInt ≤ a.toInt) : ¬ a < b := fun q => by have := Int64.lt_iff_toInt_lt.mp q; omega
theorem own_eqL {a b : Int64} (h : a.toInt = b.toInt) : a = b := Int64.toInt_inj.mp h
theorem own_neL {a b : Int64} (h : a.toInt ≠ b.toInt) : ¬ a = b := fun q => h (congrArg _ q)
theorem own_irrI (a : Int32) : ¬ a < a := own_geI (by omega)
theorem own_irrL (a : Int64) : ¬ a < a := own_geL (by omega)
theorem own_irem (x y : Int32) : x - (x / y) * y = x % y := by
  apply Int32.toInt_inj.mp
  have h1 := Int32.le_toInt (x % y)
  have h2 := Int32.toInt_lt (x % y)
  rw [Int32.toInt_sub, Int32.toInt_mul, Int32.toInt_div, Int.bmod_mul_bmod, Int.sub_bmod_bmod, Int.mul_comm (x.toInt.tdiv y.toInt), ← Int.tmod_def, ← Int32.toInt_mod]
  exact Int.bmod_eq_of_le_mul_two (by omega) (by omega)
theorem own_fld {args : Array Value} {s : State} {t : Term} {n : Int32} (h : (Cond.eq t (.int n)).value args s none s [] = some true) : t.eval args s none [] s = some (.int n) := by
  obtain ⟨x, y, h1, h2, k1, k2⟩ := cmp_v (Or.inl h)
  have h3 : y = .int n := (Option.some.inj h2).symm
  subst h3
  obtain ⟨z, rfl⟩ := k2
  have h4 := gotT (Cond.eq_ints h1 h2) h
  rw [h1, h4]
theorem own_fldL {args : Array Value} {s : State} {t : Term} {n : Int64} (h : (Cond.eq t (.long n)).value args s none s [] = some true) : t.eval args s none [] s = some (.long n) := by
  obtain ⟨x, y, h1, h2, k1, k2⟩ := cmp_v (Or.inl h)
  have h3 : y = .long n := (Option.some.inj h2).symm
  subst h3
  obtain ⟨z, rfl⟩ := k2
  have h4 := gotT (eq_L h1 h2) h
  rw [h1, h4]
theorem own_ne {args : Array Value} {s : State} {t u : Term} {a b : Addr} {C n d : String} {i j : Int32} (ht : t.eval args s none [] s = some (.ref a)) (hu : u.eval args s none [] s = some (.ref b)) (h1 : (Cond.eq (.field t C n d) (.int i)).value args s none s [] = some true) (h2 : (Cond.eq (.field u C n d) (.int j)).value args s none s [] = some true) (hij : i ≠ j) : ¬ a = b := fun q => by
  subst q
  have e1 := own_fld h1
  have e2 := own_fld h2
  rw [fld_at ht] at e1
  rw [fld_at hu, e1] at e2
  exact hij (Value.int.inj (Option.some.inj e2))

theorem own_455 {a qq rr bits ww got w sq low hi : Int64} {b : Int32} (hqq : (a &&& (2147483647 : Int64)) = qq) (hrr : ((b &&& (63 : Int32)).toInt64) = rr) (hbits : ((qq * (64 : Int64)) + rr) = bits) (hww : ((bits / (64 : Int64)) + (1 : Int64)) = ww) (hgot : ((ww * ww) / (8 : Int64)) = got) (hw : (qq + (1 : Int64)) = w) (hsq : (w * w) = sq) (hlow : (got * (8 : Int64)) = low) (hhi : (low + (8 : Int64)) = hi) :
    ¬ (got < (0 : Int64)) ∧ ¬ ((576460752303423488 : Int64) < got) ∧ ¬ (sq < low) ∧ sq < hi := by
  have q1 := c_maskL a 2147483647 31 (by decide) (by decide)
  rw [hqq, show ((2 ^ 31 : Nat) : Int) = 2147483648 from rfl] at q1
  have r1 := c_mask b 63 6 (by decide) (by decide)
  rw [show ((2 ^ 6 : Nat) : Int) = 64 from rfl] at r1
  have r2 := c_i2l (b &&& (63 : Int32))
  rw [hrr, r1] at r2
  have m1 := c_lmul qq 64
  rw [show (64 : Int64).toInt = 64 from rfl] at m1
  have n1 := rng64 (qq * 64)
  have s1 := c_ladd (qq * 64) rr
  rw [hbits] at s1
  have n2 := rng64 bits
  have b1 : bits.toInt = qq.toInt * 64 + rr.toInt := by omega
  have d1 := (c_ldiv bits 64 64 rfl (by decide)).1 (by omega)
  have s2 := c_ladd (bits / 64) 1
  rw [hww, d1, show (1 : Int64).toInt = 1 from rfl] at s2
  have n3 := rng64 ww
  have w1 : ww.toInt = qq.toInt + 1 := by omega
  have s3 := c_ladd qq 1
  rw [hw, show (1 : Int64).toInt = 1 from rfl] at s3
  have n4 := rng64 w
  have w2 : w.toInt = qq.toInt + 1 := by omega
  obtain rfl : ww = w := Int64.toInt_inj.mp (w1.trans w2.symm)
  rw [hsq] at hgot
  have m2 := c_lmul ww ww
  rw [hsq] at m2
  have p1 : 0 ≤ ww.toInt * ww.toInt := Int.mul_nonneg (by omega) (by omega)
  have p2 : ww.toInt * ww.toInt ≤ 2147483648 * 2147483648 := Int.mul_le_mul (by omega) (by omega) (by omega) (by omega)
  have n5 := rng64 sq
  generalize ww.toInt * ww.toInt = P at *
  have q2 : sq.toInt = P := by omega
  have d2 := (c_ldiv sq 8 8 rfl (by decide)).1 (by omega)
  rw [hgot, q2] at d2
  have m3 := c_lmul got 8
  rw [hlow, show (8 : Int64).toInt = 8 from rfl] at m3
  have n6 := rng64 low
  have l1 : low.toInt = got.toInt * 8 := by omega
  have s4 := c_ladd low 8
  rw [hhi, show (8 : Int64).toInt = 8 from rfl] at s4
  have n7 := rng64 hi
  refine ⟨own_geL ?_, own_geL ?_, own_geL ?_, own_ltL ?_⟩
  · rw [show (0 : Int64).toInt = 0 from rfl]; omega
  · rw [show (576460752303423488 : Int64).toInt = 576460752303423488 from rfl]; omega
  · omega
  · omega
theorem d1_0 : decode prog_49_method_17_code 0 = .ok (.lload_n 0, 1) := by decide +kernel
theorem d1_1 : decode prog_49_method_17_code 1 = .ok (.ldc2_w 92, 3) := by decide +kernel
theorem d1_4 : decode prog_49_method_17_code 4 = .ok (.ldiv, 1) := by decide +kernel
theorem d1_5 : decode prog_49_method_17_code 5 = .ok (.lconst 1, 1) := by decide +kernel
theorem d1_6 : decode prog_49_method_17_code 6 = .ok (.ladd, 1) := by decide +kernel
theorem d1_7 : decode prog_49_method_17_code 7 = .ok (.lstore_n 2, 1) := by decide +kernel
theorem d1_8 : decode prog_49_method_17_code 8 = .ok (.lload_n 2, 1) := by decide +kernel
theorem d1_9 : decode prog_49_method_17_code 9 = .ok (.lload_n 2, 1) := by decide +kernel
theorem d1_10 : decode prog_49_method_17_code 10 = .ok (.lmul, 1) := by decide +kernel
theorem d1_11 : decode prog_49_method_17_code 11 = .ok (.ldc2_w 94, 3) := by decide +kernel
theorem d1_14 : decode prog_49_method_17_code 14 = .ok (.ldiv, 1) := by decide +kernel
theorem d1_15 : decode prog_49_method_17_code 15 = .ok (.lreturn, 1) := by decide +kernel
theorem pn_1 : plainName "com/example/inline_to_value/inlinetovalue/conversion/Work" = true := by first | (simp [plainName, overriddenIn]; done) | decide +kernel
theorem ef_1 (m : MethodId) (x0 : Int64) : entryFrame m #[(.long x0)] 4 = mkF m 0 #[.val (.long x0), .second, .unset, .unset] [] := by first | (simp [entryFrame, mkF, argsToLocals, Value.category]; done) | rfl
set_option maxRecDepth 65536 in
set_option maxHeartbeats 40000000 in
theorem rm1 (l : Launch) (Z : State) (a0 : Array Value) (hw : ∀ d ∈ tables_1, d.before a0 Z = true) (ws : List Jvm.Cond) (q1 : Int64) (ww : Int64) (h0 : Heap) (n0 : Nat) (Z0 : n0 ≤ h0.size) (hn_ww : ((q1 / (64 : Int64)) + (1 : Int64)) = ww) :
    MetFree l (⟨"com/example/inline_to_value/inlinetovalue/conversion/Work", "ofSquare", "(J)J"⟩ : MethodName) (head1 (Jvm.Cond.code (⟨"com/example/inline_to_value/inlinetovalue/conversion/Work", "ofSquare", "(J)J"⟩ : MethodName) prog_49_method_17_code 4 (some .long) :: ws) ({ frames := 0, cells := 0, slots := 0, locals := 0 } : Room)) (fun a U => a = #[(.long q1)] ∧ Z.Warmed39 U.vm ∧ U.heap = h0) (fun _ _ _ _ _ => True) (fun _ U o U' => ∃ v L, o = .returned v ∧ QN (some (.long ((ww * ww) / (8 : Int64)))) h0 n0 v U'.heap L ∧ FrameEnd U o U' L ({ frames := 0, cells := 0, slots := 0, locals := 0 } : Room).cells ({ frames := 0, cells := 0, slots := 0, locals := 0 } : Room).slots) := by
  refine MetFree.of_bodySF (plainFor_of_name pn_1) hisR ?_
  intro p e s m args below meth c s₁ Bd hml0 hP hK
  obtain ⟨rfl, hZ, hh⟩ := hP
  have hx := Bd.exec
  have hby := Bd.bytes
  have hml : c.maxLocals = 4 := hml0
  have hown : s.vm.findClass "com/example/inline_to_value/inlinetovalue/conversion/Work" = some m.cls := findClass_of_methodNamed Bd.named
  have hnm := (name_of_methodNamed Bd.named Bd.method).1
  have X0 : Stand p l e ({ frames := 0, cells := 0, slots := 0, locals := 0 } : Room) s m #[(.long q1)] below meth c s₁ [] 0 0 := Stand.of_body Bd
  have e0 : s₁.heap = h0 := by rw [← hh, Bd.state]; rfl
  have N0 := Fr.nil n0
  have pre0 : ∀ t, Steps p.tables e below (s₁.setTop (mkF m 0 #[.val (.long q1), .second, .unset, .unset] [])) t → Steps p.tables e below (s₁.setTop (entryFrame m #[(.long q1)] 4)) t := fun t k => castTop (ef_1 m q1) k
  obtain ⟨fs, hr, hrun, hended, hW, hsame⟩ := X0.leave (v := some (.long ((ww * ww) / (8 : Int64)))) (fun h => by rw [Bd.returns] at h; cases h)
  refine ⟨_, _, pre0 _ ?_, hrun, hended, _, _, rfl, ?_, ⟨_, rfl⟩, hW, hsame.mono (by decide) (by decide)⟩
  · show Steps p.tables e below (s₁.setTop (mkF m 0 #[.val (.long q1), .second, .unset, .unset] [])) _
    refine XS.lloadN X0.here hx rfl (hb hby d1_0) rfl ?_
    show Steps p.tables e below (s₁.setTop (mkF m 1 #[.val (.long q1), .second, .unset, .unset] [(.long q1)])) _
    refine X0.ldc2J hx hown (mvT hZ (hw _ (List.mem_of_getElem? (i := 6) rfl))) (g := (mkF m 1 #[.val (.long q1), .second, .unset, .unset] [(.long q1)])) rfl (hb hby d1_1) ?_
    show Steps p.tables e below (s₁.setTop (mkF m 4 #[.val (.long q1), .second, .unset, .unset] [(.long (64 : Int64)), (.long q1)])) _
    refine XS.ldiv X0.here hx rfl (hb hby d1_4) rfl (by decide) ?_
    show Steps p.tables e below (s₁.setTop (mkF m 5 #[.val (.long q1), .second, .unset, .unset] [(.long (q1 / (64 : Int64)))])) _
    refine XS.lconst X0.here hx rfl (hb hby d1_5) ?_
    show Steps p.tables e below (s₁.setTop (mkF m 6 #[.val (.long q1), .second, .unset, .unset] [(.long (1 : Int64)), (.long (q1 / (64 : Int64)))])) _
    refine XS.ladd X0.here hx rfl (hb hby d1_6) rfl ?_
    rw [hn_ww]
    show Steps p.tables e below (s₁.setTop (mkF m 7 #[.val (.long q1), .second, .unset, .unset] [(.long ww)])) _
    refine XS.lstoreN X0.here hx rfl (hb hby d1_7) rfl (l' := #[.val (.long q1), .second, .val (.long ww), .second]) rfl ?_
    show Steps p.tables e below (s₁.setTop (mkF m 8 #[.val (.long q1), .second, .val (.long ww), .second] [])) _
    refine XS.lloadN X0.here hx rfl (hb hby d1_8) rfl ?_
    show Steps p.tables e below (s₁.setTop (mkF m 9 #[.val (.long q1), .second, .val (.long ww), .second] [(.long ww)])) _
    refine XS.lloadN X0.here hx rfl (hb hby d1_9) rfl ?_
    show Steps p.tables e below (s₁.setTop (mkF m 10 #[.val (.long q1), .second, .val (.long ww), .second] [(.long ww), (.long ww)])) _
    refine XS.lmul X0.here hx rfl (hb hby d1_10) rfl ?_
    show Steps p.tables e below (s₁.setTop (mkF m 11 #[.val (.long q1), .second, .val (.long ww), .second] [(.long (ww * ww))])) _
    refine X0.ldc2J hx hown (mvT hZ (hw _ (List.mem_of_getElem? (i := 7) rfl))) (g := (mkF m 11 #[.val (.long q1), .second, .val (.long ww), .second] [(.long (ww * ww))])) rfl (hb hby d1_11) ?_
    show Steps p.tables e below (s₁.setTop (mkF m 14 #[.val (.long q1), .second, .val (.long ww), .second] [(.long (8 : Int64)), (.long (ww * ww))])) _
    refine XS.ldiv X0.here hx rfl (hb hby d1_14) rfl (by decide) ?_
    show Steps p.tables e below (s₁.setTop (mkF m 15 #[.val (.long q1), .second, .val (.long ww), .second] [(.long ((ww * ww) / (8 : Int64)))])) _
    jvm_step X0.here [X0.here.top, hx, (hb hby d1_15), X0.method', Bd.returns, narrow]
    first | (intro acts; rw [hr _ acts rfl rfl rfl]) | rw [hr _ _ rfl rfl rfl]
    exact Steps.refl _
  · exact ⟨rfl, N0, e0⟩
theorem pd_0 : parseMethodDescriptor "(J)J" = some ⟨[.long], some .long⟩ := by decide +kernel
theorem pn_0 : plainName "com/example/inline_to_value/inlinetovalue/conversion/WorkOfSquarePinLaw" = true := by first | (simp [plainName, overriddenIn]; done) | decide +kernel
theorem ef_0 (m : MethodId) (x0 : Int64) (x1 : Int32) : entryFrame m #[(.long x0), (.int x1)] maxLocals = mkF m 0 #[.val (.long x0), .second, .val (.int x1), .unset, .unset, .unset, .unset, .unset, .unset, .unset, .unset, .unset, .unset, .unset, .unset, .unset, .unset] [] := by first | (simp [entryFrame, mkF, argsToLocals, Value.category, maxLocals]; done) | rfl
set_option maxRecDepth 65536 in
set_option maxHeartbeats 40000000 in
theorem rm0 (l : Launch) (Z : State) (a0 : Array Value) (hw : ∀ d ∈ tables_1, d.before a0 Z = true) (ws : List Jvm.Cond) (q1 : Int64) (p2 : Int32) (qq : Int64) (rr : Int64) (bits : Int64) (ww_c3 : Int64) (got : Int64) (w : Int64) (sq : Int64) (low : Int64) (hi : Int64) (h0 : Heap) (n0 : Nat) (Z0 : n0 ≤ h0.size) (hn_qq : (q1 &&& (2147483647 : Int64)) = qq) (hn_rr : ((p2 &&& (63 : Int32)).toInt64) = rr) (hn_bits : ((qq * (64 : Int64)) + rr) = bits) (hn_ww_c3 : ((bits / (64 : Int64)) + (1 : Int64)) = ww_c3) (hn_got : ((ww_c3 * ww_c3) / (8 : Int64)) = got) (hn_w : (qq + (1 : Int64)) = w) (hn_sq : (w * w) = sq) (hc46 : ¬ (got < (0 : Int64))) (hc55 : ¬ ((576460752303423488 : Int64) < got)) (hn_low : (got * (8 : Int64)) = low) (hc73 : ¬ (sq < low)) (hn_hi : (low + (8 : Int64)) = hi) (hc85 : sq < hi) :
    MetFree l x (head1 (Jvm.Cond.code x code maxLocals ret :: ws) room_1) (fun a U => a = #[(.long q1), (.int p2)] ∧ Z.Warmed39 U.vm ∧ U.heap = h0) (fun _ _ _ _ _ => True) (fun _ U o U' => ∃ v L, o = .returned v ∧ QN (some (.int (1 : Int32))) h0 n0 v U'.heap L ∧ FrameEnd U o U' L room_1.cells room_1.slots) := by
  refine MetFree.of_bodySF (plainFor_of_name pn_0) hisR ?_
  intro p e s m args below meth c s₁ Bd hml0 hP hK
  obtain ⟨rfl, hZ, hh⟩ := hP
  have hx := Bd.exec
  have hby := Bd.bytes
  have hml : c.maxLocals = 17 := hml0
  have hown : s.vm.findClass "com/example/inline_to_value/inlinetovalue/conversion/WorkOfSquarePinLaw" = some m.cls := findClass_of_methodNamed Bd.named
  have hnm := (name_of_methodNamed Bd.named Bd.method).1
  have X0 : Stand p l e room_1 s m #[(.long q1), (.int p2)] below meth c s₁ [] 0 0 := Stand.of_body Bd
  have e0 : s₁.heap = h0 := by rw [← hh, Bd.state]; rfl
  have N0 := Fr.nil n0
  have pre0 : ∀ t, Steps p.tables e below (s₁.setTop (mkF m 0 #[.val (.long q1), .second, .val (.int p2), .unset, .unset, .unset, .unset, .unset, .unset, .unset, .unset, .unset, .unset, .unset, .unset, .unset, .unset] [])) t → Steps p.tables e below (s₁.setTop (entryFrame m #[(.long q1), (.int p2)] maxLocals)) t := fun t k => castTop (ef_0 m q1 p2) k
  obtain ⟨_, _, ⟨T3, L3, k3, n3⟩, -, X3, ⟨Lc3, hQ3, l3, y3, z3⟩, st3⟩ := Jvm.LawKit.callS X0 hx (y := (⟨"com/example/inline_to_value/inlinetovalue/conversion/Work", "ofSquare", "(J)J"⟩ : MethodName)) hown (mvT hZ (hw _ (List.mem_of_getElem? (i := 2) rfl))) (mvT hZ (hw _ (List.mem_of_getElem? (i := 3) rfl))) (mvT hZ (hw _ (List.mem_of_getElem? (i := 4) rfl))) (mvT hZ (hw _ (List.mem_of_getElem? (i := 5) rfl))) (by decide) (backOf (W := 0) (rm1 l Z a0 hw [] bits ww_c3 h0 n0 Z0 hn_ww_c3) hZ (hw _ (List.mem_of_getElem? (i := 5) rfl)) (hw _ (List.mem_of_getElem? (i := 4) rfl)) (by decide) (by decide)) (g := (mkF m 25 #[.val (.long q1), .second, .val (.int p2), .val (.long qq), .second, .val (.long rr), .second, .val (.long bits), .second, .unset, .unset, .unset, .unset, .unset, .unset, .unset, .unset] [(.long bits)])) rfl (by rw [hml]; rfl) (argsL := [(.long bits)]) (rest := []) (lenOf pd_0 rfl) rfl (by show 2 * 0 + _ ≤ _; exact Nat.le_of_eq rfl) (hb hby at_25) (fun _ _ => ⟨rfl, e0, (by decide : 0 + 0 ≤ _), (by decide : 0 + 0 ≤ _)⟩)
  dsimp only [Pt.U, Pt.locs, Pt.cells, Pt.slots] at X3 l3 y3 z3 st3 hQ3
  subst l3 y3 z3
  obtain ⟨rfl, N3q, e3⟩ := hQ3
  have N3 := Fr.app N0 N3q
  obtain ⟨fs, hr, hrun, hended, hW, hsame⟩ := X3.leave (v := some (.int (1 : Int32))) (fun h => by rw [Bd.returns] at h; cases h)
  refine ⟨_, _, pre0 _ ?_, hrun, hended, _, _, rfl, ?_, ⟨_, rfl⟩, hW, hsame.mono (by decide) (by decide)⟩
  · show Steps p.tables e below (s₁.setTop (mkF m 0 #[.val (.long q1), .second, .val (.int p2), .unset, .unset, .unset, .unset, .unset, .unset, .unset, .unset, .unset, .unset, .unset, .unset, .unset, .unset] [])) _
    refine XS.lloadN X0.here hx rfl (hb hby at_0) rfl ?_
    show Steps p.tables e below (s₁.setTop (mkF m 1 #[.val (.long q1), .second, .val (.int p2), .unset, .unset, .unset, .unset, .unset, .unset, .unset, .unset, .unset, .unset, .unset, .unset, .unset, .unset] [(.long q1)])) _
    refine X0.ldc2J hx hown (mvT hZ (hw _ (List.mem_of_getElem? (i := 0) rfl))) (g := (mkF m 1 #[.val (.long q1), .second, .val (.int p2), .unset, .unset, .unset, .unset, .unset, .unset, .unset, .unset, .unset, .unset, .unset, .unset, .unset, .unset] [(.long q1)])) rfl (hb hby at_1) ?_
    show Steps p.tables e below (s₁.setTop (mkF m 4 #[.val (.long q1), .second, .val (.int p2), .unset, .unset, .unset, .unset, .unset, .unset, .unset, .unset, .unset, .unset, .unset, .unset, .unset, .unset] [(.long (2147483647 : Int64)), (.long q1)])) _
    refine XS.land X0.here hx rfl (hb hby at_4) rfl ?_
    rw [hn_qq]
    show Steps p.tables e below (s₁.setTop (mkF m 5 #[.val (.long q1), .second, .val (.int p2), .unset, .unset, .unset, .unset, .unset, .unset, .unset, .unset, .unset, .unset, .unset, .unset, .unset, .unset] [(.long qq)])) _
    refine XS.lstoreN X0.here hx rfl (hb hby at_5) rfl (l' := #[.val (.long q1), .second, .val (.int p2), .val (.long qq), .second, .unset, .unset, .unset, .unset, .unset, .unset, .unset, .unset, .unset, .unset, .unset, .unset]) rfl ?_
    show Steps p.tables e below (s₁.setTop (mkF m 6 #[.val (.long q1), .second, .val (.int p2), .val (.long qq), .second, .unset, .unset, .unset, .unset, .unset, .unset, .unset, .unset, .unset, .unset, .unset, .unset] [])) _
    refine XS.iloadN X0.here hx rfl (hb hby at_6) rfl ?_
    show Steps p.tables e below (s₁.setTop (mkF m 7 #[.val (.long q1), .second, .val (.int p2), .val (.long qq), .second, .unset, .unset, .unset, .unset, .unset, .unset, .unset, .unset, .unset, .unset, .unset, .unset] [(.int p2)])) _
    refine XS.bipush X0.here hx rfl (hb hby at_7) ?_
    show Steps p.tables e below (s₁.setTop (mkF m 9 #[.val (.long q1), .second, .val (.int p2), .val (.long qq), .second, .unset, .unset, .unset, .unset, .unset, .unset, .unset, .unset, .unset, .unset, .unset, .unset] [(.int (63 : Int32)), (.int p2)])) _
    refine XS.iand X0.here hx rfl (hb hby at_9) rfl ?_
    show Steps p.tables e below (s₁.setTop (mkF m 10 #[.val (.long q1), .second, .val (.int p2), .val (.long qq), .second, .unset, .unset, .unset, .unset, .unset, .unset, .unset, .unset, .unset, .unset, .unset, .unset] [(.int (p2 &&& (63 : Int32)))])) _
    refine XS.i2l X0.here hx rfl (hb hby at_10) rfl ?_
    rw [hn_rr]
    show Steps p.tables e below (s₁.setTop (mkF m 11 #[.val (.long q1), .second, .val (.int p2), .val (.long qq), .second, .unset, .unset, .unset, .unset, .unset, .unset, .unset, .unset, .unset, .unset, .unset, .unset] [(.long rr)])) _
    refine XS.lstore X0.here hx rfl (hb hby at_11) rfl (l' := #[.val (.long q1), .second, .val (.int p2), .val (.long qq), .second, .val (.long rr), .second, .unset, .unset, .unset, .unset, .unset, .unset, .unset, .unset, .unset, .unset]) rfl ?_
    show Steps p.tables e below (s₁.setTop (mkF m 13 #[.val (.long q1), .second, .val (.int p2), .val (.long qq), .second, .val (.long rr), .second, .unset, .unset, .unset, .unset, .unset, .unset, .unset, .unset, .unset, .unset] [])) _
    refine XS.lloadN X0.here hx rfl (hb hby at_13) rfl ?_
    show Steps p.tables e below (s₁.setTop (mkF m 14 #[.val (.long q1), .second, .val (.int p2), .val (.long qq), .second, .val (.long rr), .second, .unset, .unset, .unset, .unset, .unset, .unset, .unset, .unset, .unset, .unset] [(.long qq)])) _
    refine X0.ldc2J hx hown (mvT hZ (hw _ (List.mem_of_getElem? (i := 1) rfl))) (g := (mkF m 14 #[.val (.long q1), .second, .val (.int p2), .val (.long qq), .second, .val (.long rr), .second, .unset, .unset, .unset, .unset, .unset, .unset, .unset, .unset, .unset, .unset] [(.long qq)])) rfl (hb hby at_14) ?_
    show Steps p.tables e below (s₁.setTop (mkF m 17 #[.val (.long q1), .second, .val (.int p2), .val (.long qq), .second, .val (.long rr), .second, .unset, .unset, .unset, .unset, .unset, .unset, .unset, .unset, .unset, .unset] [(.long (64 : Int64)), (.long qq)])) _
    refine XS.lmul X0.here hx rfl (hb hby at_17) rfl ?_
    show Steps p.tables e below (s₁.setTop (mkF m 18 #[.val (.long q1), .second, .val (.int p2), .val (.long qq), .second, .val (.long rr), .second, .unset, .unset, .unset, .unset, .unset, .unset, .unset, .unset, .unset, .unset] [(.long (qq * (64 : Int64)))])) _
    refine XS.lload X0.here hx rfl (hb hby at_18) rfl ?_
    show Steps p.tables e below (s₁.setTop (mkF m 20 #[.val (.long q1), .second, .val (.int p2), .val (.long qq), .second, .val (.long rr), .second, .unset, .unset, .unset, .unset, .unset, .unset, .unset, .unset, .unset, .unset] [(.long rr), (.long (qq * (64 : Int64)))])) _
    refine XS.ladd X0.here hx rfl (hb hby at_20) rfl ?_
    rw [hn_bits]
    show Steps p.tables e below (s₁.setTop (mkF m 21 #[.val (.long q1), .second, .val (.int p2), .val (.long qq), .second, .val (.long rr), .second, .unset, .unset, .unset, .unset, .unset, .unset, .unset, .unset, .unset, .unset] [(.long bits)])) _
    refine XS.lstore X0.here hx rfl (hb hby at_21) rfl (l' := #[.val (.long q1), .second, .val (.int p2), .val (.long qq), .second, .val (.long rr), .second, .val (.long bits), .second, .unset, .unset, .unset, .unset, .unset, .unset, .unset, .unset]) rfl ?_
    show Steps p.tables e below (s₁.setTop (mkF m 23 #[.val (.long q1), .second, .val (.int p2), .val (.long qq), .second, .val (.long rr), .second, .val (.long bits), .second, .unset, .unset, .unset, .unset, .unset, .unset, .unset, .unset] [])) _
    refine XS.lload X0.here hx rfl (hb hby at_23) rfl ?_
    show Steps p.tables e below (s₁.setTop (mkF m 25 #[.val (.long q1), .second, .val (.int p2), .val (.long qq), .second, .val (.long rr), .second, .val (.long bits), .second, .unset, .unset, .unset, .unset, .unset, .unset, .unset, .unset] [(.long bits)])) _
    refine st3 _ ?_
    rw [hn_got]
    show Steps p.tables e below (T3.setTop (mkF m 28 #[.val (.long q1), .second, .val (.int p2), .val (.long qq), .second, .val (.long rr), .second, .val (.long bits), .second, .unset, .unset, .unset, .unset, .unset, .unset, .unset, .unset] [(.long got)])) _
    refine XS.lstore X3.here hx rfl (hb hby at_28) rfl (l' := #[.val (.long q1), .second, .val (.int p2), .val (.long qq), .second, .val (.long rr), .second, .val (.long bits), .second, .val (.long got), .second, .unset, .unset, .unset, .unset, .unset, .unset]) rfl ?_
    show Steps p.tables e below (T3.setTop (mkF m 30 #[.val (.long q1), .second, .val (.int p2), .val (.long qq), .second, .val (.long rr), .second, .val (.long bits), .second, .val (.long got), .second, .unset, .unset, .unset, .unset, .unset, .unset] [])) _
    refine XS.lloadN X3.here hx rfl (hb hby at_30) rfl ?_
    show Steps p.tables e below (T3.setTop (mkF m 31 #[.val (.long q1), .second, .val (.int p2), .val (.long qq), .second, .val (.long rr), .second, .val (.long bits), .second, .val (.long got), .second, .unset, .unset, .unset, .unset, .unset, .unset] [(.long qq)])) _
    refine XS.lconst X3.here hx rfl (hb hby at_31) ?_
    show Steps p.tables e below (T3.setTop (mkF m 32 #[.val (.long q1), .second, .val (.int p2), .val (.long qq), .second, .val (.long rr), .second, .val (.long bits), .second, .val (.long got), .second, .unset, .unset, .unset, .unset, .unset, .unset] [(.long (1 : Int64)), (.long qq)])) _
    refine XS.ladd X3.here hx rfl (hb hby at_32) rfl ?_
    rw [hn_w]
    show Steps p.tables e below (T3.setTop (mkF m 33 #[.val (.long q1), .second, .val (.int p2), .val (.long qq), .second, .val (.long rr), .second, .val (.long bits), .second, .val (.long got), .second, .unset, .unset, .unset, .unset, .unset, .unset] [(.long w)])) _
    refine XS.lstore X3.here hx rfl (hb hby at_33) rfl (l' := #[.val (.long q1), .second, .val (.int p2), .val (.long qq), .second, .val (.long rr), .second, .val (.long bits), .second, .val (.long got), .second, .val (.long w), .second, .unset, .unset, .unset, .unset]) rfl ?_
    show Steps p.tables e below (T3.setTop (mkF m 35 #[.val (.long q1), .second, .val (.int p2), .val (.long qq), .second, .val (.long rr), .second, .val (.long bits), .second, .val (.long got), .second, .val (.long w), .second, .unset, .unset, .unset, .unset] [])) _
    refine XS.lload X3.here hx rfl (hb hby at_35) rfl ?_
    show Steps p.tables e below (T3.setTop (mkF m 37 #[.val (.long q1), .second, .val (.int p2), .val (.long qq), .second, .val (.long rr), .second, .val (.long bits), .second, .val (.long got), .second, .val (.long w), .second, .unset, .unset, .unset, .unset] [(.long w)])) _
    refine XS.lload X3.here hx rfl (hb hby at_37) rfl ?_
    show Steps p.tables e below (T3.setTop (mkF m 39 #[.val (.long q1), .second, .val (.int p2), .val (.long qq), .second, .val (.long rr), .second, .val (.long bits), .second, .val (.long got), .second, .val (.long w), .second, .unset, .unset, .unset, .unset] [(.long w), (.long w)])) _
    refine XS.lmul X3.here hx rfl (hb hby at_39) rfl ?_
    rw [hn_sq]
    show Steps p.tables e below (T3.setTop (mkF m 40 #[.val (.long q1), .second, .val (.int p2), .val (.long qq), .second, .val (.long rr), .second, .val (.long bits), .second, .val (.long got), .second, .val (.long w), .second, .unset, .unset, .unset, .unset] [(.long sq)])) _
    refine XS.lstore X3.here hx rfl (hb hby at_40) rfl (l' := #[.val (.long q1), .second, .val (.int p2), .val (.long qq), .second, .val (.long rr), .second, .val (.long bits), .second, .val (.long got), .second, .val (.long w), .second, .val (.long sq), .second, .unset, .unset]) rfl ?_
    show Steps p.tables e below (T3.setTop (mkF m 42 #[.val (.long q1), .second, .val (.int p2), .val (.long qq), .second, .val (.long rr), .second, .val (.long bits), .second, .val (.long got), .second, .val (.long w), .second, .val (.long sq), .second, .unset, .unset] [])) _
    refine XS.lload X3.here hx rfl (hb hby at_42) rfl ?_
    show Steps p.tables e below (T3.setTop (mkF m 44 #[.val (.long q1), .second, .val (.int p2), .val (.long qq), .second, .val (.long rr), .second, .val (.long bits), .second, .val (.long got), .second, .val (.long w), .second, .val (.long sq), .second, .unset, .unset] [(.long got)])) _
    refine XS.lconst X3.here hx rfl (hb hby at_44) ?_
    show Steps p.tables e below (T3.setTop (mkF m 45 #[.val (.long q1), .second, .val (.int p2), .val (.long qq), .second, .val (.long rr), .second, .val (.long bits), .second, .val (.long got), .second, .val (.long w), .second, .val (.long sq), .second, .unset, .unset] [(.long (0 : Int64)), (.long got)])) _
    refine XS.lcmp X3.here hx rfl (hb hby at_45) rfl ?_
    show Steps p.tables e below (T3.setTop (mkF m 46 #[.val (.long q1), .second, .val (.int p2), .val (.long qq), .second, .val (.long rr), .second, .val (.long bits), .second, .val (.long got), .second, .val (.long w), .second, .val (.long sq), .second, .unset, .unset] [(.int (lcmpW got (0 : Int64)))])) _
    refine XS.ifNo X3.here hx rfl (hb hby at_46) rfl ((if0 _ _).trans (flt (mt (lw_lt _ _).mp hc46)).1) ?_
    show Steps p.tables e below (T3.setTop (mkF m 49 #[.val (.long q1), .second, .val (.int p2), .val (.long qq), .second, .val (.long rr), .second, .val (.long bits), .second, .val (.long got), .second, .val (.long w), .second, .val (.long sq), .second, .unset, .unset] [])) _
    refine XS.lload X3.here hx rfl (hb hby at_49) rfl ?_
    show Steps p.tables e below (T3.setTop (mkF m 51 #[.val (.long q1), .second, .val (.int p2), .val (.long qq), .second, .val (.long rr), .second, .val (.long bits), .second, .val (.long got), .second, .val (.long w), .second, .val (.long sq), .second, .unset, .unset] [(.long got)])) _
    refine X3.ldc2J hx hown (mvT hZ (hw _ (List.mem_of_getElem? (i := 8) rfl))) (g := (mkF m 51 #[.val (.long q1), .second, .val (.int p2), .val (.long qq), .second, .val (.long rr), .second, .val (.long bits), .second, .val (.long got), .second, .val (.long w), .second, .val (.long sq), .second, .unset, .unset] [(.long got)])) rfl (hb hby at_51) ?_
    show Steps p.tables e below (T3.setTop (mkF m 54 #[.val (.long q1), .second, .val (.int p2), .val (.long qq), .second, .val (.long rr), .second, .val (.long bits), .second, .val (.long got), .second, .val (.long w), .second, .val (.long sq), .second, .unset, .unset] [(.long (576460752303423488 : Int64)), (.long got)])) _
    refine XS.lcmp X3.here hx rfl (hb hby at_54) rfl ?_
    show Steps p.tables e below (T3.setTop (mkF m 55 #[.val (.long q1), .second, .val (.int p2), .val (.long qq), .second, .val (.long rr), .second, .val (.long bits), .second, .val (.long got), .second, .val (.long w), .second, .val (.long sq), .second, .unset, .unset] [(.int (lcmpW got (576460752303423488 : Int64)))])) _
    refine XS.ifYes X3.here hx rfl (pc0 := 55) (pc' := 60) rfl (hb hby at_55) rfl ((if0 _ _).trans (flt (mt (lw_gt _ _).mp hc55)).2.2.2) (by decide) (by decide) ?_
    show Steps p.tables e below (T3.setTop (mkF m 60 #[.val (.long q1), .second, .val (.int p2), .val (.long qq), .second, .val (.long rr), .second, .val (.long bits), .second, .val (.long got), .second, .val (.long w), .second, .val (.long sq), .second, .unset, .unset] [])) _
    refine XS.lload X3.here hx rfl (hb hby at_60) rfl ?_
    show Steps p.tables e below (T3.setTop (mkF m 62 #[.val (.long q1), .second, .val (.int p2), .val (.long qq), .second, .val (.long rr), .second, .val (.long bits), .second, .val (.long got), .second, .val (.long w), .second, .val (.long sq), .second, .unset, .unset] [(.long got)])) _
    refine X3.ldc2J hx hown (mvT hZ (hw _ (List.mem_of_getElem? (i := 9) rfl))) (g := (mkF m 62 #[.val (.long q1), .second, .val (.int p2), .val (.long qq), .second, .val (.long rr), .second, .val (.long bits), .second, .val (.long got), .second, .val (.long w), .second, .val (.long sq), .second, .unset, .unset] [(.long got)])) rfl (hb hby at_62) ?_
    show Steps p.tables e below (T3.setTop (mkF m 65 #[.val (.long q1), .second, .val (.int p2), .val (.long qq), .second, .val (.long rr), .second, .val (.long bits), .second, .val (.long got), .second, .val (.long w), .second, .val (.long sq), .second, .unset, .unset] [(.long (8 : Int64)), (.long got)])) _
    refine XS.lmul X3.here hx rfl (hb hby at_65) rfl ?_
    rw [hn_low]
    show Steps p.tables e below (T3.setTop (mkF m 66 #[.val (.long q1), .second, .val (.int p2), .val (.long qq), .second, .val (.long rr), .second, .val (.long bits), .second, .val (.long got), .second, .val (.long w), .second, .val (.long sq), .second, .unset, .unset] [(.long low)])) _
    refine XS.lstore X3.here hx rfl (hb hby at_66) rfl (l' := #[.val (.long q1), .second, .val (.int p2), .val (.long qq), .second, .val (.long rr), .second, .val (.long bits), .second, .val (.long got), .second, .val (.long w), .second, .val (.long sq), .second, .val (.long low), .second]) rfl ?_
    show Steps p.tables e below (T3.setTop (mkF m 68 #[.val (.long q1), .second, .val (.int p2), .val (.long qq), .second, .val (.long rr), .second, .val (.long bits), .second, .val (.long got), .second, .val (.long w), .second, .val (.long sq), .second, .val (.long low), .second] [])) _
    refine XS.lload X3.here hx rfl (hb hby at_68) rfl ?_
    show Steps p.tables e below (T3.setTop (mkF m 70 #[.val (.long q1), .second, .val (.int p2), .val (.long qq), .second, .val (.long rr), .second, .val (.long bits), .second, .val (.long got), .second, .val (.long w), .second, .val (.long sq), .second, .val (.long low), .second] [(.long low)])) _
    refine XS.lload X3.here hx rfl (hb hby at_70) rfl ?_
    show Steps p.tables e below (T3.setTop (mkF m 72 #[.val (.long q1), .second, .val (.int p2), .val (.long qq), .second, .val (.long rr), .second, .val (.long bits), .second, .val (.long got), .second, .val (.long w), .second, .val (.long sq), .second, .val (.long low), .second] [(.long sq), (.long low)])) _
    refine XS.lcmp X3.here hx rfl (hb hby at_72) rfl ?_
    show Steps p.tables e below (T3.setTop (mkF m 73 #[.val (.long q1), .second, .val (.int p2), .val (.long qq), .second, .val (.long rr), .second, .val (.long bits), .second, .val (.long got), .second, .val (.long w), .second, .val (.long sq), .second, .val (.long low), .second] [(.int (lcmpW low sq))])) _
    refine XS.ifNo X3.here hx rfl (hb hby at_73) rfl ((if0 _ _).trans (flt (mt (lw_gt _ _).mp hc73)).2.2.1) ?_
    show Steps p.tables e below (T3.setTop (mkF m 76 #[.val (.long q1), .second, .val (.int p2), .val (.long qq), .second, .val (.long rr), .second, .val (.long bits), .second, .val (.long got), .second, .val (.long w), .second, .val (.long sq), .second, .val (.long low), .second] [])) _
    refine XS.lload X3.here hx rfl (hb hby at_76) rfl ?_
    show Steps p.tables e below (T3.setTop (mkF m 78 #[.val (.long q1), .second, .val (.int p2), .val (.long qq), .second, .val (.long rr), .second, .val (.long bits), .second, .val (.long got), .second, .val (.long w), .second, .val (.long sq), .second, .val (.long low), .second] [(.long sq)])) _
    refine XS.lload X3.here hx rfl (hb hby at_78) rfl ?_
    show Steps p.tables e below (T3.setTop (mkF m 80 #[.val (.long q1), .second, .val (.int p2), .val (.long qq), .second, .val (.long rr), .second, .val (.long bits), .second, .val (.long got), .second, .val (.long w), .second, .val (.long sq), .second, .val (.long low), .second] [(.long low), (.long sq)])) _
    refine X3.ldc2J hx hown (mvT hZ (hw _ (List.mem_of_getElem? (i := 9) rfl))) (g := (mkF m 80 #[.val (.long q1), .second, .val (.int p2), .val (.long qq), .second, .val (.long rr), .second, .val (.long bits), .second, .val (.long got), .second, .val (.long w), .second, .val (.long sq), .second, .val (.long low), .second] [(.long low), (.long sq)])) rfl (hb hby at_80) ?_
    show Steps p.tables e below (T3.setTop (mkF m 83 #[.val (.long q1), .second, .val (.int p2), .val (.long qq), .second, .val (.long rr), .second, .val (.long bits), .second, .val (.long got), .second, .val (.long w), .second, .val (.long sq), .second, .val (.long low), .second] [(.long (8 : Int64)), (.long low), (.long sq)])) _
    refine XS.ladd X3.here hx rfl (hb hby at_83) rfl ?_
    rw [hn_hi]
    show Steps p.tables e below (T3.setTop (mkF m 84 #[.val (.long q1), .second, .val (.int p2), .val (.long qq), .second, .val (.long rr), .second, .val (.long bits), .second, .val (.long got), .second, .val (.long w), .second, .val (.long sq), .second, .val (.long low), .second] [(.long hi), (.long sq)])) _
    refine XS.lcmp X3.here hx rfl (hb hby at_84) rfl ?_
    show Steps p.tables e below (T3.setTop (mkF m 85 #[.val (.long q1), .second, .val (.int p2), .val (.long qq), .second, .val (.long rr), .second, .val (.long bits), .second, .val (.long got), .second, .val (.long w), .second, .val (.long sq), .second, .val (.long low), .second] [(.int (lcmpW sq hi))])) _
    refine XS.ifNo X3.here hx rfl (hb hby at_85) rfl ((if0 _ _).trans (tlt ((lw_lt _ _).mpr hc85)).2.1) ?_
    show Steps p.tables e below (T3.setTop (mkF m 88 #[.val (.long q1), .second, .val (.int p2), .val (.long qq), .second, .val (.long rr), .second, .val (.long bits), .second, .val (.long got), .second, .val (.long w), .second, .val (.long sq), .second, .val (.long low), .second] [])) _
    refine XS.iconst X3.here hx rfl (hb hby at_88) ?_
    show Steps p.tables e below (T3.setTop (mkF m 89 #[.val (.long q1), .second, .val (.int p2), .val (.long qq), .second, .val (.long rr), .second, .val (.long bits), .second, .val (.long got), .second, .val (.long w), .second, .val (.long sq), .second, .val (.long low), .second] [(.int (1 : Int32))])) _
    refine XS.goto X3.here hx rfl (pc0 := 89) (pc' := 93) rfl (hb hby at_89) (by decide) (by decide) ?_
    show Steps p.tables e below (T3.setTop (mkF m 93 #[.val (.long q1), .second, .val (.int p2), .val (.long qq), .second, .val (.long rr), .second, .val (.long bits), .second, .val (.long got), .second, .val (.long w), .second, .val (.long sq), .second, .val (.long low), .second] [(.int (1 : Int32))])) _
    exact retN X3 hx (t := .boolean) Bd.returns (by simp) (hb hby at_93) hr
  · exact ⟨rfl, N3, e3⟩
theorem rmAll (l : Launch) (Z : State) (a0 : Array Value) (hw : ∀ d ∈ tables_1, d.before a0 Z = true) (ws : List Jvm.Cond) (q1 : Int64) (p2 : Int32) (h0 : Heap) (n0 : Nat) (Z0 : n0 ≤ h0.size) :
    MetFree l x (head1 (Jvm.Cond.code x code maxLocals ret :: ws) room_1) (fun a U => a = #[(.long q1), (.int p2)] ∧ Z.Warmed39 U.vm ∧ U.heap = h0) (fun _ _ _ _ _ => True) (fun _ U o U' => ∃ v L, o = .returned v ∧ QN (some (.int (1 : Int32))) h0 n0 v U'.heap L ∧ FrameEnd U o U' L room_1.cells room_1.slots) := by
  obtain ⟨qq, hn_qq⟩ : ∃ z, (q1 &&& (2147483647 : Int64)) = z := ⟨_, rfl⟩
  obtain ⟨rr, hn_rr⟩ : ∃ z, ((p2 &&& (63 : Int32)).toInt64) = z := ⟨_, rfl⟩
  obtain ⟨bits, hn_bits⟩ : ∃ z, ((qq * (64 : Int64)) + rr) = z := ⟨_, rfl⟩
  obtain ⟨ww_c3, hn_ww_c3⟩ : ∃ z, ((bits / (64 : Int64)) + (1 : Int64)) = z := ⟨_, rfl⟩
  obtain ⟨got, hn_got⟩ : ∃ z, ((ww_c3 * ww_c3) / (8 : Int64)) = z := ⟨_, rfl⟩
  obtain ⟨w, hn_w⟩ : ∃ z, (qq + (1 : Int64)) = z := ⟨_, rfl⟩
  obtain ⟨sq, hn_sq⟩ : ∃ z, (w * w) = z := ⟨_, rfl⟩
  obtain ⟨low, hn_low⟩ : ∃ z, (got * (8 : Int64)) = z := ⟨_, rfl⟩
  obtain ⟨hi, hn_hi⟩ : ∃ z, (low + (8 : Int64)) = z := ⟨_, rfl⟩
  obtain ⟨hc46, hc55, hc73, hc85⟩ := own_455 hn_qq hn_rr hn_bits hn_ww_c3 hn_got hn_w hn_sq hn_low hn_hi
  exact rm0 l Z a0 hw ws q1 p2 qq rr bits ww_c3 got w sq low hi h0 n0 Z0 hn_qq hn_rr hn_bits hn_ww_c3 hn_got hn_w hn_sq hc46 hc55 hn_low hc73 hn_hi hc85
set_option maxRecDepth 65536 in
set_option maxHeartbeats 40000000 in
theorem comes_1 {Post : Tables → Env → Array Value → State → Outcome → State → Prop} (hpost : ∀ tb e args s v u, (limb_1_1.after args s (.returned v) u = true ∧ limb_1_2.after args s (.returned v) u = true ∧ True) → FrameEnd s (.returned v) u (Jvm.fieldLocs frame_1_writes args s ++ Jvm.arrayLocs frame_1_arrays args s ++ Jvm.staticLocs frame_1_statics s) 0 0 → Post tb e args s (.returned v) u) :
    ArmFor flags0 classFile x code maxLocals ret World_1 tables_1 room_1 Calls_1 rest_1 Pre_1 Post := by
  intro l hfl _ _ p e ha hc hk s m args below hf hA hF happ hP
  obtain ⟨hcalls, hrest, hpre⟩ := hP
  obtain ⟨-, -, -, hnamed, -, -, -, hat⟩ := (Spec.applies_iff hf).mp happ
  obtain ⟨hg, hn⟩ := and_e (Cond.before_iff.mp (show (Jvm.Cond.and given_1 narrow_1).before args s = true from hpre))
  obtain ⟨hg0, hg⟩ := and_e hg
  obtain ⟨gA0, hg⟩ := and_e hg
  have gA1 := hg
  obtain ⟨w0, w1, rfl⟩ : ∃ w0 w1 : Value, args = #[w0, w1] := by
    have hs : args.size = 2 := by simpa [Cond.value, given_1] using hg0
    obtain ⟨L⟩ := args
    match L, hs with
    | [w0, w1], _ => exact ⟨w0, w1, rfl⟩
  have hw := fun d (hd : d ∈ tables_1) => atoms_spec (ws := Jvm.Cond.code x code maxLocals ret :: tables_1) hat d (List.mem_cons_of_mem _ hd)
  obtain ⟨i0, ei0⟩ := isL_v gA0
  obtain rfl : w0 = (.long i0) := Option.some.inj ei0
  obtain ⟨i1, ei1⟩ := is_v gA1
  obtain rfl : w1 = (.int i1) := Option.some.inj ei1
  obtain ⟨n, o, h1, h2, h3, _, L, rfl, ⟨rfl, N, -⟩, hq⟩ := rmAll l s _ hw tables_1 i0 i1 s.heap s.heap.size (Nat.le_refl _) p e ha hc hk s m _ below hf ((Spec.applies_iff_loose hf).mp happ).1 ⟨rfl, State.Warmed39.refl s, rfl⟩ trivial
  refine ⟨n, _, h1, h2, h3, hpost _ _ _ _ _ _ ⟨Cond.after_iff.mpr rfl, Cond.after_iff.mpr (eq_i res_at (Term.int_eval (1)) rfl), trivial⟩ ⟨hq.1, hq.2.1, (hq.2.2.sift fun y hy => Or.inr (N y hy)).mono (by decide) (by decide)⟩⟩
theorem main_1_1 : Claimed_1_1 := comes_1 fun _ _ _ _ _ _ h hF => ⟨h.1, hF⟩
theorem main_1_2 : Claimed_1_2 := comes_1 fun _ _ _ _ _ _ h hF => ⟨h.2.1, hF⟩
end Jvm.Pilot.@@N@@
namespace Jvm.Pilot.@@N@@
open Jvm Jvm.ClassFile Sem Op Lib Jvm.Free Jvm.Stand Jvm.Pilot.@@N@@.Jvm.D
/-! MADE BY PROGRAM (witnessworld.py) out of the Statement's table words and the real class files: 9 classes; the members and pool entries that the words name. The judged class is class 1, her method 1. -/
namespace start1
open Jvm.ClassFile
def u (s : String) : CpInfo := .utf8 (stringToUtf16 s)
/-- a pool by its gaps: so many unusable entries, then the entry; so many at the end -/
def gap : Nat → List CpInfo → List CpInfo
  | 0, r => r
  | n + 1, r => .unusable :: gap n r
def poolList (es : List (Nat × CpInfo)) (last : Nat) : List CpInfo := es.foldr (fun e r => gap e.1 (e.2 :: r)) (gap last [])
def pool (es : List (Nat × CpInfo)) (last : Nat) : Array CpInfo := ⟨poolList es last⟩
def fileOf (pool : Array CpInfo) (this : Nat) (attrs : Array Attribute := #[]) (ms : Array MethodInfo := #[]) (fl : Nat := 33) (sup : Nat := 0) (ifs : Array Nat := #[]) (fds : Array FieldInfo := #[]) : ClassFile where
  minorVersion := 0
  majorVersion := 65
  constantPool := pool
  accessFlags := fl
  thisClass := this
  superClass := sup
  interfaces := ifs
  fields := fds
  methods := ms
  attributes := attrs
def plain (name : String) (sup : Option ClassId) : Class where
  name := name
  kind := .ordinary
  loader := none
  accessFlags := 33
  super := sup
  interfaces := #[]
  cf := none
  fields := #[]
  methods := #[]
  instanceTypes := #[]
  staticTypes := #[]
  resolved := #[]
  callSites := []
  init := .initialized
  statics := none
  mirror := none

def pool0 : Array CpInfo := pool [(5, u "<init>"), (0, u "()V"), (1, .class_ 10), (1, u "java/lang/Object")] 113

def k0m0 : Method := { name := "<init>", desc := "()V", sig := { parameters := [], returnType := none }, accessFlags := 1, code := none }
/-- java/lang/Object -/
def k0 : Class := { plain "java/lang/Object" none with
  accessFlags := 33
  interfaces := #[]
  cf := some (fileOf pool0 8 #[] #[{ accessFlags := 1, nameIndex := 5, descriptorIndex := 6, attributes := #[] }] 33 0 #[] #[])
  fields := #[]
  methods := #[k0m0]
  instanceTypes := #[]
  staticTypes := #[]
  resolved := Array.replicate 124 none
  statics := none }

def pool1 : Array CpInfo := pool [(2, .class_ 4), (1, u "java/lang/Object"), (0, u "<init>"), (0, u "()V"), (0, .long 2147483647), (1, .long 64), (1, .methodref 12 13), (0, .class_ 14), (0, .nameAndType 15 16), (0, u "com/example/inline_to_value/inlinetovalue/conversion/Work"), (0, u "ofSquare"), (0, u "(J)J"), (0, .long 576460752303423488), (1, .long 8), (1, .class_ 22), (0, u "com/example/inline_to_value/inlinetovalue/conversion/WorkOfSquarePinLaw"), (2, u "law"), (0, u "(JI)Z")] 3

def k1m0 : Method := { name := "<init>", desc := "()V", sig := { parameters := [], returnType := none }, accessFlags := 2, code := none }
def k1c1 : Code := { maxStack := 6, maxLocals := 17, code := code, exceptionTable := #[], attributes := #[] }
def k1m1 : Method := { name := "law", desc := "(JI)Z", sig := { parameters := [.long, .int], returnType := some .boolean }, accessFlags := 9, code := some k1c1 }
/-- com/example/inline_to_value/inlinetovalue/conversion/WorkOfSquarePinLaw -/
def k1 : Class := { plain "com/example/inline_to_value/inlinetovalue/conversion/WorkOfSquarePinLaw" (some 0) with
  accessFlags := 49
  interfaces := #[]
  cf := some (fileOf pool1 21 #[] #[{ accessFlags := 2, nameIndex := 5, descriptorIndex := 6, attributes := #[] }, { accessFlags := 9, nameIndex := 25, descriptorIndex := 26, attributes := #[] }] 49 2 #[] #[])
  fields := #[]
  methods := #[k1m0, k1m1]
  instanceTypes := #[]
  staticTypes := #[]
  resolved := Array.replicate 30 none
  statics := none }

def pool2 : Array CpInfo := pool [(1, .class_ 2), (0, u "com/example/inline_to_value/inlinetovalue/conversion/Work"), (3, .class_ 8), (1, u "java/lang/Object"), (0, u "<init>"), (0, u "()V"), (2, u "SPENT"), (0, u "Ljava/lang/ThreadLocal;"), (77, .long 64), (1, .long 8), (7, u "ofSquare"), (0, u "(J)J"), (44, u "MAX_UNITS"), (0, u "I"), (2, u "KEEPING_UNITS"), (1, u "INDEXING_UNITS"), (1, u "ROW_UNITS"), (1, u "MAX_LIMIT"), (1, u "CHARACTERS_PER_UNIT"), (0, u "WORD_BITS"), (1, u "PRODUCTS_PER_UNIT"), (0, u "COUNT"), (1, u "BEYOND")] 40

def k2m0 : Method := { name := "<init>", desc := "()V", sig := { parameters := [], returnType := none }, accessFlags := 2, code := none }
def k2c1 : Code := { maxStack := 4, maxLocals := 4, code := prog_49_method_17_code, exceptionTable := #[], attributes := #[] }
def k2m1 : Method := { name := "ofSquare", desc := "(J)J", sig := { parameters := [.long], returnType := some .long }, accessFlags := 9, code := some k2c1 }
/-- com/example/inline_to_value/inlinetovalue/conversion/Work -/
def k2 : Class := { plain "com/example/inline_to_value/inlinetovalue/conversion/Work" (some 0) with
  accessFlags := 49
  interfaces := #[]
  cf := some (fileOf pool2 1 #[] #[{ accessFlags := 2, nameIndex := 9, descriptorIndex := 10, attributes := #[] }, { accessFlags := 9, nameIndex := 102, descriptorIndex := 103, attributes := #[] }] 49 6 #[] #[{ accessFlags := 25, nameIndex := 148, descriptorIndex := 149, attributes := #[] }, { accessFlags := 25, nameIndex := 152, descriptorIndex := 149, attributes := #[] }, { accessFlags := 25, nameIndex := 154, descriptorIndex := 149, attributes := #[] }, { accessFlags := 25, nameIndex := 156, descriptorIndex := 149, attributes := #[] }, { accessFlags := 25, nameIndex := 158, descriptorIndex := 149, attributes := #[] }, { accessFlags := 25, nameIndex := 160, descriptorIndex := 149, attributes := #[] }, { accessFlags := 25, nameIndex := 161, descriptorIndex := 149, attributes := #[] }, { accessFlags := 25, nameIndex := 163, descriptorIndex := 149, attributes := #[] }, { accessFlags := 26, nameIndex := 164, descriptorIndex := 149, attributes := #[] }, { accessFlags := 26, nameIndex := 166, descriptorIndex := 149, attributes := #[] }, { accessFlags := 26, nameIndex := 13, descriptorIndex := 14, attributes := #[] }])
  fields := #[{ name := "MAX_UNITS", type := .int, accessFlags := 25, slot := 0, constantValue := 0 }, { name := "KEEPING_UNITS", type := .int, accessFlags := 25, slot := 1, constantValue := 0 }, { name := "INDEXING_UNITS", type := .int, accessFlags := 25, slot := 2, constantValue := 0 }, { name := "ROW_UNITS", type := .int, accessFlags := 25, slot := 3, constantValue := 0 }, { name := "MAX_LIMIT", type := .int, accessFlags := 25, slot := 4, constantValue := 0 }, { name := "CHARACTERS_PER_UNIT", type := .int, accessFlags := 25, slot := 5, constantValue := 0 }, { name := "WORD_BITS", type := .int, accessFlags := 25, slot := 6, constantValue := 0 }, { name := "PRODUCTS_PER_UNIT", type := .int, accessFlags := 25, slot := 7, constantValue := 0 }, { name := "COUNT", type := .int, accessFlags := 26, slot := 8, constantValue := 0 }, { name := "BEYOND", type := .int, accessFlags := 26, slot := 9, constantValue := 0 }, { name := "SPENT", type := (.object "java/lang/ThreadLocal"), accessFlags := 26, slot := 10, constantValue := 0 }]
  methods := #[k2m0, k2m1]
  instanceTypes := #[]
  staticTypes := #[.int, .int, .int, .int, .int, .int, .int, .int, .int, .int, (.object "java/lang/ThreadLocal")]
  resolved := Array.replicate 207 none
  statics := none }

def pool3 : Array CpInfo := pool [(1, u "java/lang/Cloneable"), (0, .class_ 1), (0, u "java/lang/Object"), (0, .class_ 3)] 3

/-- java/lang/Cloneable -/
def k3 : Class := { plain "java/lang/Cloneable" (some 0) with
  accessFlags := 1537
  interfaces := #[]
  cf := some (fileOf pool3 2 #[] #[] 1537 4 #[] #[])
  fields := #[]
  methods := #[]
  instanceTypes := #[]
  staticTypes := #[]
  resolved := Array.replicate 8 none
  statics := none }

def pool4 : Array CpInfo := pool [(1, u "java/io/Serializable"), (0, .class_ 1), (0, u "java/lang/Object"), (0, .class_ 3)] 3

/-- java/io/Serializable -/
def k4 : Class := { plain "java/io/Serializable" (some 0) with
  accessFlags := 1537
  interfaces := #[]
  cf := some (fileOf pool4 2 #[] #[] 1537 4 #[] #[])
  fields := #[]
  methods := #[]
  instanceTypes := #[]
  staticTypes := #[]
  resolved := Array.replicate 8 none
  statics := none }

/-- the primitive byte -/
def k5 : Class := { plain "byte" none with kind := .primitive 'B', accessFlags := 0x411 }
/-- [B -/
def k6 : Class := { plain "[B" (some 0) with kind := .array 5 .byte, interfaces := #[3, 4], accessFlags := 1041 }

/-- the primitive int -/
def k7 : Class := { plain "int" none with kind := .primitive 'I', accessFlags := 0x411 }
/-- [I -/
def k8 : Class := { plain "[I" (some 0) with kind := .array 7 .int, interfaces := #[3, 4], accessFlags := 1041 }

def heap : Heap := #[]
def classes : Array Class := #[k0, k1, k2, k3, k4, k5, k6, k7, k8]
def interned : List (Array UInt16 × Addr) := []
def slotsUsed : Nat := 0
def theMethod : MethodId := ⟨1, 1⟩
def args0 : Array Value := #[.long 5, .int 3]
def aboutOver (below : List Frame) : State where
  vm := { classes := classes, interned := interned.toArray }
  heap := heap
  slotsUsed := slotsUsed
  threads := #[{ frames := .invoking theMethod args0 :: below }]
def below0 : List Frame := [.native { method := ⟨0, 0⟩, args := #[] }]
def about1 : State := aboutOver below0
def p0 : Program := .bare "" "" ""
def e0 : Env := launch0.env 0 0 0
theorem w_frames : about1.frames = Frame.invoking theMethod args0 :: below0 := rfl
set_option maxRecDepth 65536 in
theorem w_args : argsFit about1.vm theMethod args0 = true := by decide +kernel
set_option maxRecDepth 65536 in
theorem w_heap : heapFits about1 = true := by decide +kernel
set_option maxRecDepth 65536 in
theorem w_runnable : about1.curStatus? = some .runnable := by decide +kernel
set_option maxRecDepth 65536 in
theorem w_alone : about1.alone = true := by decide +kernel
set_option maxRecDepth 65536 in
theorem w_named : about1.methodNamed? x = some theMethod := by decide +kernel
set_option maxRecDepth 65536 in
theorem w_hears : about1.hears theMethod below0 = true := by decide +kernel
set_option maxRecDepth 65536 in
theorem w_ripe : about1.ripe theMethod args0 below0 = true := by decide +kernel
theorem w_running : about1.status = .running := rfl
set_option maxRecDepth 65536 in
theorem w_room : about1.hasRoom e0.platform room_1 = true :=
  launch0.hasRoom_least _ room_1 (by decide +kernel) (by decide +kernel) (by decide +kernel) (by decide +kernel) (by decide +kernel) (by decide +kernel)
theorem allAtoms_all (ts : List Jvm.Cond) (a : Array Jvm.Value) (st : Jvm.State) : (allAtoms ts).before a st = ts.all (fun c => c.before a st) := by
  induction ts with
  | nil => rfl
  | cons c t ih =>
    show (Jvm.Cond.and c (allAtoms t)).before a st = _
    rw [Jvm.Cond.before_and, ih, List.all_cons]
def words1 : List Jvm.Cond := Jvm.Cond.code x code maxLocals ret :: tables_1
/-- a 'code' word, met by the world's own term for the bytes: nothing is compared byte by byte -/
theorem code_word {y : MethodName} {bytes : ByteArray} {mx : Nat} {rt : Option FieldType} {a : Array Value} {s : State} {m : MethodId} {meth : Method} {c : Code} (h1 : s.methodNamed? y = some m) (h2 : s.vm.method? m = some meth) (h3 : meth.code = some c) (h4 : c.code = bytes)
    (h5 : (c.maxLocals == mx && c.exceptionTable.isEmpty && decide (c.maxStack ≤ mostOperands) && decide (meth.sig.returnType = rt) && !meth.locks && decide (parseMethodDescriptor y.desc = some meth.sig)) = true) : (Jvm.Cond.code y bytes mx rt).before a s = true := by
  simp only [Bool.and_eq_true, beq_iff_eq, Bool.not_eq_true', decide_eq_true_eq] at h5
  obtain ⟨⟨⟨⟨⟨g1, g2⟩, g3⟩, g4⟩, g5⟩, g6⟩ := h5
  simp [Cond.before, Cond.holds, Cond.value, h1, h2, h3, h4, g1, g2, g3, g4, g5, g6]
def isCode : Jvm.Cond → Bool
  | .code _ _ _ _ => true
  | _ => false
theorem all_split {L : List Jvm.Cond} {P : Jvm.Cond → Bool} (h1 : L.all (fun c => isCode c || P c) = true) (h2 : ∀ c ∈ L.filter isCode, P c = true) : L.all P = true := by
  refine List.all_eq_true.mpr fun c hc => ?_
  have h := List.all_eq_true.mp h1 c hc
  rcases Bool.eq_false_or_eq_true (isCode c) with hi | hi
  · exact h2 c (List.mem_filter.mpr ⟨hc, hi⟩)
  · simpa [hi] using h
set_option maxRecDepth 65536 in
theorem w_c0 : (Jvm.Cond.code x code maxLocals ret).before args0 about1 = true := code_word (m := ⟨1, 1⟩) (meth := k1m1) (c := k1c1) (by decide +kernel) rfl rfl rfl (by decide +kernel)
set_option maxRecDepth 65536 in
theorem w_c1 : (Jvm.Cond.code ({ cls := "com/example/inline_to_value/inlinetovalue/conversion/Work", name := "ofSquare", desc := "(J)J" } : Jvm.MethodName) prog_49_method_17_code (4 : Nat) (Option.some Jvm.ClassFile.FieldType.long)).before args0 about1 = true := code_word (m := ⟨2, 1⟩) (meth := k2m1) (c := k2c1) (by decide +kernel) rfl rfl rfl (by decide +kernel)
def codes1 : List Jvm.Cond := [Jvm.Cond.code x code maxLocals ret, Jvm.Cond.code ({ cls := "com/example/inline_to_value/inlinetovalue/conversion/Work", name := "ofSquare", desc := "(J)J" } : Jvm.MethodName) prog_49_method_17_code (4 : Nat) (Option.some Jvm.ClassFile.FieldType.long)]
set_option maxRecDepth 65536 in
theorem codes_eq : words1.filter isCode = codes1 := rfl
theorem w_codes : ∀ c ∈ words1.filter isCode, c.before args0 about1 = true := by
  rw [codes_eq]
  intro c hc
  simp only [codes1, List.mem_cons, List.not_mem_nil, or_false] at hc
  rcases hc with rfl | rfl
  · exact w_c0
  · exact w_c1
set_option maxRecDepth 65536 in
theorem w_t1 : words1.all (fun c => isCode c || c.before args0 about1) = true := by decide +kernel
theorem w_tables : (allAtoms (Jvm.Cond.code x code maxLocals ret :: tables_1)).before args0 about1 = true := by
  rw [allAtoms_all]
  show words1.all (fun c => c.before args0 about1) = true
  refine all_split ?_ w_codes
  rw [w_t1]
set_option maxRecDepth 65536 in
theorem w_case : (Jvm.Cond.and given_1 narrow_1).before args0 about1 = true := by decide +kernel
theorem w_applies : (headSpec (Jvm.Cond.code x code maxLocals ret :: tables_1) room_1).applies x e0.platform about1 = true :=
  (Spec.applies_iff w_frames).mpr ⟨w_running, w_runnable, w_alone, w_named, w_hears, w_ripe, w_room, w_tables⟩
theorem atStart : AtStart classFile x code maxLocals ret World_1 tables_1 room_1 Calls_1 rest_1 Pre_1 launch0 p0 e0 about1 theMethod args0 below0 :=
  ⟨lists_1, trivial, launch0.admits_env _ _ _, launch0.least_env, fairChoices_fair.cas, fairChoices_fair.clock, w_frames, w_args, w_heap, w_applies, trivial, trivial, w_case⟩
end start1
theorem witness_1 : WitnessClaimed_1 := ⟨start1.p0, start1.e0, start1.about1, start1.theMethod, start1.args0, start1.below0, start1.atStart⟩
end Jvm.Pilot.@@N@@
