import JvmDerived
import JvmDerived.Pilot.@@N@@Statement
import JvmDerived.Pilot.@@N@@Code
set_option linter.unusedVariables false
set_option linter.unusedSimpArgs false
namespace Jvm.RoadKit
open Sem ClassFile Op Lib Jvm.Stand Jvm.Free Jvm.LawKit
section New
variable {p : Program} {l : Launch} {e : Env} {R : Room} {s : State} {m : MethodId} {args : Array Value} {below : List Frame} {meth : Method} {c : Code} {T : State} {locs : List Loc} {cells slots : Nat}
theorem retI (X : Stand p l e R s m args below meth c T locs cells slots) (hx : p.tables.exec = Jvm.exec) {pc : Nat} {Ls : Array Slot} {z : Int32} {rest : List Value} (hret : meth.sig.returnType = some .int) (hd : decode c.code pc = .ok (.ireturn, 1)) {fs : List Frame}
    (hl : ∀ (f : JFrame) (acts : List Action), f.method = m → f.locked = none → f.entered = [] → (doReturn e (T.setTop f) acts (some (.int z))).1 = T.setFrames fs) : Steps p.tables e below (T.setTop (mkF m pc Ls (.int z :: rest))) (T.setFrames fs) := by
  have hm' : T.vm.method? m = some meth := X.method'
  have hn : narrow .int (.int z) = .int z := rfl
  show Steps p.tables e below (T.setTop { method := m, pc := pc, locals := Ls, stack := _ :: rest, locked := none }) _
  jvm_step X.here [X.here.top, hx, hd, hm', hret, hn]
  first | (intro acts; rw [hl _ acts rfl rfl rfl]) | rw [hl _ _ rfl rfl rfl]
  exact Steps.refl _
end New
end Jvm.RoadKit
namespace Jvm.Pilot.@@N@@
open Jvm Jvm.ClassFile Sem Op Lib Jvm.Free Jvm.Stand Jvm.LawKit Jvm.RoadKit Bundle Jvm.Pilot.@@N@@.Jvm.D
/-- what a body that writes nothing leaves -/
def QN (w : Option Value) (h0 : Heap) (n0 : Nat) (v : Option Value) (h : Heap) (L : List Loc) : Prop := v = w ∧ Fr n0 L ∧ h = h0
theorem own_ltI {a b : Int32} (h : a.toInt < b.toInt) : a < b := Int32.lt_iff_toInt_lt.mpr h
theorem own_geI {a b : Int32} (h : b.toInt ≤ a.toInt) : ¬ a < b := fun q => by have := Int32.lt_iff_toInt_lt.mp q; omega
theorem own_eqI {a b : Int32} (h : a.toInt = b.toInt) : a = b := Int32.toInt_inj.mp h
theorem own_neI {a b : Int32} (h : a.toInt ≠ b.toInt) : ¬ a = b := fun q => h (congrArg _ q)
theorem own_ltL {a b : Int64} (h : a.toInt < b.toInt) : a < b := Int64.lt_iff_toInt_lt.mpr h
theorem own_geL {a b : Int64} (h : b.toInt ≤ a.toInt) : ¬ a < b := fun q => by have := Int64.lt_iff_toInt_lt.mp q; omega
theorem own_eqL {a b : Int64} (h : a.toInt = b.toInt) : a = b := Int64.toInt_inj.mp h
theorem own_neL {a b : Int64} (h : a.toInt ≠ b.toInt) : ¬ a = b := fun q => h (congrArg _ q)
theorem own_irrI (a : Int32) : ¬ a < a := own_geI (by omega)
theorem own_irrL (a : Int64) : ¬ a < a := own_geL (by omega)
theorem own_irem (x y : Int32) : x - (x / y) * y = x % y := by
  apply Int32.toInt_inj.mp
  have h1 := Int32.le_toInt (x % y)
  have h2 := Int32.toInt_lt (x % y)
  rw [Int32.toInt_sub, Int32.toInt_mul, Int32.toInt_div, Int.bmod_mul_bmod, Int.sub_bmod_bmod, Int.mul_comm (x.toInt.tdiv y.toInt), ← Int.tmod_def, ← Int32.toInt_mod]
  exact Int.bmod_eq_of_le_mul_two (by omega) (by omega)
theorem own_fld {args : Array Value} {s : State} {t : Term} {n : Int32} (h : (Cond.eq t (.int n)).value args s none s [] = some true) : t.eval args s none [] s = some (.int n) := by
  obtain ⟨x, y, h1, h2, k1, k2⟩ := cmp_v (Or.inl h)
  have h3 : y = .int n := (Option.some.inj h2).symm
  subst h3
  obtain ⟨z, rfl⟩ := k2
  have h4 := gotT (Cond.eq_ints h1 h2) h
  rw [h1, h4]
theorem own_fldL {args : Array Value} {s : State} {t : Term} {n : Int64} (h : (Cond.eq t (.long n)).value args s none s [] = some true) : t.eval args s none [] s = some (.long n) := by
  obtain ⟨x, y, h1, h2, k1, k2⟩ := cmp_v (Or.inl h)
  have h3 : y = .long n := (Option.some.inj h2).symm
  subst h3
  obtain ⟨z, rfl⟩ := k2
  have h4 := gotT (eq_L h1 h2) h
  rw [h1, h4]
theorem own_ne {args : Array Value} {s : State} {t u : Term} {a b : Addr} {C n d : String} {i j : Int32} (ht : t.eval args s none [] s = some (.ref a)) (hu : u.eval args s none [] s = some (.ref b)) (h1 : (Cond.eq (.field t C n d) (.int i)).value args s none s [] = some true) (h2 : (Cond.eq (.field u C n d) (.int j)).value args s none s [] = some true) (hij : i ≠ j) : ¬ a = b := fun q => by
  subst q
  have e1 := own_fld h1
  have e2 := own_fld h2
  rw [fld_at ht] at e1
  rw [fld_at hu, e1] at e2
  exact hij (Value.int.inj (Option.some.inj e2))

def own_in (x lo hi : Int32) : Int32 := if lo.toInt ≤ x.toInt ∧ x.toInt ≤ hi.toInt then 1 else 0
theorem own_in_z {x lo hi : Int32} (h : own_in x lo hi = 0) : ¬ (lo.toInt ≤ x.toInt ∧ x.toInt ≤ hi.toInt) := fun q => by
  unfold own_in at h; rw [if_pos q] at h; exact absurd h (by decide)
theorem own_in_nz {x lo hi : Int32} (h : ¬ own_in x lo hi = 0) : lo.toInt ≤ x.toInt ∧ x.toInt ≤ hi.toInt := by
  by_cases q : lo.toInt ≤ x.toInt ∧ x.toInt ≤ hi.toInt
  · exact q
  · unfold own_in at h; rw [if_neg q] at h; exact absurd rfl h
theorem own_dif (x y : Int32) : (x.toInt64 - y.toInt64).toInt = x.toInt - y.toInt := by
  have h := c_lsub x.toInt64 y.toInt64
  rw [c_i2l, c_i2l] at h
  have h1 := rng64 (x.toInt64 - y.toInt64)
  have h2 := rng32 x
  have h3 := rng32 y
  omega
theorem d1_0 : decode method_2_code 0 = .ok (.iload_n 0, 1) := by decide +kernel
theorem d1_1 : decode method_2_code 1 = .ok (.i2l, 1) := by decide +kernel
theorem d1_2 : decode method_2_code 2 = .ok (.iload_n 1, 1) := by decide +kernel
theorem d1_3 : decode method_2_code 3 = .ok (.i2l, 1) := by decide +kernel
theorem d1_4 : decode method_2_code 4 = .ok (.lsub, 1) := by decide +kernel
theorem d1_5 : decode method_2_code 5 = .ok (.lstore_n 3, 1) := by decide +kernel
theorem d1_6 : decode method_2_code 6 = .ok (.lload_n 3, 1) := by decide +kernel
theorem d1_7 : decode method_2_code 7 = .ok (.lconst 0, 1) := by decide +kernel
theorem d1_8 : decode method_2_code 8 = .ok (.lcmp, 1) := by decide +kernel
theorem d1_9 : decode method_2_code 9 = .ok (.ifCond .lt 17, 3) := by decide +kernel
theorem d1_26 : decode method_2_code 26 = .ok (.iconst 0, 1) := by decide +kernel
theorem d1_27 : decode method_2_code 27 = .ok (.ireturn, 1) := by decide +kernel
theorem pn_1 : plainName "com/example/liana/liana/rdf/TurtleGrammarIsNameCharacterPinLaw" = true := by first | (simp [plainName, overriddenIn]; done) | decide +kernel
theorem ef_1 (m : MethodId) (x0 : Int32) (x1 : Int32) (x2 : Int32) : entryFrame m #[(.int x0), (.int x1), (.int x2)] 5 = mkF m 0 #[.val (.int x0), .val (.int x1), .val (.int x2), .unset, .unset] [] := by first | (simp [entryFrame, mkF, argsToLocals, Value.category]; done) | rfl
set_option maxRecDepth 65536 in
set_option maxHeartbeats 40000000 in
theorem rm1_t (l : Launch) (Z : State) (a0 : Array Value) (hw : ∀ d ∈ tables_1, d.before a0 Z = true) (ws : List Jvm.Cond) (p1 : Int32) (p2 : Int32) (p3 : Int32) (h0 : Heap) (n0 : Nat) (Z0 : n0 ≤ h0.size) (hc9 : ((p1.toInt64) - (p2.toInt64)) < (0 : Int64)) :
    MetFree l (⟨"com/example/liana/liana/rdf/TurtleGrammarIsNameCharacterPinLaw", "within", "(III)Z"⟩ : MethodName) (head1 (Jvm.Cond.code (⟨"com/example/liana/liana/rdf/TurtleGrammarIsNameCharacterPinLaw", "within", "(III)Z"⟩ : MethodName) method_2_code 5 (some .boolean) :: ws) ({ frames := 0, cells := 0, slots := 0, locals := 0 } : Room)) (fun a U => a = #[(.int p1), (.int p2), (.int p3)] ∧ Z.Warmed39 U.vm ∧ U.heap = h0) (fun _ _ _ _ _ => True) (fun _ U o U' => ∃ v L, o = .returned v ∧ QN (some (.int (0 : Int32))) h0 n0 v U'.heap L ∧ FrameEnd U o U' L ({ frames := 0, cells := 0, slots := 0, locals := 0 } : Room).cells ({ frames := 0, cells := 0, slots := 0, locals := 0 } : Room).slots) := by
  refine MetFree.of_bodySF (plainFor_of_name pn_1) hisR ?_
  intro p e s m args below meth c s₁ Bd hml0 hP hK
  obtain ⟨rfl, hZ, hh⟩ := hP
  have hx := Bd.exec
  have hby := Bd.bytes
  have hml : c.maxLocals = 5 := hml0
  have hown : s.vm.findClass "com/example/liana/liana/rdf/TurtleGrammarIsNameCharacterPinLaw" = some m.cls := findClass_of_methodNamed Bd.named
  have hnm := (name_of_methodNamed Bd.named Bd.method).1
  have X0 : Stand p l e ({ frames := 0, cells := 0, slots := 0, locals := 0 } : Room) s m #[(.int p1), (.int p2), (.int p3)] below meth c s₁ [] 0 0 := Stand.of_body Bd
  have e0 : s₁.heap = h0 := by rw [← hh, Bd.state]; rfl
  have N0 := Fr.nil n0
  have pre0 : ∀ t, Steps p.tables e below (s₁.setTop (mkF m 0 #[.val (.int p1), .val (.int p2), .val (.int p3), .unset, .unset] [])) t → Steps p.tables e below (s₁.setTop (entryFrame m #[(.int p1), (.int p2), (.int p3)] 5)) t := fun t k => castTop (ef_1 m p1 p2 p3) k
  obtain ⟨fs, hr, hrun, hended, hW, hsame⟩ := X0.leave (v := some (.int (0 : Int32))) (fun h => by rw [Bd.returns] at h; cases h)
  refine ⟨_, _, pre0 _ ?_, hrun, hended, _, _, rfl, ?_, ⟨_, rfl⟩, hW, hsame.mono (by decide) (by decide)⟩
  · show Steps p.tables e below (s₁.setTop (mkF m 0 #[.val (.int p1), .val (.int p2), .val (.int p3), .unset, .unset] [])) _
    refine XS.iloadN X0.here hx rfl (hb hby d1_0) rfl ?_
    show Steps p.tables e below (s₁.setTop (mkF m 1 #[.val (.int p1), .val (.int p2), .val (.int p3), .unset, .unset] [(.int p1)])) _
    refine XS.i2l X0.here hx rfl (hb hby d1_1) rfl ?_
    show Steps p.tables e below (s₁.setTop (mkF m 2 #[.val (.int p1), .val (.int p2), .val (.int p3), .unset, .unset] [(.long (p1.toInt64))])) _
    refine XS.iloadN X0.here hx rfl (hb hby d1_2) rfl ?_
    show Steps p.tables e below (s₁.setTop (mkF m 3 #[.val (.int p1), .val (.int p2), .val (.int p3), .unset, .unset] [(.int p2), (.long (p1.toInt64))])) _
    refine XS.i2l X0.here hx rfl (hb hby d1_3) rfl ?_
    show Steps p.tables e below (s₁.setTop (mkF m 4 #[.val (.int p1), .val (.int p2), .val (.int p3), .unset, .unset] [(.long (p2.toInt64)), (.long (p1.toInt64))])) _
    refine XS.lsub X0.here hx rfl (hb hby d1_4) rfl ?_
    show Steps p.tables e below (s₁.setTop (mkF m 5 #[.val (.int p1), .val (.int p2), .val (.int p3), .unset, .unset] [(.long ((p1.toInt64) - (p2.toInt64)))])) _
    refine XS.lstoreN X0.here hx rfl (hb hby d1_5) rfl (l' := #[.val (.int p1), .val (.int p2), .val (.int p3), .val (.long ((p1.toInt64) - (p2.toInt64))), .second]) rfl ?_
    show Steps p.tables e below (s₁.setTop (mkF m 6 #[.val (.int p1), .val (.int p2), .val (.int p3), .val (.long ((p1.toInt64) - (p2.toInt64))), .second] [])) _
    refine XS.lloadN X0.here hx rfl (hb hby d1_6) rfl ?_
    show Steps p.tables e below (s₁.setTop (mkF m 7 #[.val (.int p1), .val (.int p2), .val (.int p3), .val (.long ((p1.toInt64) - (p2.toInt64))), .second] [(.long ((p1.toInt64) - (p2.toInt64)))])) _
    refine XS.lconst X0.here hx rfl (hb hby d1_7) ?_
    show Steps p.tables e below (s₁.setTop (mkF m 8 #[.val (.int p1), .val (.int p2), .val (.int p3), .val (.long ((p1.toInt64) - (p2.toInt64))), .second] [(.long (0 : Int64)), (.long ((p1.toInt64) - (p2.toInt64)))])) _
    refine XS.lcmp X0.here hx rfl (hb hby d1_8) rfl ?_
    show Steps p.tables e below (s₁.setTop (mkF m 9 #[.val (.int p1), .val (.int p2), .val (.int p3), .val (.long ((p1.toInt64) - (p2.toInt64))), .second] [(.int (lcmpW ((p1.toInt64) - (p2.toInt64)) (0 : Int64)))])) _
    refine XS.ifYes X0.here hx rfl (pc0 := 9) (pc' := 26) rfl (hb hby d1_9) rfl ((if0 _ _).trans (tlt ((lw_lt _ _).mpr hc9)).1) (by decide) (by decide) ?_
    show Steps p.tables e below (s₁.setTop (mkF m 26 #[.val (.int p1), .val (.int p2), .val (.int p3), .val (.long ((p1.toInt64) - (p2.toInt64))), .second] [])) _
    refine XS.iconst X0.here hx rfl (hb hby d1_26) ?_
    show Steps p.tables e below (s₁.setTop (mkF m 27 #[.val (.int p1), .val (.int p2), .val (.int p3), .val (.long ((p1.toInt64) - (p2.toInt64))), .second] [(.int (0 : Int32))])) _
    exact retN X0 hx (t := .boolean) Bd.returns (by simp) (hb hby d1_27) hr
  · exact ⟨rfl, N0, e0⟩
theorem d1_12 : decode method_2_code 12 = .ok (.lload_n 3, 1) := by decide +kernel
theorem d1_13 : decode method_2_code 13 = .ok (.iload_n 2, 1) := by decide +kernel
theorem d1_14 : decode method_2_code 14 = .ok (.i2l, 1) := by decide +kernel
theorem d1_15 : decode method_2_code 15 = .ok (.iload_n 1, 1) := by decide +kernel
theorem d1_16 : decode method_2_code 16 = .ok (.i2l, 1) := by decide +kernel
theorem d1_17 : decode method_2_code 17 = .ok (.lsub, 1) := by decide +kernel
theorem d1_18 : decode method_2_code 18 = .ok (.lcmp, 1) := by decide +kernel
theorem d1_19 : decode method_2_code 19 = .ok (.ifCond .gt 7, 3) := by decide +kernel
set_option maxRecDepth 65536 in
set_option maxHeartbeats 40000000 in
theorem rm1_ft (l : Launch) (Z : State) (a0 : Array Value) (hw : ∀ d ∈ tables_1, d.before a0 Z = true) (ws : List Jvm.Cond) (p1 : Int32) (p2 : Int32) (p3 : Int32) (h0 : Heap) (n0 : Nat) (Z0 : n0 ≤ h0.size) (hc9 : ¬ (((p1.toInt64) - (p2.toInt64)) < (0 : Int64))) (hc19 : ((p3.toInt64) - (p2.toInt64)) < ((p1.toInt64) - (p2.toInt64))) :
    MetFree l (⟨"com/example/liana/liana/rdf/TurtleGrammarIsNameCharacterPinLaw", "within", "(III)Z"⟩ : MethodName) (head1 (Jvm.Cond.code (⟨"com/example/liana/liana/rdf/TurtleGrammarIsNameCharacterPinLaw", "within", "(III)Z"⟩ : MethodName) method_2_code 5 (some .boolean) :: ws) ({ frames := 0, cells := 0, slots := 0, locals := 0 } : Room)) (fun a U => a = #[(.int p1), (.int p2), (.int p3)] ∧ Z.Warmed39 U.vm ∧ U.heap = h0) (fun _ _ _ _ _ => True) (fun _ U o U' => ∃ v L, o = .returned v ∧ QN (some (.int (0 : Int32))) h0 n0 v U'.heap L ∧ FrameEnd U o U' L ({ frames := 0, cells := 0, slots := 0, locals := 0 } : Room).cells ({ frames := 0, cells := 0, slots := 0, locals := 0 } : Room).slots) := by
  refine MetFree.of_bodySF (plainFor_of_name pn_1) hisR ?_
  intro p e s m args below meth c s₁ Bd hml0 hP hK
  obtain ⟨rfl, hZ, hh⟩ := hP
  have hx := Bd.exec
  have hby := Bd.bytes
  have hml : c.maxLocals = 5 := hml0
  have hown : s.vm.findClass "com/example/liana/liana/rdf/TurtleGrammarIsNameCharacterPinLaw" = some m.cls := findClass_of_methodNamed Bd.named
  have hnm := (name_of_methodNamed Bd.named Bd.method).1
  have X0 : Stand p l e ({ frames := 0, cells := 0, slots := 0, locals := 0 } : Room) s m #[(.int p1), (.int p2), (.int p3)] below meth c s₁ [] 0 0 := Stand.of_body Bd
  have e0 : s₁.heap = h0 := by rw [← hh, Bd.state]; rfl
  have N0 := Fr.nil n0
  have pre0 : ∀ t, Steps p.tables e below (s₁.setTop (mkF m 0 #[.val (.int p1), .val (.int p2), .val (.int p3), .unset, .unset] [])) t → Steps p.tables e below (s₁.setTop (entryFrame m #[(.int p1), (.int p2), (.int p3)] 5)) t := fun t k => castTop (ef_1 m p1 p2 p3) k
  obtain ⟨fs, hr, hrun, hended, hW, hsame⟩ := X0.leave (v := some (.int (0 : Int32))) (fun h => by rw [Bd.returns] at h; cases h)
  refine ⟨_, _, pre0 _ ?_, hrun, hended, _, _, rfl, ?_, ⟨_, rfl⟩, hW, hsame.mono (by decide) (by decide)⟩
  · show Steps p.tables e below (s₁.setTop (mkF m 0 #[.val (.int p1), .val (.int p2), .val (.int p3), .unset, .unset] [])) _
    refine XS.iloadN X0.here hx rfl (hb hby d1_0) rfl ?_
    show Steps p.tables e below (s₁.setTop (mkF m 1 #[.val (.int p1), .val (.int p2), .val (.int p3), .unset, .unset] [(.int p1)])) _
    refine XS.i2l X0.here hx rfl (hb hby d1_1) rfl ?_
    show Steps p.tables e below (s₁.setTop (mkF m 2 #[.val (.int p1), .val (.int p2), .val (.int p3), .unset, .unset] [(.long (p1.toInt64))])) _
    refine XS.iloadN X0.here hx rfl (hb hby d1_2) rfl ?_
    show Steps p.tables e below (s₁.setTop (mkF m 3 #[.val (.int p1), .val (.int p2), .val (.int p3), .unset, .unset] [(.int p2), (.long (p1.toInt64))])) _
    refine XS.i2l X0.here hx rfl (hb hby d1_3) rfl ?_
    show Steps p.tables e below (s₁.setTop (mkF m 4 #[.val (.int p1), .val (.int p2), .val (.int p3), .unset, .unset] [(.long (p2.toInt64)), (.long (p1.toInt64))])) _
    refine XS.lsub X0.here hx rfl (hb hby d1_4) rfl ?_
    show Steps p.tables e below (s₁.setTop (mkF m 5 #[.val (.int p1), .val (.int p2), .val (.int p3), .unset, .unset] [(.long ((p1.toInt64) - (p2.toInt64)))])) _
    refine XS.lstoreN X0.here hx rfl (hb hby d1_5) rfl (l' := #[.val (.int p1), .val (.int p2), .val (.int p3), .val (.long ((p1.toInt64) - (p2.toInt64))), .second]) rfl ?_
    show Steps p.tables e below (s₁.setTop (mkF m 6 #[.val (.int p1), .val (.int p2), .val (.int p3), .val (.long ((p1.toInt64) - (p2.toInt64))), .second] [])) _
    refine XS.lloadN X0.here hx rfl (hb hby d1_6) rfl ?_
    show Steps p.tables e below (s₁.setTop (mkF m 7 #[.val (.int p1), .val (.int p2), .val (.int p3), .val (.long ((p1.toInt64) - (p2.toInt64))), .second] [(.long ((p1.toInt64) - (p2.toInt64)))])) _
    refine XS.lconst X0.here hx rfl (hb hby d1_7) ?_
    show Steps p.tables e below (s₁.setTop (mkF m 8 #[.val (.int p1), .val (.int p2), .val (.int p3), .val (.long ((p1.toInt64) - (p2.toInt64))), .second] [(.long (0 : Int64)), (.long ((p1.toInt64) - (p2.toInt64)))])) _
    refine XS.lcmp X0.here hx rfl (hb hby d1_8) rfl ?_
    show Steps p.tables e below (s₁.setTop (mkF m 9 #[.val (.int p1), .val (.int p2), .val (.int p3), .val (.long ((p1.toInt64) - (p2.toInt64))), .second] [(.int (lcmpW ((p1.toInt64) - (p2.toInt64)) (0 : Int64)))])) _
    refine XS.ifNo X0.here hx rfl (hb hby d1_9) rfl ((if0 _ _).trans (flt (mt (lw_lt _ _).mp hc9)).1) ?_
    show Steps p.tables e below (s₁.setTop (mkF m 12 #[.val (.int p1), .val (.int p2), .val (.int p3), .val (.long ((p1.toInt64) - (p2.toInt64))), .second] [])) _
    refine XS.lloadN X0.here hx rfl (hb hby d1_12) rfl ?_
    show Steps p.tables e below (s₁.setTop (mkF m 13 #[.val (.int p1), .val (.int p2), .val (.int p3), .val (.long ((p1.toInt64) - (p2.toInt64))), .second] [(.long ((p1.toInt64) - (p2.toInt64)))])) _
    refine XS.iloadN X0.here hx rfl (hb hby d1_13) rfl ?_
    show Steps p.tables e below (s₁.setTop (mkF m 14 #[.val (.int p1), .val (.int p2), .val (.int p3), .val (.long ((p1.toInt64) - (p2.toInt64))), .second] [(.int p3), (.long ((p1.toInt64) - (p2.toInt64)))])) _
    refine XS.i2l X0.here hx rfl (hb hby d1_14) rfl ?_
    show Steps p.tables e below (s₁.setTop (mkF m 15 #[.val (.int p1), .val (.int p2), .val (.int p3), .val (.long ((p1.toInt64) - (p2.toInt64))), .second] [(.long (p3.toInt64)), (.long ((p1.toInt64) - (p2.toInt64)))])) _
    refine XS.iloadN X0.here hx rfl (hb hby d1_15) rfl ?_
    show Steps p.tables e below (s₁.setTop (mkF m 16 #[.val (.int p1), .val (.int p2), .val (.int p3), .val (.long ((p1.toInt64) - (p2.toInt64))), .second] [(.int p2), (.long (p3.toInt64)), (.long ((p1.toInt64) - (p2.toInt64)))])) _
    refine XS.i2l X0.here hx rfl (hb hby d1_16) rfl ?_
    show Steps p.tables e below (s₁.setTop (mkF m 17 #[.val (.int p1), .val (.int p2), .val (.int p3), .val (.long ((p1.toInt64) - (p2.toInt64))), .second] [(.long (p2.toInt64)), (.long (p3.toInt64)), (.long ((p1.toInt64) - (p2.toInt64)))])) _
    refine XS.lsub X0.here hx rfl (hb hby d1_17) rfl ?_
    show Steps p.tables e below (s₁.setTop (mkF m 18 #[.val (.int p1), .val (.int p2), .val (.int p3), .val (.long ((p1.toInt64) - (p2.toInt64))), .second] [(.long ((p3.toInt64) - (p2.toInt64))), (.long ((p1.toInt64) - (p2.toInt64)))])) _
    refine XS.lcmp X0.here hx rfl (hb hby d1_18) rfl ?_
    show Steps p.tables e below (s₁.setTop (mkF m 19 #[.val (.int p1), .val (.int p2), .val (.int p3), .val (.long ((p1.toInt64) - (p2.toInt64))), .second] [(.int (lcmpW ((p1.toInt64) - (p2.toInt64)) ((p3.toInt64) - (p2.toInt64))))])) _
    refine XS.ifYes X0.here hx rfl (pc0 := 19) (pc' := 26) rfl (hb hby d1_19) rfl ((if0 _ _).trans (tlt ((lw_gt _ _).mpr hc19)).2.2.1) (by decide) (by decide) ?_
    show Steps p.tables e below (s₁.setTop (mkF m 26 #[.val (.int p1), .val (.int p2), .val (.int p3), .val (.long ((p1.toInt64) - (p2.toInt64))), .second] [])) _
    refine XS.iconst X0.here hx rfl (hb hby d1_26) ?_
    show Steps p.tables e below (s₁.setTop (mkF m 27 #[.val (.int p1), .val (.int p2), .val (.int p3), .val (.long ((p1.toInt64) - (p2.toInt64))), .second] [(.int (0 : Int32))])) _
    exact retN X0 hx (t := .boolean) Bd.returns (by simp) (hb hby d1_27) hr
  · exact ⟨rfl, N0, e0⟩
theorem d1_22 : decode method_2_code 22 = .ok (.iconst 1, 1) := by decide +kernel
theorem d1_23 : decode method_2_code 23 = .ok (.goto 4, 3) := by decide +kernel
set_option maxRecDepth 65536 in
set_option maxHeartbeats 40000000 in
theorem rm1_ff (l : Launch) (Z : State) (a0 : Array Value) (hw : ∀ d ∈ tables_1, d.before a0 Z = true) (ws : List Jvm.Cond) (p1 : Int32) (p2 : Int32) (p3 : Int32) (h0 : Heap) (n0 : Nat) (Z0 : n0 ≤ h0.size) (hc9 : ¬ (((p1.toInt64) - (p2.toInt64)) < (0 : Int64))) (hc19 : ¬ (((p3.toInt64) - (p2.toInt64)) < ((p1.toInt64) - (p2.toInt64)))) :
    MetFree l (⟨"com/example/liana/liana/rdf/TurtleGrammarIsNameCharacterPinLaw", "within", "(III)Z"⟩ : MethodName) (head1 (Jvm.Cond.code (⟨"com/example/liana/liana/rdf/TurtleGrammarIsNameCharacterPinLaw", "within", "(III)Z"⟩ : MethodName) method_2_code 5 (some .boolean) :: ws) ({ frames := 0, cells := 0, slots := 0, locals := 0 } : Room)) (fun a U => a = #[(.int p1), (.int p2), (.int p3)] ∧ Z.Warmed39 U.vm ∧ U.heap = h0) (fun _ _ _ _ _ => True) (fun _ U o U' => ∃ v L, o = .returned v ∧ QN (some (.int (1 : Int32))) h0 n0 v U'.heap L ∧ FrameEnd U o U' L ({ frames := 0, cells := 0, slots := 0, locals := 0 } : Room).cells ({ frames := 0, cells := 0, slots := 0, locals := 0 } : Room).slots) := by
  refine MetFree.of_bodySF (plainFor_of_name pn_1) hisR ?_
  intro p e s m args below meth c s₁ Bd hml0 hP hK
  obtain ⟨rfl, hZ, hh⟩ := hP
  have hx := Bd.exec
  have hby := Bd.bytes
  have hml : c.maxLocals = 5 := hml0
  have hown : s.vm.findClass "com/example/liana/liana/rdf/TurtleGrammarIsNameCharacterPinLaw" = some m.cls := findClass_of_methodNamed Bd.named
  have hnm := (name_of_methodNamed Bd.named Bd.method).1
  have X0 : Stand p l e ({ frames := 0, cells := 0, slots := 0, locals := 0 } : Room) s m #[(.int p1), (.int p2), (.int p3)] below meth c s₁ [] 0 0 := Stand.of_body Bd
  have e0 : s₁.heap = h0 := by rw [← hh, Bd.state]; rfl
  have N0 := Fr.nil n0
  have pre0 : ∀ t, Steps p.tables e below (s₁.setTop (mkF m 0 #[.val (.int p1), .val (.int p2), .val (.int p3), .unset, .unset] [])) t → Steps p.tables e below (s₁.setTop (entryFrame m #[(.int p1), (.int p2), (.int p3)] 5)) t := fun t k => castTop (ef_1 m p1 p2 p3) k
  obtain ⟨fs, hr, hrun, hended, hW, hsame⟩ := X0.leave (v := some (.int (1 : Int32))) (fun h => by rw [Bd.returns] at h; cases h)
  refine ⟨_, _, pre0 _ ?_, hrun, hended, _, _, rfl, ?_, ⟨_, rfl⟩, hW, hsame.mono (by decide) (by decide)⟩
  · show Steps p.tables e below (s₁.setTop (mkF m 0 #[.val (.int p1), .val (.int p2), .val (.int p3), .unset, .unset] [])) _
    refine XS.iloadN X0.here hx rfl (hb hby d1_0) rfl ?_
    show Steps p.tables e below (s₁.setTop (mkF m 1 #[.val (.int p1), .val (.int p2), .val (.int p3), .unset, .unset] [(.int p1)])) _
    refine XS.i2l X0.here hx rfl (hb hby d1_1) rfl ?_
    show Steps p.tables e below (s₁.setTop (mkF m 2 #[.val (.int p1), .val (.int p2), .val (.int p3), .unset, .unset] [(.long (p1.toInt64))])) _
    refine XS.iloadN X0.here hx rfl (hb hby d1_2) rfl ?_
    show Steps p.tables e below (s₁.setTop (mkF m 3 #[.val (.int p1), .val (.int p2), .val (.int p3), .unset, .unset] [(.int p2), (.long (p1.toInt64))])) _
    refine XS.i2l X0.here hx rfl (hb hby d1_3) rfl ?_
    show Steps p.tables e below (s₁.setTop (mkF m 4 #[.val (.int p1), .val (.int p2), .val (.int p3), .unset, .unset] [(.long (p2.toInt64)), (.long (p1.toInt64))])) _
    refine XS.lsub X0.here hx rfl (hb hby d1_4) rfl ?_
    show Steps p.tables e below (s₁.setTop (mkF m 5 #[.val (.int p1), .val (.int p2), .val (.int p3), .unset, .unset] [(.long ((p1.toInt64) - (p2.toInt64)))])) _
    refine XS.lstoreN X0.here hx rfl (hb hby d1_5) rfl (l' := #[.val (.int p1), .val (.int p2), .val (.int p3), .val (.long ((p1.toInt64) - (p2.toInt64))), .second]) rfl ?_
    show Steps p.tables e below (s₁.setTop (mkF m 6 #[.val (.int p1), .val (.int p2), .val (.int p3), .val (.long ((p1.toInt64) - (p2.toInt64))), .second] [])) _
    refine XS.lloadN X0.here hx rfl (hb hby d1_6) rfl ?_
    show Steps p.tables e below (s₁.setTop (mkF m 7 #[.val (.int p1), .val (.int p2), .val (.int p3), .val (.long ((p1.toInt64) - (p2.toInt64))), .second] [(.long ((p1.toInt64) - (p2.toInt64)))])) _
    refine XS.lconst X0.here hx rfl (hb hby d1_7) ?_
    show Steps p.tables e below (s₁.setTop (mkF m 8 #[.val (.int p1), .val (.int p2), .val (.int p3), .val (.long ((p1.toInt64) - (p2.toInt64))), .second] [(.long (0 : Int64)), (.long ((p1.toInt64) - (p2.toInt64)))])) _
    refine XS.lcmp X0.here hx rfl (hb hby d1_8) rfl ?_
    show Steps p.tables e below (s₁.setTop (mkF m 9 #[.val (.int p1), .val (.int p2), .val (.int p3), .val (.long ((p1.toInt64) - (p2.toInt64))), .second] [(.int (lcmpW ((p1.toInt64) - (p2.toInt64)) (0 : Int64)))])) _
    refine XS.ifNo X0.here hx rfl (hb hby d1_9) rfl ((if0 _ _).trans (flt (mt (lw_lt _ _).mp hc9)).1) ?_
    show Steps p.tables e below (s₁.setTop (mkF m 12 #[.val (.int p1), .val (.int p2), .val (.int p3), .val (.long ((p1.toInt64) - (p2.toInt64))), .second] [])) _
    refine XS.lloadN X0.here hx rfl (hb hby d1_12) rfl ?_
    show Steps p.tables e below (s₁.setTop (mkF m 13 #[.val (.int p1), .val (.int p2), .val (.int p3), .val (.long ((p1.toInt64) - (p2.toInt64))), .second] [(.long ((p1.toInt64) - (p2.toInt64)))])) _
    refine XS.iloadN X0.here hx rfl (hb hby d1_13) rfl ?_
    show Steps p.tables e below (s₁.setTop (mkF m 14 #[.val (.int p1), .val (.int p2), .val (.int p3), .val (.long ((p1.toInt64) - (p2.toInt64))), .second] [(.int p3), (.long ((p1.toInt64) - (p2.toInt64)))])) _
    refine XS.i2l X0.here hx rfl (hb hby d1_14) rfl ?_
    show Steps p.tables e below (s₁.setTop (mkF m 15 #[.val (.int p1), .val (.int p2), .val (.int p3), .val (.long ((p1.toInt64) - (p2.toInt64))), .second] [(.long (p3.toInt64)), (.long ((p1.toInt64) - (p2.toInt64)))])) _
    refine XS.iloadN X0.here hx rfl (hb hby d1_15) rfl ?_
    show Steps p.tables e below (s₁.setTop (mkF m 16 #[.val (.int p1), .val (.int p2), .val (.int p3), .val (.long ((p1.toInt64) - (p2.toInt64))), .second] [(.int p2), (.long (p3.toInt64)), (.long ((p1.toInt64) - (p2.toInt64)))])) _
    refine XS.i2l X0.here hx rfl (hb hby d1_16) rfl ?_
    show Steps p.tables e below (s₁.setTop (mkF m 17 #[.val (.int p1), .val (.int p2), .val (.int p3), .val (.long ((p1.toInt64) - (p2.toInt64))), .second] [(.long (p2.toInt64)), (.long (p3.toInt64)), (.long ((p1.toInt64) - (p2.toInt64)))])) _
    refine XS.lsub X0.here hx rfl (hb hby d1_17) rfl ?_
    show Steps p.tables e below (s₁.setTop (mkF m 18 #[.val (.int p1), .val (.int p2), .val (.int p3), .val (.long ((p1.toInt64) - (p2.toInt64))), .second] [(.long ((p3.toInt64) - (p2.toInt64))), (.long ((p1.toInt64) - (p2.toInt64)))])) _
    refine XS.lcmp X0.here hx rfl (hb hby d1_18) rfl ?_
    show Steps p.tables e below (s₁.setTop (mkF m 19 #[.val (.int p1), .val (.int p2), .val (.int p3), .val (.long ((p1.toInt64) - (p2.toInt64))), .second] [(.int (lcmpW ((p1.toInt64) - (p2.toInt64)) ((p3.toInt64) - (p2.toInt64))))])) _
    refine XS.ifNo X0.here hx rfl (hb hby d1_19) rfl ((if0 _ _).trans (flt (mt (lw_gt _ _).mp hc19)).2.2.1) ?_
    show Steps p.tables e below (s₁.setTop (mkF m 22 #[.val (.int p1), .val (.int p2), .val (.int p3), .val (.long ((p1.toInt64) - (p2.toInt64))), .second] [])) _
    refine XS.iconst X0.here hx rfl (hb hby d1_22) ?_
    show Steps p.tables e below (s₁.setTop (mkF m 23 #[.val (.int p1), .val (.int p2), .val (.int p3), .val (.long ((p1.toInt64) - (p2.toInt64))), .second] [(.int (1 : Int32))])) _
    refine XS.goto X0.here hx rfl (pc0 := 23) (pc' := 27) rfl (hb hby d1_23) (by decide) (by decide) ?_
    show Steps p.tables e below (s₁.setTop (mkF m 27 #[.val (.int p1), .val (.int p2), .val (.int p3), .val (.long ((p1.toInt64) - (p2.toInt64))), .second] [(.int (1 : Int32))])) _
    exact retN X0 hx (t := .boolean) Bd.returns (by simp) (hb hby d1_27) hr
  · exact ⟨rfl, N0, e0⟩
theorem rm1U (l : Launch) (Z : State) (a0 : Array Value) (hw : ∀ d ∈ tables_1, d.before a0 Z = true) (ws : List Jvm.Cond) (p1 : Int32) (p2 : Int32) (p3 : Int32) (h0 : Heap) (n0 : Nat) (Z0 : n0 ≤ h0.size) :
    MetFree l (⟨"com/example/liana/liana/rdf/TurtleGrammarIsNameCharacterPinLaw", "within", "(III)Z"⟩ : MethodName) (head1 (Jvm.Cond.code (⟨"com/example/liana/liana/rdf/TurtleGrammarIsNameCharacterPinLaw", "within", "(III)Z"⟩ : MethodName) method_2_code 5 (some .boolean) :: ws) ({ frames := 0, cells := 0, slots := 0, locals := 0 } : Room)) (fun a U => a = #[(.int p1), (.int p2), (.int p3)] ∧ Z.Warmed39 U.vm ∧ U.heap = h0) (fun _ _ _ _ _ => True) (fun _ U o U' => ∃ v L, o = .returned v ∧ QN (some (.int (own_in p1 p2 p3))) h0 n0 v U'.heap L ∧ FrameEnd U o U' L ({ frames := 0, cells := 0, slots := 0, locals := 0 } : Room).cells ({ frames := 0, cells := 0, slots := 0, locals := 0 } : Room).slots) := by
  have e1 := own_dif p1 p2
  have e2 := own_dif p3 p2
  by_cases k1 : p1.toInt < p2.toInt
  · have hv : own_in p1 p2 p3 = 0 := by unfold own_in; exact if_neg (by omega)
    rw [hv]
    exact rm1_t l Z a0 hw ws p1 p2 p3 h0 n0 Z0 (own_ltL (by rw [e1, show (0 : Int64).toInt = 0 from rfl]; omega))
  by_cases k2 : p3.toInt < p1.toInt
  · have hv : own_in p1 p2 p3 = 0 := by unfold own_in; exact if_neg (by omega)
    rw [hv]
    exact rm1_ft l Z a0 hw ws p1 p2 p3 h0 n0 Z0 (own_geL (by rw [e1, show (0 : Int64).toInt = 0 from rfl]; omega)) (own_ltL (by rw [e1, e2]; omega))
  · have hv : own_in p1 p2 p3 = 1 := by unfold own_in; exact if_pos (by omega)
    rw [hv]
    exact rm1_ff l Z a0 hw ws p1 p2 p3 h0 n0 Z0 (own_geL (by rw [e1, show (0 : Int64).toInt = 0 from rfl]; omega)) (own_geL (by rw [e1, e2]; omega))
def own_ch5 (x : Int32) : Int32 := if (8255 ≤ x.toInt ∧ x.toInt ≤ 8256) then 1 else 0
theorem d2_39 : decode prog_87_method_3_code 39 = .ok (.iload_n 0, 1) := by decide +kernel
theorem d2_40 : decode prog_87_method_3_code 40 = .ok (.sipush 8255, 3) := by decide +kernel
theorem d2_57 : decode prog_87_method_3_code 57 = .ok (.iconst 0, 1) := by decide +kernel
theorem d2_43 : decode prog_87_method_3_code 43 = .ok (.if_icmp .lt 14, 3) := by decide +kernel
theorem d2_46 : decode prog_87_method_3_code 46 = .ok (.iload_n 0, 1) := by decide +kernel
theorem d2_47 : decode prog_87_method_3_code 47 = .ok (.sipush 8256, 3) := by decide +kernel
theorem d2_50 : decode prog_87_method_3_code 50 = .ok (.if_icmp .gt 7, 3) := by decide +kernel
theorem d2_53 : decode prog_87_method_3_code 53 = .ok (.iconst 1, 1) := by decide +kernel
theorem d2_54 : decode prog_87_method_3_code 54 = .ok (.goto 4, 3) := by decide +kernel
set_option maxRecDepth 65536 in
set_option maxHeartbeats 40000000 in
theorem seg_ch5 {p : Program} {l : Launch} {e : Env} {R : Room} {s : State} {m : MethodId} {args : Array Value} {below : List Frame} {meth : Method} {c : Code} {T : State} {locs : List Loc} {cells slots : Nat} {Z : State} {a0 : Array Value} (X : Stand p l e R s m args below meth c T locs cells slots) (hx : p.tables.exec = Jvm.exec) (hZ : Z.Warmed39 s.vm) (hw : ∀ d ∈ tables_1, d.before a0 Z = true) (hby : c.code = prog_87_method_3_code) (hown : s.vm.findClass "com/example/liana/liana/rdf/TurtleGrammar" = some m.cls) (x : Int32) (t : State)
    (kt : Steps p.tables e below (T.setTop (mkF m 58 #[.val (.int x)] [(.int (own_ch5 x))])) t) : Steps p.tables e below (T.setTop (mkF m 39 #[.val (.int x)] [])) t := by
  by_cases h : (8255 ≤ x.toInt ∧ x.toInt ≤ 8256)
  · rw [own_ch5, if_pos h] at kt
    show Steps p.tables e below (T.setTop (mkF m 39 #[.val (.int x)] [])) _
    refine XS.iloadN X.here hx rfl (hb hby d2_39) rfl ?_
    show Steps p.tables e below (T.setTop (mkF m 40 #[.val (.int x)] [(.int x)])) _
    refine XS.sipush X.here hx rfl (hb hby d2_40) ?_
    show Steps p.tables e below (T.setTop (mkF m 43 #[.val (.int x)] [(.int (8255 : Int32)), (.int x)])) _
    refine XS.icmpNo X.here hx rfl (hb hby d2_43) rfl (flt (own_geI (by rw [show (8255 : Int32).toInt = 8255 from rfl]; omega))).1 ?_
    show Steps p.tables e below (T.setTop (mkF m 46 #[.val (.int x)] [])) _
    refine XS.iloadN X.here hx rfl (hb hby d2_46) rfl ?_
    show Steps p.tables e below (T.setTop (mkF m 47 #[.val (.int x)] [(.int x)])) _
    refine XS.sipush X.here hx rfl (hb hby d2_47) ?_
    show Steps p.tables e below (T.setTop (mkF m 50 #[.val (.int x)] [(.int (8256 : Int32)), (.int x)])) _
    refine XS.icmpNo X.here hx rfl (hb hby d2_50) rfl (flt (own_geI (by rw [show (8256 : Int32).toInt = 8256 from rfl]; omega))).2.2.1 ?_
    show Steps p.tables e below (T.setTop (mkF m 53 #[.val (.int x)] [])) _
    refine XS.iconst X.here hx rfl (hb hby d2_53) ?_
    show Steps p.tables e below (T.setTop (mkF m 54 #[.val (.int x)] [(.int (1 : Int32))])) _
    refine XS.goto X.here hx rfl (pc0 := 54) (pc' := 58) rfl (hb hby d2_54) (by decide) (by decide) ?_
    exact kt
  · rw [own_ch5, if_neg h] at kt
    by_cases h2 : x.toInt < 8255
    · skip
      show Steps p.tables e below (T.setTop (mkF m 39 #[.val (.int x)] [])) _
      refine XS.iloadN X.here hx rfl (hb hby d2_39) rfl ?_
      show Steps p.tables e below (T.setTop (mkF m 40 #[.val (.int x)] [(.int x)])) _
      refine XS.sipush X.here hx rfl (hb hby d2_40) ?_
      show Steps p.tables e below (T.setTop (mkF m 43 #[.val (.int x)] [(.int (8255 : Int32)), (.int x)])) _
      refine XS.icmpYes X.here hx rfl (pc0 := 43) (pc' := 57) rfl (hb hby d2_43) rfl (tlt (own_ltI (by rw [show (8255 : Int32).toInt = 8255 from rfl]; omega))).1 (by decide) (by decide) ?_
      show Steps p.tables e below (T.setTop (mkF m 57 #[.val (.int x)] [])) _
      refine XS.iconst X.here hx rfl (hb hby d2_57) ?_
      exact kt
    · skip
      show Steps p.tables e below (T.setTop (mkF m 39 #[.val (.int x)] [])) _
      refine XS.iloadN X.here hx rfl (hb hby d2_39) rfl ?_
      show Steps p.tables e below (T.setTop (mkF m 40 #[.val (.int x)] [(.int x)])) _
      refine XS.sipush X.here hx rfl (hb hby d2_40) ?_
      show Steps p.tables e below (T.setTop (mkF m 43 #[.val (.int x)] [(.int (8255 : Int32)), (.int x)])) _
      refine XS.icmpNo X.here hx rfl (hb hby d2_43) rfl (flt (own_geI (by rw [show (8255 : Int32).toInt = 8255 from rfl]; omega))).1 ?_
      show Steps p.tables e below (T.setTop (mkF m 46 #[.val (.int x)] [])) _
      refine XS.iloadN X.here hx rfl (hb hby d2_46) rfl ?_
      show Steps p.tables e below (T.setTop (mkF m 47 #[.val (.int x)] [(.int x)])) _
      refine XS.sipush X.here hx rfl (hb hby d2_47) ?_
      show Steps p.tables e below (T.setTop (mkF m 50 #[.val (.int x)] [(.int (8256 : Int32)), (.int x)])) _
      refine XS.icmpYes X.here hx rfl (pc0 := 50) (pc' := 57) rfl (hb hby d2_50) rfl (tlt (own_ltI (by rw [show (8256 : Int32).toInt = 8256 from rfl]; omega))).2.2.1 (by decide) (by decide) ?_
      show Steps p.tables e below (T.setTop (mkF m 57 #[.val (.int x)] [])) _
      refine XS.iconst X.here hx rfl (hb hby d2_57) ?_
      exact kt
def own_ch4 (x : Int32) : Int32 := if (768 ≤ x.toInt ∧ x.toInt ≤ 879) then 1 else own_ch5 x
theorem d2_25 : decode prog_87_method_3_code 25 = .ok (.iload_n 0, 1) := by decide +kernel
theorem d2_26 : decode prog_87_method_3_code 26 = .ok (.sipush 768, 3) := by decide +kernel
theorem d2_29 : decode prog_87_method_3_code 29 = .ok (.if_icmp .lt 10, 3) := by decide +kernel
theorem d2_32 : decode prog_87_method_3_code 32 = .ok (.iload_n 0, 1) := by decide +kernel
theorem d2_33 : decode prog_87_method_3_code 33 = .ok (.sipush 879, 3) := by decide +kernel
theorem d2_36 : decode prog_87_method_3_code 36 = .ok (.if_icmp .le 17, 3) := by decide +kernel
set_option maxRecDepth 65536 in
set_option maxHeartbeats 40000000 in
theorem seg_ch4 {p : Program} {l : Launch} {e : Env} {R : Room} {s : State} {m : MethodId} {args : Array Value} {below : List Frame} {meth : Method} {c : Code} {T : State} {locs : List Loc} {cells slots : Nat} {Z : State} {a0 : Array Value} (X : Stand p l e R s m args below meth c T locs cells slots) (hx : p.tables.exec = Jvm.exec) (hZ : Z.Warmed39 s.vm) (hw : ∀ d ∈ tables_1, d.before a0 Z = true) (hby : c.code = prog_87_method_3_code) (hown : s.vm.findClass "com/example/liana/liana/rdf/TurtleGrammar" = some m.cls) (x : Int32) (t : State)
    (kt : Steps p.tables e below (T.setTop (mkF m 58 #[.val (.int x)] [(.int (own_ch4 x))])) t) : Steps p.tables e below (T.setTop (mkF m 25 #[.val (.int x)] [])) t := by
  by_cases h : (768 ≤ x.toInt ∧ x.toInt ≤ 879)
  · rw [own_ch4, if_pos h] at kt
    show Steps p.tables e below (T.setTop (mkF m 25 #[.val (.int x)] [])) _
    refine XS.iloadN X.here hx rfl (hb hby d2_25) rfl ?_
    show Steps p.tables e below (T.setTop (mkF m 26 #[.val (.int x)] [(.int x)])) _
    refine XS.sipush X.here hx rfl (hb hby d2_26) ?_
    show Steps p.tables e below (T.setTop (mkF m 29 #[.val (.int x)] [(.int (768 : Int32)), (.int x)])) _
    refine XS.icmpNo X.here hx rfl (hb hby d2_29) rfl (flt (own_geI (by rw [show (768 : Int32).toInt = 768 from rfl]; omega))).1 ?_
    show Steps p.tables e below (T.setTop (mkF m 32 #[.val (.int x)] [])) _
    refine XS.iloadN X.here hx rfl (hb hby d2_32) rfl ?_
    show Steps p.tables e below (T.setTop (mkF m 33 #[.val (.int x)] [(.int x)])) _
    refine XS.sipush X.here hx rfl (hb hby d2_33) ?_
    show Steps p.tables e below (T.setTop (mkF m 36 #[.val (.int x)] [(.int (879 : Int32)), (.int x)])) _
    refine XS.icmpYes X.here hx rfl (pc0 := 36) (pc' := 53) rfl (hb hby d2_36) rfl (flt (own_geI (by rw [show (879 : Int32).toInt = 879 from rfl]; omega))).2.2.2 (by decide) (by decide) ?_
    show Steps p.tables e below (T.setTop (mkF m 53 #[.val (.int x)] [])) _
    refine XS.iconst X.here hx rfl (hb hby d2_53) ?_
    show Steps p.tables e below (T.setTop (mkF m 54 #[.val (.int x)] [(.int (1 : Int32))])) _
    refine XS.goto X.here hx rfl (pc0 := 54) (pc' := 58) rfl (hb hby d2_54) (by decide) (by decide) ?_
    exact kt
  · rw [own_ch4, if_neg h] at kt
    by_cases h2 : x.toInt < 768
    · skip
      show Steps p.tables e below (T.setTop (mkF m 25 #[.val (.int x)] [])) _
      refine XS.iloadN X.here hx rfl (hb hby d2_25) rfl ?_
      show Steps p.tables e below (T.setTop (mkF m 26 #[.val (.int x)] [(.int x)])) _
      refine XS.sipush X.here hx rfl (hb hby d2_26) ?_
      show Steps p.tables e below (T.setTop (mkF m 29 #[.val (.int x)] [(.int (768 : Int32)), (.int x)])) _
      refine XS.icmpYes X.here hx rfl (pc0 := 29) (pc' := 39) rfl (hb hby d2_29) rfl (tlt (own_ltI (by rw [show (768 : Int32).toInt = 768 from rfl]; omega))).1 (by decide) (by decide) ?_
      exact seg_ch5 X hx hZ hw hby hown x t kt
    · skip
      show Steps p.tables e below (T.setTop (mkF m 25 #[.val (.int x)] [])) _
      refine XS.iloadN X.here hx rfl (hb hby d2_25) rfl ?_
      show Steps p.tables e below (T.setTop (mkF m 26 #[.val (.int x)] [(.int x)])) _
      refine XS.sipush X.here hx rfl (hb hby d2_26) ?_
      show Steps p.tables e below (T.setTop (mkF m 29 #[.val (.int x)] [(.int (768 : Int32)), (.int x)])) _
      refine XS.icmpNo X.here hx rfl (hb hby d2_29) rfl (flt (own_geI (by rw [show (768 : Int32).toInt = 768 from rfl]; omega))).1 ?_
      show Steps p.tables e below (T.setTop (mkF m 32 #[.val (.int x)] [])) _
      refine XS.iloadN X.here hx rfl (hb hby d2_32) rfl ?_
      show Steps p.tables e below (T.setTop (mkF m 33 #[.val (.int x)] [(.int x)])) _
      refine XS.sipush X.here hx rfl (hb hby d2_33) ?_
      show Steps p.tables e below (T.setTop (mkF m 36 #[.val (.int x)] [(.int (879 : Int32)), (.int x)])) _
      refine XS.icmpNo X.here hx rfl (hb hby d2_36) rfl (tlt (own_ltI (by rw [show (879 : Int32).toInt = 879 from rfl]; omega))).2.2.2 ?_
      exact seg_ch5 X hx hZ hw hby hown x t kt
def own_ch3 (x : Int32) : Int32 := if x.toInt = 183 then 1 else own_ch4 x
theorem d2_18 : decode prog_87_method_3_code 18 = .ok (.iload_n 0, 1) := by decide +kernel
theorem d2_19 : decode prog_87_method_3_code 19 = .ok (.sipush 183, 3) := by decide +kernel
theorem d2_22 : decode prog_87_method_3_code 22 = .ok (.if_icmp .eq 31, 3) := by decide +kernel
set_option maxRecDepth 65536 in
set_option maxHeartbeats 40000000 in
theorem seg_ch3 {p : Program} {l : Launch} {e : Env} {R : Room} {s : State} {m : MethodId} {args : Array Value} {below : List Frame} {meth : Method} {c : Code} {T : State} {locs : List Loc} {cells slots : Nat} {Z : State} {a0 : Array Value} (X : Stand p l e R s m args below meth c T locs cells slots) (hx : p.tables.exec = Jvm.exec) (hZ : Z.Warmed39 s.vm) (hw : ∀ d ∈ tables_1, d.before a0 Z = true) (hby : c.code = prog_87_method_3_code) (hown : s.vm.findClass "com/example/liana/liana/rdf/TurtleGrammar" = some m.cls) (x : Int32) (t : State)
    (kt : Steps p.tables e below (T.setTop (mkF m 58 #[.val (.int x)] [(.int (own_ch3 x))])) t) : Steps p.tables e below (T.setTop (mkF m 18 #[.val (.int x)] [])) t := by
  by_cases h : x.toInt = 183
  · rw [own_ch3, if_pos h] at kt
    show Steps p.tables e below (T.setTop (mkF m 18 #[.val (.int x)] [])) _
    refine XS.iloadN X.here hx rfl (hb hby d2_18) rfl ?_
    show Steps p.tables e below (T.setTop (mkF m 19 #[.val (.int x)] [(.int x)])) _
    refine XS.sipush X.here hx rfl (hb hby d2_19) ?_
    show Steps p.tables e below (T.setTop (mkF m 22 #[.val (.int x)] [(.int (183 : Int32)), (.int x)])) _
    refine XS.icmpYes X.here hx rfl (pc0 := 22) (pc' := 53) rfl (hb hby d2_22) rfl (teq (own_eqI (by rw [show (183 : Int32).toInt = 183 from rfl]; omega))).1 (by decide) (by decide) ?_
    show Steps p.tables e below (T.setTop (mkF m 53 #[.val (.int x)] [])) _
    refine XS.iconst X.here hx rfl (hb hby d2_53) ?_
    show Steps p.tables e below (T.setTop (mkF m 54 #[.val (.int x)] [(.int (1 : Int32))])) _
    refine XS.goto X.here hx rfl (pc0 := 54) (pc' := 58) rfl (hb hby d2_54) (by decide) (by decide) ?_
    exact kt
  · rw [own_ch3, if_neg h] at kt
    show Steps p.tables e below (T.setTop (mkF m 18 #[.val (.int x)] [])) _
    refine XS.iloadN X.here hx rfl (hb hby d2_18) rfl ?_
    show Steps p.tables e below (T.setTop (mkF m 19 #[.val (.int x)] [(.int x)])) _
    refine XS.sipush X.here hx rfl (hb hby d2_19) ?_
    show Steps p.tables e below (T.setTop (mkF m 22 #[.val (.int x)] [(.int (183 : Int32)), (.int x)])) _
    refine XS.icmpNo X.here hx rfl (hb hby d2_22) rfl (feq (own_neI (by rw [show (183 : Int32).toInt = 183 from rfl]; omega))).1 ?_
    exact seg_ch4 X hx hZ hw hby hown x t kt
def own_ch2 (x : Int32) : Int32 := if (48 ≤ x.toInt ∧ x.toInt ≤ 57) then 1 else own_ch3 x
theorem d2_6 : decode prog_87_method_3_code 6 = .ok (.iload_n 0, 1) := by decide +kernel
theorem d2_7 : decode prog_87_method_3_code 7 = .ok (.bipush 48, 2) := by decide +kernel
theorem d2_9 : decode prog_87_method_3_code 9 = .ok (.if_icmp .lt 9, 3) := by decide +kernel
theorem d2_12 : decode prog_87_method_3_code 12 = .ok (.iload_n 0, 1) := by decide +kernel
theorem d2_13 : decode prog_87_method_3_code 13 = .ok (.bipush 57, 2) := by decide +kernel
theorem d2_15 : decode prog_87_method_3_code 15 = .ok (.if_icmp .le 38, 3) := by decide +kernel
set_option maxRecDepth 65536 in
set_option maxHeartbeats 40000000 in
theorem seg_ch2 {p : Program} {l : Launch} {e : Env} {R : Room} {s : State} {m : MethodId} {args : Array Value} {below : List Frame} {meth : Method} {c : Code} {T : State} {locs : List Loc} {cells slots : Nat} {Z : State} {a0 : Array Value} (X : Stand p l e R s m args below meth c T locs cells slots) (hx : p.tables.exec = Jvm.exec) (hZ : Z.Warmed39 s.vm) (hw : ∀ d ∈ tables_1, d.before a0 Z = true) (hby : c.code = prog_87_method_3_code) (hown : s.vm.findClass "com/example/liana/liana/rdf/TurtleGrammar" = some m.cls) (x : Int32) (t : State)
    (kt : Steps p.tables e below (T.setTop (mkF m 58 #[.val (.int x)] [(.int (own_ch2 x))])) t) : Steps p.tables e below (T.setTop (mkF m 6 #[.val (.int x)] [])) t := by
  by_cases h : (48 ≤ x.toInt ∧ x.toInt ≤ 57)
  · rw [own_ch2, if_pos h] at kt
    show Steps p.tables e below (T.setTop (mkF m 6 #[.val (.int x)] [])) _
    refine XS.iloadN X.here hx rfl (hb hby d2_6) rfl ?_
    show Steps p.tables e below (T.setTop (mkF m 7 #[.val (.int x)] [(.int x)])) _
    refine XS.bipush X.here hx rfl (hb hby d2_7) ?_
    show Steps p.tables e below (T.setTop (mkF m 9 #[.val (.int x)] [(.int (48 : Int32)), (.int x)])) _
    refine XS.icmpNo X.here hx rfl (hb hby d2_9) rfl (flt (own_geI (by rw [show (48 : Int32).toInt = 48 from rfl]; omega))).1 ?_
    show Steps p.tables e below (T.setTop (mkF m 12 #[.val (.int x)] [])) _
    refine XS.iloadN X.here hx rfl (hb hby d2_12) rfl ?_
    show Steps p.tables e below (T.setTop (mkF m 13 #[.val (.int x)] [(.int x)])) _
    refine XS.bipush X.here hx rfl (hb hby d2_13) ?_
    show Steps p.tables e below (T.setTop (mkF m 15 #[.val (.int x)] [(.int (57 : Int32)), (.int x)])) _
    refine XS.icmpYes X.here hx rfl (pc0 := 15) (pc' := 53) rfl (hb hby d2_15) rfl (flt (own_geI (by rw [show (57 : Int32).toInt = 57 from rfl]; omega))).2.2.2 (by decide) (by decide) ?_
    show Steps p.tables e below (T.setTop (mkF m 53 #[.val (.int x)] [])) _
    refine XS.iconst X.here hx rfl (hb hby d2_53) ?_
    show Steps p.tables e below (T.setTop (mkF m 54 #[.val (.int x)] [(.int (1 : Int32))])) _
    refine XS.goto X.here hx rfl (pc0 := 54) (pc' := 58) rfl (hb hby d2_54) (by decide) (by decide) ?_
    exact kt
  · rw [own_ch2, if_neg h] at kt
    by_cases h2 : x.toInt < 48
    · skip
      show Steps p.tables e below (T.setTop (mkF m 6 #[.val (.int x)] [])) _
      refine XS.iloadN X.here hx rfl (hb hby d2_6) rfl ?_
      show Steps p.tables e below (T.setTop (mkF m 7 #[.val (.int x)] [(.int x)])) _
      refine XS.bipush X.here hx rfl (hb hby d2_7) ?_
      show Steps p.tables e below (T.setTop (mkF m 9 #[.val (.int x)] [(.int (48 : Int32)), (.int x)])) _
      refine XS.icmpYes X.here hx rfl (pc0 := 9) (pc' := 18) rfl (hb hby d2_9) rfl (tlt (own_ltI (by rw [show (48 : Int32).toInt = 48 from rfl]; omega))).1 (by decide) (by decide) ?_
      exact seg_ch3 X hx hZ hw hby hown x t kt
    · skip
      show Steps p.tables e below (T.setTop (mkF m 6 #[.val (.int x)] [])) _
      refine XS.iloadN X.here hx rfl (hb hby d2_6) rfl ?_
      show Steps p.tables e below (T.setTop (mkF m 7 #[.val (.int x)] [(.int x)])) _
      refine XS.bipush X.here hx rfl (hb hby d2_7) ?_
      show Steps p.tables e below (T.setTop (mkF m 9 #[.val (.int x)] [(.int (48 : Int32)), (.int x)])) _
      refine XS.icmpNo X.here hx rfl (hb hby d2_9) rfl (flt (own_geI (by rw [show (48 : Int32).toInt = 48 from rfl]; omega))).1 ?_
      show Steps p.tables e below (T.setTop (mkF m 12 #[.val (.int x)] [])) _
      refine XS.iloadN X.here hx rfl (hb hby d2_12) rfl ?_
      show Steps p.tables e below (T.setTop (mkF m 13 #[.val (.int x)] [(.int x)])) _
      refine XS.bipush X.here hx rfl (hb hby d2_13) ?_
      show Steps p.tables e below (T.setTop (mkF m 15 #[.val (.int x)] [(.int (57 : Int32)), (.int x)])) _
      refine XS.icmpNo X.here hx rfl (hb hby d2_15) rfl (tlt (own_ltI (by rw [show (57 : Int32).toInt = 57 from rfl]; omega))).2.2.2 ?_
      exact seg_ch3 X hx hZ hw hby hown x t kt
def own_ch1 (x : Int32) : Int32 := if x.toInt = 45 then 1 else own_ch2 x
theorem d2_0 : decode prog_87_method_3_code 0 = .ok (.iload_n 0, 1) := by decide +kernel
theorem d2_1 : decode prog_87_method_3_code 1 = .ok (.bipush 45, 2) := by decide +kernel
theorem d2_3 : decode prog_87_method_3_code 3 = .ok (.if_icmp .eq 50, 3) := by decide +kernel
set_option maxRecDepth 65536 in
set_option maxHeartbeats 40000000 in
theorem seg_ch1 {p : Program} {l : Launch} {e : Env} {R : Room} {s : State} {m : MethodId} {args : Array Value} {below : List Frame} {meth : Method} {c : Code} {T : State} {locs : List Loc} {cells slots : Nat} {Z : State} {a0 : Array Value} (X : Stand p l e R s m args below meth c T locs cells slots) (hx : p.tables.exec = Jvm.exec) (hZ : Z.Warmed39 s.vm) (hw : ∀ d ∈ tables_1, d.before a0 Z = true) (hby : c.code = prog_87_method_3_code) (hown : s.vm.findClass "com/example/liana/liana/rdf/TurtleGrammar" = some m.cls) (x : Int32) (t : State)
    (kt : Steps p.tables e below (T.setTop (mkF m 58 #[.val (.int x)] [(.int (own_ch1 x))])) t) : Steps p.tables e below (T.setTop (mkF m 0 #[.val (.int x)] [])) t := by
  by_cases h : x.toInt = 45
  · rw [own_ch1, if_pos h] at kt
    show Steps p.tables e below (T.setTop (mkF m 0 #[.val (.int x)] [])) _
    refine XS.iloadN X.here hx rfl (hb hby d2_0) rfl ?_
    show Steps p.tables e below (T.setTop (mkF m 1 #[.val (.int x)] [(.int x)])) _
    refine XS.bipush X.here hx rfl (hb hby d2_1) ?_
    show Steps p.tables e below (T.setTop (mkF m 3 #[.val (.int x)] [(.int (45 : Int32)), (.int x)])) _
    refine XS.icmpYes X.here hx rfl (pc0 := 3) (pc' := 53) rfl (hb hby d2_3) rfl (teq (own_eqI (by rw [show (45 : Int32).toInt = 45 from rfl]; omega))).1 (by decide) (by decide) ?_
    show Steps p.tables e below (T.setTop (mkF m 53 #[.val (.int x)] [])) _
    refine XS.iconst X.here hx rfl (hb hby d2_53) ?_
    show Steps p.tables e below (T.setTop (mkF m 54 #[.val (.int x)] [(.int (1 : Int32))])) _
    refine XS.goto X.here hx rfl (pc0 := 54) (pc' := 58) rfl (hb hby d2_54) (by decide) (by decide) ?_
    exact kt
  · rw [own_ch1, if_neg h] at kt
    show Steps p.tables e below (T.setTop (mkF m 0 #[.val (.int x)] [])) _
    refine XS.iloadN X.here hx rfl (hb hby d2_0) rfl ?_
    show Steps p.tables e below (T.setTop (mkF m 1 #[.val (.int x)] [(.int x)])) _
    refine XS.bipush X.here hx rfl (hb hby d2_1) ?_
    show Steps p.tables e below (T.setTop (mkF m 3 #[.val (.int x)] [(.int (45 : Int32)), (.int x)])) _
    refine XS.icmpNo X.here hx rfl (hb hby d2_3) rfl (feq (own_neI (by rw [show (45 : Int32).toInt = 45 from rfl]; omega))).1 ?_
    exact seg_ch2 X hx hZ hw hby hown x t kt
theorem own_chn (x : Int32) : nar .boolean (own_ch1 x) = own_ch1 x := by
  unfold own_ch1; split
  · rfl
  unfold own_ch2; split
  · rfl
  unfold own_ch3; split
  · rfl
  unfold own_ch4; split
  · rfl
  unfold own_ch5; split
  · rfl
  rfl
theorem pn_2 : plainName "com/example/liana/liana/rdf/TurtleGrammar" = true := by first | (simp [plainName, overriddenIn]; done) | decide +kernel
theorem ef_2 (m : MethodId) (x0 : Int32) : entryFrame m #[(.int x0)] 1 = mkF m 0 #[.val (.int x0)] [] := by first | (simp [entryFrame, mkF, argsToLocals, Value.category]; done) | rfl
theorem d2_58 : decode prog_87_method_3_code 58 = .ok (.ireturn, 1) := by decide +kernel
set_option maxRecDepth 65536 in
set_option maxHeartbeats 40000000 in
theorem rm2 (l : Launch) (Z : State) (a0 : Array Value) (hw : ∀ d ∈ tables_1, d.before a0 Z = true) (ws : List Jvm.Cond) (p1 : Int32) (h0 : Heap) (n0 : Nat) (Z0 : n0 ≤ h0.size) :
    MetFree l (⟨"com/example/liana/liana/rdf/TurtleGrammar", "isNameCharacter", "(I)Z"⟩ : MethodName) (head1 (Jvm.Cond.code (⟨"com/example/liana/liana/rdf/TurtleGrammar", "isNameCharacter", "(I)Z"⟩ : MethodName) prog_87_method_3_code 1 (some .boolean) :: ws) ({ frames := 0, cells := 0, slots := 0, locals := 0 } : Room)) (fun a U => a = #[(.int p1)] ∧ Z.Warmed39 U.vm ∧ U.heap = h0) (fun _ _ _ _ _ => True) (fun _ U o U' => ∃ v L, o = .returned v ∧ QN (some (.int (own_ch1 p1))) h0 n0 v U'.heap L ∧ FrameEnd U o U' L ({ frames := 0, cells := 0, slots := 0, locals := 0 } : Room).cells ({ frames := 0, cells := 0, slots := 0, locals := 0 } : Room).slots) := by
  refine MetFree.of_bodySF (plainFor_of_name pn_2) hisR ?_
  intro p e s m args below meth c s₁ Bd hml0 hP hK
  obtain ⟨rfl, hZ, hh⟩ := hP
  have hx := Bd.exec
  have hby := Bd.bytes
  have hml : c.maxLocals = 1 := hml0
  have hown : s.vm.findClass "com/example/liana/liana/rdf/TurtleGrammar" = some m.cls := findClass_of_methodNamed Bd.named
  have hnm := (name_of_methodNamed Bd.named Bd.method).1
  have X0 : Stand p l e ({ frames := 0, cells := 0, slots := 0, locals := 0 } : Room) s m #[(.int p1)] below meth c s₁ [] 0 0 := Stand.of_body Bd
  have e0 : s₁.heap = h0 := by rw [← hh, Bd.state]; rfl
  have N0 := Fr.nil n0
  have pre0 : ∀ t, Steps p.tables e below (s₁.setTop (mkF m 0 #[.val (.int p1)] [])) t → Steps p.tables e below (s₁.setTop (entryFrame m #[(.int p1)] 1)) t := fun t k => castTop (ef_2 m p1) k
  obtain ⟨fs, hr, hrun, hended, hW, hsame⟩ := X0.leave (v := some (.int (nar .boolean (own_ch1 p1)))) (fun h => by rw [Bd.returns] at h; cases h)
  refine ⟨_, _, pre0 _ ?_, hrun, hended, _, _, rfl, ?_, ⟨_, rfl⟩, hW, hsame.mono (by decide) (by decide)⟩
  · refine seg_ch1 X0 hx hZ hw hby hown p1 _ ?_
    exact retN X0 hx (t := .boolean) Bd.returns (by simp) (hb hby d2_58) hr
  · show QN (some (.int (own_ch1 p1))) h0 n0 _ s₁.heap _
    rw [e0]
    exact ⟨by rw [own_chn], N0, rfl⟩
def own_st15 (x : Int32) : Int32 := if (65536 ≤ x.toInt ∧ x.toInt ≤ 983039) then 1 else 0
theorem d3_179 : decode prog_87_method_2_code 179 = .ok (.iload_n 0, 1) := by decide +kernel
theorem d3_180 : decode prog_87_method_2_code 180 = .ok (.ldc 12, 2) := by decide +kernel
theorem d3_195 : decode prog_87_method_2_code 195 = .ok (.iconst 0, 1) := by decide +kernel
theorem d3_182 : decode prog_87_method_2_code 182 = .ok (.if_icmp .lt 13, 3) := by decide +kernel
theorem d3_185 : decode prog_87_method_2_code 185 = .ok (.iload_n 0, 1) := by decide +kernel
theorem d3_186 : decode prog_87_method_2_code 186 = .ok (.ldc 13, 2) := by decide +kernel
theorem d3_188 : decode prog_87_method_2_code 188 = .ok (.if_icmp .gt 7, 3) := by decide +kernel
theorem d3_191 : decode prog_87_method_2_code 191 = .ok (.iconst 1, 1) := by decide +kernel
theorem d3_192 : decode prog_87_method_2_code 192 = .ok (.goto 4, 3) := by decide +kernel
set_option maxRecDepth 65536 in
set_option maxHeartbeats 40000000 in
theorem seg_st15 {p : Program} {l : Launch} {e : Env} {R : Room} {s : State} {m : MethodId} {args : Array Value} {below : List Frame} {meth : Method} {c : Code} {T : State} {locs : List Loc} {cells slots : Nat} {Z : State} {a0 : Array Value} (X : Stand p l e R s m args below meth c T locs cells slots) (hx : p.tables.exec = Jvm.exec) (hZ : Z.Warmed39 s.vm) (hw : ∀ d ∈ tables_1, d.before a0 Z = true) (hby : c.code = prog_87_method_2_code) (hown : s.vm.findClass "com/example/liana/liana/rdf/TurtleGrammar" = some m.cls) (x : Int32) (t : State)
    (kt : Steps p.tables e below (T.setTop (mkF m 196 #[.val (.int x)] [(.int (own_st15 x))])) t) : Steps p.tables e below (T.setTop (mkF m 179 #[.val (.int x)] [])) t := by
  by_cases h : (65536 ≤ x.toInt ∧ x.toInt ≤ 983039)
  · rw [own_st15, if_pos h] at kt
    show Steps p.tables e below (T.setTop (mkF m 179 #[.val (.int x)] [])) _
    refine XS.iloadN X.here hx rfl (hb hby d3_179) rfl ?_
    show Steps p.tables e below (T.setTop (mkF m 180 #[.val (.int x)] [(.int x)])) _
    refine X.ldcI hx hown (mvT hZ (hw _ (List.mem_of_getElem? (i := 14) rfl))) (g := (mkF m 180 #[.val (.int x)] [(.int x)])) rfl (hb hby d3_180) ?_
    show Steps p.tables e below (T.setTop (mkF m 182 #[.val (.int x)] [(.int (65536 : Int32)), (.int x)])) _
    refine XS.icmpNo X.here hx rfl (hb hby d3_182) rfl (flt (own_geI (by rw [show (65536 : Int32).toInt = 65536 from rfl]; omega))).1 ?_
    show Steps p.tables e below (T.setTop (mkF m 185 #[.val (.int x)] [])) _
    refine XS.iloadN X.here hx rfl (hb hby d3_185) rfl ?_
    show Steps p.tables e below (T.setTop (mkF m 186 #[.val (.int x)] [(.int x)])) _
    refine X.ldcI hx hown (mvT hZ (hw _ (List.mem_of_getElem? (i := 18) rfl))) (g := (mkF m 186 #[.val (.int x)] [(.int x)])) rfl (hb hby d3_186) ?_
    show Steps p.tables e below (T.setTop (mkF m 188 #[.val (.int x)] [(.int (983039 : Int32)), (.int x)])) _
    refine XS.icmpNo X.here hx rfl (hb hby d3_188) rfl (flt (own_geI (by rw [show (983039 : Int32).toInt = 983039 from rfl]; omega))).2.2.1 ?_
    show Steps p.tables e below (T.setTop (mkF m 191 #[.val (.int x)] [])) _
    refine XS.iconst X.here hx rfl (hb hby d3_191) ?_
    show Steps p.tables e below (T.setTop (mkF m 192 #[.val (.int x)] [(.int (1 : Int32))])) _
    refine XS.goto X.here hx rfl (pc0 := 192) (pc' := 196) rfl (hb hby d3_192) (by decide) (by decide) ?_
    exact kt
  · rw [own_st15, if_neg h] at kt
    by_cases h2 : x.toInt < 65536
    · skip
      show Steps p.tables e below (T.setTop (mkF m 179 #[.val (.int x)] [])) _
      refine XS.iloadN X.here hx rfl (hb hby d3_179) rfl ?_
      show Steps p.tables e below (T.setTop (mkF m 180 #[.val (.int x)] [(.int x)])) _
      refine X.ldcI hx hown (mvT hZ (hw _ (List.mem_of_getElem? (i := 14) rfl))) (g := (mkF m 180 #[.val (.int x)] [(.int x)])) rfl (hb hby d3_180) ?_
      show Steps p.tables e below (T.setTop (mkF m 182 #[.val (.int x)] [(.int (65536 : Int32)), (.int x)])) _
      refine XS.icmpYes X.here hx rfl (pc0 := 182) (pc' := 195) rfl (hb hby d3_182) rfl (tlt (own_ltI (by rw [show (65536 : Int32).toInt = 65536 from rfl]; omega))).1 (by decide) (by decide) ?_
      show Steps p.tables e below (T.setTop (mkF m 195 #[.val (.int x)] [])) _
      refine XS.iconst X.here hx rfl (hb hby d3_195) ?_
      exact kt
    · skip
      show Steps p.tables e below (T.setTop (mkF m 179 #[.val (.int x)] [])) _
      refine XS.iloadN X.here hx rfl (hb hby d3_179) rfl ?_
      show Steps p.tables e below (T.setTop (mkF m 180 #[.val (.int x)] [(.int x)])) _
      refine X.ldcI hx hown (mvT hZ (hw _ (List.mem_of_getElem? (i := 14) rfl))) (g := (mkF m 180 #[.val (.int x)] [(.int x)])) rfl (hb hby d3_180) ?_
      show Steps p.tables e below (T.setTop (mkF m 182 #[.val (.int x)] [(.int (65536 : Int32)), (.int x)])) _
      refine XS.icmpNo X.here hx rfl (hb hby d3_182) rfl (flt (own_geI (by rw [show (65536 : Int32).toInt = 65536 from rfl]; omega))).1 ?_
      show Steps p.tables e below (T.setTop (mkF m 185 #[.val (.int x)] [])) _
      refine XS.iloadN X.here hx rfl (hb hby d3_185) rfl ?_
      show Steps p.tables e below (T.setTop (mkF m 186 #[.val (.int x)] [(.int x)])) _
      refine X.ldcI hx hown (mvT hZ (hw _ (List.mem_of_getElem? (i := 18) rfl))) (g := (mkF m 186 #[.val (.int x)] [(.int x)])) rfl (hb hby d3_186) ?_
      show Steps p.tables e below (T.setTop (mkF m 188 #[.val (.int x)] [(.int (983039 : Int32)), (.int x)])) _
      refine XS.icmpYes X.here hx rfl (pc0 := 188) (pc' := 195) rfl (hb hby d3_188) rfl (tlt (own_ltI (by rw [show (983039 : Int32).toInt = 983039 from rfl]; omega))).2.2.1 (by decide) (by decide) ?_
      show Steps p.tables e below (T.setTop (mkF m 195 #[.val (.int x)] [])) _
      refine XS.iconst X.here hx rfl (hb hby d3_195) ?_
      exact kt
def own_st14 (x : Int32) : Int32 := if (65008 ≤ x.toInt ∧ x.toInt ≤ 65533) then 1 else own_st15 x
theorem d3_167 : decode prog_87_method_2_code 167 = .ok (.iload_n 0, 1) := by decide +kernel
theorem d3_168 : decode prog_87_method_2_code 168 = .ok (.ldc 10, 2) := by decide +kernel
theorem d3_170 : decode prog_87_method_2_code 170 = .ok (.if_icmp .lt 9, 3) := by decide +kernel
theorem d3_173 : decode prog_87_method_2_code 173 = .ok (.iload_n 0, 1) := by decide +kernel
theorem d3_174 : decode prog_87_method_2_code 174 = .ok (.ldc 11, 2) := by decide +kernel
theorem d3_176 : decode prog_87_method_2_code 176 = .ok (.if_icmp .le 15, 3) := by decide +kernel
set_option maxRecDepth 65536 in
set_option maxHeartbeats 40000000 in
theorem seg_st14 {p : Program} {l : Launch} {e : Env} {R : Room} {s : State} {m : MethodId} {args : Array Value} {below : List Frame} {meth : Method} {c : Code} {T : State} {locs : List Loc} {cells slots : Nat} {Z : State} {a0 : Array Value} (X : Stand p l e R s m args below meth c T locs cells slots) (hx : p.tables.exec = Jvm.exec) (hZ : Z.Warmed39 s.vm) (hw : ∀ d ∈ tables_1, d.before a0 Z = true) (hby : c.code = prog_87_method_2_code) (hown : s.vm.findClass "com/example/liana/liana/rdf/TurtleGrammar" = some m.cls) (x : Int32) (t : State)
    (kt : Steps p.tables e below (T.setTop (mkF m 196 #[.val (.int x)] [(.int (own_st14 x))])) t) : Steps p.tables e below (T.setTop (mkF m 167 #[.val (.int x)] [])) t := by
  by_cases h : (65008 ≤ x.toInt ∧ x.toInt ≤ 65533)
  · rw [own_st14, if_pos h] at kt
    show Steps p.tables e below (T.setTop (mkF m 167 #[.val (.int x)] [])) _
    refine XS.iloadN X.here hx rfl (hb hby d3_167) rfl ?_
    show Steps p.tables e below (T.setTop (mkF m 168 #[.val (.int x)] [(.int x)])) _
    refine X.ldcI hx hown (mvT hZ (hw _ (List.mem_of_getElem? (i := 13) rfl))) (g := (mkF m 168 #[.val (.int x)] [(.int x)])) rfl (hb hby d3_168) ?_
    show Steps p.tables e below (T.setTop (mkF m 170 #[.val (.int x)] [(.int (65008 : Int32)), (.int x)])) _
    refine XS.icmpNo X.here hx rfl (hb hby d3_170) rfl (flt (own_geI (by rw [show (65008 : Int32).toInt = 65008 from rfl]; omega))).1 ?_
    show Steps p.tables e below (T.setTop (mkF m 173 #[.val (.int x)] [])) _
    refine XS.iloadN X.here hx rfl (hb hby d3_173) rfl ?_
    show Steps p.tables e below (T.setTop (mkF m 174 #[.val (.int x)] [(.int x)])) _
    refine X.ldcI hx hown (mvT hZ (hw _ (List.mem_of_getElem? (i := 17) rfl))) (g := (mkF m 174 #[.val (.int x)] [(.int x)])) rfl (hb hby d3_174) ?_
    show Steps p.tables e below (T.setTop (mkF m 176 #[.val (.int x)] [(.int (65533 : Int32)), (.int x)])) _
    refine XS.icmpYes X.here hx rfl (pc0 := 176) (pc' := 191) rfl (hb hby d3_176) rfl (flt (own_geI (by rw [show (65533 : Int32).toInt = 65533 from rfl]; omega))).2.2.2 (by decide) (by decide) ?_
    show Steps p.tables e below (T.setTop (mkF m 191 #[.val (.int x)] [])) _
    refine XS.iconst X.here hx rfl (hb hby d3_191) ?_
    show Steps p.tables e below (T.setTop (mkF m 192 #[.val (.int x)] [(.int (1 : Int32))])) _
    refine XS.goto X.here hx rfl (pc0 := 192) (pc' := 196) rfl (hb hby d3_192) (by decide) (by decide) ?_
    exact kt
  · rw [own_st14, if_neg h] at kt
    by_cases h2 : x.toInt < 65008
    · skip
      show Steps p.tables e below (T.setTop (mkF m 167 #[.val (.int x)] [])) _
      refine XS.iloadN X.here hx rfl (hb hby d3_167) rfl ?_
      show Steps p.tables e below (T.setTop (mkF m 168 #[.val (.int x)] [(.int x)])) _
      refine X.ldcI hx hown (mvT hZ (hw _ (List.mem_of_getElem? (i := 13) rfl))) (g := (mkF m 168 #[.val (.int x)] [(.int x)])) rfl (hb hby d3_168) ?_
      show Steps p.tables e below (T.setTop (mkF m 170 #[.val (.int x)] [(.int (65008 : Int32)), (.int x)])) _
      refine XS.icmpYes X.here hx rfl (pc0 := 170) (pc' := 179) rfl (hb hby d3_170) rfl (tlt (own_ltI (by rw [show (65008 : Int32).toInt = 65008 from rfl]; omega))).1 (by decide) (by decide) ?_
      exact seg_st15 X hx hZ hw hby hown x t kt
    · skip
      show Steps p.tables e below (T.setTop (mkF m 167 #[.val (.int x)] [])) _
      refine XS.iloadN X.here hx rfl (hb hby d3_167) rfl ?_
      show Steps p.tables e below (T.setTop (mkF m 168 #[.val (.int x)] [(.int x)])) _
      refine X.ldcI hx hown (mvT hZ (hw _ (List.mem_of_getElem? (i := 13) rfl))) (g := (mkF m 168 #[.val (.int x)] [(.int x)])) rfl (hb hby d3_168) ?_
      show Steps p.tables e below (T.setTop (mkF m 170 #[.val (.int x)] [(.int (65008 : Int32)), (.int x)])) _
      refine XS.icmpNo X.here hx rfl (hb hby d3_170) rfl (flt (own_geI (by rw [show (65008 : Int32).toInt = 65008 from rfl]; omega))).1 ?_
      show Steps p.tables e below (T.setTop (mkF m 173 #[.val (.int x)] [])) _
      refine XS.iloadN X.here hx rfl (hb hby d3_173) rfl ?_
      show Steps p.tables e below (T.setTop (mkF m 174 #[.val (.int x)] [(.int x)])) _
      refine X.ldcI hx hown (mvT hZ (hw _ (List.mem_of_getElem? (i := 17) rfl))) (g := (mkF m 174 #[.val (.int x)] [(.int x)])) rfl (hb hby d3_174) ?_
      show Steps p.tables e below (T.setTop (mkF m 176 #[.val (.int x)] [(.int (65533 : Int32)), (.int x)])) _
      refine XS.icmpNo X.here hx rfl (hb hby d3_176) rfl (tlt (own_ltI (by rw [show (65533 : Int32).toInt = 65533 from rfl]; omega))).2.2.2 ?_
      exact seg_st15 X hx hZ hw hby hown x t kt
def own_st13 (x : Int32) : Int32 := if (63744 ≤ x.toInt ∧ x.toInt ≤ 64975) then 1 else own_st14 x
theorem d3_155 : decode prog_87_method_2_code 155 = .ok (.iload_n 0, 1) := by decide +kernel
theorem d3_156 : decode prog_87_method_2_code 156 = .ok (.ldc 8, 2) := by decide +kernel
theorem d3_158 : decode prog_87_method_2_code 158 = .ok (.if_icmp .lt 9, 3) := by decide +kernel
theorem d3_161 : decode prog_87_method_2_code 161 = .ok (.iload_n 0, 1) := by decide +kernel
theorem d3_162 : decode prog_87_method_2_code 162 = .ok (.ldc 9, 2) := by decide +kernel
theorem d3_164 : decode prog_87_method_2_code 164 = .ok (.if_icmp .le 27, 3) := by decide +kernel
set_option maxRecDepth 65536 in
set_option maxHeartbeats 40000000 in
theorem seg_st13 {p : Program} {l : Launch} {e : Env} {R : Room} {s : State} {m : MethodId} {args : Array Value} {below : List Frame} {meth : Method} {c : Code} {T : State} {locs : List Loc} {cells slots : Nat} {Z : State} {a0 : Array Value} (X : Stand p l e R s m args below meth c T locs cells slots) (hx : p.tables.exec = Jvm.exec) (hZ : Z.Warmed39 s.vm) (hw : ∀ d ∈ tables_1, d.before a0 Z = true) (hby : c.code = prog_87_method_2_code) (hown : s.vm.findClass "com/example/liana/liana/rdf/TurtleGrammar" = some m.cls) (x : Int32) (t : State)
    (kt : Steps p.tables e below (T.setTop (mkF m 196 #[.val (.int x)] [(.int (own_st13 x))])) t) : Steps p.tables e below (T.setTop (mkF m 155 #[.val (.int x)] [])) t := by
  by_cases h : (63744 ≤ x.toInt ∧ x.toInt ≤ 64975)
  · rw [own_st13, if_pos h] at kt
    show Steps p.tables e below (T.setTop (mkF m 155 #[.val (.int x)] [])) _
    refine XS.iloadN X.here hx rfl (hb hby d3_155) rfl ?_
    show Steps p.tables e below (T.setTop (mkF m 156 #[.val (.int x)] [(.int x)])) _
    refine X.ldcI hx hown (mvT hZ (hw _ (List.mem_of_getElem? (i := 12) rfl))) (g := (mkF m 156 #[.val (.int x)] [(.int x)])) rfl (hb hby d3_156) ?_
    show Steps p.tables e below (T.setTop (mkF m 158 #[.val (.int x)] [(.int (63744 : Int32)), (.int x)])) _
    refine XS.icmpNo X.here hx rfl (hb hby d3_158) rfl (flt (own_geI (by rw [show (63744 : Int32).toInt = 63744 from rfl]; omega))).1 ?_
    show Steps p.tables e below (T.setTop (mkF m 161 #[.val (.int x)] [])) _
    refine XS.iloadN X.here hx rfl (hb hby d3_161) rfl ?_
    show Steps p.tables e below (T.setTop (mkF m 162 #[.val (.int x)] [(.int x)])) _
    refine X.ldcI hx hown (mvT hZ (hw _ (List.mem_of_getElem? (i := 16) rfl))) (g := (mkF m 162 #[.val (.int x)] [(.int x)])) rfl (hb hby d3_162) ?_
    show Steps p.tables e below (T.setTop (mkF m 164 #[.val (.int x)] [(.int (64975 : Int32)), (.int x)])) _
    refine XS.icmpYes X.here hx rfl (pc0 := 164) (pc' := 191) rfl (hb hby d3_164) rfl (flt (own_geI (by rw [show (64975 : Int32).toInt = 64975 from rfl]; omega))).2.2.2 (by decide) (by decide) ?_
    show Steps p.tables e below (T.setTop (mkF m 191 #[.val (.int x)] [])) _
    refine XS.iconst X.here hx rfl (hb hby d3_191) ?_
    show Steps p.tables e below (T.setTop (mkF m 192 #[.val (.int x)] [(.int (1 : Int32))])) _
    refine XS.goto X.here hx rfl (pc0 := 192) (pc' := 196) rfl (hb hby d3_192) (by decide) (by decide) ?_
    exact kt
  · rw [own_st13, if_neg h] at kt
    by_cases h2 : x.toInt < 63744
    · skip
      show Steps p.tables e below (T.setTop (mkF m 155 #[.val (.int x)] [])) _
      refine XS.iloadN X.here hx rfl (hb hby d3_155) rfl ?_
      show Steps p.tables e below (T.setTop (mkF m 156 #[.val (.int x)] [(.int x)])) _
      refine X.ldcI hx hown (mvT hZ (hw _ (List.mem_of_getElem? (i := 12) rfl))) (g := (mkF m 156 #[.val (.int x)] [(.int x)])) rfl (hb hby d3_156) ?_
      show Steps p.tables e below (T.setTop (mkF m 158 #[.val (.int x)] [(.int (63744 : Int32)), (.int x)])) _
      refine XS.icmpYes X.here hx rfl (pc0 := 158) (pc' := 167) rfl (hb hby d3_158) rfl (tlt (own_ltI (by rw [show (63744 : Int32).toInt = 63744 from rfl]; omega))).1 (by decide) (by decide) ?_
      exact seg_st14 X hx hZ hw hby hown x t kt
    · skip
      show Steps p.tables e below (T.setTop (mkF m 155 #[.val (.int x)] [])) _
      refine XS.iloadN X.here hx rfl (hb hby d3_155) rfl ?_
      show Steps p.tables e below (T.setTop (mkF m 156 #[.val (.int x)] [(.int x)])) _
      refine X.ldcI hx hown (mvT hZ (hw _ (List.mem_of_getElem? (i := 12) rfl))) (g := (mkF m 156 #[.val (.int x)] [(.int x)])) rfl (hb hby d3_156) ?_
      show Steps p.tables e below (T.setTop (mkF m 158 #[.val (.int x)] [(.int (63744 : Int32)), (.int x)])) _
      refine XS.icmpNo X.here hx rfl (hb hby d3_158) rfl (flt (own_geI (by rw [show (63744 : Int32).toInt = 63744 from rfl]; omega))).1 ?_
      show Steps p.tables e below (T.setTop (mkF m 161 #[.val (.int x)] [])) _
      refine XS.iloadN X.here hx rfl (hb hby d3_161) rfl ?_
      show Steps p.tables e below (T.setTop (mkF m 162 #[.val (.int x)] [(.int x)])) _
      refine X.ldcI hx hown (mvT hZ (hw _ (List.mem_of_getElem? (i := 16) rfl))) (g := (mkF m 162 #[.val (.int x)] [(.int x)])) rfl (hb hby d3_162) ?_
      show Steps p.tables e below (T.setTop (mkF m 164 #[.val (.int x)] [(.int (64975 : Int32)), (.int x)])) _
      refine XS.icmpNo X.here hx rfl (hb hby d3_164) rfl (tlt (own_ltI (by rw [show (64975 : Int32).toInt = 64975 from rfl]; omega))).2.2.2 ?_
      exact seg_st14 X hx hZ hw hby hown x t kt
def own_st12 (x : Int32) : Int32 := if (12289 ≤ x.toInt ∧ x.toInt ≤ 55295) then 1 else own_st13 x
theorem d3_142 : decode prog_87_method_2_code 142 = .ok (.iload_n 0, 1) := by decide +kernel
theorem d3_143 : decode prog_87_method_2_code 143 = .ok (.sipush 12289, 3) := by decide +kernel
theorem d3_146 : decode prog_87_method_2_code 146 = .ok (.if_icmp .lt 9, 3) := by decide +kernel
theorem d3_149 : decode prog_87_method_2_code 149 = .ok (.iload_n 0, 1) := by decide +kernel
theorem d3_150 : decode prog_87_method_2_code 150 = .ok (.ldc 7, 2) := by decide +kernel
theorem d3_152 : decode prog_87_method_2_code 152 = .ok (.if_icmp .le 39, 3) := by decide +kernel
set_option maxRecDepth 65536 in
set_option maxHeartbeats 40000000 in
theorem seg_st12 {p : Program} {l : Launch} {e : Env} {R : Room} {s : State} {m : MethodId} {args : Array Value} {below : List Frame} {meth : Method} {c : Code} {T : State} {locs : List Loc} {cells slots : Nat} {Z : State} {a0 : Array Value} (X : Stand p l e R s m args below meth c T locs cells slots) (hx : p.tables.exec = Jvm.exec) (hZ : Z.Warmed39 s.vm) (hw : ∀ d ∈ tables_1, d.before a0 Z = true) (hby : c.code = prog_87_method_2_code) (hown : s.vm.findClass "com/example/liana/liana/rdf/TurtleGrammar" = some m.cls) (x : Int32) (t : State)
    (kt : Steps p.tables e below (T.setTop (mkF m 196 #[.val (.int x)] [(.int (own_st12 x))])) t) : Steps p.tables e below (T.setTop (mkF m 142 #[.val (.int x)] [])) t := by
  by_cases h : (12289 ≤ x.toInt ∧ x.toInt ≤ 55295)
  · rw [own_st12, if_pos h] at kt
    show Steps p.tables e below (T.setTop (mkF m 142 #[.val (.int x)] [])) _
    refine XS.iloadN X.here hx rfl (hb hby d3_142) rfl ?_
    show Steps p.tables e below (T.setTop (mkF m 143 #[.val (.int x)] [(.int x)])) _
    refine XS.sipush X.here hx rfl (hb hby d3_143) ?_
    show Steps p.tables e below (T.setTop (mkF m 146 #[.val (.int x)] [(.int (12289 : Int32)), (.int x)])) _
    refine XS.icmpNo X.here hx rfl (hb hby d3_146) rfl (flt (own_geI (by rw [show (12289 : Int32).toInt = 12289 from rfl]; omega))).1 ?_
    show Steps p.tables e below (T.setTop (mkF m 149 #[.val (.int x)] [])) _
    refine XS.iloadN X.here hx rfl (hb hby d3_149) rfl ?_
    show Steps p.tables e below (T.setTop (mkF m 150 #[.val (.int x)] [(.int x)])) _
    refine X.ldcI hx hown (mvT hZ (hw _ (List.mem_of_getElem? (i := 15) rfl))) (g := (mkF m 150 #[.val (.int x)] [(.int x)])) rfl (hb hby d3_150) ?_
    show Steps p.tables e below (T.setTop (mkF m 152 #[.val (.int x)] [(.int (55295 : Int32)), (.int x)])) _
    refine XS.icmpYes X.here hx rfl (pc0 := 152) (pc' := 191) rfl (hb hby d3_152) rfl (flt (own_geI (by rw [show (55295 : Int32).toInt = 55295 from rfl]; omega))).2.2.2 (by decide) (by decide) ?_
    show Steps p.tables e below (T.setTop (mkF m 191 #[.val (.int x)] [])) _
    refine XS.iconst X.here hx rfl (hb hby d3_191) ?_
    show Steps p.tables e below (T.setTop (mkF m 192 #[.val (.int x)] [(.int (1 : Int32))])) _
    refine XS.goto X.here hx rfl (pc0 := 192) (pc' := 196) rfl (hb hby d3_192) (by decide) (by decide) ?_
    exact kt
  · rw [own_st12, if_neg h] at kt
    by_cases h2 : x.toInt < 12289
    · skip
      show Steps p.tables e below (T.setTop (mkF m 142 #[.val (.int x)] [])) _
      refine XS.iloadN X.here hx rfl (hb hby d3_142) rfl ?_
      show Steps p.tables e below (T.setTop (mkF m 143 #[.val (.int x)] [(.int x)])) _
      refine XS.sipush X.here hx rfl (hb hby d3_143) ?_
      show Steps p.tables e below (T.setTop (mkF m 146 #[.val (.int x)] [(.int (12289 : Int32)), (.int x)])) _
      refine XS.icmpYes X.here hx rfl (pc0 := 146) (pc' := 155) rfl (hb hby d3_146) rfl (tlt (own_ltI (by rw [show (12289 : Int32).toInt = 12289 from rfl]; omega))).1 (by decide) (by decide) ?_
      exact seg_st13 X hx hZ hw hby hown x t kt
    · skip
      show Steps p.tables e below (T.setTop (mkF m 142 #[.val (.int x)] [])) _
      refine XS.iloadN X.here hx rfl (hb hby d3_142) rfl ?_
      show Steps p.tables e below (T.setTop (mkF m 143 #[.val (.int x)] [(.int x)])) _
      refine XS.sipush X.here hx rfl (hb hby d3_143) ?_
      show Steps p.tables e below (T.setTop (mkF m 146 #[.val (.int x)] [(.int (12289 : Int32)), (.int x)])) _
      refine XS.icmpNo X.here hx rfl (hb hby d3_146) rfl (flt (own_geI (by rw [show (12289 : Int32).toInt = 12289 from rfl]; omega))).1 ?_
      show Steps p.tables e below (T.setTop (mkF m 149 #[.val (.int x)] [])) _
      refine XS.iloadN X.here hx rfl (hb hby d3_149) rfl ?_
      show Steps p.tables e below (T.setTop (mkF m 150 #[.val (.int x)] [(.int x)])) _
      refine X.ldcI hx hown (mvT hZ (hw _ (List.mem_of_getElem? (i := 15) rfl))) (g := (mkF m 150 #[.val (.int x)] [(.int x)])) rfl (hb hby d3_150) ?_
      show Steps p.tables e below (T.setTop (mkF m 152 #[.val (.int x)] [(.int (55295 : Int32)), (.int x)])) _
      refine XS.icmpNo X.here hx rfl (hb hby d3_152) rfl (tlt (own_ltI (by rw [show (55295 : Int32).toInt = 55295 from rfl]; omega))).2.2.2 ?_
      exact seg_st13 X hx hZ hw hby hown x t kt
def own_st11 (x : Int32) : Int32 := if (11264 ≤ x.toInt ∧ x.toInt ≤ 12271) then 1 else own_st12 x
theorem d3_128 : decode prog_87_method_2_code 128 = .ok (.iload_n 0, 1) := by decide +kernel
theorem d3_129 : decode prog_87_method_2_code 129 = .ok (.sipush 11264, 3) := by decide +kernel
theorem d3_132 : decode prog_87_method_2_code 132 = .ok (.if_icmp .lt 10, 3) := by decide +kernel
theorem d3_135 : decode prog_87_method_2_code 135 = .ok (.iload_n 0, 1) := by decide +kernel
theorem d3_136 : decode prog_87_method_2_code 136 = .ok (.sipush 12271, 3) := by decide +kernel
theorem d3_139 : decode prog_87_method_2_code 139 = .ok (.if_icmp .le 52, 3) := by decide +kernel
set_option maxRecDepth 65536 in
set_option maxHeartbeats 40000000 in
theorem seg_st11 {p : Program} {l : Launch} {e : Env} {R : Room} {s : State} {m : MethodId} {args : Array Value} {below : List Frame} {meth : Method} {c : Code} {T : State} {locs : List Loc} {cells slots : Nat} {Z : State} {a0 : Array Value} (X : Stand p l e R s m args below meth c T locs cells slots) (hx : p.tables.exec = Jvm.exec) (hZ : Z.Warmed39 s.vm) (hw : ∀ d ∈ tables_1, d.before a0 Z = true) (hby : c.code = prog_87_method_2_code) (hown : s.vm.findClass "com/example/liana/liana/rdf/TurtleGrammar" = some m.cls) (x : Int32) (t : State)
    (kt : Steps p.tables e below (T.setTop (mkF m 196 #[.val (.int x)] [(.int (own_st11 x))])) t) : Steps p.tables e below (T.setTop (mkF m 128 #[.val (.int x)] [])) t := by
  by_cases h : (11264 ≤ x.toInt ∧ x.toInt ≤ 12271)
  · rw [own_st11, if_pos h] at kt
    show Steps p.tables e below (T.setTop (mkF m 128 #[.val (.int x)] [])) _
    refine XS.iloadN X.here hx rfl (hb hby d3_128) rfl ?_
    show Steps p.tables e below (T.setTop (mkF m 129 #[.val (.int x)] [(.int x)])) _
    refine XS.sipush X.here hx rfl (hb hby d3_129) ?_
    show Steps p.tables e below (T.setTop (mkF m 132 #[.val (.int x)] [(.int (11264 : Int32)), (.int x)])) _
    refine XS.icmpNo X.here hx rfl (hb hby d3_132) rfl (flt (own_geI (by rw [show (11264 : Int32).toInt = 11264 from rfl]; omega))).1 ?_
    show Steps p.tables e below (T.setTop (mkF m 135 #[.val (.int x)] [])) _
    refine XS.iloadN X.here hx rfl (hb hby d3_135) rfl ?_
    show Steps p.tables e below (T.setTop (mkF m 136 #[.val (.int x)] [(.int x)])) _
    refine XS.sipush X.here hx rfl (hb hby d3_136) ?_
    show Steps p.tables e below (T.setTop (mkF m 139 #[.val (.int x)] [(.int (12271 : Int32)), (.int x)])) _
    refine XS.icmpYes X.here hx rfl (pc0 := 139) (pc' := 191) rfl (hb hby d3_139) rfl (flt (own_geI (by rw [show (12271 : Int32).toInt = 12271 from rfl]; omega))).2.2.2 (by decide) (by decide) ?_
    show Steps p.tables e below (T.setTop (mkF m 191 #[.val (.int x)] [])) _
    refine XS.iconst X.here hx rfl (hb hby d3_191) ?_
    show Steps p.tables e below (T.setTop (mkF m 192 #[.val (.int x)] [(.int (1 : Int32))])) _
    refine XS.goto X.here hx rfl (pc0 := 192) (pc' := 196) rfl (hb hby d3_192) (by decide) (by decide) ?_
    exact kt
  · rw [own_st11, if_neg h] at kt
    by_cases h2 : x.toInt < 11264
    · skip
      show Steps p.tables e below (T.setTop (mkF m 128 #[.val (.int x)] [])) _
      refine XS.iloadN X.here hx rfl (hb hby d3_128) rfl ?_
      show Steps p.tables e below (T.setTop (mkF m 129 #[.val (.int x)] [(.int x)])) _
      refine XS.sipush X.here hx rfl (hb hby d3_129) ?_
      show Steps p.tables e below (T.setTop (mkF m 132 #[.val (.int x)] [(.int (11264 : Int32)), (.int x)])) _
      refine XS.icmpYes X.here hx rfl (pc0 := 132) (pc' := 142) rfl (hb hby d3_132) rfl (tlt (own_ltI (by rw [show (11264 : Int32).toInt = 11264 from rfl]; omega))).1 (by decide) (by decide) ?_
      exact seg_st12 X hx hZ hw hby hown x t kt
    · skip
      show Steps p.tables e below (T.setTop (mkF m 128 #[.val (.int x)] [])) _
      refine XS.iloadN X.here hx rfl (hb hby d3_128) rfl ?_
      show Steps p.tables e below (T.setTop (mkF m 129 #[.val (.int x)] [(.int x)])) _
      refine XS.sipush X.here hx rfl (hb hby d3_129) ?_
      show Steps p.tables e below (T.setTop (mkF m 132 #[.val (.int x)] [(.int (11264 : Int32)), (.int x)])) _
      refine XS.icmpNo X.here hx rfl (hb hby d3_132) rfl (flt (own_geI (by rw [show (11264 : Int32).toInt = 11264 from rfl]; omega))).1 ?_
      show Steps p.tables e below (T.setTop (mkF m 135 #[.val (.int x)] [])) _
      refine XS.iloadN X.here hx rfl (hb hby d3_135) rfl ?_
      show Steps p.tables e below (T.setTop (mkF m 136 #[.val (.int x)] [(.int x)])) _
      refine XS.sipush X.here hx rfl (hb hby d3_136) ?_
      show Steps p.tables e below (T.setTop (mkF m 139 #[.val (.int x)] [(.int (12271 : Int32)), (.int x)])) _
      refine XS.icmpNo X.here hx rfl (hb hby d3_139) rfl (tlt (own_ltI (by rw [show (12271 : Int32).toInt = 12271 from rfl]; omega))).2.2.2 ?_
      exact seg_st12 X hx hZ hw hby hown x t kt
def own_st10 (x : Int32) : Int32 := if (8304 ≤ x.toInt ∧ x.toInt ≤ 8591) then 1 else own_st11 x
theorem d3_114 : decode prog_87_method_2_code 114 = .ok (.iload_n 0, 1) := by decide +kernel
theorem d3_115 : decode prog_87_method_2_code 115 = .ok (.sipush 8304, 3) := by decide +kernel
theorem d3_118 : decode prog_87_method_2_code 118 = .ok (.if_icmp .lt 10, 3) := by decide +kernel
theorem d3_121 : decode prog_87_method_2_code 121 = .ok (.iload_n 0, 1) := by decide +kernel
theorem d3_122 : decode prog_87_method_2_code 122 = .ok (.sipush 8591, 3) := by decide +kernel
theorem d3_125 : decode prog_87_method_2_code 125 = .ok (.if_icmp .le 66, 3) := by decide +kernel
set_option maxRecDepth 65536 in
set_option maxHeartbeats 40000000 in
theorem seg_st10 {p : Program} {l : Launch} {e : Env} {R : Room} {s : State} {m : MethodId} {args : Array Value} {below : List Frame} {meth : Method} {c : Code} {T : State} {locs : List Loc} {cells slots : Nat} {Z : State} {a0 : Array Value} (X : Stand p l e R s m args below meth c T locs cells slots) (hx : p.tables.exec = Jvm.exec) (hZ : Z.Warmed39 s.vm) (hw : ∀ d ∈ tables_1, d.before a0 Z = true) (hby : c.code = prog_87_method_2_code) (hown : s.vm.findClass "com/example/liana/liana/rdf/TurtleGrammar" = some m.cls) (x : Int32) (t : State)
    (kt : Steps p.tables e below (T.setTop (mkF m 196 #[.val (.int x)] [(.int (own_st10 x))])) t) : Steps p.tables e below (T.setTop (mkF m 114 #[.val (.int x)] [])) t := by
  by_cases h : (8304 ≤ x.toInt ∧ x.toInt ≤ 8591)
  · rw [own_st10, if_pos h] at kt
    show Steps p.tables e below (T.setTop (mkF m 114 #[.val (.int x)] [])) _
    refine XS.iloadN X.here hx rfl (hb hby d3_114) rfl ?_
    show Steps p.tables e below (T.setTop (mkF m 115 #[.val (.int x)] [(.int x)])) _
    refine XS.sipush X.here hx rfl (hb hby d3_115) ?_
    show Steps p.tables e below (T.setTop (mkF m 118 #[.val (.int x)] [(.int (8304 : Int32)), (.int x)])) _
    refine XS.icmpNo X.here hx rfl (hb hby d3_118) rfl (flt (own_geI (by rw [show (8304 : Int32).toInt = 8304 from rfl]; omega))).1 ?_
    show Steps p.tables e below (T.setTop (mkF m 121 #[.val (.int x)] [])) _
    refine XS.iloadN X.here hx rfl (hb hby d3_121) rfl ?_
    show Steps p.tables e below (T.setTop (mkF m 122 #[.val (.int x)] [(.int x)])) _
    refine XS.sipush X.here hx rfl (hb hby d3_122) ?_
    show Steps p.tables e below (T.setTop (mkF m 125 #[.val (.int x)] [(.int (8591 : Int32)), (.int x)])) _
    refine XS.icmpYes X.here hx rfl (pc0 := 125) (pc' := 191) rfl (hb hby d3_125) rfl (flt (own_geI (by rw [show (8591 : Int32).toInt = 8591 from rfl]; omega))).2.2.2 (by decide) (by decide) ?_
    show Steps p.tables e below (T.setTop (mkF m 191 #[.val (.int x)] [])) _
    refine XS.iconst X.here hx rfl (hb hby d3_191) ?_
    show Steps p.tables e below (T.setTop (mkF m 192 #[.val (.int x)] [(.int (1 : Int32))])) _
    refine XS.goto X.here hx rfl (pc0 := 192) (pc' := 196) rfl (hb hby d3_192) (by decide) (by decide) ?_
    exact kt
  · rw [own_st10, if_neg h] at kt
    by_cases h2 : x.toInt < 8304
    · skip
      show Steps p.tables e below (T.setTop (mkF m 114 #[.val (.int x)] [])) _
      refine XS.iloadN X.here hx rfl (hb hby d3_114) rfl ?_
      show Steps p.tables e below (T.setTop (mkF m 115 #[.val (.int x)] [(.int x)])) _
      refine XS.sipush X.here hx rfl (hb hby d3_115) ?_
      show Steps p.tables e below (T.setTop (mkF m 118 #[.val (.int x)] [(.int (8304 : Int32)), (.int x)])) _
      refine XS.icmpYes X.here hx rfl (pc0 := 118) (pc' := 128) rfl (hb hby d3_118) rfl (tlt (own_ltI (by rw [show (8304 : Int32).toInt = 8304 from rfl]; omega))).1 (by decide) (by decide) ?_
      exact seg_st11 X hx hZ hw hby hown x t kt
    · skip
      show Steps p.tables e below (T.setTop (mkF m 114 #[.val (.int x)] [])) _
      refine XS.iloadN X.here hx rfl (hb hby d3_114) rfl ?_
      show Steps p.tables e below (T.setTop (mkF m 115 #[.val (.int x)] [(.int x)])) _
      refine XS.sipush X.here hx rfl (hb hby d3_115) ?_
      show Steps p.tables e below (T.setTop (mkF m 118 #[.val (.int x)] [(.int (8304 : Int32)), (.int x)])) _
      refine XS.icmpNo X.here hx rfl (hb hby d3_118) rfl (flt (own_geI (by rw [show (8304 : Int32).toInt = 8304 from rfl]; omega))).1 ?_
      show Steps p.tables e below (T.setTop (mkF m 121 #[.val (.int x)] [])) _
      refine XS.iloadN X.here hx rfl (hb hby d3_121) rfl ?_
      show Steps p.tables e below (T.setTop (mkF m 122 #[.val (.int x)] [(.int x)])) _
      refine XS.sipush X.here hx rfl (hb hby d3_122) ?_
      show Steps p.tables e below (T.setTop (mkF m 125 #[.val (.int x)] [(.int (8591 : Int32)), (.int x)])) _
      refine XS.icmpNo X.here hx rfl (hb hby d3_125) rfl (tlt (own_ltI (by rw [show (8591 : Int32).toInt = 8591 from rfl]; omega))).2.2.2 ?_
      exact seg_st11 X hx hZ hw hby hown x t kt
def own_st9 (x : Int32) : Int32 := if (8204 ≤ x.toInt ∧ x.toInt ≤ 8205) then 1 else own_st10 x
theorem d3_100 : decode prog_87_method_2_code 100 = .ok (.iload_n 0, 1) := by decide +kernel
theorem d3_101 : decode prog_87_method_2_code 101 = .ok (.sipush 8204, 3) := by decide +kernel
theorem d3_104 : decode prog_87_method_2_code 104 = .ok (.if_icmp .lt 10, 3) := by decide +kernel
theorem d3_107 : decode prog_87_method_2_code 107 = .ok (.iload_n 0, 1) := by decide +kernel
theorem d3_108 : decode prog_87_method_2_code 108 = .ok (.sipush 8205, 3) := by decide +kernel
theorem d3_111 : decode prog_87_method_2_code 111 = .ok (.if_icmp .le 80, 3) := by decide +kernel
set_option maxRecDepth 65536 in
set_option maxHeartbeats 40000000 in
theorem seg_st9 {p : Program} {l : Launch} {e : Env} {R : Room} {s : State} {m : MethodId} {args : Array Value} {below : List Frame} {meth : Method} {c : Code} {T : State} {locs : List Loc} {cells slots : Nat} {Z : State} {a0 : Array Value} (X : Stand p l e R s m args below meth c T locs cells slots) (hx : p.tables.exec = Jvm.exec) (hZ : Z.Warmed39 s.vm) (hw : ∀ d ∈ tables_1, d.before a0 Z = true) (hby : c.code = prog_87_method_2_code) (hown : s.vm.findClass "com/example/liana/liana/rdf/TurtleGrammar" = some m.cls) (x : Int32) (t : State)
    (kt : Steps p.tables e below (T.setTop (mkF m 196 #[.val (.int x)] [(.int (own_st9 x))])) t) : Steps p.tables e below (T.setTop (mkF m 100 #[.val (.int x)] [])) t := by
  by_cases h : (8204 ≤ x.toInt ∧ x.toInt ≤ 8205)
  · rw [own_st9, if_pos h] at kt
    show Steps p.tables e below (T.setTop (mkF m 100 #[.val (.int x)] [])) _
    refine XS.iloadN X.here hx rfl (hb hby d3_100) rfl ?_
    show Steps p.tables e below (T.setTop (mkF m 101 #[.val (.int x)] [(.int x)])) _
    refine XS.sipush X.here hx rfl (hb hby d3_101) ?_
    show Steps p.tables e below (T.setTop (mkF m 104 #[.val (.int x)] [(.int (8204 : Int32)), (.int x)])) _
    refine XS.icmpNo X.here hx rfl (hb hby d3_104) rfl (flt (own_geI (by rw [show (8204 : Int32).toInt = 8204 from rfl]; omega))).1 ?_
    show Steps p.tables e below (T.setTop (mkF m 107 #[.val (.int x)] [])) _
    refine XS.iloadN X.here hx rfl (hb hby d3_107) rfl ?_
    show Steps p.tables e below (T.setTop (mkF m 108 #[.val (.int x)] [(.int x)])) _
    refine XS.sipush X.here hx rfl (hb hby d3_108) ?_
    show Steps p.tables e below (T.setTop (mkF m 111 #[.val (.int x)] [(.int (8205 : Int32)), (.int x)])) _
    refine XS.icmpYes X.here hx rfl (pc0 := 111) (pc' := 191) rfl (hb hby d3_111) rfl (flt (own_geI (by rw [show (8205 : Int32).toInt = 8205 from rfl]; omega))).2.2.2 (by decide) (by decide) ?_
    show Steps p.tables e below (T.setTop (mkF m 191 #[.val (.int x)] [])) _
    refine XS.iconst X.here hx rfl (hb hby d3_191) ?_
    show Steps p.tables e below (T.setTop (mkF m 192 #[.val (.int x)] [(.int (1 : Int32))])) _
    refine XS.goto X.here hx rfl (pc0 := 192) (pc' := 196) rfl (hb hby d3_192) (by decide) (by decide) ?_
    exact kt
  · rw [own_st9, if_neg h] at kt
    by_cases h2 : x.toInt < 8204
    · skip
      show Steps p.tables e below (T.setTop (mkF m 100 #[.val (.int x)] [])) _
      refine XS.iloadN X.here hx rfl (hb hby d3_100) rfl ?_
      show Steps p.tables e below (T.setTop (mkF m 101 #[.val (.int x)] [(.int x)])) _
      refine XS.sipush X.here hx rfl (hb hby d3_101) ?_
      show Steps p.tables e below (T.setTop (mkF m 104 #[.val (.int x)] [(.int (8204 : Int32)), (.int x)])) _
      refine XS.icmpYes X.here hx rfl (pc0 := 104) (pc' := 114) rfl (hb hby d3_104) rfl (tlt (own_ltI (by rw [show (8204 : Int32).toInt = 8204 from rfl]; omega))).1 (by decide) (by decide) ?_
      exact seg_st10 X hx hZ hw hby hown x t kt
    · skip
      show Steps p.tables e below (T.setTop (mkF m 100 #[.val (.int x)] [])) _
      refine XS.iloadN X.here hx rfl (hb hby d3_100) rfl ?_
      show Steps p.tables e below (T.setTop (mkF m 101 #[.val (.int x)] [(.int x)])) _
      refine XS.sipush X.here hx rfl (hb hby d3_101) ?_
      show Steps p.tables e below (T.setTop (mkF m 104 #[.val (.int x)] [(.int (8204 : Int32)), (.int x)])) _
      refine XS.icmpNo X.here hx rfl (hb hby d3_104) rfl (flt (own_geI (by rw [show (8204 : Int32).toInt = 8204 from rfl]; omega))).1 ?_
      show Steps p.tables e below (T.setTop (mkF m 107 #[.val (.int x)] [])) _
      refine XS.iloadN X.here hx rfl (hb hby d3_107) rfl ?_
      show Steps p.tables e below (T.setTop (mkF m 108 #[.val (.int x)] [(.int x)])) _
      refine XS.sipush X.here hx rfl (hb hby d3_108) ?_
      show Steps p.tables e below (T.setTop (mkF m 111 #[.val (.int x)] [(.int (8205 : Int32)), (.int x)])) _
      refine XS.icmpNo X.here hx rfl (hb hby d3_111) rfl (tlt (own_ltI (by rw [show (8205 : Int32).toInt = 8205 from rfl]; omega))).2.2.2 ?_
      exact seg_st10 X hx hZ hw hby hown x t kt
def own_st8 (x : Int32) : Int32 := if (895 ≤ x.toInt ∧ x.toInt ≤ 8191) then 1 else own_st9 x
theorem d3_86 : decode prog_87_method_2_code 86 = .ok (.iload_n 0, 1) := by decide +kernel
theorem d3_87 : decode prog_87_method_2_code 87 = .ok (.sipush 895, 3) := by decide +kernel
theorem d3_90 : decode prog_87_method_2_code 90 = .ok (.if_icmp .lt 10, 3) := by decide +kernel
theorem d3_93 : decode prog_87_method_2_code 93 = .ok (.iload_n 0, 1) := by decide +kernel
theorem d3_94 : decode prog_87_method_2_code 94 = .ok (.sipush 8191, 3) := by decide +kernel
theorem d3_97 : decode prog_87_method_2_code 97 = .ok (.if_icmp .le 94, 3) := by decide +kernel
set_option maxRecDepth 65536 in
set_option maxHeartbeats 40000000 in
theorem seg_st8 {p : Program} {l : Launch} {e : Env} {R : Room} {s : State} {m : MethodId} {args : Array Value} {below : List Frame} {meth : Method} {c : Code} {T : State} {locs : List Loc} {cells slots : Nat} {Z : State} {a0 : Array Value} (X : Stand p l e R s m args below meth c T locs cells slots) (hx : p.tables.exec = Jvm.exec) (hZ : Z.Warmed39 s.vm) (hw : ∀ d ∈ tables_1, d.before a0 Z = true) (hby : c.code = prog_87_method_2_code) (hown : s.vm.findClass "com/example/liana/liana/rdf/TurtleGrammar" = some m.cls) (x : Int32) (t : State)
    (kt : Steps p.tables e below (T.setTop (mkF m 196 #[.val (.int x)] [(.int (own_st8 x))])) t) : Steps p.tables e below (T.setTop (mkF m 86 #[.val (.int x)] [])) t := by
  by_cases h : (895 ≤ x.toInt ∧ x.toInt ≤ 8191)
  · rw [own_st8, if_pos h] at kt
    show Steps p.tables e below (T.setTop (mkF m 86 #[.val (.int x)] [])) _
    refine XS.iloadN X.here hx rfl (hb hby d3_86) rfl ?_
    show Steps p.tables e below (T.setTop (mkF m 87 #[.val (.int x)] [(.int x)])) _
    refine XS.sipush X.here hx rfl (hb hby d3_87) ?_
    show Steps p.tables e below (T.setTop (mkF m 90 #[.val (.int x)] [(.int (895 : Int32)), (.int x)])) _
    refine XS.icmpNo X.here hx rfl (hb hby d3_90) rfl (flt (own_geI (by rw [show (895 : Int32).toInt = 895 from rfl]; omega))).1 ?_
    show Steps p.tables e below (T.setTop (mkF m 93 #[.val (.int x)] [])) _
    refine XS.iloadN X.here hx rfl (hb hby d3_93) rfl ?_
    show Steps p.tables e below (T.setTop (mkF m 94 #[.val (.int x)] [(.int x)])) _
    refine XS.sipush X.here hx rfl (hb hby d3_94) ?_
    show Steps p.tables e below (T.setTop (mkF m 97 #[.val (.int x)] [(.int (8191 : Int32)), (.int x)])) _
    refine XS.icmpYes X.here hx rfl (pc0 := 97) (pc' := 191) rfl (hb hby d3_97) rfl (flt (own_geI (by rw [show (8191 : Int32).toInt = 8191 from rfl]; omega))).2.2.2 (by decide) (by decide) ?_
    show Steps p.tables e below (T.setTop (mkF m 191 #[.val (.int x)] [])) _
    refine XS.iconst X.here hx rfl (hb hby d3_191) ?_
    show Steps p.tables e below (T.setTop (mkF m 192 #[.val (.int x)] [(.int (1 : Int32))])) _
    refine XS.goto X.here hx rfl (pc0 := 192) (pc' := 196) rfl (hb hby d3_192) (by decide) (by decide) ?_
    exact kt
  · rw [own_st8, if_neg h] at kt
    by_cases h2 : x.toInt < 895
    · skip
      show Steps p.tables e below (T.setTop (mkF m 86 #[.val (.int x)] [])) _
      refine XS.iloadN X.here hx rfl (hb hby d3_86) rfl ?_
      show Steps p.tables e below (T.setTop (mkF m 87 #[.val (.int x)] [(.int x)])) _
      refine XS.sipush X.here hx rfl (hb hby d3_87) ?_
      show Steps p.tables e below (T.setTop (mkF m 90 #[.val (.int x)] [(.int (895 : Int32)), (.int x)])) _
      refine XS.icmpYes X.here hx rfl (pc0 := 90) (pc' := 100) rfl (hb hby d3_90) rfl (tlt (own_ltI (by rw [show (895 : Int32).toInt = 895 from rfl]; omega))).1 (by decide) (by decide) ?_
      exact seg_st9 X hx hZ hw hby hown x t kt
    · skip
      show Steps p.tables e below (T.setTop (mkF m 86 #[.val (.int x)] [])) _
      refine XS.iloadN X.here hx rfl (hb hby d3_86) rfl ?_
      show Steps p.tables e below (T.setTop (mkF m 87 #[.val (.int x)] [(.int x)])) _
      refine XS.sipush X.here hx rfl (hb hby d3_87) ?_
      show Steps p.tables e below (T.setTop (mkF m 90 #[.val (.int x)] [(.int (895 : Int32)), (.int x)])) _
      refine XS.icmpNo X.here hx rfl (hb hby d3_90) rfl (flt (own_geI (by rw [show (895 : Int32).toInt = 895 from rfl]; omega))).1 ?_
      show Steps p.tables e below (T.setTop (mkF m 93 #[.val (.int x)] [])) _
      refine XS.iloadN X.here hx rfl (hb hby d3_93) rfl ?_
      show Steps p.tables e below (T.setTop (mkF m 94 #[.val (.int x)] [(.int x)])) _
      refine XS.sipush X.here hx rfl (hb hby d3_94) ?_
      show Steps p.tables e below (T.setTop (mkF m 97 #[.val (.int x)] [(.int (8191 : Int32)), (.int x)])) _
      refine XS.icmpNo X.here hx rfl (hb hby d3_97) rfl (tlt (own_ltI (by rw [show (8191 : Int32).toInt = 8191 from rfl]; omega))).2.2.2 ?_
      exact seg_st9 X hx hZ hw hby hown x t kt
def own_st7 (x : Int32) : Int32 := if (880 ≤ x.toInt ∧ x.toInt ≤ 893) then 1 else own_st8 x
theorem d3_72 : decode prog_87_method_2_code 72 = .ok (.iload_n 0, 1) := by decide +kernel
theorem d3_73 : decode prog_87_method_2_code 73 = .ok (.sipush 880, 3) := by decide +kernel
theorem d3_76 : decode prog_87_method_2_code 76 = .ok (.if_icmp .lt 10, 3) := by decide +kernel
theorem d3_79 : decode prog_87_method_2_code 79 = .ok (.iload_n 0, 1) := by decide +kernel
theorem d3_80 : decode prog_87_method_2_code 80 = .ok (.sipush 893, 3) := by decide +kernel
theorem d3_83 : decode prog_87_method_2_code 83 = .ok (.if_icmp .le 108, 3) := by decide +kernel
set_option maxRecDepth 65536 in
set_option maxHeartbeats 40000000 in
theorem seg_st7 {p : Program} {l : Launch} {e : Env} {R : Room} {s : State} {m : MethodId} {args : Array Value} {below : List Frame} {meth : Method} {c : Code} {T : State} {locs : List Loc} {cells slots : Nat} {Z : State} {a0 : Array Value} (X : Stand p l e R s m args below meth c T locs cells slots) (hx : p.tables.exec = Jvm.exec) (hZ : Z.Warmed39 s.vm) (hw : ∀ d ∈ tables_1, d.before a0 Z = true) (hby : c.code = prog_87_method_2_code) (hown : s.vm.findClass "com/example/liana/liana/rdf/TurtleGrammar" = some m.cls) (x : Int32) (t : State)
    (kt : Steps p.tables e below (T.setTop (mkF m 196 #[.val (.int x)] [(.int (own_st7 x))])) t) : Steps p.tables e below (T.setTop (mkF m 72 #[.val (.int x)] [])) t := by
  by_cases h : (880 ≤ x.toInt ∧ x.toInt ≤ 893)
  · rw [own_st7, if_pos h] at kt
    show Steps p.tables e below (T.setTop (mkF m 72 #[.val (.int x)] [])) _
    refine XS.iloadN X.here hx rfl (hb hby d3_72) rfl ?_
    show Steps p.tables e below (T.setTop (mkF m 73 #[.val (.int x)] [(.int x)])) _
    refine XS.sipush X.here hx rfl (hb hby d3_73) ?_
    show Steps p.tables e below (T.setTop (mkF m 76 #[.val (.int x)] [(.int (880 : Int32)), (.int x)])) _
    refine XS.icmpNo X.here hx rfl (hb hby d3_76) rfl (flt (own_geI (by rw [show (880 : Int32).toInt = 880 from rfl]; omega))).1 ?_
    show Steps p.tables e below (T.setTop (mkF m 79 #[.val (.int x)] [])) _
    refine XS.iloadN X.here hx rfl (hb hby d3_79) rfl ?_
    show Steps p.tables e below (T.setTop (mkF m 80 #[.val (.int x)] [(.int x)])) _
    refine XS.sipush X.here hx rfl (hb hby d3_80) ?_
    show Steps p.tables e below (T.setTop (mkF m 83 #[.val (.int x)] [(.int (893 : Int32)), (.int x)])) _
    refine XS.icmpYes X.here hx rfl (pc0 := 83) (pc' := 191) rfl (hb hby d3_83) rfl (flt (own_geI (by rw [show (893 : Int32).toInt = 893 from rfl]; omega))).2.2.2 (by decide) (by decide) ?_
    show Steps p.tables e below (T.setTop (mkF m 191 #[.val (.int x)] [])) _
    refine XS.iconst X.here hx rfl (hb hby d3_191) ?_
    show Steps p.tables e below (T.setTop (mkF m 192 #[.val (.int x)] [(.int (1 : Int32))])) _
    refine XS.goto X.here hx rfl (pc0 := 192) (pc' := 196) rfl (hb hby d3_192) (by decide) (by decide) ?_
    exact kt
  · rw [own_st7, if_neg h] at kt
    by_cases h2 : x.toInt < 880
    · skip
      show Steps p.tables e below (T.setTop (mkF m 72 #[.val (.int x)] [])) _
      refine XS.iloadN X.here hx rfl (hb hby d3_72) rfl ?_
      show Steps p.tables e below (T.setTop (mkF m 73 #[.val (.int x)] [(.int x)])) _
      refine XS.sipush X.here hx rfl (hb hby d3_73) ?_
      show Steps p.tables e below (T.setTop (mkF m 76 #[.val (.int x)] [(.int (880 : Int32)), (.int x)])) _
      refine XS.icmpYes X.here hx rfl (pc0 := 76) (pc' := 86) rfl (hb hby d3_76) rfl (tlt (own_ltI (by rw [show (880 : Int32).toInt = 880 from rfl]; omega))).1 (by decide) (by decide) ?_
      exact seg_st8 X hx hZ hw hby hown x t kt
    · skip
      show Steps p.tables e below (T.setTop (mkF m 72 #[.val (.int x)] [])) _
      refine XS.iloadN X.here hx rfl (hb hby d3_72) rfl ?_
      show Steps p.tables e below (T.setTop (mkF m 73 #[.val (.int x)] [(.int x)])) _
      refine XS.sipush X.here hx rfl (hb hby d3_73) ?_
      show Steps p.tables e below (T.setTop (mkF m 76 #[.val (.int x)] [(.int (880 : Int32)), (.int x)])) _
      refine XS.icmpNo X.here hx rfl (hb hby d3_76) rfl (flt (own_geI (by rw [show (880 : Int32).toInt = 880 from rfl]; omega))).1 ?_
      show Steps p.tables e below (T.setTop (mkF m 79 #[.val (.int x)] [])) _
      refine XS.iloadN X.here hx rfl (hb hby d3_79) rfl ?_
      show Steps p.tables e below (T.setTop (mkF m 80 #[.val (.int x)] [(.int x)])) _
      refine XS.sipush X.here hx rfl (hb hby d3_80) ?_
      show Steps p.tables e below (T.setTop (mkF m 83 #[.val (.int x)] [(.int (893 : Int32)), (.int x)])) _
      refine XS.icmpNo X.here hx rfl (hb hby d3_83) rfl (tlt (own_ltI (by rw [show (893 : Int32).toInt = 893 from rfl]; omega))).2.2.2 ?_
      exact seg_st8 X hx hZ hw hby hown x t kt
def own_st6 (x : Int32) : Int32 := if (248 ≤ x.toInt ∧ x.toInt ≤ 767) then 1 else own_st7 x
theorem d3_58 : decode prog_87_method_2_code 58 = .ok (.iload_n 0, 1) := by decide +kernel
theorem d3_59 : decode prog_87_method_2_code 59 = .ok (.sipush 248, 3) := by decide +kernel
theorem d3_62 : decode prog_87_method_2_code 62 = .ok (.if_icmp .lt 10, 3) := by decide +kernel
theorem d3_65 : decode prog_87_method_2_code 65 = .ok (.iload_n 0, 1) := by decide +kernel
theorem d3_66 : decode prog_87_method_2_code 66 = .ok (.sipush 767, 3) := by decide +kernel
theorem d3_69 : decode prog_87_method_2_code 69 = .ok (.if_icmp .le 122, 3) := by decide +kernel
set_option maxRecDepth 65536 in
set_option maxHeartbeats 40000000 in
theorem seg_st6 {p : Program} {l : Launch} {e : Env} {R : Room} {s : State} {m : MethodId} {args : Array Value} {below : List Frame} {meth : Method} {c : Code} {T : State} {locs : List Loc} {cells slots : Nat} {Z : State} {a0 : Array Value} (X : Stand p l e R s m args below meth c T locs cells slots) (hx : p.tables.exec = Jvm.exec) (hZ : Z.Warmed39 s.vm) (hw : ∀ d ∈ tables_1, d.before a0 Z = true) (hby : c.code = prog_87_method_2_code) (hown : s.vm.findClass "com/example/liana/liana/rdf/TurtleGrammar" = some m.cls) (x : Int32) (t : State)
    (kt : Steps p.tables e below (T.setTop (mkF m 196 #[.val (.int x)] [(.int (own_st6 x))])) t) : Steps p.tables e below (T.setTop (mkF m 58 #[.val (.int x)] [])) t := by
  by_cases h : (248 ≤ x.toInt ∧ x.toInt ≤ 767)
  · rw [own_st6, if_pos h] at kt
    show Steps p.tables e below (T.setTop (mkF m 58 #[.val (.int x)] [])) _
    refine XS.iloadN X.here hx rfl (hb hby d3_58) rfl ?_
    show Steps p.tables e below (T.setTop (mkF m 59 #[.val (.int x)] [(.int x)])) _
    refine XS.sipush X.here hx rfl (hb hby d3_59) ?_
    show Steps p.tables e below (T.setTop (mkF m 62 #[.val (.int x)] [(.int (248 : Int32)), (.int x)])) _
    refine XS.icmpNo X.here hx rfl (hb hby d3_62) rfl (flt (own_geI (by rw [show (248 : Int32).toInt = 248 from rfl]; omega))).1 ?_
    show Steps p.tables e below (T.setTop (mkF m 65 #[.val (.int x)] [])) _
    refine XS.iloadN X.here hx rfl (hb hby d3_65) rfl ?_
    show Steps p.tables e below (T.setTop (mkF m 66 #[.val (.int x)] [(.int x)])) _
    refine XS.sipush X.here hx rfl (hb hby d3_66) ?_
    show Steps p.tables e below (T.setTop (mkF m 69 #[.val (.int x)] [(.int (767 : Int32)), (.int x)])) _
    refine XS.icmpYes X.here hx rfl (pc0 := 69) (pc' := 191) rfl (hb hby d3_69) rfl (flt (own_geI (by rw [show (767 : Int32).toInt = 767 from rfl]; omega))).2.2.2 (by decide) (by decide) ?_
    show Steps p.tables e below (T.setTop (mkF m 191 #[.val (.int x)] [])) _
    refine XS.iconst X.here hx rfl (hb hby d3_191) ?_
    show Steps p.tables e below (T.setTop (mkF m 192 #[.val (.int x)] [(.int (1 : Int32))])) _
    refine XS.goto X.here hx rfl (pc0 := 192) (pc' := 196) rfl (hb hby d3_192) (by decide) (by decide) ?_
    exact kt
  · rw [own_st6, if_neg h] at kt
    by_cases h2 : x.toInt < 248
    · skip
      show Steps p.tables e below (T.setTop (mkF m 58 #[.val (.int x)] [])) _
      refine XS.iloadN X.here hx rfl (hb hby d3_58) rfl ?_
      show Steps p.tables e below (T.setTop (mkF m 59 #[.val (.int x)] [(.int x)])) _
      refine XS.sipush X.here hx rfl (hb hby d3_59) ?_
      show Steps p.tables e below (T.setTop (mkF m 62 #[.val (.int x)] [(.int (248 : Int32)), (.int x)])) _
      refine XS.icmpYes X.here hx rfl (pc0 := 62) (pc' := 72) rfl (hb hby d3_62) rfl (tlt (own_ltI (by rw [show (248 : Int32).toInt = 248 from rfl]; omega))).1 (by decide) (by decide) ?_
      exact seg_st7 X hx hZ hw hby hown x t kt
    · skip
      show Steps p.tables e below (T.setTop (mkF m 58 #[.val (.int x)] [])) _
      refine XS.iloadN X.here hx rfl (hb hby d3_58) rfl ?_
      show Steps p.tables e below (T.setTop (mkF m 59 #[.val (.int x)] [(.int x)])) _
      refine XS.sipush X.here hx rfl (hb hby d3_59) ?_
      show Steps p.tables e below (T.setTop (mkF m 62 #[.val (.int x)] [(.int (248 : Int32)), (.int x)])) _
      refine XS.icmpNo X.here hx rfl (hb hby d3_62) rfl (flt (own_geI (by rw [show (248 : Int32).toInt = 248 from rfl]; omega))).1 ?_
      show Steps p.tables e below (T.setTop (mkF m 65 #[.val (.int x)] [])) _
      refine XS.iloadN X.here hx rfl (hb hby d3_65) rfl ?_
      show Steps p.tables e below (T.setTop (mkF m 66 #[.val (.int x)] [(.int x)])) _
      refine XS.sipush X.here hx rfl (hb hby d3_66) ?_
      show Steps p.tables e below (T.setTop (mkF m 69 #[.val (.int x)] [(.int (767 : Int32)), (.int x)])) _
      refine XS.icmpNo X.here hx rfl (hb hby d3_69) rfl (tlt (own_ltI (by rw [show (767 : Int32).toInt = 767 from rfl]; omega))).2.2.2 ?_
      exact seg_st7 X hx hZ hw hby hown x t kt
def own_st5 (x : Int32) : Int32 := if (216 ≤ x.toInt ∧ x.toInt ≤ 246) then 1 else own_st6 x
theorem d3_44 : decode prog_87_method_2_code 44 = .ok (.iload_n 0, 1) := by decide +kernel
theorem d3_45 : decode prog_87_method_2_code 45 = .ok (.sipush 216, 3) := by decide +kernel
theorem d3_48 : decode prog_87_method_2_code 48 = .ok (.if_icmp .lt 10, 3) := by decide +kernel
theorem d3_51 : decode prog_87_method_2_code 51 = .ok (.iload_n 0, 1) := by decide +kernel
theorem d3_52 : decode prog_87_method_2_code 52 = .ok (.sipush 246, 3) := by decide +kernel
theorem d3_55 : decode prog_87_method_2_code 55 = .ok (.if_icmp .le 136, 3) := by decide +kernel
set_option maxRecDepth 65536 in
set_option maxHeartbeats 40000000 in
theorem seg_st5 {p : Program} {l : Launch} {e : Env} {R : Room} {s : State} {m : MethodId} {args : Array Value} {below : List Frame} {meth : Method} {c : Code} {T : State} {locs : List Loc} {cells slots : Nat} {Z : State} {a0 : Array Value} (X : Stand p l e R s m args below meth c T locs cells slots) (hx : p.tables.exec = Jvm.exec) (hZ : Z.Warmed39 s.vm) (hw : ∀ d ∈ tables_1, d.before a0 Z = true) (hby : c.code = prog_87_method_2_code) (hown : s.vm.findClass "com/example/liana/liana/rdf/TurtleGrammar" = some m.cls) (x : Int32) (t : State)
    (kt : Steps p.tables e below (T.setTop (mkF m 196 #[.val (.int x)] [(.int (own_st5 x))])) t) : Steps p.tables e below (T.setTop (mkF m 44 #[.val (.int x)] [])) t := by
  by_cases h : (216 ≤ x.toInt ∧ x.toInt ≤ 246)
  · rw [own_st5, if_pos h] at kt
    show Steps p.tables e below (T.setTop (mkF m 44 #[.val (.int x)] [])) _
    refine XS.iloadN X.here hx rfl (hb hby d3_44) rfl ?_
    show Steps p.tables e below (T.setTop (mkF m 45 #[.val (.int x)] [(.int x)])) _
    refine XS.sipush X.here hx rfl (hb hby d3_45) ?_
    show Steps p.tables e below (T.setTop (mkF m 48 #[.val (.int x)] [(.int (216 : Int32)), (.int x)])) _
    refine XS.icmpNo X.here hx rfl (hb hby d3_48) rfl (flt (own_geI (by rw [show (216 : Int32).toInt = 216 from rfl]; omega))).1 ?_
    show Steps p.tables e below (T.setTop (mkF m 51 #[.val (.int x)] [])) _
    refine XS.iloadN X.here hx rfl (hb hby d3_51) rfl ?_
    show Steps p.tables e below (T.setTop (mkF m 52 #[.val (.int x)] [(.int x)])) _
    refine XS.sipush X.here hx rfl (hb hby d3_52) ?_
    show Steps p.tables e below (T.setTop (mkF m 55 #[.val (.int x)] [(.int (246 : Int32)), (.int x)])) _
    refine XS.icmpYes X.here hx rfl (pc0 := 55) (pc' := 191) rfl (hb hby d3_55) rfl (flt (own_geI (by rw [show (246 : Int32).toInt = 246 from rfl]; omega))).2.2.2 (by decide) (by decide) ?_
    show Steps p.tables e below (T.setTop (mkF m 191 #[.val (.int x)] [])) _
    refine XS.iconst X.here hx rfl (hb hby d3_191) ?_
    show Steps p.tables e below (T.setTop (mkF m 192 #[.val (.int x)] [(.int (1 : Int32))])) _
    refine XS.goto X.here hx rfl (pc0 := 192) (pc' := 196) rfl (hb hby d3_192) (by decide) (by decide) ?_
    exact kt
  · rw [own_st5, if_neg h] at kt
    by_cases h2 : x.toInt < 216
    · skip
      show Steps p.tables e below (T.setTop (mkF m 44 #[.val (.int x)] [])) _
      refine XS.iloadN X.here hx rfl (hb hby d3_44) rfl ?_
      show Steps p.tables e below (T.setTop (mkF m 45 #[.val (.int x)] [(.int x)])) _
      refine XS.sipush X.here hx rfl (hb hby d3_45) ?_
      show Steps p.tables e below (T.setTop (mkF m 48 #[.val (.int x)] [(.int (216 : Int32)), (.int x)])) _
      refine XS.icmpYes X.here hx rfl (pc0 := 48) (pc' := 58) rfl (hb hby d3_48) rfl (tlt (own_ltI (by rw [show (216 : Int32).toInt = 216 from rfl]; omega))).1 (by decide) (by decide) ?_
      exact seg_st6 X hx hZ hw hby hown x t kt
    · skip
      show Steps p.tables e below (T.setTop (mkF m 44 #[.val (.int x)] [])) _
      refine XS.iloadN X.here hx rfl (hb hby d3_44) rfl ?_
      show Steps p.tables e below (T.setTop (mkF m 45 #[.val (.int x)] [(.int x)])) _
      refine XS.sipush X.here hx rfl (hb hby d3_45) ?_
      show Steps p.tables e below (T.setTop (mkF m 48 #[.val (.int x)] [(.int (216 : Int32)), (.int x)])) _
      refine XS.icmpNo X.here hx rfl (hb hby d3_48) rfl (flt (own_geI (by rw [show (216 : Int32).toInt = 216 from rfl]; omega))).1 ?_
      show Steps p.tables e below (T.setTop (mkF m 51 #[.val (.int x)] [])) _
      refine XS.iloadN X.here hx rfl (hb hby d3_51) rfl ?_
      show Steps p.tables e below (T.setTop (mkF m 52 #[.val (.int x)] [(.int x)])) _
      refine XS.sipush X.here hx rfl (hb hby d3_52) ?_
      show Steps p.tables e below (T.setTop (mkF m 55 #[.val (.int x)] [(.int (246 : Int32)), (.int x)])) _
      refine XS.icmpNo X.here hx rfl (hb hby d3_55) rfl (tlt (own_ltI (by rw [show (246 : Int32).toInt = 246 from rfl]; omega))).2.2.2 ?_
      exact seg_st6 X hx hZ hw hby hown x t kt
def own_st4 (x : Int32) : Int32 := if (192 ≤ x.toInt ∧ x.toInt ≤ 214) then 1 else own_st5 x
theorem d3_30 : decode prog_87_method_2_code 30 = .ok (.iload_n 0, 1) := by decide +kernel
theorem d3_31 : decode prog_87_method_2_code 31 = .ok (.sipush 192, 3) := by decide +kernel
theorem d3_34 : decode prog_87_method_2_code 34 = .ok (.if_icmp .lt 10, 3) := by decide +kernel
theorem d3_37 : decode prog_87_method_2_code 37 = .ok (.iload_n 0, 1) := by decide +kernel
theorem d3_38 : decode prog_87_method_2_code 38 = .ok (.sipush 214, 3) := by decide +kernel
theorem d3_41 : decode prog_87_method_2_code 41 = .ok (.if_icmp .le 150, 3) := by decide +kernel
set_option maxRecDepth 65536 in
set_option maxHeartbeats 40000000 in
theorem seg_st4 {p : Program} {l : Launch} {e : Env} {R : Room} {s : State} {m : MethodId} {args : Array Value} {below : List Frame} {meth : Method} {c : Code} {T : State} {locs : List Loc} {cells slots : Nat} {Z : State} {a0 : Array Value} (X : Stand p l e R s m args below meth c T locs cells slots) (hx : p.tables.exec = Jvm.exec) (hZ : Z.Warmed39 s.vm) (hw : ∀ d ∈ tables_1, d.before a0 Z = true) (hby : c.code = prog_87_method_2_code) (hown : s.vm.findClass "com/example/liana/liana/rdf/TurtleGrammar" = some m.cls) (x : Int32) (t : State)
    (kt : Steps p.tables e below (T.setTop (mkF m 196 #[.val (.int x)] [(.int (own_st4 x))])) t) : Steps p.tables e below (T.setTop (mkF m 30 #[.val (.int x)] [])) t := by
  by_cases h : (192 ≤ x.toInt ∧ x.toInt ≤ 214)
  · rw [own_st4, if_pos h] at kt
    show Steps p.tables e below (T.setTop (mkF m 30 #[.val (.int x)] [])) _
    refine XS.iloadN X.here hx rfl (hb hby d3_30) rfl ?_
    show Steps p.tables e below (T.setTop (mkF m 31 #[.val (.int x)] [(.int x)])) _
    refine XS.sipush X.here hx rfl (hb hby d3_31) ?_
    show Steps p.tables e below (T.setTop (mkF m 34 #[.val (.int x)] [(.int (192 : Int32)), (.int x)])) _
    refine XS.icmpNo X.here hx rfl (hb hby d3_34) rfl (flt (own_geI (by rw [show (192 : Int32).toInt = 192 from rfl]; omega))).1 ?_
    show Steps p.tables e below (T.setTop (mkF m 37 #[.val (.int x)] [])) _
    refine XS.iloadN X.here hx rfl (hb hby d3_37) rfl ?_
    show Steps p.tables e below (T.setTop (mkF m 38 #[.val (.int x)] [(.int x)])) _
    refine XS.sipush X.here hx rfl (hb hby d3_38) ?_
    show Steps p.tables e below (T.setTop (mkF m 41 #[.val (.int x)] [(.int (214 : Int32)), (.int x)])) _
    refine XS.icmpYes X.here hx rfl (pc0 := 41) (pc' := 191) rfl (hb hby d3_41) rfl (flt (own_geI (by rw [show (214 : Int32).toInt = 214 from rfl]; omega))).2.2.2 (by decide) (by decide) ?_
    show Steps p.tables e below (T.setTop (mkF m 191 #[.val (.int x)] [])) _
    refine XS.iconst X.here hx rfl (hb hby d3_191) ?_
    show Steps p.tables e below (T.setTop (mkF m 192 #[.val (.int x)] [(.int (1 : Int32))])) _
    refine XS.goto X.here hx rfl (pc0 := 192) (pc' := 196) rfl (hb hby d3_192) (by decide) (by decide) ?_
    exact kt
  · rw [own_st4, if_neg h] at kt
    by_cases h2 : x.toInt < 192
    · skip
      show Steps p.tables e below (T.setTop (mkF m 30 #[.val (.int x)] [])) _
      refine XS.iloadN X.here hx rfl (hb hby d3_30) rfl ?_
      show Steps p.tables e below (T.setTop (mkF m 31 #[.val (.int x)] [(.int x)])) _
      refine XS.sipush X.here hx rfl (hb hby d3_31) ?_
      show Steps p.tables e below (T.setTop (mkF m 34 #[.val (.int x)] [(.int (192 : Int32)), (.int x)])) _
      refine XS.icmpYes X.here hx rfl (pc0 := 34) (pc' := 44) rfl (hb hby d3_34) rfl (tlt (own_ltI (by rw [show (192 : Int32).toInt = 192 from rfl]; omega))).1 (by decide) (by decide) ?_
      exact seg_st5 X hx hZ hw hby hown x t kt
    · skip
      show Steps p.tables e below (T.setTop (mkF m 30 #[.val (.int x)] [])) _
      refine XS.iloadN X.here hx rfl (hb hby d3_30) rfl ?_
      show Steps p.tables e below (T.setTop (mkF m 31 #[.val (.int x)] [(.int x)])) _
      refine XS.sipush X.here hx rfl (hb hby d3_31) ?_
      show Steps p.tables e below (T.setTop (mkF m 34 #[.val (.int x)] [(.int (192 : Int32)), (.int x)])) _
      refine XS.icmpNo X.here hx rfl (hb hby d3_34) rfl (flt (own_geI (by rw [show (192 : Int32).toInt = 192 from rfl]; omega))).1 ?_
      show Steps p.tables e below (T.setTop (mkF m 37 #[.val (.int x)] [])) _
      refine XS.iloadN X.here hx rfl (hb hby d3_37) rfl ?_
      show Steps p.tables e below (T.setTop (mkF m 38 #[.val (.int x)] [(.int x)])) _
      refine XS.sipush X.here hx rfl (hb hby d3_38) ?_
      show Steps p.tables e below (T.setTop (mkF m 41 #[.val (.int x)] [(.int (214 : Int32)), (.int x)])) _
      refine XS.icmpNo X.here hx rfl (hb hby d3_41) rfl (tlt (own_ltI (by rw [show (214 : Int32).toInt = 214 from rfl]; omega))).2.2.2 ?_
      exact seg_st5 X hx hZ hw hby hown x t kt
def own_st3 (x : Int32) : Int32 := if x.toInt = 95 then 1 else own_st4 x
theorem d3_24 : decode prog_87_method_2_code 24 = .ok (.iload_n 0, 1) := by decide +kernel
theorem d3_25 : decode prog_87_method_2_code 25 = .ok (.bipush 95, 2) := by decide +kernel
theorem d3_27 : decode prog_87_method_2_code 27 = .ok (.if_icmp .eq 164, 3) := by decide +kernel
set_option maxRecDepth 65536 in
set_option maxHeartbeats 40000000 in
theorem seg_st3 {p : Program} {l : Launch} {e : Env} {R : Room} {s : State} {m : MethodId} {args : Array Value} {below : List Frame} {meth : Method} {c : Code} {T : State} {locs : List Loc} {cells slots : Nat} {Z : State} {a0 : Array Value} (X : Stand p l e R s m args below meth c T locs cells slots) (hx : p.tables.exec = Jvm.exec) (hZ : Z.Warmed39 s.vm) (hw : ∀ d ∈ tables_1, d.before a0 Z = true) (hby : c.code = prog_87_method_2_code) (hown : s.vm.findClass "com/example/liana/liana/rdf/TurtleGrammar" = some m.cls) (x : Int32) (t : State)
    (kt : Steps p.tables e below (T.setTop (mkF m 196 #[.val (.int x)] [(.int (own_st3 x))])) t) : Steps p.tables e below (T.setTop (mkF m 24 #[.val (.int x)] [])) t := by
  by_cases h : x.toInt = 95
  · rw [own_st3, if_pos h] at kt
    show Steps p.tables e below (T.setTop (mkF m 24 #[.val (.int x)] [])) _
    refine XS.iloadN X.here hx rfl (hb hby d3_24) rfl ?_
    show Steps p.tables e below (T.setTop (mkF m 25 #[.val (.int x)] [(.int x)])) _
    refine XS.bipush X.here hx rfl (hb hby d3_25) ?_
    show Steps p.tables e below (T.setTop (mkF m 27 #[.val (.int x)] [(.int (95 : Int32)), (.int x)])) _
    refine XS.icmpYes X.here hx rfl (pc0 := 27) (pc' := 191) rfl (hb hby d3_27) rfl (teq (own_eqI (by rw [show (95 : Int32).toInt = 95 from rfl]; omega))).1 (by decide) (by decide) ?_
    show Steps p.tables e below (T.setTop (mkF m 191 #[.val (.int x)] [])) _
    refine XS.iconst X.here hx rfl (hb hby d3_191) ?_
    show Steps p.tables e below (T.setTop (mkF m 192 #[.val (.int x)] [(.int (1 : Int32))])) _
    refine XS.goto X.here hx rfl (pc0 := 192) (pc' := 196) rfl (hb hby d3_192) (by decide) (by decide) ?_
    exact kt
  · rw [own_st3, if_neg h] at kt
    show Steps p.tables e below (T.setTop (mkF m 24 #[.val (.int x)] [])) _
    refine XS.iloadN X.here hx rfl (hb hby d3_24) rfl ?_
    show Steps p.tables e below (T.setTop (mkF m 25 #[.val (.int x)] [(.int x)])) _
    refine XS.bipush X.here hx rfl (hb hby d3_25) ?_
    show Steps p.tables e below (T.setTop (mkF m 27 #[.val (.int x)] [(.int (95 : Int32)), (.int x)])) _
    refine XS.icmpNo X.here hx rfl (hb hby d3_27) rfl (feq (own_neI (by rw [show (95 : Int32).toInt = 95 from rfl]; omega))).1 ?_
    exact seg_st4 X hx hZ hw hby hown x t kt
def own_st2 (x : Int32) : Int32 := if (97 ≤ x.toInt ∧ x.toInt ≤ 122) then 1 else own_st3 x
theorem d3_12 : decode prog_87_method_2_code 12 = .ok (.iload_n 0, 1) := by decide +kernel
theorem d3_13 : decode prog_87_method_2_code 13 = .ok (.bipush 97, 2) := by decide +kernel
theorem d3_15 : decode prog_87_method_2_code 15 = .ok (.if_icmp .lt 9, 3) := by decide +kernel
theorem d3_18 : decode prog_87_method_2_code 18 = .ok (.iload_n 0, 1) := by decide +kernel
theorem d3_19 : decode prog_87_method_2_code 19 = .ok (.bipush 122, 2) := by decide +kernel
theorem d3_21 : decode prog_87_method_2_code 21 = .ok (.if_icmp .le 170, 3) := by decide +kernel
set_option maxRecDepth 65536 in
set_option maxHeartbeats 40000000 in
theorem seg_st2 {p : Program} {l : Launch} {e : Env} {R : Room} {s : State} {m : MethodId} {args : Array Value} {below : List Frame} {meth : Method} {c : Code} {T : State} {locs : List Loc} {cells slots : Nat} {Z : State} {a0 : Array Value} (X : Stand p l e R s m args below meth c T locs cells slots) (hx : p.tables.exec = Jvm.exec) (hZ : Z.Warmed39 s.vm) (hw : ∀ d ∈ tables_1, d.before a0 Z = true) (hby : c.code = prog_87_method_2_code) (hown : s.vm.findClass "com/example/liana/liana/rdf/TurtleGrammar" = some m.cls) (x : Int32) (t : State)
    (kt : Steps p.tables e below (T.setTop (mkF m 196 #[.val (.int x)] [(.int (own_st2 x))])) t) : Steps p.tables e below (T.setTop (mkF m 12 #[.val (.int x)] [])) t := by
  by_cases h : (97 ≤ x.toInt ∧ x.toInt ≤ 122)
  · rw [own_st2, if_pos h] at kt
    show Steps p.tables e below (T.setTop (mkF m 12 #[.val (.int x)] [])) _
    refine XS.iloadN X.here hx rfl (hb hby d3_12) rfl ?_
    show Steps p.tables e below (T.setTop (mkF m 13 #[.val (.int x)] [(.int x)])) _
    refine XS.bipush X.here hx rfl (hb hby d3_13) ?_
    show Steps p.tables e below (T.setTop (mkF m 15 #[.val (.int x)] [(.int (97 : Int32)), (.int x)])) _
    refine XS.icmpNo X.here hx rfl (hb hby d3_15) rfl (flt (own_geI (by rw [show (97 : Int32).toInt = 97 from rfl]; omega))).1 ?_
    show Steps p.tables e below (T.setTop (mkF m 18 #[.val (.int x)] [])) _
    refine XS.iloadN X.here hx rfl (hb hby d3_18) rfl ?_
    show Steps p.tables e below (T.setTop (mkF m 19 #[.val (.int x)] [(.int x)])) _
    refine XS.bipush X.here hx rfl (hb hby d3_19) ?_
    show Steps p.tables e below (T.setTop (mkF m 21 #[.val (.int x)] [(.int (122 : Int32)), (.int x)])) _
    refine XS.icmpYes X.here hx rfl (pc0 := 21) (pc' := 191) rfl (hb hby d3_21) rfl (flt (own_geI (by rw [show (122 : Int32).toInt = 122 from rfl]; omega))).2.2.2 (by decide) (by decide) ?_
    show Steps p.tables e below (T.setTop (mkF m 191 #[.val (.int x)] [])) _
    refine XS.iconst X.here hx rfl (hb hby d3_191) ?_
    show Steps p.tables e below (T.setTop (mkF m 192 #[.val (.int x)] [(.int (1 : Int32))])) _
    refine XS.goto X.here hx rfl (pc0 := 192) (pc' := 196) rfl (hb hby d3_192) (by decide) (by decide) ?_
    exact kt
  · rw [own_st2, if_neg h] at kt
    by_cases h2 : x.toInt < 97
    · skip
      show Steps p.tables e below (T.setTop (mkF m 12 #[.val (.int x)] [])) _
      refine XS.iloadN X.here hx rfl (hb hby d3_12) rfl ?_
      show Steps p.tables e below (T.setTop (mkF m 13 #[.val (.int x)] [(.int x)])) _
      refine XS.bipush X.here hx rfl (hb hby d3_13) ?_
      show Steps p.tables e below (T.setTop (mkF m 15 #[.val (.int x)] [(.int (97 : Int32)), (.int x)])) _
      refine XS.icmpYes X.here hx rfl (pc0 := 15) (pc' := 24) rfl (hb hby d3_15) rfl (tlt (own_ltI (by rw [show (97 : Int32).toInt = 97 from rfl]; omega))).1 (by decide) (by decide) ?_
      exact seg_st3 X hx hZ hw hby hown x t kt
    · skip
      show Steps p.tables e below (T.setTop (mkF m 12 #[.val (.int x)] [])) _
      refine XS.iloadN X.here hx rfl (hb hby d3_12) rfl ?_
      show Steps p.tables e below (T.setTop (mkF m 13 #[.val (.int x)] [(.int x)])) _
      refine XS.bipush X.here hx rfl (hb hby d3_13) ?_
      show Steps p.tables e below (T.setTop (mkF m 15 #[.val (.int x)] [(.int (97 : Int32)), (.int x)])) _
      refine XS.icmpNo X.here hx rfl (hb hby d3_15) rfl (flt (own_geI (by rw [show (97 : Int32).toInt = 97 from rfl]; omega))).1 ?_
      show Steps p.tables e below (T.setTop (mkF m 18 #[.val (.int x)] [])) _
      refine XS.iloadN X.here hx rfl (hb hby d3_18) rfl ?_
      show Steps p.tables e below (T.setTop (mkF m 19 #[.val (.int x)] [(.int x)])) _
      refine XS.bipush X.here hx rfl (hb hby d3_19) ?_
      show Steps p.tables e below (T.setTop (mkF m 21 #[.val (.int x)] [(.int (122 : Int32)), (.int x)])) _
      refine XS.icmpNo X.here hx rfl (hb hby d3_21) rfl (tlt (own_ltI (by rw [show (122 : Int32).toInt = 122 from rfl]; omega))).2.2.2 ?_
      exact seg_st3 X hx hZ hw hby hown x t kt
def own_st1 (x : Int32) : Int32 := if (65 ≤ x.toInt ∧ x.toInt ≤ 90) then 1 else own_st2 x
theorem d3_0 : decode prog_87_method_2_code 0 = .ok (.iload_n 0, 1) := by decide +kernel
theorem d3_1 : decode prog_87_method_2_code 1 = .ok (.bipush 65, 2) := by decide +kernel
theorem d3_3 : decode prog_87_method_2_code 3 = .ok (.if_icmp .lt 9, 3) := by decide +kernel
theorem d3_6 : decode prog_87_method_2_code 6 = .ok (.iload_n 0, 1) := by decide +kernel
theorem d3_7 : decode prog_87_method_2_code 7 = .ok (.bipush 90, 2) := by decide +kernel
theorem d3_9 : decode prog_87_method_2_code 9 = .ok (.if_icmp .le 182, 3) := by decide +kernel
set_option maxRecDepth 65536 in
set_option maxHeartbeats 40000000 in
theorem seg_st1 {p : Program} {l : Launch} {e : Env} {R : Room} {s : State} {m : MethodId} {args : Array Value} {below : List Frame} {meth : Method} {c : Code} {T : State} {locs : List Loc} {cells slots : Nat} {Z : State} {a0 : Array Value} (X : Stand p l e R s m args below meth c T locs cells slots) (hx : p.tables.exec = Jvm.exec) (hZ : Z.Warmed39 s.vm) (hw : ∀ d ∈ tables_1, d.before a0 Z = true) (hby : c.code = prog_87_method_2_code) (hown : s.vm.findClass "com/example/liana/liana/rdf/TurtleGrammar" = some m.cls) (x : Int32) (t : State)
    (kt : Steps p.tables e below (T.setTop (mkF m 196 #[.val (.int x)] [(.int (own_st1 x))])) t) : Steps p.tables e below (T.setTop (mkF m 0 #[.val (.int x)] [])) t := by
  by_cases h : (65 ≤ x.toInt ∧ x.toInt ≤ 90)
  · rw [own_st1, if_pos h] at kt
    show Steps p.tables e below (T.setTop (mkF m 0 #[.val (.int x)] [])) _
    refine XS.iloadN X.here hx rfl (hb hby d3_0) rfl ?_
    show Steps p.tables e below (T.setTop (mkF m 1 #[.val (.int x)] [(.int x)])) _
    refine XS.bipush X.here hx rfl (hb hby d3_1) ?_
    show Steps p.tables e below (T.setTop (mkF m 3 #[.val (.int x)] [(.int (65 : Int32)), (.int x)])) _
    refine XS.icmpNo X.here hx rfl (hb hby d3_3) rfl (flt (own_geI (by rw [show (65 : Int32).toInt = 65 from rfl]; omega))).1 ?_
    show Steps p.tables e below (T.setTop (mkF m 6 #[.val (.int x)] [])) _
    refine XS.iloadN X.here hx rfl (hb hby d3_6) rfl ?_
    show Steps p.tables e below (T.setTop (mkF m 7 #[.val (.int x)] [(.int x)])) _
    refine XS.bipush X.here hx rfl (hb hby d3_7) ?_
    show Steps p.tables e below (T.setTop (mkF m 9 #[.val (.int x)] [(.int (90 : Int32)), (.int x)])) _
    refine XS.icmpYes X.here hx rfl (pc0 := 9) (pc' := 191) rfl (hb hby d3_9) rfl (flt (own_geI (by rw [show (90 : Int32).toInt = 90 from rfl]; omega))).2.2.2 (by decide) (by decide) ?_
    show Steps p.tables e below (T.setTop (mkF m 191 #[.val (.int x)] [])) _
    refine XS.iconst X.here hx rfl (hb hby d3_191) ?_
    show Steps p.tables e below (T.setTop (mkF m 192 #[.val (.int x)] [(.int (1 : Int32))])) _
    refine XS.goto X.here hx rfl (pc0 := 192) (pc' := 196) rfl (hb hby d3_192) (by decide) (by decide) ?_
    exact kt
  · rw [own_st1, if_neg h] at kt
    by_cases h2 : x.toInt < 65
    · skip
      show Steps p.tables e below (T.setTop (mkF m 0 #[.val (.int x)] [])) _
      refine XS.iloadN X.here hx rfl (hb hby d3_0) rfl ?_
      show Steps p.tables e below (T.setTop (mkF m 1 #[.val (.int x)] [(.int x)])) _
      refine XS.bipush X.here hx rfl (hb hby d3_1) ?_
      show Steps p.tables e below (T.setTop (mkF m 3 #[.val (.int x)] [(.int (65 : Int32)), (.int x)])) _
      refine XS.icmpYes X.here hx rfl (pc0 := 3) (pc' := 12) rfl (hb hby d3_3) rfl (tlt (own_ltI (by rw [show (65 : Int32).toInt = 65 from rfl]; omega))).1 (by decide) (by decide) ?_
      exact seg_st2 X hx hZ hw hby hown x t kt
    · skip
      show Steps p.tables e below (T.setTop (mkF m 0 #[.val (.int x)] [])) _
      refine XS.iloadN X.here hx rfl (hb hby d3_0) rfl ?_
      show Steps p.tables e below (T.setTop (mkF m 1 #[.val (.int x)] [(.int x)])) _
      refine XS.bipush X.here hx rfl (hb hby d3_1) ?_
      show Steps p.tables e below (T.setTop (mkF m 3 #[.val (.int x)] [(.int (65 : Int32)), (.int x)])) _
      refine XS.icmpNo X.here hx rfl (hb hby d3_3) rfl (flt (own_geI (by rw [show (65 : Int32).toInt = 65 from rfl]; omega))).1 ?_
      show Steps p.tables e below (T.setTop (mkF m 6 #[.val (.int x)] [])) _
      refine XS.iloadN X.here hx rfl (hb hby d3_6) rfl ?_
      show Steps p.tables e below (T.setTop (mkF m 7 #[.val (.int x)] [(.int x)])) _
      refine XS.bipush X.here hx rfl (hb hby d3_7) ?_
      show Steps p.tables e below (T.setTop (mkF m 9 #[.val (.int x)] [(.int (90 : Int32)), (.int x)])) _
      refine XS.icmpNo X.here hx rfl (hb hby d3_9) rfl (tlt (own_ltI (by rw [show (90 : Int32).toInt = 90 from rfl]; omega))).2.2.2 ?_
      exact seg_st2 X hx hZ hw hby hown x t kt
theorem own_stn (x : Int32) : nar .boolean (own_st1 x) = own_st1 x := by
  unfold own_st1; split
  · rfl
  unfold own_st2; split
  · rfl
  unfold own_st3; split
  · rfl
  unfold own_st4; split
  · rfl
  unfold own_st5; split
  · rfl
  unfold own_st6; split
  · rfl
  unfold own_st7; split
  · rfl
  unfold own_st8; split
  · rfl
  unfold own_st9; split
  · rfl
  unfold own_st10; split
  · rfl
  unfold own_st11; split
  · rfl
  unfold own_st12; split
  · rfl
  unfold own_st13; split
  · rfl
  unfold own_st14; split
  · rfl
  unfold own_st15; split
  · rfl
  rfl
theorem pn_3 : plainName "com/example/liana/liana/rdf/TurtleGrammar" = true := by first | (simp [plainName, overriddenIn]; done) | decide +kernel
theorem ef_3 (m : MethodId) (x0 : Int32) : entryFrame m #[(.int x0)] 1 = mkF m 0 #[.val (.int x0)] [] := by first | (simp [entryFrame, mkF, argsToLocals, Value.category]; done) | rfl
theorem d3_196 : decode prog_87_method_2_code 196 = .ok (.ireturn, 1) := by decide +kernel
set_option maxRecDepth 65536 in
set_option maxHeartbeats 40000000 in
theorem rm3 (l : Launch) (Z : State) (a0 : Array Value) (hw : ∀ d ∈ tables_1, d.before a0 Z = true) (ws : List Jvm.Cond) (p1 : Int32) (h0 : Heap) (n0 : Nat) (Z0 : n0 ≤ h0.size) :
    MetFree l (⟨"com/example/liana/liana/rdf/TurtleGrammar", "isNameStart", "(I)Z"⟩ : MethodName) (head1 (Jvm.Cond.code (⟨"com/example/liana/liana/rdf/TurtleGrammar", "isNameStart", "(I)Z"⟩ : MethodName) prog_87_method_2_code 1 (some .boolean) :: ws) ({ frames := 0, cells := 0, slots := 0, locals := 0 } : Room)) (fun a U => a = #[(.int p1)] ∧ Z.Warmed39 U.vm ∧ U.heap = h0) (fun _ _ _ _ _ => True) (fun _ U o U' => ∃ v L, o = .returned v ∧ QN (some (.int (own_st1 p1))) h0 n0 v U'.heap L ∧ FrameEnd U o U' L ({ frames := 0, cells := 0, slots := 0, locals := 0 } : Room).cells ({ frames := 0, cells := 0, slots := 0, locals := 0 } : Room).slots) := by
  refine MetFree.of_bodySF (plainFor_of_name pn_3) hisR ?_
  intro p e s m args below meth c s₁ Bd hml0 hP hK
  obtain ⟨rfl, hZ, hh⟩ := hP
  have hx := Bd.exec
  have hby := Bd.bytes
  have hml : c.maxLocals = 1 := hml0
  have hown : s.vm.findClass "com/example/liana/liana/rdf/TurtleGrammar" = some m.cls := findClass_of_methodNamed Bd.named
  have hnm := (name_of_methodNamed Bd.named Bd.method).1
  have X0 : Stand p l e ({ frames := 0, cells := 0, slots := 0, locals := 0 } : Room) s m #[(.int p1)] below meth c s₁ [] 0 0 := Stand.of_body Bd
  have e0 : s₁.heap = h0 := by rw [← hh, Bd.state]; rfl
  have N0 := Fr.nil n0
  have pre0 : ∀ t, Steps p.tables e below (s₁.setTop (mkF m 0 #[.val (.int p1)] [])) t → Steps p.tables e below (s₁.setTop (entryFrame m #[(.int p1)] 1)) t := fun t k => castTop (ef_3 m p1) k
  obtain ⟨fs, hr, hrun, hended, hW, hsame⟩ := X0.leave (v := some (.int (nar .boolean (own_st1 p1)))) (fun h => by rw [Bd.returns] at h; cases h)
  refine ⟨_, _, pre0 _ ?_, hrun, hended, _, _, rfl, ?_, ⟨_, rfl⟩, hW, hsame.mono (by decide) (by decide)⟩
  · refine seg_st1 X0 hx hZ hw hby hown p1 _ ?_
    exact retN X0 hx (t := .boolean) Bd.returns (by simp) (hb hby d3_196) hr
  · show QN (some (.int (own_st1 p1))) h0 n0 _ s₁.heap _
    rw [e0]
    exact ⟨by rw [own_stn], N0, rfl⟩
theorem own_st_z {x : Int32} (h : x.toInt = 45 ∨ (48 ≤ x.toInt ∧ x.toInt ≤ 57) ∨ x.toInt = 183 ∨ (768 ≤ x.toInt ∧ x.toInt ≤ 879) ∨ (8255 ≤ x.toInt ∧ x.toInt ≤ 8256)) : own_st1 x = 0 := by
  rw [own_st1, if_neg (by omega), own_st2, if_neg (by omega), own_st3, if_neg (by omega), own_st4, if_neg (by omega), own_st5, if_neg (by omega), own_st6, if_neg (by omega), own_st7, if_neg (by omega), own_st8, if_neg (by omega), own_st9, if_neg (by omega), own_st10, if_neg (by omega), own_st11, if_neg (by omega), own_st12, if_neg (by omega), own_st13, if_neg (by omega), own_st14, if_neg (by omega), own_st15, if_neg (by omega)]
theorem own_ch_p {x : Int32} (h : x.toInt = 45 ∨ (48 ≤ x.toInt ∧ x.toInt ≤ 57) ∨ x.toInt = 183 ∨ (768 ≤ x.toInt ∧ x.toInt ≤ 879) ∨ (8255 ≤ x.toInt ∧ x.toInt ≤ 8256)) : own_ch1 x = 1 := by
  unfold own_ch1; split
  · rfl
  unfold own_ch2; split
  · rfl
  unfold own_ch3; split
  · rfl
  unfold own_ch4; split
  · rfl
  unfold own_ch5; split
  · rfl
  exfalso; omega
theorem own_ch_n {x : Int32} (h : ¬ (x.toInt = 45 ∨ (48 ≤ x.toInt ∧ x.toInt ≤ 57) ∨ x.toInt = 183 ∨ (768 ≤ x.toInt ∧ x.toInt ≤ 879) ∨ (8255 ≤ x.toInt ∧ x.toInt ≤ 8256))) : own_ch1 x = 0 := by
  rw [own_ch1, if_neg (by omega), own_ch2, if_neg (by omega), own_ch3, if_neg (by omega), own_ch4, if_neg (by omega), own_ch5, if_neg (by omega)]
theorem pn_0 : plainName "com/example/liana/liana/rdf/TurtleGrammarIsNameCharacterPinLaw" = true := by first | (simp [plainName, overriddenIn]; done) | decide +kernel
theorem ef_0 (m : MethodId) (x0 : Int32) (x1 : Int32) (x2 : Int32) : entryFrame m #[(.int x0), (.int x1), (.int x2)] maxLocals = mkF m 0 #[.val (.int x0), .val (.int x1), .val (.int x2), .unset, .unset, .unset, .unset, .unset, .unset, .unset] [] := by first | (simp [entryFrame, mkF, argsToLocals, Value.category, maxLocals]; done) | rfl
def QF (n0 : Nat) (v : Option Value) (h : Heap) (L : List Loc) : Prop := v = some (.int 1) ∧ Fr n0 L
theorem pd_0 : parseMethodDescriptor "(III)Z" = some ⟨[.int, .int, .int], some .boolean⟩ := by decide +kernel
theorem pd_1 : parseMethodDescriptor "(I)Z" = some ⟨[.int], some .boolean⟩ := by decide +kernel
set_option maxRecDepth 65536 in
set_option maxHeartbeats 40000000 in
theorem rm0 (l : Launch) (Z : State) (a0 : Array Value) (hw : ∀ d ∈ tables_1, d.before a0 Z = true) (ws : List Jvm.Cond) (p1 : Int32) (p2 : Int32) (p3 : Int32) (h0 : Heap) (n0 : Nat) (Z0 : n0 ≤ h0.size) :
    MetFree l x (head1 (Jvm.Cond.code x code maxLocals ret :: ws) room_1) (fun a U => a = #[(.int p1), (.int p2), (.int p3)] ∧ Z.Warmed39 U.vm ∧ U.heap = h0) (fun _ _ _ _ _ => True) (fun _ U o U' => ∃ v L, o = .returned v ∧ QF n0 v U'.heap L ∧ FrameEnd U o U' L room_1.cells room_1.slots) := by
  refine MetFree.of_bodySF (plainFor_of_name pn_0) hisR ?_
  intro p e s m args below meth c s₁ Bd hml0 hP hK
  obtain ⟨rfl, hZ, hh⟩ := hP
  have hx := Bd.exec
  have hby := Bd.bytes
  have hml : c.maxLocals = 10 := hml0
  have hown : s.vm.findClass "com/example/liana/liana/rdf/TurtleGrammarIsNameCharacterPinLaw" = some m.cls := findClass_of_methodNamed Bd.named
  have hnm := (name_of_methodNamed Bd.named Bd.method).1
  have X0 : Stand p l e room_1 s m #[(.int p1), (.int p2), (.int p3)] below meth c s₁ [] 0 0 := Stand.of_body Bd
  have e0 : s₁.heap = h0 := by rw [← hh, Bd.state]; rfl
  have N0 := Fr.nil n0
  have pre0 : ∀ t, Steps p.tables e below (s₁.setTop (mkF m 0 #[.val (.int p1), .val (.int p2), .val (.int p3), .unset, .unset, .unset, .unset, .unset, .unset, .unset] [])) t → Steps p.tables e below (s₁.setTop (entryFrame m #[(.int p1), (.int p2), (.int p3)] maxLocals)) t := fun t k => castTop (ef_0 m p1 p2 p3) k
  obtain ⟨T4, h4, k4, X4, e4, E4, A4, st4⟩ := newP X0 hx hZ (hw _ (List.mem_of_getElem? (i := 0) rfl)) e0 (g := (mkF m 1 #[.val (.int p1), .val (.int p2), .val (.int p3), .unset, .unset, .unset, .unset, .unset, .unset, .unset] [(.int (5 : Int32))])) rfl (hb hby at_1) rfl (by decide) (cap := 5) (by decide) (by decide) (by decide) (by decide)
  obtain ⟨b4, g4⟩ : ∃ z, z = h0.size := ⟨_, rfl⟩
  rw [← g4] at A4 st4
  have g_b4 : n0 ≤ b4 := Nat.le_trans Z0 (Nat.le_of_eq g4.symm)
  have sz_b4 : h0.size ≤ b4 := Nat.le_of_eq g4.symm
  have SZ4 : n0 ≤ h4.size := Nat.le_trans Z0 E4.1
  have V_b4 : Arv Z h4 b4 k4 .int (5 : Int32) [(.int (0 : Int32)), (.int (0 : Int32)), (.int (0 : Int32)), (.int (0 : Int32)), (.int (0 : Int32))] (.int (0 : Int32)) := (Arv.new A4 (by decide)).pad (pad_rep [] (.int (0 : Int32)) 5)
  obtain ⟨clu5, Aru5, qu5, Su5, Mu5, Hu5, Gu5⟩ := id V_b4
  have hinu5 : ¬ ((0 : Int32) < 0 ∨ clu5.slots.size ≤ ((0 : Int32)).toNatClampNeg) := inb_of Su5 ⟨by decide, by decide⟩
  obtain ⟨T6, h6, X6, e6, W6, st6⟩ := stI X4 hx hZ e4 Aru5 (j := (0 : Int32)) hinu5 (g := (mkF m 7 #[.val (.int p1), .val (.int p2), .val (.int p3), .unset, .unset, .unset, .unset, .unset, .unset, .unset] [(.int (45 : Int32)), (.int (0 : Int32)), (.ref b4), (.ref b4)])) rfl rfl (hb hby at_7)
  have SZ6 : n0 ≤ h6.size := by rw [W6.size]; exact SZ4
  have N6 := Fr.snoc X6 N0 g_b4
  have V_b4_6 : Arv Z h6 b4 k4 .int (5 : Int32) [(.int (45 : Int32)), (.int (0 : Int32)), (.int (0 : Int32)), (.int (0 : Int32)), (.int (0 : Int32))] (.int (0 : Int32)) := Arv.set Aru5 qu5 Su5 Mu5 Hu5 Gu5 rfl W6 0 rfl (Nat.le_of_ble_eq_true rfl)
  obtain ⟨clu7, Aru7, qu7, Su7, Mu7, Hu7, Gu7⟩ := id V_b4_6
  have hinu7 : ¬ ((1 : Int32) < 0 ∨ clu7.slots.size ≤ ((1 : Int32)).toNatClampNeg) := inb_of Su7 ⟨by decide, by decide⟩
  obtain ⟨T8, h8, X8, e8, W8, st8⟩ := stI X6 hx hZ e6 Aru7 (j := (1 : Int32)) hinu7 (g := (mkF m 12 #[.val (.int p1), .val (.int p2), .val (.int p3), .unset, .unset, .unset, .unset, .unset, .unset, .unset] [(.int (48 : Int32)), (.int (1 : Int32)), (.ref b4), (.ref b4)])) rfl rfl (hb hby at_12)
  have SZ8 : n0 ≤ h8.size := by rw [W8.size]; exact SZ6
  have N8 := Fr.snoc X8 N6 g_b4
  have V_b4_8 : Arv Z h8 b4 k4 .int (5 : Int32) [(.int (45 : Int32)), (.int (48 : Int32)), (.int (0 : Int32)), (.int (0 : Int32)), (.int (0 : Int32))] (.int (0 : Int32)) := Arv.set Aru7 qu7 Su7 Mu7 Hu7 Gu7 rfl W8 1 rfl (Nat.le_of_ble_eq_true rfl)
  obtain ⟨clu9, Aru9, qu9, Su9, Mu9, Hu9, Gu9⟩ := id V_b4_8
  have hinu9 : ¬ ((2 : Int32) < 0 ∨ clu9.slots.size ≤ ((2 : Int32)).toNatClampNeg) := inb_of Su9 ⟨by decide, by decide⟩
  obtain ⟨T10, h10, X10, e10, W10, st10⟩ := stI X8 hx hZ e8 Aru9 (j := (2 : Int32)) hinu9 (g := (mkF m 18 #[.val (.int p1), .val (.int p2), .val (.int p3), .unset, .unset, .unset, .unset, .unset, .unset, .unset] [(.int (183 : Int32)), (.int (2 : Int32)), (.ref b4), (.ref b4)])) rfl rfl (hb hby at_18)
  have SZ10 : n0 ≤ h10.size := by rw [W10.size]; exact SZ8
  have N10 := Fr.snoc X10 N8 g_b4
  have V_b4_10 : Arv Z h10 b4 k4 .int (5 : Int32) [(.int (45 : Int32)), (.int (48 : Int32)), (.int (183 : Int32)), (.int (0 : Int32)), (.int (0 : Int32))] (.int (0 : Int32)) := Arv.set Aru9 qu9 Su9 Mu9 Hu9 Gu9 rfl W10 2 rfl (Nat.le_of_ble_eq_true rfl)
  obtain ⟨clu11, Aru11, qu11, Su11, Mu11, Hu11, Gu11⟩ := id V_b4_10
  have hinu11 : ¬ ((3 : Int32) < 0 ∨ clu11.slots.size ≤ ((3 : Int32)).toNatClampNeg) := inb_of Su11 ⟨by decide, by decide⟩
  obtain ⟨T12, h12, X12, e12, W12, st12⟩ := stI X10 hx hZ e10 Aru11 (j := (3 : Int32)) hinu11 (g := (mkF m 24 #[.val (.int p1), .val (.int p2), .val (.int p3), .unset, .unset, .unset, .unset, .unset, .unset, .unset] [(.int (768 : Int32)), (.int (3 : Int32)), (.ref b4), (.ref b4)])) rfl rfl (hb hby at_24)
  have SZ12 : n0 ≤ h12.size := by rw [W12.size]; exact SZ10
  have N12 := Fr.snoc X12 N10 g_b4
  have V_b4_12 : Arv Z h12 b4 k4 .int (5 : Int32) [(.int (45 : Int32)), (.int (48 : Int32)), (.int (183 : Int32)), (.int (768 : Int32)), (.int (0 : Int32))] (.int (0 : Int32)) := Arv.set Aru11 qu11 Su11 Mu11 Hu11 Gu11 rfl W12 3 rfl (Nat.le_of_ble_eq_true rfl)
  obtain ⟨clu13, Aru13, qu13, Su13, Mu13, Hu13, Gu13⟩ := id V_b4_12
  have hinu13 : ¬ ((4 : Int32) < 0 ∨ clu13.slots.size ≤ ((4 : Int32)).toNatClampNeg) := inb_of Su13 ⟨by decide, by decide⟩
  obtain ⟨T14, h14, X14, e14, W14, st14⟩ := stI X12 hx hZ e12 Aru13 (j := (4 : Int32)) hinu13 (g := (mkF m 30 #[.val (.int p1), .val (.int p2), .val (.int p3), .unset, .unset, .unset, .unset, .unset, .unset, .unset] [(.int (8255 : Int32)), (.int (4 : Int32)), (.ref b4), (.ref b4)])) rfl rfl (hb hby at_30)
  have SZ14 : n0 ≤ h14.size := by rw [W14.size]; exact SZ12
  have N14 := Fr.snoc X14 N12 g_b4
  have V_b4_14 : Arv Z h14 b4 k4 .int (5 : Int32) [(.int (45 : Int32)), (.int (48 : Int32)), (.int (183 : Int32)), (.int (768 : Int32)), (.int (8255 : Int32))] (.int (0 : Int32)) := Arv.set Aru13 qu13 Su13 Mu13 Hu13 Gu13 rfl W14 4 rfl (Nat.le_of_ble_eq_true rfl)
  obtain ⟨T15, h15, k15, X15, e15, E15, A15, st15⟩ := newP X14 hx hZ (hw _ (List.mem_of_getElem? (i := 0) rfl)) e14 (g := (mkF m 33 #[.val (.int p1), .val (.int p2), .val (.int p3), .val (.ref b4), .unset, .unset, .unset, .unset, .unset, .unset] [(.int (5 : Int32))])) rfl (hb hby at_33) rfl (by decide) (cap := 5) (by decide) (by decide) (by decide) (by decide)
  obtain ⟨b15, g15⟩ : ∃ z, z = h14.size := ⟨_, rfl⟩
  rw [← g15] at A15 st15
  have ne_b4_b15 : b4 ≠ b15 := Nat.ne_of_lt (Nat.lt_of_lt_of_le V_b4_14.lt (Nat.le_of_eq g15.symm))
  have g_b15 : n0 ≤ b15 := Nat.le_trans SZ14 (Nat.le_of_eq g15.symm)
  have sz_b15 : h14.size ≤ b15 := Nat.le_of_eq g15.symm
  have V_b4_15 := V_b4_14.ext E15
  have SZ15 : n0 ≤ h15.size := Nat.le_trans SZ14 E15.1
  have V_b15 : Arv Z h15 b15 k15 .int (5 : Int32) [(.int (0 : Int32)), (.int (0 : Int32)), (.int (0 : Int32)), (.int (0 : Int32)), (.int (0 : Int32))] (.int (0 : Int32)) := (Arv.new A15 (by decide)).pad (pad_rep [] (.int (0 : Int32)) 5)
  obtain ⟨clu16, Aru16, qu16, Su16, Mu16, Hu16, Gu16⟩ := id V_b15
  have hinu16 : ¬ ((0 : Int32) < 0 ∨ clu16.slots.size ≤ ((0 : Int32)).toNatClampNeg) := inb_of Su16 ⟨by decide, by decide⟩
  obtain ⟨T17, h17, X17, e17, W17, st17⟩ := stI X15 hx hZ e15 Aru16 (j := (0 : Int32)) hinu16 (g := (mkF m 39 #[.val (.int p1), .val (.int p2), .val (.int p3), .val (.ref b4), .unset, .unset, .unset, .unset, .unset, .unset] [(.int (45 : Int32)), (.int (0 : Int32)), (.ref b15), (.ref b15)])) rfl rfl (hb hby at_39)
  have V_b4_17 := V_b4_15.other W17 ne_b4_b15
  have SZ17 : n0 ≤ h17.size := by rw [W17.size]; exact SZ15
  have N17 := Fr.snoc X17 N14 g_b15
  have V_b15_17 : Arv Z h17 b15 k15 .int (5 : Int32) [(.int (45 : Int32)), (.int (0 : Int32)), (.int (0 : Int32)), (.int (0 : Int32)), (.int (0 : Int32))] (.int (0 : Int32)) := Arv.set Aru16 qu16 Su16 Mu16 Hu16 Gu16 rfl W17 0 rfl (Nat.le_of_ble_eq_true rfl)
  obtain ⟨clu18, Aru18, qu18, Su18, Mu18, Hu18, Gu18⟩ := id V_b15_17
  have hinu18 : ¬ ((1 : Int32) < 0 ∨ clu18.slots.size ≤ ((1 : Int32)).toNatClampNeg) := inb_of Su18 ⟨by decide, by decide⟩
  obtain ⟨T19, h19, X19, e19, W19, st19⟩ := stI X17 hx hZ e17 Aru18 (j := (1 : Int32)) hinu18 (g := (mkF m 44 #[.val (.int p1), .val (.int p2), .val (.int p3), .val (.ref b4), .unset, .unset, .unset, .unset, .unset, .unset] [(.int (57 : Int32)), (.int (1 : Int32)), (.ref b15), (.ref b15)])) rfl rfl (hb hby at_44)
  have V_b4_19 := V_b4_17.other W19 ne_b4_b15
  have SZ19 : n0 ≤ h19.size := by rw [W19.size]; exact SZ17
  have N19 := Fr.snoc X19 N17 g_b15
  have V_b15_19 : Arv Z h19 b15 k15 .int (5 : Int32) [(.int (45 : Int32)), (.int (57 : Int32)), (.int (0 : Int32)), (.int (0 : Int32)), (.int (0 : Int32))] (.int (0 : Int32)) := Arv.set Aru18 qu18 Su18 Mu18 Hu18 Gu18 rfl W19 1 rfl (Nat.le_of_ble_eq_true rfl)
  obtain ⟨clu20, Aru20, qu20, Su20, Mu20, Hu20, Gu20⟩ := id V_b15_19
  have hinu20 : ¬ ((2 : Int32) < 0 ∨ clu20.slots.size ≤ ((2 : Int32)).toNatClampNeg) := inb_of Su20 ⟨by decide, by decide⟩
  obtain ⟨T21, h21, X21, e21, W21, st21⟩ := stI X19 hx hZ e19 Aru20 (j := (2 : Int32)) hinu20 (g := (mkF m 50 #[.val (.int p1), .val (.int p2), .val (.int p3), .val (.ref b4), .unset, .unset, .unset, .unset, .unset, .unset] [(.int (183 : Int32)), (.int (2 : Int32)), (.ref b15), (.ref b15)])) rfl rfl (hb hby at_50)
  have V_b4_21 := V_b4_19.other W21 ne_b4_b15
  have SZ21 : n0 ≤ h21.size := by rw [W21.size]; exact SZ19
  have N21 := Fr.snoc X21 N19 g_b15
  have V_b15_21 : Arv Z h21 b15 k15 .int (5 : Int32) [(.int (45 : Int32)), (.int (57 : Int32)), (.int (183 : Int32)), (.int (0 : Int32)), (.int (0 : Int32))] (.int (0 : Int32)) := Arv.set Aru20 qu20 Su20 Mu20 Hu20 Gu20 rfl W21 2 rfl (Nat.le_of_ble_eq_true rfl)
  obtain ⟨clu22, Aru22, qu22, Su22, Mu22, Hu22, Gu22⟩ := id V_b15_21
  have hinu22 : ¬ ((3 : Int32) < 0 ∨ clu22.slots.size ≤ ((3 : Int32)).toNatClampNeg) := inb_of Su22 ⟨by decide, by decide⟩
  obtain ⟨T23, h23, X23, e23, W23, st23⟩ := stI X21 hx hZ e21 Aru22 (j := (3 : Int32)) hinu22 (g := (mkF m 56 #[.val (.int p1), .val (.int p2), .val (.int p3), .val (.ref b4), .unset, .unset, .unset, .unset, .unset, .unset] [(.int (879 : Int32)), (.int (3 : Int32)), (.ref b15), (.ref b15)])) rfl rfl (hb hby at_56)
  have V_b4_23 := V_b4_21.other W23 ne_b4_b15
  have SZ23 : n0 ≤ h23.size := by rw [W23.size]; exact SZ21
  have N23 := Fr.snoc X23 N21 g_b15
  have V_b15_23 : Arv Z h23 b15 k15 .int (5 : Int32) [(.int (45 : Int32)), (.int (57 : Int32)), (.int (183 : Int32)), (.int (879 : Int32)), (.int (0 : Int32))] (.int (0 : Int32)) := Arv.set Aru22 qu22 Su22 Mu22 Hu22 Gu22 rfl W23 3 rfl (Nat.le_of_ble_eq_true rfl)
  obtain ⟨clu24, Aru24, qu24, Su24, Mu24, Hu24, Gu24⟩ := id V_b15_23
  have hinu24 : ¬ ((4 : Int32) < 0 ∨ clu24.slots.size ≤ ((4 : Int32)).toNatClampNeg) := inb_of Su24 ⟨by decide, by decide⟩
  obtain ⟨T25, h25, X25, e25, W25, st25⟩ := stI X23 hx hZ e23 Aru24 (j := (4 : Int32)) hinu24 (g := (mkF m 62 #[.val (.int p1), .val (.int p2), .val (.int p3), .val (.ref b4), .unset, .unset, .unset, .unset, .unset, .unset] [(.int (8256 : Int32)), (.int (4 : Int32)), (.ref b15), (.ref b15)])) rfl rfl (hb hby at_62)
  have V_b4_25 := V_b4_23.other W25 ne_b4_b15
  have SZ25 : n0 ≤ h25.size := by rw [W25.size]; exact SZ23
  have N25 := Fr.snoc X25 N23 g_b15
  have V_b15_25 : Arv Z h25 b15 k15 .int (5 : Int32) [(.int (45 : Int32)), (.int (57 : Int32)), (.int (183 : Int32)), (.int (879 : Int32)), (.int (8256 : Int32))] (.int (0 : Int32)) := Arv.set Aru24 qu24 Su24 Mu24 Hu24 Gu24 rfl W25 4 rfl (Nat.le_of_ble_eq_true rfl)
  have pre_26 : ∀ t, Steps p.tables e below (T25.setTop (mkF m 65 #[.val (.int p1), .val (.int p2), .val (.int p3), .val (.ref b4), .val (.ref b15), .unset, .unset, .unset, .unset, .unset] [])) t → Steps p.tables e below (s₁.setTop (entryFrame m #[(.int p1), (.int p2), (.int p3)] maxLocals)) t := by
    intro t kt
    refine pre0 _ ?_
    show Steps p.tables e below (s₁.setTop (mkF m 0 #[.val (.int p1), .val (.int p2), .val (.int p3), .unset, .unset, .unset, .unset, .unset, .unset, .unset] [])) _
    refine XS.iconst X0.here hx rfl (hb hby at_0) ?_
    show Steps p.tables e below (s₁.setTop (mkF m 1 #[.val (.int p1), .val (.int p2), .val (.int p3), .unset, .unset, .unset, .unset, .unset, .unset, .unset] [(.int (5 : Int32))])) _
    refine st4 _ ?_
    show Steps p.tables e below (T4.setTop (mkF m 3 #[.val (.int p1), .val (.int p2), .val (.int p3), .unset, .unset, .unset, .unset, .unset, .unset, .unset] [(.ref b4)])) _
    refine XS.dup X4.here hx rfl (hb hby at_3) rfl rfl ?_
    show Steps p.tables e below (T4.setTop (mkF m 4 #[.val (.int p1), .val (.int p2), .val (.int p3), .unset, .unset, .unset, .unset, .unset, .unset, .unset] [(.ref b4), (.ref b4)])) _
    refine XS.iconst X4.here hx rfl (hb hby at_4) ?_
    show Steps p.tables e below (T4.setTop (mkF m 5 #[.val (.int p1), .val (.int p2), .val (.int p3), .unset, .unset, .unset, .unset, .unset, .unset, .unset] [(.int (0 : Int32)), (.ref b4), (.ref b4)])) _
    refine XS.bipush X4.here hx rfl (hb hby at_5) ?_
    show Steps p.tables e below (T4.setTop (mkF m 7 #[.val (.int p1), .val (.int p2), .val (.int p3), .unset, .unset, .unset, .unset, .unset, .unset, .unset] [(.int (45 : Int32)), (.int (0 : Int32)), (.ref b4), (.ref b4)])) _
    refine st6 _ ?_
    show Steps p.tables e below (T6.setTop (mkF m 8 #[.val (.int p1), .val (.int p2), .val (.int p3), .unset, .unset, .unset, .unset, .unset, .unset, .unset] [(.ref b4)])) _
    refine XS.dup X6.here hx rfl (hb hby at_8) rfl rfl ?_
    show Steps p.tables e below (T6.setTop (mkF m 9 #[.val (.int p1), .val (.int p2), .val (.int p3), .unset, .unset, .unset, .unset, .unset, .unset, .unset] [(.ref b4), (.ref b4)])) _
    refine XS.iconst X6.here hx rfl (hb hby at_9) ?_
    show Steps p.tables e below (T6.setTop (mkF m 10 #[.val (.int p1), .val (.int p2), .val (.int p3), .unset, .unset, .unset, .unset, .unset, .unset, .unset] [(.int (1 : Int32)), (.ref b4), (.ref b4)])) _
    refine XS.bipush X6.here hx rfl (hb hby at_10) ?_
    show Steps p.tables e below (T6.setTop (mkF m 12 #[.val (.int p1), .val (.int p2), .val (.int p3), .unset, .unset, .unset, .unset, .unset, .unset, .unset] [(.int (48 : Int32)), (.int (1 : Int32)), (.ref b4), (.ref b4)])) _
    refine st8 _ ?_
    show Steps p.tables e below (T8.setTop (mkF m 13 #[.val (.int p1), .val (.int p2), .val (.int p3), .unset, .unset, .unset, .unset, .unset, .unset, .unset] [(.ref b4)])) _
    refine XS.dup X8.here hx rfl (hb hby at_13) rfl rfl ?_
    show Steps p.tables e below (T8.setTop (mkF m 14 #[.val (.int p1), .val (.int p2), .val (.int p3), .unset, .unset, .unset, .unset, .unset, .unset, .unset] [(.ref b4), (.ref b4)])) _
    refine XS.iconst X8.here hx rfl (hb hby at_14) ?_
    show Steps p.tables e below (T8.setTop (mkF m 15 #[.val (.int p1), .val (.int p2), .val (.int p3), .unset, .unset, .unset, .unset, .unset, .unset, .unset] [(.int (2 : Int32)), (.ref b4), (.ref b4)])) _
    refine XS.sipush X8.here hx rfl (hb hby at_15) ?_
    show Steps p.tables e below (T8.setTop (mkF m 18 #[.val (.int p1), .val (.int p2), .val (.int p3), .unset, .unset, .unset, .unset, .unset, .unset, .unset] [(.int (183 : Int32)), (.int (2 : Int32)), (.ref b4), (.ref b4)])) _
    refine st10 _ ?_
    show Steps p.tables e below (T10.setTop (mkF m 19 #[.val (.int p1), .val (.int p2), .val (.int p3), .unset, .unset, .unset, .unset, .unset, .unset, .unset] [(.ref b4)])) _
    refine XS.dup X10.here hx rfl (hb hby at_19) rfl rfl ?_
    show Steps p.tables e below (T10.setTop (mkF m 20 #[.val (.int p1), .val (.int p2), .val (.int p3), .unset, .unset, .unset, .unset, .unset, .unset, .unset] [(.ref b4), (.ref b4)])) _
    refine XS.iconst X10.here hx rfl (hb hby at_20) ?_
    show Steps p.tables e below (T10.setTop (mkF m 21 #[.val (.int p1), .val (.int p2), .val (.int p3), .unset, .unset, .unset, .unset, .unset, .unset, .unset] [(.int (3 : Int32)), (.ref b4), (.ref b4)])) _
    refine XS.sipush X10.here hx rfl (hb hby at_21) ?_
    show Steps p.tables e below (T10.setTop (mkF m 24 #[.val (.int p1), .val (.int p2), .val (.int p3), .unset, .unset, .unset, .unset, .unset, .unset, .unset] [(.int (768 : Int32)), (.int (3 : Int32)), (.ref b4), (.ref b4)])) _
    refine st12 _ ?_
    show Steps p.tables e below (T12.setTop (mkF m 25 #[.val (.int p1), .val (.int p2), .val (.int p3), .unset, .unset, .unset, .unset, .unset, .unset, .unset] [(.ref b4)])) _
    refine XS.dup X12.here hx rfl (hb hby at_25) rfl rfl ?_
    show Steps p.tables e below (T12.setTop (mkF m 26 #[.val (.int p1), .val (.int p2), .val (.int p3), .unset, .unset, .unset, .unset, .unset, .unset, .unset] [(.ref b4), (.ref b4)])) _
    refine XS.iconst X12.here hx rfl (hb hby at_26) ?_
    show Steps p.tables e below (T12.setTop (mkF m 27 #[.val (.int p1), .val (.int p2), .val (.int p3), .unset, .unset, .unset, .unset, .unset, .unset, .unset] [(.int (4 : Int32)), (.ref b4), (.ref b4)])) _
    refine XS.sipush X12.here hx rfl (hb hby at_27) ?_
    show Steps p.tables e below (T12.setTop (mkF m 30 #[.val (.int p1), .val (.int p2), .val (.int p3), .unset, .unset, .unset, .unset, .unset, .unset, .unset] [(.int (8255 : Int32)), (.int (4 : Int32)), (.ref b4), (.ref b4)])) _
    refine st14 _ ?_
    show Steps p.tables e below (T14.setTop (mkF m 31 #[.val (.int p1), .val (.int p2), .val (.int p3), .unset, .unset, .unset, .unset, .unset, .unset, .unset] [(.ref b4)])) _
    refine XS.astoreN X14.here hx rfl (hb hby at_31) rfl rfl (l' := #[.val (.int p1), .val (.int p2), .val (.int p3), .val (.ref b4), .unset, .unset, .unset, .unset, .unset, .unset]) rfl ?_
    show Steps p.tables e below (T14.setTop (mkF m 32 #[.val (.int p1), .val (.int p2), .val (.int p3), .val (.ref b4), .unset, .unset, .unset, .unset, .unset, .unset] [])) _
    refine XS.iconst X14.here hx rfl (hb hby at_32) ?_
    show Steps p.tables e below (T14.setTop (mkF m 33 #[.val (.int p1), .val (.int p2), .val (.int p3), .val (.ref b4), .unset, .unset, .unset, .unset, .unset, .unset] [(.int (5 : Int32))])) _
    refine st15 _ ?_
    show Steps p.tables e below (T15.setTop (mkF m 35 #[.val (.int p1), .val (.int p2), .val (.int p3), .val (.ref b4), .unset, .unset, .unset, .unset, .unset, .unset] [(.ref b15)])) _
    refine XS.dup X15.here hx rfl (hb hby at_35) rfl rfl ?_
    show Steps p.tables e below (T15.setTop (mkF m 36 #[.val (.int p1), .val (.int p2), .val (.int p3), .val (.ref b4), .unset, .unset, .unset, .unset, .unset, .unset] [(.ref b15), (.ref b15)])) _
    refine XS.iconst X15.here hx rfl (hb hby at_36) ?_
    show Steps p.tables e below (T15.setTop (mkF m 37 #[.val (.int p1), .val (.int p2), .val (.int p3), .val (.ref b4), .unset, .unset, .unset, .unset, .unset, .unset] [(.int (0 : Int32)), (.ref b15), (.ref b15)])) _
    refine XS.bipush X15.here hx rfl (hb hby at_37) ?_
    show Steps p.tables e below (T15.setTop (mkF m 39 #[.val (.int p1), .val (.int p2), .val (.int p3), .val (.ref b4), .unset, .unset, .unset, .unset, .unset, .unset] [(.int (45 : Int32)), (.int (0 : Int32)), (.ref b15), (.ref b15)])) _
    refine st17 _ ?_
    show Steps p.tables e below (T17.setTop (mkF m 40 #[.val (.int p1), .val (.int p2), .val (.int p3), .val (.ref b4), .unset, .unset, .unset, .unset, .unset, .unset] [(.ref b15)])) _
    refine XS.dup X17.here hx rfl (hb hby at_40) rfl rfl ?_
    show Steps p.tables e below (T17.setTop (mkF m 41 #[.val (.int p1), .val (.int p2), .val (.int p3), .val (.ref b4), .unset, .unset, .unset, .unset, .unset, .unset] [(.ref b15), (.ref b15)])) _
    refine XS.iconst X17.here hx rfl (hb hby at_41) ?_
    show Steps p.tables e below (T17.setTop (mkF m 42 #[.val (.int p1), .val (.int p2), .val (.int p3), .val (.ref b4), .unset, .unset, .unset, .unset, .unset, .unset] [(.int (1 : Int32)), (.ref b15), (.ref b15)])) _
    refine XS.bipush X17.here hx rfl (hb hby at_42) ?_
    show Steps p.tables e below (T17.setTop (mkF m 44 #[.val (.int p1), .val (.int p2), .val (.int p3), .val (.ref b4), .unset, .unset, .unset, .unset, .unset, .unset] [(.int (57 : Int32)), (.int (1 : Int32)), (.ref b15), (.ref b15)])) _
    refine st19 _ ?_
    show Steps p.tables e below (T19.setTop (mkF m 45 #[.val (.int p1), .val (.int p2), .val (.int p3), .val (.ref b4), .unset, .unset, .unset, .unset, .unset, .unset] [(.ref b15)])) _
    refine XS.dup X19.here hx rfl (hb hby at_45) rfl rfl ?_
    show Steps p.tables e below (T19.setTop (mkF m 46 #[.val (.int p1), .val (.int p2), .val (.int p3), .val (.ref b4), .unset, .unset, .unset, .unset, .unset, .unset] [(.ref b15), (.ref b15)])) _
    refine XS.iconst X19.here hx rfl (hb hby at_46) ?_
    show Steps p.tables e below (T19.setTop (mkF m 47 #[.val (.int p1), .val (.int p2), .val (.int p3), .val (.ref b4), .unset, .unset, .unset, .unset, .unset, .unset] [(.int (2 : Int32)), (.ref b15), (.ref b15)])) _
    refine XS.sipush X19.here hx rfl (hb hby at_47) ?_
    show Steps p.tables e below (T19.setTop (mkF m 50 #[.val (.int p1), .val (.int p2), .val (.int p3), .val (.ref b4), .unset, .unset, .unset, .unset, .unset, .unset] [(.int (183 : Int32)), (.int (2 : Int32)), (.ref b15), (.ref b15)])) _
    refine st21 _ ?_
    show Steps p.tables e below (T21.setTop (mkF m 51 #[.val (.int p1), .val (.int p2), .val (.int p3), .val (.ref b4), .unset, .unset, .unset, .unset, .unset, .unset] [(.ref b15)])) _
    refine XS.dup X21.here hx rfl (hb hby at_51) rfl rfl ?_
    show Steps p.tables e below (T21.setTop (mkF m 52 #[.val (.int p1), .val (.int p2), .val (.int p3), .val (.ref b4), .unset, .unset, .unset, .unset, .unset, .unset] [(.ref b15), (.ref b15)])) _
    refine XS.iconst X21.here hx rfl (hb hby at_52) ?_
    show Steps p.tables e below (T21.setTop (mkF m 53 #[.val (.int p1), .val (.int p2), .val (.int p3), .val (.ref b4), .unset, .unset, .unset, .unset, .unset, .unset] [(.int (3 : Int32)), (.ref b15), (.ref b15)])) _
    refine XS.sipush X21.here hx rfl (hb hby at_53) ?_
    show Steps p.tables e below (T21.setTop (mkF m 56 #[.val (.int p1), .val (.int p2), .val (.int p3), .val (.ref b4), .unset, .unset, .unset, .unset, .unset, .unset] [(.int (879 : Int32)), (.int (3 : Int32)), (.ref b15), (.ref b15)])) _
    refine st23 _ ?_
    show Steps p.tables e below (T23.setTop (mkF m 57 #[.val (.int p1), .val (.int p2), .val (.int p3), .val (.ref b4), .unset, .unset, .unset, .unset, .unset, .unset] [(.ref b15)])) _
    refine XS.dup X23.here hx rfl (hb hby at_57) rfl rfl ?_
    show Steps p.tables e below (T23.setTop (mkF m 58 #[.val (.int p1), .val (.int p2), .val (.int p3), .val (.ref b4), .unset, .unset, .unset, .unset, .unset, .unset] [(.ref b15), (.ref b15)])) _
    refine XS.iconst X23.here hx rfl (hb hby at_58) ?_
    show Steps p.tables e below (T23.setTop (mkF m 59 #[.val (.int p1), .val (.int p2), .val (.int p3), .val (.ref b4), .unset, .unset, .unset, .unset, .unset, .unset] [(.int (4 : Int32)), (.ref b15), (.ref b15)])) _
    refine XS.sipush X23.here hx rfl (hb hby at_59) ?_
    show Steps p.tables e below (T23.setTop (mkF m 62 #[.val (.int p1), .val (.int p2), .val (.int p3), .val (.ref b4), .unset, .unset, .unset, .unset, .unset, .unset] [(.int (8256 : Int32)), (.int (4 : Int32)), (.ref b15), (.ref b15)])) _
    refine st25 _ ?_
    show Steps p.tables e below (T25.setTop (mkF m 63 #[.val (.int p1), .val (.int p2), .val (.int p3), .val (.ref b4), .unset, .unset, .unset, .unset, .unset, .unset] [(.ref b15)])) _
    refine XS.astore X25.here hx rfl (hb hby at_63) rfl rfl (l' := #[.val (.int p1), .val (.int p2), .val (.int p3), .val (.ref b4), .val (.ref b15), .unset, .unset, .unset, .unset, .unset]) rfl ?_
    exact kt
  obtain ⟨mm, hmm⟩ : ∃ z, (p2 &&& (15 : Int32)) = z := ⟨_, rfl⟩
  have m1 := c_mask p2 15 4 (by decide) (by decide)
  rw [hmm, show ((2 ^ 4 : Nat) : Int) = 16 from rfl] at m1
  have pre_27 : ∀ t, Steps p.tables e below (T25.setTop (mkF m 71 #[.val (.int p1), .val (.int p2), .val (.int p3), .val (.ref b4), .val (.ref b15), .val (.int mm), .unset, .unset, .unset, .unset] [])) t → Steps p.tables e below (s₁.setTop (entryFrame m #[(.int p1), (.int p2), (.int p3)] maxLocals)) t := by
    intro t kt
    refine pre_26 _ ?_
    show Steps p.tables e below (T25.setTop (mkF m 65 #[.val (.int p1), .val (.int p2), .val (.int p3), .val (.ref b4), .val (.ref b15), .unset, .unset, .unset, .unset, .unset] [])) _
    refine XS.iloadN X25.here hx rfl (hb hby at_65) rfl ?_
    show Steps p.tables e below (T25.setTop (mkF m 66 #[.val (.int p1), .val (.int p2), .val (.int p3), .val (.ref b4), .val (.ref b15), .unset, .unset, .unset, .unset, .unset] [(.int p2)])) _
    refine XS.bipush X25.here hx rfl (hb hby at_66) ?_
    show Steps p.tables e below (T25.setTop (mkF m 68 #[.val (.int p1), .val (.int p2), .val (.int p3), .val (.ref b4), .val (.ref b15), .unset, .unset, .unset, .unset, .unset] [(.int (15 : Int32)), (.int p2)])) _
    refine XS.iand X25.here hx rfl (hb hby at_68) rfl ?_
    rw [hmm]
    show Steps p.tables e below (T25.setTop (mkF m 69 #[.val (.int p1), .val (.int p2), .val (.int p3), .val (.ref b4), .val (.ref b15), .unset, .unset, .unset, .unset, .unset] [(.int mm)])) _
    refine XS.istore X25.here hx rfl (hb hby at_69) rfl (l' := #[.val (.int p1), .val (.int p2), .val (.int p3), .val (.ref b4), .val (.ref b15), .val (.int mm), .unset, .unset, .unset, .unset]) rfl ?_
    exact kt
  by_cases ka : mm < (10 : Int32)
  · have kb := Int32.lt_iff_toInt_lt.mp ka
    rw [show (10 : Int32).toInt = 10 from rfl] at kb
    obtain ⟨bb, hbb⟩ : ∃ z, (mm >>> ((1 : Int32) &&& 31)) = z := ⟨_, rfl⟩
    have s1 := c_ishr mm 1 1 (by decide)
    rw [hbb, show ((2 ^ 1 : Nat) : Int) = 2 from rfl] at s1
    have n1 : ¬ bb < 0 := own_geI (by rw [show (0 : Int32).toInt = 0 from rfl]; omega)
    have n2 : bb < (5 : Int32) := own_ltI (by rw [show (5 : Int32).toInt = 5 from rfl]; omega)
    have n3 := nat_of n1
    have n4 : bb.toNatClampNeg = 0 ∨ bb.toNatClampNeg = 1 ∨ bb.toNatClampNeg = 2 ∨ bb.toNatClampNeg = 3 ∨ bb.toNatClampNeg = 4 := by omega
    have pre_28 : ∀ t, Steps p.tables e below (T25.setTop (mkF m 84 #[.val (.int p1), .val (.int p2), .val (.int p3), .val (.ref b4), .val (.ref b15), .val (.int mm), .unset, .val (.int bb), .unset, .unset] [])) t → Steps p.tables e below (s₁.setTop (entryFrame m #[(.int p1), (.int p2), (.int p3)] maxLocals)) t := by
      intro t kt
      refine pre_27 _ ?_
      show Steps p.tables e below (T25.setTop (mkF m 71 #[.val (.int p1), .val (.int p2), .val (.int p3), .val (.ref b4), .val (.ref b15), .val (.int mm), .unset, .unset, .unset, .unset] [])) _
      refine XS.iload X25.here hx rfl (hb hby at_71) rfl ?_
      show Steps p.tables e below (T25.setTop (mkF m 73 #[.val (.int p1), .val (.int p2), .val (.int p3), .val (.ref b4), .val (.ref b15), .val (.int mm), .unset, .unset, .unset, .unset] [(.int mm)])) _
      refine XS.bipush X25.here hx rfl (hb hby at_73) ?_
      show Steps p.tables e below (T25.setTop (mkF m 75 #[.val (.int p1), .val (.int p2), .val (.int p3), .val (.ref b4), .val (.ref b15), .val (.int mm), .unset, .unset, .unset, .unset] [(.int (10 : Int32)), (.int mm)])) _
      refine XS.icmpNo X25.here hx rfl (hb hby at_75) rfl (tlt (ka : mm < (10 : Int32))).2.1 ?_
      show Steps p.tables e below (T25.setTop (mkF m 78 #[.val (.int p1), .val (.int p2), .val (.int p3), .val (.ref b4), .val (.ref b15), .val (.int mm), .unset, .unset, .unset, .unset] [])) _
      refine XS.iload X25.here hx rfl (hb hby at_78) rfl ?_
      show Steps p.tables e below (T25.setTop (mkF m 80 #[.val (.int p1), .val (.int p2), .val (.int p3), .val (.ref b4), .val (.ref b15), .val (.int mm), .unset, .unset, .unset, .unset] [(.int mm)])) _
      refine XS.iconst X25.here hx rfl (hb hby at_80) ?_
      show Steps p.tables e below (T25.setTop (mkF m 81 #[.val (.int p1), .val (.int p2), .val (.int p3), .val (.ref b4), .val (.ref b15), .val (.int mm), .unset, .unset, .unset, .unset] [(.int (1 : Int32)), (.int mm)])) _
      refine XS.ishr X25.here hx rfl (hb hby at_81) rfl ?_
      rw [hbb]
      show Steps p.tables e below (T25.setTop (mkF m 82 #[.val (.int p1), .val (.int p2), .val (.int p3), .val (.ref b4), .val (.ref b15), .val (.int mm), .unset, .unset, .unset, .unset] [(.int bb)])) _
      refine XS.istore X25.here hx rfl (hb hby at_82) rfl (l' := #[.val (.int p1), .val (.int p2), .val (.int p3), .val (.ref b4), .val (.ref b15), .val (.int mm), .unset, .val (.int bb), .unset, .unset]) rfl ?_
      exact kt
    obtain ⟨ed, preE⟩ : ∃ ed, ∀ t, Steps p.tables e below (T25.setTop (mkF m 103 #[.val (.int p1), .val (.int p2), .val (.int p3), .val (.ref b4), .val (.ref b15), .val (.int mm), .unset, .val (.int bb), .unset, .unset] [(.int ed)])) t → Steps p.tables e below (s₁.setTop (entryFrame m #[(.int p1), (.int p2), (.int p3)] maxLocals)) t := by
      by_cases ke : (mm &&& (1 : Int32)) = (0 : Int32)
      · skip
        obtain ⟨ed, hed⟩ : ∃ z : Int32, List.getD ([(.int (45 : Int32)), (.int (48 : Int32)), (.int (183 : Int32)), (.int (768 : Int32)), (.int (8255 : Int32))] : List Value) bb.toNatClampNeg (.int (0 : Int32)) = .int z := by rcases n4 with q | q | q | q | q <;> rw [q] <;> exact ⟨_, rfl⟩
        obtain ⟨clu29, Aru29, qu29, Su29, Mu29, Hu29, Gu29⟩ := id V_b4_25
        have hinu29 : ¬ (bb < 0 ∨ clu29.slots.size ≤ (bb).toNatClampNeg) := inb_of Su29 ⟨n1, n2⟩
        have hatu29 : clu29.slots[(bb).toNatClampNeg]? = some (.int ed) := Hu29.at hinu29 hed
        refine ⟨ed, fun t kt => ?_⟩
        refine pre_28 _ ?_
        show Steps p.tables e below (T25.setTop (mkF m 84 #[.val (.int p1), .val (.int p2), .val (.int p3), .val (.ref b4), .val (.ref b15), .val (.int mm), .unset, .val (.int bb), .unset, .unset] [])) _
        refine XS.iload X25.here hx rfl (hb hby at_84) rfl ?_
        show Steps p.tables e below (T25.setTop (mkF m 86 #[.val (.int p1), .val (.int p2), .val (.int p3), .val (.ref b4), .val (.ref b15), .val (.int mm), .unset, .val (.int bb), .unset, .unset] [(.int mm)])) _
        refine XS.iconst X25.here hx rfl (hb hby at_86) ?_
        show Steps p.tables e below (T25.setTop (mkF m 87 #[.val (.int p1), .val (.int p2), .val (.int p3), .val (.ref b4), .val (.ref b15), .val (.int mm), .unset, .val (.int bb), .unset, .unset] [(.int (1 : Int32)), (.int mm)])) _
        refine XS.iand X25.here hx rfl (hb hby at_87) rfl ?_
        show Steps p.tables e below (T25.setTop (mkF m 88 #[.val (.int p1), .val (.int p2), .val (.int p3), .val (.ref b4), .val (.ref b15), .val (.int mm), .unset, .val (.int bb), .unset, .unset] [(.int (mm &&& (1 : Int32)))])) _
        refine XS.ifNo X25.here hx rfl (hb hby at_88) rfl ((if0 _ _).trans (teq (ke : (mm &&& (1 : Int32)) = (0 : Int32))).2) ?_
        show Steps p.tables e below (T25.setTop (mkF m 91 #[.val (.int p1), .val (.int p2), .val (.int p3), .val (.ref b4), .val (.ref b15), .val (.int mm), .unset, .val (.int bb), .unset, .unset] [])) _
        refine XS.aloadN X25.here hx rfl (hb hby at_91) rfl rfl ?_
        show Steps p.tables e below (T25.setTop (mkF m 92 #[.val (.int p1), .val (.int p2), .val (.int p3), .val (.ref b4), .val (.ref b15), .val (.int mm), .unset, .val (.int bb), .unset, .unset] [(.ref b4)])) _
        refine XS.iload X25.here hx rfl (hb hby at_92) rfl ?_
        show Steps p.tables e below (T25.setTop (mkF m 94 #[.val (.int p1), .val (.int p2), .val (.int p3), .val (.ref b4), .val (.ref b15), .val (.int mm), .unset, .val (.int bb), .unset, .unset] [(.int bb), (.ref b4)])) _
        refine X25.iaload hx (j := bb) (v := (.int ed)) (by rw [e25]; exact Aru29.1) (State.isArrayOf_alike hZ.alike Aru29.2.1) Aru29.2.2 hinu29 hatu29 (g := (mkF m 94 #[.val (.int p1), .val (.int p2), .val (.int p3), .val (.ref b4), .val (.ref b15), .val (.int mm), .unset, .val (.int bb), .unset, .unset] [(.int bb), (.ref b4)])) rfl rfl (hb hby at_94) _ ?_
        show Steps p.tables e below (T25.setTop (mkF m 95 #[.val (.int p1), .val (.int p2), .val (.int p3), .val (.ref b4), .val (.ref b15), .val (.int mm), .unset, .val (.int bb), .unset, .unset] [(.int ed)])) _
        refine XS.goto X25.here hx rfl (pc0 := 95) (pc' := 103) rfl (hb hby at_95) (by decide) (by decide) ?_
        exact kt
      · skip
        obtain ⟨ed, hed⟩ : ∃ z : Int32, List.getD ([(.int (45 : Int32)), (.int (57 : Int32)), (.int (183 : Int32)), (.int (879 : Int32)), (.int (8256 : Int32))] : List Value) bb.toNatClampNeg (.int (0 : Int32)) = .int z := by rcases n4 with q | q | q | q | q <;> rw [q] <;> exact ⟨_, rfl⟩
        obtain ⟨clu30, Aru30, qu30, Su30, Mu30, Hu30, Gu30⟩ := id V_b15_25
        have hinu30 : ¬ (bb < 0 ∨ clu30.slots.size ≤ (bb).toNatClampNeg) := inb_of Su30 ⟨n1, n2⟩
        have hatu30 : clu30.slots[(bb).toNatClampNeg]? = some (.int ed) := Hu30.at hinu30 hed
        refine ⟨ed, fun t kt => ?_⟩
        refine pre_28 _ ?_
        show Steps p.tables e below (T25.setTop (mkF m 84 #[.val (.int p1), .val (.int p2), .val (.int p3), .val (.ref b4), .val (.ref b15), .val (.int mm), .unset, .val (.int bb), .unset, .unset] [])) _
        refine XS.iload X25.here hx rfl (hb hby at_84) rfl ?_
        show Steps p.tables e below (T25.setTop (mkF m 86 #[.val (.int p1), .val (.int p2), .val (.int p3), .val (.ref b4), .val (.ref b15), .val (.int mm), .unset, .val (.int bb), .unset, .unset] [(.int mm)])) _
        refine XS.iconst X25.here hx rfl (hb hby at_86) ?_
        show Steps p.tables e below (T25.setTop (mkF m 87 #[.val (.int p1), .val (.int p2), .val (.int p3), .val (.ref b4), .val (.ref b15), .val (.int mm), .unset, .val (.int bb), .unset, .unset] [(.int (1 : Int32)), (.int mm)])) _
        refine XS.iand X25.here hx rfl (hb hby at_87) rfl ?_
        show Steps p.tables e below (T25.setTop (mkF m 88 #[.val (.int p1), .val (.int p2), .val (.int p3), .val (.ref b4), .val (.ref b15), .val (.int mm), .unset, .val (.int bb), .unset, .unset] [(.int (mm &&& (1 : Int32)))])) _
        refine XS.ifYes X25.here hx rfl (pc0 := 88) (pc' := 98) rfl (hb hby at_88) rfl ((if0 _ _).trans (feq (ke : ¬ ((mm &&& (1 : Int32)) = (0 : Int32)))).2) (by decide) (by decide) ?_
        show Steps p.tables e below (T25.setTop (mkF m 98 #[.val (.int p1), .val (.int p2), .val (.int p3), .val (.ref b4), .val (.ref b15), .val (.int mm), .unset, .val (.int bb), .unset, .unset] [])) _
        refine XS.aload X25.here hx rfl (hb hby at_98) rfl rfl ?_
        show Steps p.tables e below (T25.setTop (mkF m 100 #[.val (.int p1), .val (.int p2), .val (.int p3), .val (.ref b4), .val (.ref b15), .val (.int mm), .unset, .val (.int bb), .unset, .unset] [(.ref b15)])) _
        refine XS.iload X25.here hx rfl (hb hby at_100) rfl ?_
        show Steps p.tables e below (T25.setTop (mkF m 102 #[.val (.int p1), .val (.int p2), .val (.int p3), .val (.ref b4), .val (.ref b15), .val (.int mm), .unset, .val (.int bb), .unset, .unset] [(.int bb), (.ref b15)])) _
        refine X25.iaload hx (j := bb) (v := (.int ed)) (by rw [e25]; exact Aru30.1) (State.isArrayOf_alike hZ.alike Aru30.2.1) Aru30.2.2 hinu30 hatu30 (g := (mkF m 102 #[.val (.int p1), .val (.int p2), .val (.int p3), .val (.ref b4), .val (.ref b15), .val (.int mm), .unset, .val (.int bb), .unset, .unset] [(.int bb), (.ref b15)])) rfl rfl (hb hby at_102) _ ?_
        exact kt
    obtain ⟨xx, hxx⟩ : ∃ z, (ed + ((p3 &&& (7 : Int32)) - (3 : Int32))) = z := ⟨_, rfl⟩
    have pre_31 : ∀ t, Steps p.tables e below (T25.setTop (mkF m 122 #[.val (.int p1), .val (.int p2), .val (.int p3), .val (.ref b4), .val (.ref b15), .val (.int mm), .val (.int xx), .val (.int bb), .val (.int ed), .unset] [])) t → Steps p.tables e below (s₁.setTop (entryFrame m #[(.int p1), (.int p2), (.int p3)] maxLocals)) t := by
      intro t kt
      refine preE _ ?_
      show Steps p.tables e below (T25.setTop (mkF m 103 #[.val (.int p1), .val (.int p2), .val (.int p3), .val (.ref b4), .val (.ref b15), .val (.int mm), .unset, .val (.int bb), .unset, .unset] [(.int ed)])) _
      refine XS.istore X25.here hx rfl (hb hby at_103) rfl (l' := #[.val (.int p1), .val (.int p2), .val (.int p3), .val (.ref b4), .val (.ref b15), .val (.int mm), .unset, .val (.int bb), .val (.int ed), .unset]) rfl ?_
      show Steps p.tables e below (T25.setTop (mkF m 105 #[.val (.int p1), .val (.int p2), .val (.int p3), .val (.ref b4), .val (.ref b15), .val (.int mm), .unset, .val (.int bb), .val (.int ed), .unset] [])) _
      refine XS.iload X25.here hx rfl (hb hby at_105) rfl ?_
      show Steps p.tables e below (T25.setTop (mkF m 107 #[.val (.int p1), .val (.int p2), .val (.int p3), .val (.ref b4), .val (.ref b15), .val (.int mm), .unset, .val (.int bb), .val (.int ed), .unset] [(.int ed)])) _
      refine XS.iloadN X25.here hx rfl (hb hby at_107) rfl ?_
      show Steps p.tables e below (T25.setTop (mkF m 108 #[.val (.int p1), .val (.int p2), .val (.int p3), .val (.ref b4), .val (.ref b15), .val (.int mm), .unset, .val (.int bb), .val (.int ed), .unset] [(.int p3), (.int ed)])) _
      refine XS.bipush X25.here hx rfl (hb hby at_108) ?_
      show Steps p.tables e below (T25.setTop (mkF m 110 #[.val (.int p1), .val (.int p2), .val (.int p3), .val (.ref b4), .val (.ref b15), .val (.int mm), .unset, .val (.int bb), .val (.int ed), .unset] [(.int (7 : Int32)), (.int p3), (.int ed)])) _
      refine XS.iand X25.here hx rfl (hb hby at_110) rfl ?_
      show Steps p.tables e below (T25.setTop (mkF m 111 #[.val (.int p1), .val (.int p2), .val (.int p3), .val (.ref b4), .val (.ref b15), .val (.int mm), .unset, .val (.int bb), .val (.int ed), .unset] [(.int (p3 &&& (7 : Int32))), (.int ed)])) _
      refine XS.iconst X25.here hx rfl (hb hby at_111) ?_
      show Steps p.tables e below (T25.setTop (mkF m 112 #[.val (.int p1), .val (.int p2), .val (.int p3), .val (.ref b4), .val (.ref b15), .val (.int mm), .unset, .val (.int bb), .val (.int ed), .unset] [(.int (3 : Int32)), (.int (p3 &&& (7 : Int32))), (.int ed)])) _
      refine XS.isub X25.here hx rfl (hb hby at_112) rfl ?_
      show Steps p.tables e below (T25.setTop (mkF m 113 #[.val (.int p1), .val (.int p2), .val (.int p3), .val (.ref b4), .val (.ref b15), .val (.int mm), .unset, .val (.int bb), .val (.int ed), .unset] [(.int ((p3 &&& (7 : Int32)) - (3 : Int32))), (.int ed)])) _
      refine XS.iadd X25.here hx rfl (hb hby at_113) rfl ?_
      rw [hxx]
      show Steps p.tables e below (T25.setTop (mkF m 114 #[.val (.int p1), .val (.int p2), .val (.int p3), .val (.ref b4), .val (.ref b15), .val (.int mm), .unset, .val (.int bb), .val (.int ed), .unset] [(.int xx)])) _
      refine XS.istore X25.here hx rfl (hb hby at_114) rfl (l' := #[.val (.int p1), .val (.int p2), .val (.int p3), .val (.ref b4), .val (.ref b15), .val (.int mm), .val (.int xx), .val (.int bb), .val (.int ed), .unset]) rfl ?_
      show Steps p.tables e below (T25.setTop (mkF m 116 #[.val (.int p1), .val (.int p2), .val (.int p3), .val (.ref b4), .val (.ref b15), .val (.int mm), .val (.int xx), .val (.int bb), .val (.int ed), .unset] [])) _
      refine XS.goto X25.here hx rfl (pc0 := 116) (pc' := 122) rfl (hb hby at_116) (by decide) (by decide) ?_
      exact kt
    have f01 : (45 : Int32).toInt = 45 := rfl
    have f02 : (45 : Int32).toInt = 45 := rfl
    have f11 : (48 : Int32).toInt = 48 := rfl
    have f12 : (57 : Int32).toInt = 57 := rfl
    have f21 : (183 : Int32).toInt = 183 := rfl
    have f22 : (183 : Int32).toInt = 183 := rfl
    have f31 : (768 : Int32).toInt = 768 := rfl
    have f32 : (879 : Int32).toInt = 879 := rfl
    have f41 : (8255 : Int32).toInt = 8255 := rfl
    have f42 : (8256 : Int32).toInt = 8256 := rfl
    by_cases k0 : own_in xx (45 : Int32) (45 : Int32) = (0 : Int32)
    rotate_left
    · skip
      have dj : xx.toInt = 45 ∨ (48 ≤ xx.toInt ∧ xx.toInt ≤ 57) ∨ xx.toInt = 183 ∨ (768 ≤ xx.toInt ∧ xx.toInt ≤ 879) ∨ (8255 ≤ xx.toInt ∧ xx.toInt ≤ 8256) := by have q := own_in_nz k0; simp only [f01, f02] at q; omega
      have c1 := own_ch_p dj
      have c2 := own_st_z dj
      obtain ⟨clu32, Aru32, qu32, Su32, Mu32, Hu32, Gu32⟩ := id V_b4_25
      have hinu32 : ¬ ((0 : Int32) < 0 ∨ clu32.slots.size ≤ ((0 : Int32)).toNatClampNeg) := inb_of Su32 ⟨by decide, by decide⟩
      have hatu32 : clu32.slots[((0 : Int32)).toNatClampNeg]? = some (.int (45 : Int32)) := Hu32.at hinu32 rfl
      obtain ⟨clu33, Aru33, qu33, Su33, Mu33, Hu33, Gu33⟩ := id V_b15_25
      have hinu33 : ¬ ((0 : Int32) < 0 ∨ clu33.slots.size ≤ ((0 : Int32)).toNatClampNeg) := inb_of Su33 ⟨by decide, by decide⟩
      have hatu33 : clu33.slots[((0 : Int32)).toNatClampNeg]? = some (.int (45 : Int32)) := Hu33.at hinu33 rfl
      obtain ⟨_, _, ⟨T34, L34, k34, n34⟩, -, X34, ⟨Lc34, hQ34, l34, y34, z34⟩, st34⟩ := Jvm.LawKit.callS X25 hx (y := (⟨"com/example/liana/liana/rdf/TurtleGrammarIsNameCharacterPinLaw", "within", "(III)Z"⟩ : MethodName)) hown (mvT hZ (hw _ (List.mem_of_getElem? (i := 1) rfl))) (mvT hZ (hw _ (List.mem_of_getElem? (i := 2) rfl))) (mvT hZ (hw _ (List.mem_of_getElem? (i := 3) rfl))) (mvT hZ (hw _ (List.mem_of_getElem? (i := 4) rfl))) (by decide) (backOf (W := 0) (rm1U l Z a0 hw [] xx (45 : Int32) (45 : Int32) h25 n0 SZ25 ) hZ (hw _ (List.mem_of_getElem? (i := 4) rfl)) (hw _ (List.mem_of_getElem? (i := 3) rfl)) (by decide) (by decide)) (g := (mkF m 131 #[.val (.int p1), .val (.int p2), .val (.int p3), .val (.ref b4), .val (.ref b15), .val (.int mm), .val (.int xx), .val (.int bb), .val (.int ed), .unset] [(.int (45 : Int32)), (.int (45 : Int32)), (.int xx)])) rfl (by rw [hml]; rfl) (argsL := [(.int xx), (.int (45 : Int32)), (.int (45 : Int32))]) (rest := []) (lenOf pd_0 rfl) rfl (by show 2 * 0 + _ ≤ _; exact Nat.le_of_eq rfl) (hb hby at_131) (fun _ _ => ⟨rfl, e25, (by decide : 2 + 0 ≤ _), (by decide : 10 + 0 ≤ _)⟩)
      dsimp only [Pt.U, Pt.locs, Pt.cells, Pt.slots] at X34 l34 y34 z34 st34 hQ34
      subst l34 y34 z34
      obtain ⟨rfl, N34q, e34⟩ := hQ34
      have N34 := Fr.app N25 N34q
      obtain ⟨_, _, ⟨T35, L35, k35, n35⟩, -, X35, ⟨Lc35, hQ35, l35, y35, z35⟩, st35⟩ := Jvm.LawKit.callS X34 hx (y := (⟨"com/example/liana/liana/rdf/TurtleGrammar", "isNameCharacter", "(I)Z"⟩ : MethodName)) hown (mvT hZ (hw _ (List.mem_of_getElem? (i := 5) rfl))) (mvT hZ (hw _ (List.mem_of_getElem? (i := 6) rfl))) (mvT hZ (hw _ (List.mem_of_getElem? (i := 7) rfl))) (mvT hZ (hw _ (List.mem_of_getElem? (i := 8) rfl))) (by decide) (backOf (W := 0) (rm2 l Z a0 hw [] xx h25 n0 SZ25 ) hZ (hw _ (List.mem_of_getElem? (i := 8) rfl)) (hw _ (List.mem_of_getElem? (i := 7) rfl)) (by decide) (by decide)) (g := (mkF m 206 #[.val (.int p1), .val (.int p2), .val (.int p3), .val (.ref b4), .val (.ref b15), .val (.int mm), .val (.int xx), .val (.int (1 : Int32)), .val (.int ed), .unset] [(.int xx)])) rfl (by rw [hml]; rfl) (argsL := [(.int xx)]) (rest := []) (lenOf pd_1 rfl) rfl (by show 2 * 0 + _ ≤ _; exact Nat.le_of_eq rfl) (hb hby at_206) (fun _ _ => ⟨rfl, e34, (by decide : 2 + 0 ≤ _), (by decide : 10 + 0 ≤ _)⟩)
      dsimp only [Pt.U, Pt.locs, Pt.cells, Pt.slots] at X35 l35 y35 z35 st35 hQ35
      subst l35 y35 z35
      obtain ⟨rfl, N35q, e35⟩ := hQ35
      have N35 := Fr.app N34 N35q
      obtain ⟨_, _, ⟨T36, L36, k36, n36⟩, -, X36, ⟨Lc36, hQ36, l36, y36, z36⟩, st36⟩ := Jvm.LawKit.callS X35 hx (y := (⟨"com/example/liana/liana/rdf/TurtleGrammar", "isNameStart", "(I)Z"⟩ : MethodName)) hown (mvT hZ (hw _ (List.mem_of_getElem? (i := 9) rfl))) (mvT hZ (hw _ (List.mem_of_getElem? (i := 10) rfl))) (mvT hZ (hw _ (List.mem_of_getElem? (i := 7) rfl))) (mvT hZ (hw _ (List.mem_of_getElem? (i := 11) rfl))) (by decide) (backOf (W := 0) (rm3 l Z a0 hw [] xx h25 n0 SZ25 ) hZ (hw _ (List.mem_of_getElem? (i := 11) rfl)) (hw _ (List.mem_of_getElem? (i := 7) rfl)) (by decide) (by decide)) (g := (mkF m 213 #[.val (.int p1), .val (.int p2), .val (.int p3), .val (.ref b4), .val (.ref b15), .val (.int mm), .val (.int xx), .val (.int (1 : Int32)), .val (.int (own_ch1 xx)), .unset] [(.int xx)])) rfl (by rw [hml]; rfl) (argsL := [(.int xx)]) (rest := []) (lenOf pd_1 rfl) rfl (by show 2 * 0 + _ ≤ _; exact Nat.le_of_eq rfl) (hb hby at_213) (fun _ _ => ⟨rfl, e35, (by decide : 2 + 0 ≤ _), (by decide : 10 + 0 ≤ _)⟩)
      dsimp only [Pt.U, Pt.locs, Pt.cells, Pt.slots] at X36 l36 y36 z36 st36 hQ36
      subst l36 y36 z36
      obtain ⟨rfl, N36q, e36⟩ := hQ36
      have N36 := Fr.app N35 N36q
      obtain ⟨fs, hr, hrun, hended, hW, hsame⟩ := X36.leave (v := some (.int (1 : Int32))) (fun h => by rw [Bd.returns] at h; cases h)
      refine ⟨_, _, pre_31 _ ?_, hrun, hended, _, _, rfl, ?_, ⟨_, rfl⟩, hW, hsame.mono (by decide) (by decide)⟩
      · show Steps p.tables e below (T25.setTop (mkF m 122 #[.val (.int p1), .val (.int p2), .val (.int p3), .val (.ref b4), .val (.ref b15), .val (.int mm), .val (.int xx), .val (.int bb), .val (.int ed), .unset] [])) _
        refine XS.iload X25.here hx rfl (hb hby at_122) rfl ?_
        show Steps p.tables e below (T25.setTop (mkF m 124 #[.val (.int p1), .val (.int p2), .val (.int p3), .val (.ref b4), .val (.ref b15), .val (.int mm), .val (.int xx), .val (.int bb), .val (.int ed), .unset] [(.int xx)])) _
        refine XS.aloadN X25.here hx rfl (hb hby at_124) rfl rfl ?_
        show Steps p.tables e below (T25.setTop (mkF m 125 #[.val (.int p1), .val (.int p2), .val (.int p3), .val (.ref b4), .val (.ref b15), .val (.int mm), .val (.int xx), .val (.int bb), .val (.int ed), .unset] [(.ref b4), (.int xx)])) _
        refine XS.iconst X25.here hx rfl (hb hby at_125) ?_
        show Steps p.tables e below (T25.setTop (mkF m 126 #[.val (.int p1), .val (.int p2), .val (.int p3), .val (.ref b4), .val (.ref b15), .val (.int mm), .val (.int xx), .val (.int bb), .val (.int ed), .unset] [(.int (0 : Int32)), (.ref b4), (.int xx)])) _
        refine X25.iaload hx (j := (0 : Int32)) (v := (.int (45 : Int32))) (by rw [e25]; exact Aru32.1) (State.isArrayOf_alike hZ.alike Aru32.2.1) Aru32.2.2 hinu32 hatu32 (g := (mkF m 126 #[.val (.int p1), .val (.int p2), .val (.int p3), .val (.ref b4), .val (.ref b15), .val (.int mm), .val (.int xx), .val (.int bb), .val (.int ed), .unset] [(.int (0 : Int32)), (.ref b4), (.int xx)])) rfl rfl (hb hby at_126) _ ?_
        show Steps p.tables e below (T25.setTop (mkF m 127 #[.val (.int p1), .val (.int p2), .val (.int p3), .val (.ref b4), .val (.ref b15), .val (.int mm), .val (.int xx), .val (.int bb), .val (.int ed), .unset] [(.int (45 : Int32)), (.int xx)])) _
        refine XS.aload X25.here hx rfl (hb hby at_127) rfl rfl ?_
        show Steps p.tables e below (T25.setTop (mkF m 129 #[.val (.int p1), .val (.int p2), .val (.int p3), .val (.ref b4), .val (.ref b15), .val (.int mm), .val (.int xx), .val (.int bb), .val (.int ed), .unset] [(.ref b15), (.int (45 : Int32)), (.int xx)])) _
        refine XS.iconst X25.here hx rfl (hb hby at_129) ?_
        show Steps p.tables e below (T25.setTop (mkF m 130 #[.val (.int p1), .val (.int p2), .val (.int p3), .val (.ref b4), .val (.ref b15), .val (.int mm), .val (.int xx), .val (.int bb), .val (.int ed), .unset] [(.int (0 : Int32)), (.ref b15), (.int (45 : Int32)), (.int xx)])) _
        refine X25.iaload hx (j := (0 : Int32)) (v := (.int (45 : Int32))) (by rw [e25]; exact Aru33.1) (State.isArrayOf_alike hZ.alike Aru33.2.1) Aru33.2.2 hinu33 hatu33 (g := (mkF m 130 #[.val (.int p1), .val (.int p2), .val (.int p3), .val (.ref b4), .val (.ref b15), .val (.int mm), .val (.int xx), .val (.int bb), .val (.int ed), .unset] [(.int (0 : Int32)), (.ref b15), (.int (45 : Int32)), (.int xx)])) rfl rfl (hb hby at_130) _ ?_
        show Steps p.tables e below (T25.setTop (mkF m 131 #[.val (.int p1), .val (.int p2), .val (.int p3), .val (.ref b4), .val (.ref b15), .val (.int mm), .val (.int xx), .val (.int bb), .val (.int ed), .unset] [(.int (45 : Int32)), (.int (45 : Int32)), (.int xx)])) _
        refine st34 _ ?_
        show Steps p.tables e below (T34.setTop (mkF m 134 #[.val (.int p1), .val (.int p2), .val (.int p3), .val (.ref b4), .val (.ref b15), .val (.int mm), .val (.int xx), .val (.int bb), .val (.int ed), .unset] [(.int (own_in xx (45 : Int32) (45 : Int32)))])) _
        refine XS.ifYes X34.here hx rfl (pc0 := 134) (pc' := 197) rfl (hb hby at_134) rfl ((if0 _ _).trans (feq (k0 : ¬ ((own_in xx (45 : Int32) (45 : Int32)) = (0 : Int32)))).2) (by decide) (by decide) ?_
        show Steps p.tables e below (T34.setTop (mkF m 197 #[.val (.int p1), .val (.int p2), .val (.int p3), .val (.ref b4), .val (.ref b15), .val (.int mm), .val (.int xx), .val (.int bb), .val (.int ed), .unset] [])) _
        refine XS.iconst X34.here hx rfl (hb hby at_197) ?_
        show Steps p.tables e below (T34.setTop (mkF m 198 #[.val (.int p1), .val (.int p2), .val (.int p3), .val (.ref b4), .val (.ref b15), .val (.int mm), .val (.int xx), .val (.int bb), .val (.int ed), .unset] [(.int (1 : Int32))])) _
        refine XS.goto X34.here hx rfl (pc0 := 198) (pc' := 202) rfl (hb hby at_198) (by decide) (by decide) ?_
        show Steps p.tables e below (T34.setTop (mkF m 202 #[.val (.int p1), .val (.int p2), .val (.int p3), .val (.ref b4), .val (.ref b15), .val (.int mm), .val (.int xx), .val (.int bb), .val (.int ed), .unset] [(.int (1 : Int32))])) _
        refine XS.istore X34.here hx rfl (hb hby at_202) rfl (l' := #[.val (.int p1), .val (.int p2), .val (.int p3), .val (.ref b4), .val (.ref b15), .val (.int mm), .val (.int xx), .val (.int (1 : Int32)), .val (.int ed), .unset]) rfl ?_
        show Steps p.tables e below (T34.setTop (mkF m 204 #[.val (.int p1), .val (.int p2), .val (.int p3), .val (.ref b4), .val (.ref b15), .val (.int mm), .val (.int xx), .val (.int (1 : Int32)), .val (.int ed), .unset] [])) _
        refine XS.iload X34.here hx rfl (hb hby at_204) rfl ?_
        show Steps p.tables e below (T34.setTop (mkF m 206 #[.val (.int p1), .val (.int p2), .val (.int p3), .val (.ref b4), .val (.ref b15), .val (.int mm), .val (.int xx), .val (.int (1 : Int32)), .val (.int ed), .unset] [(.int xx)])) _
        refine st35 _ ?_
        show Steps p.tables e below (T35.setTop (mkF m 209 #[.val (.int p1), .val (.int p2), .val (.int p3), .val (.ref b4), .val (.ref b15), .val (.int mm), .val (.int xx), .val (.int (1 : Int32)), .val (.int ed), .unset] [(.int (own_ch1 xx))])) _
        refine XS.istore X35.here hx rfl (hb hby at_209) rfl (l' := #[.val (.int p1), .val (.int p2), .val (.int p3), .val (.ref b4), .val (.ref b15), .val (.int mm), .val (.int xx), .val (.int (1 : Int32)), .val (.int (own_ch1 xx)), .unset]) rfl ?_
        show Steps p.tables e below (T35.setTop (mkF m 211 #[.val (.int p1), .val (.int p2), .val (.int p3), .val (.ref b4), .val (.ref b15), .val (.int mm), .val (.int xx), .val (.int (1 : Int32)), .val (.int (own_ch1 xx)), .unset] [])) _
        refine XS.iload X35.here hx rfl (hb hby at_211) rfl ?_
        show Steps p.tables e below (T35.setTop (mkF m 213 #[.val (.int p1), .val (.int p2), .val (.int p3), .val (.ref b4), .val (.ref b15), .val (.int mm), .val (.int xx), .val (.int (1 : Int32)), .val (.int (own_ch1 xx)), .unset] [(.int xx)])) _
        refine st36 _ ?_
        show Steps p.tables e below (T36.setTop (mkF m 216 #[.val (.int p1), .val (.int p2), .val (.int p3), .val (.ref b4), .val (.ref b15), .val (.int mm), .val (.int xx), .val (.int (1 : Int32)), .val (.int (own_ch1 xx)), .unset] [(.int (own_st1 xx))])) _
        refine XS.istore X36.here hx rfl (hb hby at_216) rfl (l' := #[.val (.int p1), .val (.int p2), .val (.int p3), .val (.ref b4), .val (.ref b15), .val (.int mm), .val (.int xx), .val (.int (1 : Int32)), .val (.int (own_ch1 xx)), .val (.int (own_st1 xx))]) rfl ?_
        show Steps p.tables e below (T36.setTop (mkF m 218 #[.val (.int p1), .val (.int p2), .val (.int p3), .val (.ref b4), .val (.ref b15), .val (.int mm), .val (.int xx), .val (.int (1 : Int32)), .val (.int (own_ch1 xx)), .val (.int (own_st1 xx))] [])) _
        refine XS.iload X36.here hx rfl (hb hby at_218) rfl ?_
        show Steps p.tables e below (T36.setTop (mkF m 220 #[.val (.int p1), .val (.int p2), .val (.int p3), .val (.ref b4), .val (.ref b15), .val (.int mm), .val (.int xx), .val (.int (1 : Int32)), .val (.int (own_ch1 xx)), .val (.int (own_st1 xx))] [(.int (own_ch1 xx))])) _
        refine XS.iload X36.here hx rfl (hb hby at_220) rfl ?_
        show Steps p.tables e below (T36.setTop (mkF m 222 #[.val (.int p1), .val (.int p2), .val (.int p3), .val (.ref b4), .val (.ref b15), .val (.int mm), .val (.int xx), .val (.int (1 : Int32)), .val (.int (own_ch1 xx)), .val (.int (own_st1 xx))] [(.int (1 : Int32)), (.int (own_ch1 xx))])) _
        refine XS.icmpNo X36.here hx rfl (hb hby at_222) rfl (teq (c1 : (own_ch1 xx) = (1 : Int32))).2 ?_
        show Steps p.tables e below (T36.setTop (mkF m 225 #[.val (.int p1), .val (.int p2), .val (.int p3), .val (.ref b4), .val (.ref b15), .val (.int mm), .val (.int xx), .val (.int (1 : Int32)), .val (.int (own_ch1 xx)), .val (.int (own_st1 xx))] [])) _
        refine XS.iload X36.here hx rfl (hb hby at_225) rfl ?_
        show Steps p.tables e below (T36.setTop (mkF m 227 #[.val (.int p1), .val (.int p2), .val (.int p3), .val (.ref b4), .val (.ref b15), .val (.int mm), .val (.int xx), .val (.int (1 : Int32)), .val (.int (own_ch1 xx)), .val (.int (own_st1 xx))] [(.int (own_ch1 xx))])) _
        refine XS.ifNo X36.here hx rfl (hb hby at_227) rfl ((if0 _ _).trans (feq (by rw [c1]; decide : ¬ ((own_ch1 xx) = (0 : Int32)))).1) ?_
        show Steps p.tables e below (T36.setTop (mkF m 230 #[.val (.int p1), .val (.int p2), .val (.int p3), .val (.ref b4), .val (.ref b15), .val (.int mm), .val (.int xx), .val (.int (1 : Int32)), .val (.int (own_ch1 xx)), .val (.int (own_st1 xx))] [])) _
        refine XS.iload X36.here hx rfl (hb hby at_230) rfl ?_
        show Steps p.tables e below (T36.setTop (mkF m 232 #[.val (.int p1), .val (.int p2), .val (.int p3), .val (.ref b4), .val (.ref b15), .val (.int mm), .val (.int xx), .val (.int (1 : Int32)), .val (.int (own_ch1 xx)), .val (.int (own_st1 xx))] [(.int (own_st1 xx))])) _
        refine XS.ifNo X36.here hx rfl (hb hby at_232) rfl ((if0 _ _).trans (teq (c2 : (own_st1 xx) = (0 : Int32))).2) ?_
        show Steps p.tables e below (T36.setTop (mkF m 235 #[.val (.int p1), .val (.int p2), .val (.int p3), .val (.ref b4), .val (.ref b15), .val (.int mm), .val (.int xx), .val (.int (1 : Int32)), .val (.int (own_ch1 xx)), .val (.int (own_st1 xx))] [])) _
        refine XS.iconst X36.here hx rfl (hb hby at_235) ?_
        show Steps p.tables e below (T36.setTop (mkF m 236 #[.val (.int p1), .val (.int p2), .val (.int p3), .val (.ref b4), .val (.ref b15), .val (.int mm), .val (.int xx), .val (.int (1 : Int32)), .val (.int (own_ch1 xx)), .val (.int (own_st1 xx))] [(.int (1 : Int32))])) _
        refine XS.goto X36.here hx rfl (pc0 := 236) (pc' := 240) rfl (hb hby at_236) (by decide) (by decide) ?_
        show Steps p.tables e below (T36.setTop (mkF m 240 #[.val (.int p1), .val (.int p2), .val (.int p3), .val (.ref b4), .val (.ref b15), .val (.int mm), .val (.int xx), .val (.int (1 : Int32)), .val (.int (own_ch1 xx)), .val (.int (own_st1 xx))] [(.int (1 : Int32))])) _
        exact retN X36 hx (t := .boolean) Bd.returns (by simp) (hb hby at_240) hr
      · show QF n0 _ T36.heap _
        rw [e36]
        exact ⟨rfl, N36⟩
    by_cases k1 : own_in xx (48 : Int32) (57 : Int32) = (0 : Int32)
    rotate_left
    · skip
      have dj : xx.toInt = 45 ∨ (48 ≤ xx.toInt ∧ xx.toInt ≤ 57) ∨ xx.toInt = 183 ∨ (768 ≤ xx.toInt ∧ xx.toInt ≤ 879) ∨ (8255 ≤ xx.toInt ∧ xx.toInt ≤ 8256) := by have q := own_in_nz k1; simp only [f11, f12] at q; omega
      have c1 := own_ch_p dj
      have c2 := own_st_z dj
      obtain ⟨clu37, Aru37, qu37, Su37, Mu37, Hu37, Gu37⟩ := id V_b4_25
      have hinu37 : ¬ ((0 : Int32) < 0 ∨ clu37.slots.size ≤ ((0 : Int32)).toNatClampNeg) := inb_of Su37 ⟨by decide, by decide⟩
      have hatu37 : clu37.slots[((0 : Int32)).toNatClampNeg]? = some (.int (45 : Int32)) := Hu37.at hinu37 rfl
      obtain ⟨clu38, Aru38, qu38, Su38, Mu38, Hu38, Gu38⟩ := id V_b15_25
      have hinu38 : ¬ ((0 : Int32) < 0 ∨ clu38.slots.size ≤ ((0 : Int32)).toNatClampNeg) := inb_of Su38 ⟨by decide, by decide⟩
      have hatu38 : clu38.slots[((0 : Int32)).toNatClampNeg]? = some (.int (45 : Int32)) := Hu38.at hinu38 rfl
      obtain ⟨_, _, ⟨T39, L39, k39, n39⟩, -, X39, ⟨Lc39, hQ39, l39, y39, z39⟩, st39⟩ := Jvm.LawKit.callS X25 hx (y := (⟨"com/example/liana/liana/rdf/TurtleGrammarIsNameCharacterPinLaw", "within", "(III)Z"⟩ : MethodName)) hown (mvT hZ (hw _ (List.mem_of_getElem? (i := 1) rfl))) (mvT hZ (hw _ (List.mem_of_getElem? (i := 2) rfl))) (mvT hZ (hw _ (List.mem_of_getElem? (i := 3) rfl))) (mvT hZ (hw _ (List.mem_of_getElem? (i := 4) rfl))) (by decide) (backOf (W := 0) (rm1U l Z a0 hw [] xx (45 : Int32) (45 : Int32) h25 n0 SZ25 ) hZ (hw _ (List.mem_of_getElem? (i := 4) rfl)) (hw _ (List.mem_of_getElem? (i := 3) rfl)) (by decide) (by decide)) (g := (mkF m 131 #[.val (.int p1), .val (.int p2), .val (.int p3), .val (.ref b4), .val (.ref b15), .val (.int mm), .val (.int xx), .val (.int bb), .val (.int ed), .unset] [(.int (45 : Int32)), (.int (45 : Int32)), (.int xx)])) rfl (by rw [hml]; rfl) (argsL := [(.int xx), (.int (45 : Int32)), (.int (45 : Int32))]) (rest := []) (lenOf pd_0 rfl) rfl (by show 2 * 0 + _ ≤ _; exact Nat.le_of_eq rfl) (hb hby at_131) (fun _ _ => ⟨rfl, e25, (by decide : 2 + 0 ≤ _), (by decide : 10 + 0 ≤ _)⟩)
      dsimp only [Pt.U, Pt.locs, Pt.cells, Pt.slots] at X39 l39 y39 z39 st39 hQ39
      subst l39 y39 z39
      obtain ⟨rfl, N39q, e39⟩ := hQ39
      have N39 := Fr.app N25 N39q
      obtain ⟨clu40, Aru40, qu40, Su40, Mu40, Hu40, Gu40⟩ := id V_b4_25
      have hinu40 : ¬ ((1 : Int32) < 0 ∨ clu40.slots.size ≤ ((1 : Int32)).toNatClampNeg) := inb_of Su40 ⟨by decide, by decide⟩
      have hatu40 : clu40.slots[((1 : Int32)).toNatClampNeg]? = some (.int (48 : Int32)) := Hu40.at hinu40 rfl
      obtain ⟨clu41, Aru41, qu41, Su41, Mu41, Hu41, Gu41⟩ := id V_b15_25
      have hinu41 : ¬ ((1 : Int32) < 0 ∨ clu41.slots.size ≤ ((1 : Int32)).toNatClampNeg) := inb_of Su41 ⟨by decide, by decide⟩
      have hatu41 : clu41.slots[((1 : Int32)).toNatClampNeg]? = some (.int (57 : Int32)) := Hu41.at hinu41 rfl
      obtain ⟨_, _, ⟨T42, L42, k42, n42⟩, -, X42, ⟨Lc42, hQ42, l42, y42, z42⟩, st42⟩ := Jvm.LawKit.callS X39 hx (y := (⟨"com/example/liana/liana/rdf/TurtleGrammarIsNameCharacterPinLaw", "within", "(III)Z"⟩ : MethodName)) hown (mvT hZ (hw _ (List.mem_of_getElem? (i := 1) rfl))) (mvT hZ (hw _ (List.mem_of_getElem? (i := 2) rfl))) (mvT hZ (hw _ (List.mem_of_getElem? (i := 3) rfl))) (mvT hZ (hw _ (List.mem_of_getElem? (i := 4) rfl))) (by decide) (backOf (W := 0) (rm1U l Z a0 hw [] xx (48 : Int32) (57 : Int32) h25 n0 SZ25 ) hZ (hw _ (List.mem_of_getElem? (i := 4) rfl)) (hw _ (List.mem_of_getElem? (i := 3) rfl)) (by decide) (by decide)) (g := (mkF m 146 #[.val (.int p1), .val (.int p2), .val (.int p3), .val (.ref b4), .val (.ref b15), .val (.int mm), .val (.int xx), .val (.int bb), .val (.int ed), .unset] [(.int (57 : Int32)), (.int (48 : Int32)), (.int xx)])) rfl (by rw [hml]; rfl) (argsL := [(.int xx), (.int (48 : Int32)), (.int (57 : Int32))]) (rest := []) (lenOf pd_0 rfl) rfl (by show 2 * 0 + _ ≤ _; exact Nat.le_of_eq rfl) (hb hby at_146) (fun _ _ => ⟨rfl, e39, (by decide : 2 + 0 ≤ _), (by decide : 10 + 0 ≤ _)⟩)
      dsimp only [Pt.U, Pt.locs, Pt.cells, Pt.slots] at X42 l42 y42 z42 st42 hQ42
      subst l42 y42 z42
      obtain ⟨rfl, N42q, e42⟩ := hQ42
      have N42 := Fr.app N39 N42q
      obtain ⟨_, _, ⟨T43, L43, k43, n43⟩, -, X43, ⟨Lc43, hQ43, l43, y43, z43⟩, st43⟩ := Jvm.LawKit.callS X42 hx (y := (⟨"com/example/liana/liana/rdf/TurtleGrammar", "isNameCharacter", "(I)Z"⟩ : MethodName)) hown (mvT hZ (hw _ (List.mem_of_getElem? (i := 5) rfl))) (mvT hZ (hw _ (List.mem_of_getElem? (i := 6) rfl))) (mvT hZ (hw _ (List.mem_of_getElem? (i := 7) rfl))) (mvT hZ (hw _ (List.mem_of_getElem? (i := 8) rfl))) (by decide) (backOf (W := 0) (rm2 l Z a0 hw [] xx h25 n0 SZ25 ) hZ (hw _ (List.mem_of_getElem? (i := 8) rfl)) (hw _ (List.mem_of_getElem? (i := 7) rfl)) (by decide) (by decide)) (g := (mkF m 206 #[.val (.int p1), .val (.int p2), .val (.int p3), .val (.ref b4), .val (.ref b15), .val (.int mm), .val (.int xx), .val (.int (1 : Int32)), .val (.int ed), .unset] [(.int xx)])) rfl (by rw [hml]; rfl) (argsL := [(.int xx)]) (rest := []) (lenOf pd_1 rfl) rfl (by show 2 * 0 + _ ≤ _; exact Nat.le_of_eq rfl) (hb hby at_206) (fun _ _ => ⟨rfl, e42, (by decide : 2 + 0 ≤ _), (by decide : 10 + 0 ≤ _)⟩)
      dsimp only [Pt.U, Pt.locs, Pt.cells, Pt.slots] at X43 l43 y43 z43 st43 hQ43
      subst l43 y43 z43
      obtain ⟨rfl, N43q, e43⟩ := hQ43
      have N43 := Fr.app N42 N43q
      obtain ⟨_, _, ⟨T44, L44, k44, n44⟩, -, X44, ⟨Lc44, hQ44, l44, y44, z44⟩, st44⟩ := Jvm.LawKit.callS X43 hx (y := (⟨"com/example/liana/liana/rdf/TurtleGrammar", "isNameStart", "(I)Z"⟩ : MethodName)) hown (mvT hZ (hw _ (List.mem_of_getElem? (i := 9) rfl))) (mvT hZ (hw _ (List.mem_of_getElem? (i := 10) rfl))) (mvT hZ (hw _ (List.mem_of_getElem? (i := 7) rfl))) (mvT hZ (hw _ (List.mem_of_getElem? (i := 11) rfl))) (by decide) (backOf (W := 0) (rm3 l Z a0 hw [] xx h25 n0 SZ25 ) hZ (hw _ (List.mem_of_getElem? (i := 11) rfl)) (hw _ (List.mem_of_getElem? (i := 7) rfl)) (by decide) (by decide)) (g := (mkF m 213 #[.val (.int p1), .val (.int p2), .val (.int p3), .val (.ref b4), .val (.ref b15), .val (.int mm), .val (.int xx), .val (.int (1 : Int32)), .val (.int (own_ch1 xx)), .unset] [(.int xx)])) rfl (by rw [hml]; rfl) (argsL := [(.int xx)]) (rest := []) (lenOf pd_1 rfl) rfl (by show 2 * 0 + _ ≤ _; exact Nat.le_of_eq rfl) (hb hby at_213) (fun _ _ => ⟨rfl, e43, (by decide : 2 + 0 ≤ _), (by decide : 10 + 0 ≤ _)⟩)
      dsimp only [Pt.U, Pt.locs, Pt.cells, Pt.slots] at X44 l44 y44 z44 st44 hQ44
      subst l44 y44 z44
      obtain ⟨rfl, N44q, e44⟩ := hQ44
      have N44 := Fr.app N43 N44q
      obtain ⟨fs, hr, hrun, hended, hW, hsame⟩ := X44.leave (v := some (.int (1 : Int32))) (fun h => by rw [Bd.returns] at h; cases h)
      refine ⟨_, _, pre_31 _ ?_, hrun, hended, _, _, rfl, ?_, ⟨_, rfl⟩, hW, hsame.mono (by decide) (by decide)⟩
      · show Steps p.tables e below (T25.setTop (mkF m 122 #[.val (.int p1), .val (.int p2), .val (.int p3), .val (.ref b4), .val (.ref b15), .val (.int mm), .val (.int xx), .val (.int bb), .val (.int ed), .unset] [])) _
        refine XS.iload X25.here hx rfl (hb hby at_122) rfl ?_
        show Steps p.tables e below (T25.setTop (mkF m 124 #[.val (.int p1), .val (.int p2), .val (.int p3), .val (.ref b4), .val (.ref b15), .val (.int mm), .val (.int xx), .val (.int bb), .val (.int ed), .unset] [(.int xx)])) _
        refine XS.aloadN X25.here hx rfl (hb hby at_124) rfl rfl ?_
        show Steps p.tables e below (T25.setTop (mkF m 125 #[.val (.int p1), .val (.int p2), .val (.int p3), .val (.ref b4), .val (.ref b15), .val (.int mm), .val (.int xx), .val (.int bb), .val (.int ed), .unset] [(.ref b4), (.int xx)])) _
        refine XS.iconst X25.here hx rfl (hb hby at_125) ?_
        show Steps p.tables e below (T25.setTop (mkF m 126 #[.val (.int p1), .val (.int p2), .val (.int p3), .val (.ref b4), .val (.ref b15), .val (.int mm), .val (.int xx), .val (.int bb), .val (.int ed), .unset] [(.int (0 : Int32)), (.ref b4), (.int xx)])) _
        refine X25.iaload hx (j := (0 : Int32)) (v := (.int (45 : Int32))) (by rw [e25]; exact Aru37.1) (State.isArrayOf_alike hZ.alike Aru37.2.1) Aru37.2.2 hinu37 hatu37 (g := (mkF m 126 #[.val (.int p1), .val (.int p2), .val (.int p3), .val (.ref b4), .val (.ref b15), .val (.int mm), .val (.int xx), .val (.int bb), .val (.int ed), .unset] [(.int (0 : Int32)), (.ref b4), (.int xx)])) rfl rfl (hb hby at_126) _ ?_
        show Steps p.tables e below (T25.setTop (mkF m 127 #[.val (.int p1), .val (.int p2), .val (.int p3), .val (.ref b4), .val (.ref b15), .val (.int mm), .val (.int xx), .val (.int bb), .val (.int ed), .unset] [(.int (45 : Int32)), (.int xx)])) _
        refine XS.aload X25.here hx rfl (hb hby at_127) rfl rfl ?_
        show Steps p.tables e below (T25.setTop (mkF m 129 #[.val (.int p1), .val (.int p2), .val (.int p3), .val (.ref b4), .val (.ref b15), .val (.int mm), .val (.int xx), .val (.int bb), .val (.int ed), .unset] [(.ref b15), (.int (45 : Int32)), (.int xx)])) _
        refine XS.iconst X25.here hx rfl (hb hby at_129) ?_
        show Steps p.tables e below (T25.setTop (mkF m 130 #[.val (.int p1), .val (.int p2), .val (.int p3), .val (.ref b4), .val (.ref b15), .val (.int mm), .val (.int xx), .val (.int bb), .val (.int ed), .unset] [(.int (0 : Int32)), (.ref b15), (.int (45 : Int32)), (.int xx)])) _
        refine X25.iaload hx (j := (0 : Int32)) (v := (.int (45 : Int32))) (by rw [e25]; exact Aru38.1) (State.isArrayOf_alike hZ.alike Aru38.2.1) Aru38.2.2 hinu38 hatu38 (g := (mkF m 130 #[.val (.int p1), .val (.int p2), .val (.int p3), .val (.ref b4), .val (.ref b15), .val (.int mm), .val (.int xx), .val (.int bb), .val (.int ed), .unset] [(.int (0 : Int32)), (.ref b15), (.int (45 : Int32)), (.int xx)])) rfl rfl (hb hby at_130) _ ?_
        show Steps p.tables e below (T25.setTop (mkF m 131 #[.val (.int p1), .val (.int p2), .val (.int p3), .val (.ref b4), .val (.ref b15), .val (.int mm), .val (.int xx), .val (.int bb), .val (.int ed), .unset] [(.int (45 : Int32)), (.int (45 : Int32)), (.int xx)])) _
        refine st39 _ ?_
        show Steps p.tables e below (T39.setTop (mkF m 134 #[.val (.int p1), .val (.int p2), .val (.int p3), .val (.ref b4), .val (.ref b15), .val (.int mm), .val (.int xx), .val (.int bb), .val (.int ed), .unset] [(.int (own_in xx (45 : Int32) (45 : Int32)))])) _
        refine XS.ifNo X39.here hx rfl (hb hby at_134) rfl ((if0 _ _).trans (teq (k0 : (own_in xx (45 : Int32) (45 : Int32)) = (0 : Int32))).2) ?_
        show Steps p.tables e below (T39.setTop (mkF m 137 #[.val (.int p1), .val (.int p2), .val (.int p3), .val (.ref b4), .val (.ref b15), .val (.int mm), .val (.int xx), .val (.int bb), .val (.int ed), .unset] [])) _
        refine XS.iload X39.here hx rfl (hb hby at_137) rfl ?_
        show Steps p.tables e below (T39.setTop (mkF m 139 #[.val (.int p1), .val (.int p2), .val (.int p3), .val (.ref b4), .val (.ref b15), .val (.int mm), .val (.int xx), .val (.int bb), .val (.int ed), .unset] [(.int xx)])) _
        refine XS.aloadN X39.here hx rfl (hb hby at_139) rfl rfl ?_
        show Steps p.tables e below (T39.setTop (mkF m 140 #[.val (.int p1), .val (.int p2), .val (.int p3), .val (.ref b4), .val (.ref b15), .val (.int mm), .val (.int xx), .val (.int bb), .val (.int ed), .unset] [(.ref b4), (.int xx)])) _
        refine XS.iconst X39.here hx rfl (hb hby at_140) ?_
        show Steps p.tables e below (T39.setTop (mkF m 141 #[.val (.int p1), .val (.int p2), .val (.int p3), .val (.ref b4), .val (.ref b15), .val (.int mm), .val (.int xx), .val (.int bb), .val (.int ed), .unset] [(.int (1 : Int32)), (.ref b4), (.int xx)])) _
        refine X39.iaload hx (j := (1 : Int32)) (v := (.int (48 : Int32))) (by rw [e39]; exact Aru40.1) (State.isArrayOf_alike hZ.alike Aru40.2.1) Aru40.2.2 hinu40 hatu40 (g := (mkF m 141 #[.val (.int p1), .val (.int p2), .val (.int p3), .val (.ref b4), .val (.ref b15), .val (.int mm), .val (.int xx), .val (.int bb), .val (.int ed), .unset] [(.int (1 : Int32)), (.ref b4), (.int xx)])) rfl rfl (hb hby at_141) _ ?_
        show Steps p.tables e below (T39.setTop (mkF m 142 #[.val (.int p1), .val (.int p2), .val (.int p3), .val (.ref b4), .val (.ref b15), .val (.int mm), .val (.int xx), .val (.int bb), .val (.int ed), .unset] [(.int (48 : Int32)), (.int xx)])) _
        refine XS.aload X39.here hx rfl (hb hby at_142) rfl rfl ?_
        show Steps p.tables e below (T39.setTop (mkF m 144 #[.val (.int p1), .val (.int p2), .val (.int p3), .val (.ref b4), .val (.ref b15), .val (.int mm), .val (.int xx), .val (.int bb), .val (.int ed), .unset] [(.ref b15), (.int (48 : Int32)), (.int xx)])) _
        refine XS.iconst X39.here hx rfl (hb hby at_144) ?_
        show Steps p.tables e below (T39.setTop (mkF m 145 #[.val (.int p1), .val (.int p2), .val (.int p3), .val (.ref b4), .val (.ref b15), .val (.int mm), .val (.int xx), .val (.int bb), .val (.int ed), .unset] [(.int (1 : Int32)), (.ref b15), (.int (48 : Int32)), (.int xx)])) _
        refine X39.iaload hx (j := (1 : Int32)) (v := (.int (57 : Int32))) (by rw [e39]; exact Aru41.1) (State.isArrayOf_alike hZ.alike Aru41.2.1) Aru41.2.2 hinu41 hatu41 (g := (mkF m 145 #[.val (.int p1), .val (.int p2), .val (.int p3), .val (.ref b4), .val (.ref b15), .val (.int mm), .val (.int xx), .val (.int bb), .val (.int ed), .unset] [(.int (1 : Int32)), (.ref b15), (.int (48 : Int32)), (.int xx)])) rfl rfl (hb hby at_145) _ ?_
        show Steps p.tables e below (T39.setTop (mkF m 146 #[.val (.int p1), .val (.int p2), .val (.int p3), .val (.ref b4), .val (.ref b15), .val (.int mm), .val (.int xx), .val (.int bb), .val (.int ed), .unset] [(.int (57 : Int32)), (.int (48 : Int32)), (.int xx)])) _
        refine st42 _ ?_
        show Steps p.tables e below (T42.setTop (mkF m 149 #[.val (.int p1), .val (.int p2), .val (.int p3), .val (.ref b4), .val (.ref b15), .val (.int mm), .val (.int xx), .val (.int bb), .val (.int ed), .unset] [(.int (own_in xx (48 : Int32) (57 : Int32)))])) _
        refine XS.ifYes X42.here hx rfl (pc0 := 149) (pc' := 197) rfl (hb hby at_149) rfl ((if0 _ _).trans (feq (k1 : ¬ ((own_in xx (48 : Int32) (57 : Int32)) = (0 : Int32)))).2) (by decide) (by decide) ?_
        show Steps p.tables e below (T42.setTop (mkF m 197 #[.val (.int p1), .val (.int p2), .val (.int p3), .val (.ref b4), .val (.ref b15), .val (.int mm), .val (.int xx), .val (.int bb), .val (.int ed), .unset] [])) _
        refine XS.iconst X42.here hx rfl (hb hby at_197) ?_
        show Steps p.tables e below (T42.setTop (mkF m 198 #[.val (.int p1), .val (.int p2), .val (.int p3), .val (.ref b4), .val (.ref b15), .val (.int mm), .val (.int xx), .val (.int bb), .val (.int ed), .unset] [(.int (1 : Int32))])) _
        refine XS.goto X42.here hx rfl (pc0 := 198) (pc' := 202) rfl (hb hby at_198) (by decide) (by decide) ?_
        show Steps p.tables e below (T42.setTop (mkF m 202 #[.val (.int p1), .val (.int p2), .val (.int p3), .val (.ref b4), .val (.ref b15), .val (.int mm), .val (.int xx), .val (.int bb), .val (.int ed), .unset] [(.int (1 : Int32))])) _
        refine XS.istore X42.here hx rfl (hb hby at_202) rfl (l' := #[.val (.int p1), .val (.int p2), .val (.int p3), .val (.ref b4), .val (.ref b15), .val (.int mm), .val (.int xx), .val (.int (1 : Int32)), .val (.int ed), .unset]) rfl ?_
        show Steps p.tables e below (T42.setTop (mkF m 204 #[.val (.int p1), .val (.int p2), .val (.int p3), .val (.ref b4), .val (.ref b15), .val (.int mm), .val (.int xx), .val (.int (1 : Int32)), .val (.int ed), .unset] [])) _
        refine XS.iload X42.here hx rfl (hb hby at_204) rfl ?_
        show Steps p.tables e below (T42.setTop (mkF m 206 #[.val (.int p1), .val (.int p2), .val (.int p3), .val (.ref b4), .val (.ref b15), .val (.int mm), .val (.int xx), .val (.int (1 : Int32)), .val (.int ed), .unset] [(.int xx)])) _
        refine st43 _ ?_
        show Steps p.tables e below (T43.setTop (mkF m 209 #[.val (.int p1), .val (.int p2), .val (.int p3), .val (.ref b4), .val (.ref b15), .val (.int mm), .val (.int xx), .val (.int (1 : Int32)), .val (.int ed), .unset] [(.int (own_ch1 xx))])) _
        refine XS.istore X43.here hx rfl (hb hby at_209) rfl (l' := #[.val (.int p1), .val (.int p2), .val (.int p3), .val (.ref b4), .val (.ref b15), .val (.int mm), .val (.int xx), .val (.int (1 : Int32)), .val (.int (own_ch1 xx)), .unset]) rfl ?_
        show Steps p.tables e below (T43.setTop (mkF m 211 #[.val (.int p1), .val (.int p2), .val (.int p3), .val (.ref b4), .val (.ref b15), .val (.int mm), .val (.int xx), .val (.int (1 : Int32)), .val (.int (own_ch1 xx)), .unset] [])) _
        refine XS.iload X43.here hx rfl (hb hby at_211) rfl ?_
        show Steps p.tables e below (T43.setTop (mkF m 213 #[.val (.int p1), .val (.int p2), .val (.int p3), .val (.ref b4), .val (.ref b15), .val (.int mm), .val (.int xx), .val (.int (1 : Int32)), .val (.int (own_ch1 xx)), .unset] [(.int xx)])) _
        refine st44 _ ?_
        show Steps p.tables e below (T44.setTop (mkF m 216 #[.val (.int p1), .val (.int p2), .val (.int p3), .val (.ref b4), .val (.ref b15), .val (.int mm), .val (.int xx), .val (.int (1 : Int32)), .val (.int (own_ch1 xx)), .unset] [(.int (own_st1 xx))])) _
        refine XS.istore X44.here hx rfl (hb hby at_216) rfl (l' := #[.val (.int p1), .val (.int p2), .val (.int p3), .val (.ref b4), .val (.ref b15), .val (.int mm), .val (.int xx), .val (.int (1 : Int32)), .val (.int (own_ch1 xx)), .val (.int (own_st1 xx))]) rfl ?_
        show Steps p.tables e below (T44.setTop (mkF m 218 #[.val (.int p1), .val (.int p2), .val (.int p3), .val (.ref b4), .val (.ref b15), .val (.int mm), .val (.int xx), .val (.int (1 : Int32)), .val (.int (own_ch1 xx)), .val (.int (own_st1 xx))] [])) _
        refine XS.iload X44.here hx rfl (hb hby at_218) rfl ?_
        show Steps p.tables e below (T44.setTop (mkF m 220 #[.val (.int p1), .val (.int p2), .val (.int p3), .val (.ref b4), .val (.ref b15), .val (.int mm), .val (.int xx), .val (.int (1 : Int32)), .val (.int (own_ch1 xx)), .val (.int (own_st1 xx))] [(.int (own_ch1 xx))])) _
        refine XS.iload X44.here hx rfl (hb hby at_220) rfl ?_
        show Steps p.tables e below (T44.setTop (mkF m 222 #[.val (.int p1), .val (.int p2), .val (.int p3), .val (.ref b4), .val (.ref b15), .val (.int mm), .val (.int xx), .val (.int (1 : Int32)), .val (.int (own_ch1 xx)), .val (.int (own_st1 xx))] [(.int (1 : Int32)), (.int (own_ch1 xx))])) _
        refine XS.icmpNo X44.here hx rfl (hb hby at_222) rfl (teq (c1 : (own_ch1 xx) = (1 : Int32))).2 ?_
        show Steps p.tables e below (T44.setTop (mkF m 225 #[.val (.int p1), .val (.int p2), .val (.int p3), .val (.ref b4), .val (.ref b15), .val (.int mm), .val (.int xx), .val (.int (1 : Int32)), .val (.int (own_ch1 xx)), .val (.int (own_st1 xx))] [])) _
        refine XS.iload X44.here hx rfl (hb hby at_225) rfl ?_
        show Steps p.tables e below (T44.setTop (mkF m 227 #[.val (.int p1), .val (.int p2), .val (.int p3), .val (.ref b4), .val (.ref b15), .val (.int mm), .val (.int xx), .val (.int (1 : Int32)), .val (.int (own_ch1 xx)), .val (.int (own_st1 xx))] [(.int (own_ch1 xx))])) _
        refine XS.ifNo X44.here hx rfl (hb hby at_227) rfl ((if0 _ _).trans (feq (by rw [c1]; decide : ¬ ((own_ch1 xx) = (0 : Int32)))).1) ?_
        show Steps p.tables e below (T44.setTop (mkF m 230 #[.val (.int p1), .val (.int p2), .val (.int p3), .val (.ref b4), .val (.ref b15), .val (.int mm), .val (.int xx), .val (.int (1 : Int32)), .val (.int (own_ch1 xx)), .val (.int (own_st1 xx))] [])) _
        refine XS.iload X44.here hx rfl (hb hby at_230) rfl ?_
        show Steps p.tables e below (T44.setTop (mkF m 232 #[.val (.int p1), .val (.int p2), .val (.int p3), .val (.ref b4), .val (.ref b15), .val (.int mm), .val (.int xx), .val (.int (1 : Int32)), .val (.int (own_ch1 xx)), .val (.int (own_st1 xx))] [(.int (own_st1 xx))])) _
        refine XS.ifNo X44.here hx rfl (hb hby at_232) rfl ((if0 _ _).trans (teq (c2 : (own_st1 xx) = (0 : Int32))).2) ?_
        show Steps p.tables e below (T44.setTop (mkF m 235 #[.val (.int p1), .val (.int p2), .val (.int p3), .val (.ref b4), .val (.ref b15), .val (.int mm), .val (.int xx), .val (.int (1 : Int32)), .val (.int (own_ch1 xx)), .val (.int (own_st1 xx))] [])) _
        refine XS.iconst X44.here hx rfl (hb hby at_235) ?_
        show Steps p.tables e below (T44.setTop (mkF m 236 #[.val (.int p1), .val (.int p2), .val (.int p3), .val (.ref b4), .val (.ref b15), .val (.int mm), .val (.int xx), .val (.int (1 : Int32)), .val (.int (own_ch1 xx)), .val (.int (own_st1 xx))] [(.int (1 : Int32))])) _
        refine XS.goto X44.here hx rfl (pc0 := 236) (pc' := 240) rfl (hb hby at_236) (by decide) (by decide) ?_
        show Steps p.tables e below (T44.setTop (mkF m 240 #[.val (.int p1), .val (.int p2), .val (.int p3), .val (.ref b4), .val (.ref b15), .val (.int mm), .val (.int xx), .val (.int (1 : Int32)), .val (.int (own_ch1 xx)), .val (.int (own_st1 xx))] [(.int (1 : Int32))])) _
        exact retN X44 hx (t := .boolean) Bd.returns (by simp) (hb hby at_240) hr
      · show QF n0 _ T44.heap _
        rw [e44]
        exact ⟨rfl, N44⟩
    by_cases k2 : own_in xx (183 : Int32) (183 : Int32) = (0 : Int32)
    rotate_left
    · skip
      have dj : xx.toInt = 45 ∨ (48 ≤ xx.toInt ∧ xx.toInt ≤ 57) ∨ xx.toInt = 183 ∨ (768 ≤ xx.toInt ∧ xx.toInt ≤ 879) ∨ (8255 ≤ xx.toInt ∧ xx.toInt ≤ 8256) := by have q := own_in_nz k2; simp only [f21, f22] at q; omega
      have c1 := own_ch_p dj
      have c2 := own_st_z dj
      obtain ⟨clu45, Aru45, qu45, Su45, Mu45, Hu45, Gu45⟩ := id V_b4_25
      have hinu45 : ¬ ((0 : Int32) < 0 ∨ clu45.slots.size ≤ ((0 : Int32)).toNatClampNeg) := inb_of Su45 ⟨by decide, by decide⟩
      have hatu45 : clu45.slots[((0 : Int32)).toNatClampNeg]? = some (.int (45 : Int32)) := Hu45.at hinu45 rfl
      obtain ⟨clu46, Aru46, qu46, Su46, Mu46, Hu46, Gu46⟩ := id V_b15_25
      have hinu46 : ¬ ((0 : Int32) < 0 ∨ clu46.slots.size ≤ ((0 : Int32)).toNatClampNeg) := inb_of Su46 ⟨by decide, by decide⟩
      have hatu46 : clu46.slots[((0 : Int32)).toNatClampNeg]? = some (.int (45 : Int32)) := Hu46.at hinu46 rfl
      obtain ⟨_, _, ⟨T47, L47, k47, n47⟩, -, X47, ⟨Lc47, hQ47, l47, y47, z47⟩, st47⟩ := Jvm.LawKit.callS X25 hx (y := (⟨"com/example/liana/liana/rdf/TurtleGrammarIsNameCharacterPinLaw", "within", "(III)Z"⟩ : MethodName)) hown (mvT hZ (hw _ (List.mem_of_getElem? (i := 1) rfl))) (mvT hZ (hw _ (List.mem_of_getElem? (i := 2) rfl))) (mvT hZ (hw _ (List.mem_of_getElem? (i := 3) rfl))) (mvT hZ (hw _ (List.mem_of_getElem? (i := 4) rfl))) (by decide) (backOf (W := 0) (rm1U l Z a0 hw [] xx (45 : Int32) (45 : Int32) h25 n0 SZ25 ) hZ (hw _ (List.mem_of_getElem? (i := 4) rfl)) (hw _ (List.mem_of_getElem? (i := 3) rfl)) (by decide) (by decide)) (g := (mkF m 131 #[.val (.int p1), .val (.int p2), .val (.int p3), .val (.ref b4), .val (.ref b15), .val (.int mm), .val (.int xx), .val (.int bb), .val (.int ed), .unset] [(.int (45 : Int32)), (.int (45 : Int32)), (.int xx)])) rfl (by rw [hml]; rfl) (argsL := [(.int xx), (.int (45 : Int32)), (.int (45 : Int32))]) (rest := []) (lenOf pd_0 rfl) rfl (by show 2 * 0 + _ ≤ _; exact Nat.le_of_eq rfl) (hb hby at_131) (fun _ _ => ⟨rfl, e25, (by decide : 2 + 0 ≤ _), (by decide : 10 + 0 ≤ _)⟩)
      dsimp only [Pt.U, Pt.locs, Pt.cells, Pt.slots] at X47 l47 y47 z47 st47 hQ47
      subst l47 y47 z47
      obtain ⟨rfl, N47q, e47⟩ := hQ47
      have N47 := Fr.app N25 N47q
      obtain ⟨clu48, Aru48, qu48, Su48, Mu48, Hu48, Gu48⟩ := id V_b4_25
      have hinu48 : ¬ ((1 : Int32) < 0 ∨ clu48.slots.size ≤ ((1 : Int32)).toNatClampNeg) := inb_of Su48 ⟨by decide, by decide⟩
      have hatu48 : clu48.slots[((1 : Int32)).toNatClampNeg]? = some (.int (48 : Int32)) := Hu48.at hinu48 rfl
      obtain ⟨clu49, Aru49, qu49, Su49, Mu49, Hu49, Gu49⟩ := id V_b15_25
      have hinu49 : ¬ ((1 : Int32) < 0 ∨ clu49.slots.size ≤ ((1 : Int32)).toNatClampNeg) := inb_of Su49 ⟨by decide, by decide⟩
      have hatu49 : clu49.slots[((1 : Int32)).toNatClampNeg]? = some (.int (57 : Int32)) := Hu49.at hinu49 rfl
      obtain ⟨_, _, ⟨T50, L50, k50, n50⟩, -, X50, ⟨Lc50, hQ50, l50, y50, z50⟩, st50⟩ := Jvm.LawKit.callS X47 hx (y := (⟨"com/example/liana/liana/rdf/TurtleGrammarIsNameCharacterPinLaw", "within", "(III)Z"⟩ : MethodName)) hown (mvT hZ (hw _ (List.mem_of_getElem? (i := 1) rfl))) (mvT hZ (hw _ (List.mem_of_getElem? (i := 2) rfl))) (mvT hZ (hw _ (List.mem_of_getElem? (i := 3) rfl))) (mvT hZ (hw _ (List.mem_of_getElem? (i := 4) rfl))) (by decide) (backOf (W := 0) (rm1U l Z a0 hw [] xx (48 : Int32) (57 : Int32) h25 n0 SZ25 ) hZ (hw _ (List.mem_of_getElem? (i := 4) rfl)) (hw _ (List.mem_of_getElem? (i := 3) rfl)) (by decide) (by decide)) (g := (mkF m 146 #[.val (.int p1), .val (.int p2), .val (.int p3), .val (.ref b4), .val (.ref b15), .val (.int mm), .val (.int xx), .val (.int bb), .val (.int ed), .unset] [(.int (57 : Int32)), (.int (48 : Int32)), (.int xx)])) rfl (by rw [hml]; rfl) (argsL := [(.int xx), (.int (48 : Int32)), (.int (57 : Int32))]) (rest := []) (lenOf pd_0 rfl) rfl (by show 2 * 0 + _ ≤ _; exact Nat.le_of_eq rfl) (hb hby at_146) (fun _ _ => ⟨rfl, e47, (by decide : 2 + 0 ≤ _), (by decide : 10 + 0 ≤ _)⟩)
      dsimp only [Pt.U, Pt.locs, Pt.cells, Pt.slots] at X50 l50 y50 z50 st50 hQ50
      subst l50 y50 z50
      obtain ⟨rfl, N50q, e50⟩ := hQ50
      have N50 := Fr.app N47 N50q
      obtain ⟨clu51, Aru51, qu51, Su51, Mu51, Hu51, Gu51⟩ := id V_b4_25
      have hinu51 : ¬ ((2 : Int32) < 0 ∨ clu51.slots.size ≤ ((2 : Int32)).toNatClampNeg) := inb_of Su51 ⟨by decide, by decide⟩
      have hatu51 : clu51.slots[((2 : Int32)).toNatClampNeg]? = some (.int (183 : Int32)) := Hu51.at hinu51 rfl
      obtain ⟨clu52, Aru52, qu52, Su52, Mu52, Hu52, Gu52⟩ := id V_b15_25
      have hinu52 : ¬ ((2 : Int32) < 0 ∨ clu52.slots.size ≤ ((2 : Int32)).toNatClampNeg) := inb_of Su52 ⟨by decide, by decide⟩
      have hatu52 : clu52.slots[((2 : Int32)).toNatClampNeg]? = some (.int (183 : Int32)) := Hu52.at hinu52 rfl
      obtain ⟨_, _, ⟨T53, L53, k53, n53⟩, -, X53, ⟨Lc53, hQ53, l53, y53, z53⟩, st53⟩ := Jvm.LawKit.callS X50 hx (y := (⟨"com/example/liana/liana/rdf/TurtleGrammarIsNameCharacterPinLaw", "within", "(III)Z"⟩ : MethodName)) hown (mvT hZ (hw _ (List.mem_of_getElem? (i := 1) rfl))) (mvT hZ (hw _ (List.mem_of_getElem? (i := 2) rfl))) (mvT hZ (hw _ (List.mem_of_getElem? (i := 3) rfl))) (mvT hZ (hw _ (List.mem_of_getElem? (i := 4) rfl))) (by decide) (backOf (W := 0) (rm1U l Z a0 hw [] xx (183 : Int32) (183 : Int32) h25 n0 SZ25 ) hZ (hw _ (List.mem_of_getElem? (i := 4) rfl)) (hw _ (List.mem_of_getElem? (i := 3) rfl)) (by decide) (by decide)) (g := (mkF m 161 #[.val (.int p1), .val (.int p2), .val (.int p3), .val (.ref b4), .val (.ref b15), .val (.int mm), .val (.int xx), .val (.int bb), .val (.int ed), .unset] [(.int (183 : Int32)), (.int (183 : Int32)), (.int xx)])) rfl (by rw [hml]; rfl) (argsL := [(.int xx), (.int (183 : Int32)), (.int (183 : Int32))]) (rest := []) (lenOf pd_0 rfl) rfl (by show 2 * 0 + _ ≤ _; exact Nat.le_of_eq rfl) (hb hby at_161) (fun _ _ => ⟨rfl, e50, (by decide : 2 + 0 ≤ _), (by decide : 10 + 0 ≤ _)⟩)
      dsimp only [Pt.U, Pt.locs, Pt.cells, Pt.slots] at X53 l53 y53 z53 st53 hQ53
      subst l53 y53 z53
      obtain ⟨rfl, N53q, e53⟩ := hQ53
      have N53 := Fr.app N50 N53q
      obtain ⟨_, _, ⟨T54, L54, k54, n54⟩, -, X54, ⟨Lc54, hQ54, l54, y54, z54⟩, st54⟩ := Jvm.LawKit.callS X53 hx (y := (⟨"com/example/liana/liana/rdf/TurtleGrammar", "isNameCharacter", "(I)Z"⟩ : MethodName)) hown (mvT hZ (hw _ (List.mem_of_getElem? (i := 5) rfl))) (mvT hZ (hw _ (List.mem_of_getElem? (i := 6) rfl))) (mvT hZ (hw _ (List.mem_of_getElem? (i := 7) rfl))) (mvT hZ (hw _ (List.mem_of_getElem? (i := 8) rfl))) (by decide) (backOf (W := 0) (rm2 l Z a0 hw [] xx h25 n0 SZ25 ) hZ (hw _ (List.mem_of_getElem? (i := 8) rfl)) (hw _ (List.mem_of_getElem? (i := 7) rfl)) (by decide) (by decide)) (g := (mkF m 206 #[.val (.int p1), .val (.int p2), .val (.int p3), .val (.ref b4), .val (.ref b15), .val (.int mm), .val (.int xx), .val (.int (1 : Int32)), .val (.int ed), .unset] [(.int xx)])) rfl (by rw [hml]; rfl) (argsL := [(.int xx)]) (rest := []) (lenOf pd_1 rfl) rfl (by show 2 * 0 + _ ≤ _; exact Nat.le_of_eq rfl) (hb hby at_206) (fun _ _ => ⟨rfl, e53, (by decide : 2 + 0 ≤ _), (by decide : 10 + 0 ≤ _)⟩)
      dsimp only [Pt.U, Pt.locs, Pt.cells, Pt.slots] at X54 l54 y54 z54 st54 hQ54
      subst l54 y54 z54
      obtain ⟨rfl, N54q, e54⟩ := hQ54
      have N54 := Fr.app N53 N54q
      obtain ⟨_, _, ⟨T55, L55, k55, n55⟩, -, X55, ⟨Lc55, hQ55, l55, y55, z55⟩, st55⟩ := Jvm.LawKit.callS X54 hx (y := (⟨"com/example/liana/liana/rdf/TurtleGrammar", "isNameStart", "(I)Z"⟩ : MethodName)) hown (mvT hZ (hw _ (List.mem_of_getElem? (i := 9) rfl))) (mvT hZ (hw _ (List.mem_of_getElem? (i := 10) rfl))) (mvT hZ (hw _ (List.mem_of_getElem? (i := 7) rfl))) (mvT hZ (hw _ (List.mem_of_getElem? (i := 11) rfl))) (by decide) (backOf (W := 0) (rm3 l Z a0 hw [] xx h25 n0 SZ25 ) hZ (hw _ (List.mem_of_getElem? (i := 11) rfl)) (hw _ (List.mem_of_getElem? (i := 7) rfl)) (by decide) (by decide)) (g := (mkF m 213 #[.val (.int p1), .val (.int p2), .val (.int p3), .val (.ref b4), .val (.ref b15), .val (.int mm), .val (.int xx), .val (.int (1 : Int32)), .val (.int (own_ch1 xx)), .unset] [(.int xx)])) rfl (by rw [hml]; rfl) (argsL := [(.int xx)]) (rest := []) (lenOf pd_1 rfl) rfl (by show 2 * 0 + _ ≤ _; exact Nat.le_of_eq rfl) (hb hby at_213) (fun _ _ => ⟨rfl, e54, (by decide : 2 + 0 ≤ _), (by decide : 10 + 0 ≤ _)⟩)
      dsimp only [Pt.U, Pt.locs, Pt.cells, Pt.slots] at X55 l55 y55 z55 st55 hQ55
      subst l55 y55 z55
      obtain ⟨rfl, N55q, e55⟩ := hQ55
      have N55 := Fr.app N54 N55q
      obtain ⟨fs, hr, hrun, hended, hW, hsame⟩ := X55.leave (v := some (.int (1 : Int32))) (fun h => by rw [Bd.returns] at h; cases h)
      refine ⟨_, _, pre_31 _ ?_, hrun, hended, _, _, rfl, ?_, ⟨_, rfl⟩, hW, hsame.mono (by decide) (by decide)⟩
      · show Steps p.tables e below (T25.setTop (mkF m 122 #[.val (.int p1), .val (.int p2), .val (.int p3), .val (.ref b4), .val (.ref b15), .val (.int mm), .val (.int xx), .val (.int bb), .val (.int ed), .unset] [])) _
        refine XS.iload X25.here hx rfl (hb hby at_122) rfl ?_
        show Steps p.tables e below (T25.setTop (mkF m 124 #[.val (.int p1), .val (.int p2), .val (.int p3), .val (.ref b4), .val (.ref b15), .val (.int mm), .val (.int xx), .val (.int bb), .val (.int ed), .unset] [(.int xx)])) _
        refine XS.aloadN X25.here hx rfl (hb hby at_124) rfl rfl ?_
        show Steps p.tables e below (T25.setTop (mkF m 125 #[.val (.int p1), .val (.int p2), .val (.int p3), .val (.ref b4), .val (.ref b15), .val (.int mm), .val (.int xx), .val (.int bb), .val (.int ed), .unset] [(.ref b4), (.int xx)])) _
        refine XS.iconst X25.here hx rfl (hb hby at_125) ?_
        show Steps p.tables e below (T25.setTop (mkF m 126 #[.val (.int p1), .val (.int p2), .val (.int p3), .val (.ref b4), .val (.ref b15), .val (.int mm), .val (.int xx), .val (.int bb), .val (.int ed), .unset] [(.int (0 : Int32)), (.ref b4), (.int xx)])) _
        refine X25.iaload hx (j := (0 : Int32)) (v := (.int (45 : Int32))) (by rw [e25]; exact Aru45.1) (State.isArrayOf_alike hZ.alike Aru45.2.1) Aru45.2.2 hinu45 hatu45 (g := (mkF m 126 #[.val (.int p1), .val (.int p2), .val (.int p3), .val (.ref b4), .val (.ref b15), .val (.int mm), .val (.int xx), .val (.int bb), .val (.int ed), .unset] [(.int (0 : Int32)), (.ref b4), (.int xx)])) rfl rfl (hb hby at_126) _ ?_
        show Steps p.tables e below (T25.setTop (mkF m 127 #[.val (.int p1), .val (.int p2), .val (.int p3), .val (.ref b4), .val (.ref b15), .val (.int mm), .val (.int xx), .val (.int bb), .val (.int ed), .unset] [(.int (45 : Int32)), (.int xx)])) _
        refine XS.aload X25.here hx rfl (hb hby at_127) rfl rfl ?_
        show Steps p.tables e below (T25.setTop (mkF m 129 #[.val (.int p1), .val (.int p2), .val (.int p3), .val (.ref b4), .val (.ref b15), .val (.int mm), .val (.int xx), .val (.int bb), .val (.int ed), .unset] [(.ref b15), (.int (45 : Int32)), (.int xx)])) _
        refine XS.iconst X25.here hx rfl (hb hby at_129) ?_
        show Steps p.tables e below (T25.setTop (mkF m 130 #[.val (.int p1), .val (.int p2), .val (.int p3), .val (.ref b4), .val (.ref b15), .val (.int mm), .val (.int xx), .val (.int bb), .val (.int ed), .unset] [(.int (0 : Int32)), (.ref b15), (.int (45 : Int32)), (.int xx)])) _
        refine X25.iaload hx (j := (0 : Int32)) (v := (.int (45 : Int32))) (by rw [e25]; exact Aru46.1) (State.isArrayOf_alike hZ.alike Aru46.2.1) Aru46.2.2 hinu46 hatu46 (g := (mkF m 130 #[.val (.int p1), .val (.int p2), .val (.int p3), .val (.ref b4), .val (.ref b15), .val (.int mm), .val (.int xx), .val (.int bb), .val (.int ed), .unset] [(.int (0 : Int32)), (.ref b15), (.int (45 : Int32)), (.int xx)])) rfl rfl (hb hby at_130) _ ?_
        show Steps p.tables e below (T25.setTop (mkF m 131 #[.val (.int p1), .val (.int p2), .val (.int p3), .val (.ref b4), .val (.ref b15), .val (.int mm), .val (.int xx), .val (.int bb), .val (.int ed), .unset] [(.int (45 : Int32)), (.int (45 : Int32)), (.int xx)])) _
        refine st47 _ ?_
        show Steps p.tables e below (T47.setTop (mkF m 134 #[.val (.int p1), .val (.int p2), .val (.int p3), .val (.ref b4), .val (.ref b15), .val (.int mm), .val (.int xx), .val (.int bb), .val (.int ed), .unset] [(.int (own_in xx (45 : Int32) (45 : Int32)))])) _
        refine XS.ifNo X47.here hx rfl (hb hby at_134) rfl ((if0 _ _).trans (teq (k0 : (own_in xx (45 : Int32) (45 : Int32)) = (0 : Int32))).2) ?_
        show Steps p.tables e below (T47.setTop (mkF m 137 #[.val (.int p1), .val (.int p2), .val (.int p3), .val (.ref b4), .val (.ref b15), .val (.int mm), .val (.int xx), .val (.int bb), .val (.int ed), .unset] [])) _
        refine XS.iload X47.here hx rfl (hb hby at_137) rfl ?_
        show Steps p.tables e below (T47.setTop (mkF m 139 #[.val (.int p1), .val (.int p2), .val (.int p3), .val (.ref b4), .val (.ref b15), .val (.int mm), .val (.int xx), .val (.int bb), .val (.int ed), .unset] [(.int xx)])) _
        refine XS.aloadN X47.here hx rfl (hb hby at_139) rfl rfl ?_
        show Steps p.tables e below (T47.setTop (mkF m 140 #[.val (.int p1), .val (.int p2), .val (.int p3), .val (.ref b4), .val (.ref b15), .val (.int mm), .val (.int xx), .val (.int bb), .val (.int ed), .unset] [(.ref b4), (.int xx)])) _
        refine XS.iconst X47.here hx rfl (hb hby at_140) ?_
        show Steps p.tables e below (T47.setTop (mkF m 141 #[.val (.int p1), .val (.int p2), .val (.int p3), .val (.ref b4), .val (.ref b15), .val (.int mm), .val (.int xx), .val (.int bb), .val (.int ed), .unset] [(.int (1 : Int32)), (.ref b4), (.int xx)])) _
        refine X47.iaload hx (j := (1 : Int32)) (v := (.int (48 : Int32))) (by rw [e47]; exact Aru48.1) (State.isArrayOf_alike hZ.alike Aru48.2.1) Aru48.2.2 hinu48 hatu48 (g := (mkF m 141 #[.val (.int p1), .val (.int p2), .val (.int p3), .val (.ref b4), .val (.ref b15), .val (.int mm), .val (.int xx), .val (.int bb), .val (.int ed), .unset] [(.int (1 : Int32)), (.ref b4), (.int xx)])) rfl rfl (hb hby at_141) _ ?_
        show Steps p.tables e below (T47.setTop (mkF m 142 #[.val (.int p1), .val (.int p2), .val (.int p3), .val (.ref b4), .val (.ref b15), .val (.int mm), .val (.int xx), .val (.int bb), .val (.int ed), .unset] [(.int (48 : Int32)), (.int xx)])) _
        refine XS.aload X47.here hx rfl (hb hby at_142) rfl rfl ?_
        show Steps p.tables e below (T47.setTop (mkF m 144 #[.val (.int p1), .val (.int p2), .val (.int p3), .val (.ref b4), .val (.ref b15), .val (.int mm), .val (.int xx), .val (.int bb), .val (.int ed), .unset] [(.ref b15), (.int (48 : Int32)), (.int xx)])) _
        refine XS.iconst X47.here hx rfl (hb hby at_144) ?_
        show Steps p.tables e below (T47.setTop (mkF m 145 #[.val (.int p1), .val (.int p2), .val (.int p3), .val (.ref b4), .val (.ref b15), .val (.int mm), .val (.int xx), .val (.int bb), .val (.int ed), .unset] [(.int (1 : Int32)), (.ref b15), (.int (48 : Int32)), (.int xx)])) _
        refine X47.iaload hx (j := (1 : Int32)) (v := (.int (57 : Int32))) (by rw [e47]; exact Aru49.1) (State.isArrayOf_alike hZ.alike Aru49.2.1) Aru49.2.2 hinu49 hatu49 (g := (mkF m 145 #[.val (.int p1), .val (.int p2), .val (.int p3), .val (.ref b4), .val (.ref b15), .val (.int mm), .val (.int xx), .val (.int bb), .val (.int ed), .unset] [(.int (1 : Int32)), (.ref b15), (.int (48 : Int32)), (.int xx)])) rfl rfl (hb hby at_145) _ ?_
        show Steps p.tables e below (T47.setTop (mkF m 146 #[.val (.int p1), .val (.int p2), .val (.int p3), .val (.ref b4), .val (.ref b15), .val (.int mm), .val (.int xx), .val (.int bb), .val (.int ed), .unset] [(.int (57 : Int32)), (.int (48 : Int32)), (.int xx)])) _
        refine st50 _ ?_
        show Steps p.tables e below (T50.setTop (mkF m 149 #[.val (.int p1), .val (.int p2), .val (.int p3), .val (.ref b4), .val (.ref b15), .val (.int mm), .val (.int xx), .val (.int bb), .val (.int ed), .unset] [(.int (own_in xx (48 : Int32) (57 : Int32)))])) _
        refine XS.ifNo X50.here hx rfl (hb hby at_149) rfl ((if0 _ _).trans (teq (k1 : (own_in xx (48 : Int32) (57 : Int32)) = (0 : Int32))).2) ?_
        show Steps p.tables e below (T50.setTop (mkF m 152 #[.val (.int p1), .val (.int p2), .val (.int p3), .val (.ref b4), .val (.ref b15), .val (.int mm), .val (.int xx), .val (.int bb), .val (.int ed), .unset] [])) _
        refine XS.iload X50.here hx rfl (hb hby at_152) rfl ?_
        show Steps p.tables e below (T50.setTop (mkF m 154 #[.val (.int p1), .val (.int p2), .val (.int p3), .val (.ref b4), .val (.ref b15), .val (.int mm), .val (.int xx), .val (.int bb), .val (.int ed), .unset] [(.int xx)])) _
        refine XS.aloadN X50.here hx rfl (hb hby at_154) rfl rfl ?_
        show Steps p.tables e below (T50.setTop (mkF m 155 #[.val (.int p1), .val (.int p2), .val (.int p3), .val (.ref b4), .val (.ref b15), .val (.int mm), .val (.int xx), .val (.int bb), .val (.int ed), .unset] [(.ref b4), (.int xx)])) _
        refine XS.iconst X50.here hx rfl (hb hby at_155) ?_
        show Steps p.tables e below (T50.setTop (mkF m 156 #[.val (.int p1), .val (.int p2), .val (.int p3), .val (.ref b4), .val (.ref b15), .val (.int mm), .val (.int xx), .val (.int bb), .val (.int ed), .unset] [(.int (2 : Int32)), (.ref b4), (.int xx)])) _
        refine X50.iaload hx (j := (2 : Int32)) (v := (.int (183 : Int32))) (by rw [e50]; exact Aru51.1) (State.isArrayOf_alike hZ.alike Aru51.2.1) Aru51.2.2 hinu51 hatu51 (g := (mkF m 156 #[.val (.int p1), .val (.int p2), .val (.int p3), .val (.ref b4), .val (.ref b15), .val (.int mm), .val (.int xx), .val (.int bb), .val (.int ed), .unset] [(.int (2 : Int32)), (.ref b4), (.int xx)])) rfl rfl (hb hby at_156) _ ?_
        show Steps p.tables e below (T50.setTop (mkF m 157 #[.val (.int p1), .val (.int p2), .val (.int p3), .val (.ref b4), .val (.ref b15), .val (.int mm), .val (.int xx), .val (.int bb), .val (.int ed), .unset] [(.int (183 : Int32)), (.int xx)])) _
        refine XS.aload X50.here hx rfl (hb hby at_157) rfl rfl ?_
        show Steps p.tables e below (T50.setTop (mkF m 159 #[.val (.int p1), .val (.int p2), .val (.int p3), .val (.ref b4), .val (.ref b15), .val (.int mm), .val (.int xx), .val (.int bb), .val (.int ed), .unset] [(.ref b15), (.int (183 : Int32)), (.int xx)])) _
        refine XS.iconst X50.here hx rfl (hb hby at_159) ?_
        show Steps p.tables e below (T50.setTop (mkF m 160 #[.val (.int p1), .val (.int p2), .val (.int p3), .val (.ref b4), .val (.ref b15), .val (.int mm), .val (.int xx), .val (.int bb), .val (.int ed), .unset] [(.int (2 : Int32)), (.ref b15), (.int (183 : Int32)), (.int xx)])) _
        refine X50.iaload hx (j := (2 : Int32)) (v := (.int (183 : Int32))) (by rw [e50]; exact Aru52.1) (State.isArrayOf_alike hZ.alike Aru52.2.1) Aru52.2.2 hinu52 hatu52 (g := (mkF m 160 #[.val (.int p1), .val (.int p2), .val (.int p3), .val (.ref b4), .val (.ref b15), .val (.int mm), .val (.int xx), .val (.int bb), .val (.int ed), .unset] [(.int (2 : Int32)), (.ref b15), (.int (183 : Int32)), (.int xx)])) rfl rfl (hb hby at_160) _ ?_
        show Steps p.tables e below (T50.setTop (mkF m 161 #[.val (.int p1), .val (.int p2), .val (.int p3), .val (.ref b4), .val (.ref b15), .val (.int mm), .val (.int xx), .val (.int bb), .val (.int ed), .unset] [(.int (183 : Int32)), (.int (183 : Int32)), (.int xx)])) _
        refine st53 _ ?_
        show Steps p.tables e below (T53.setTop (mkF m 164 #[.val (.int p1), .val (.int p2), .val (.int p3), .val (.ref b4), .val (.ref b15), .val (.int mm), .val (.int xx), .val (.int bb), .val (.int ed), .unset] [(.int (own_in xx (183 : Int32) (183 : Int32)))])) _
        refine XS.ifYes X53.here hx rfl (pc0 := 164) (pc' := 197) rfl (hb hby at_164) rfl ((if0 _ _).trans (feq (k2 : ¬ ((own_in xx (183 : Int32) (183 : Int32)) = (0 : Int32)))).2) (by decide) (by decide) ?_
        show Steps p.tables e below (T53.setTop (mkF m 197 #[.val (.int p1), .val (.int p2), .val (.int p3), .val (.ref b4), .val (.ref b15), .val (.int mm), .val (.int xx), .val (.int bb), .val (.int ed), .unset] [])) _
        refine XS.iconst X53.here hx rfl (hb hby at_197) ?_
        show Steps p.tables e below (T53.setTop (mkF m 198 #[.val (.int p1), .val (.int p2), .val (.int p3), .val (.ref b4), .val (.ref b15), .val (.int mm), .val (.int xx), .val (.int bb), .val (.int ed), .unset] [(.int (1 : Int32))])) _
        refine XS.goto X53.here hx rfl (pc0 := 198) (pc' := 202) rfl (hb hby at_198) (by decide) (by decide) ?_
        show Steps p.tables e below (T53.setTop (mkF m 202 #[.val (.int p1), .val (.int p2), .val (.int p3), .val (.ref b4), .val (.ref b15), .val (.int mm), .val (.int xx), .val (.int bb), .val (.int ed), .unset] [(.int (1 : Int32))])) _
        refine XS.istore X53.here hx rfl (hb hby at_202) rfl (l' := #[.val (.int p1), .val (.int p2), .val (.int p3), .val (.ref b4), .val (.ref b15), .val (.int mm), .val (.int xx), .val (.int (1 : Int32)), .val (.int ed), .unset]) rfl ?_
        show Steps p.tables e below (T53.setTop (mkF m 204 #[.val (.int p1), .val (.int p2), .val (.int p3), .val (.ref b4), .val (.ref b15), .val (.int mm), .val (.int xx), .val (.int (1 : Int32)), .val (.int ed), .unset] [])) _
        refine XS.iload X53.here hx rfl (hb hby at_204) rfl ?_
        show Steps p.tables e below (T53.setTop (mkF m 206 #[.val (.int p1), .val (.int p2), .val (.int p3), .val (.ref b4), .val (.ref b15), .val (.int mm), .val (.int xx), .val (.int (1 : Int32)), .val (.int ed), .unset] [(.int xx)])) _
        refine st54 _ ?_
        show Steps p.tables e below (T54.setTop (mkF m 209 #[.val (.int p1), .val (.int p2), .val (.int p3), .val (.ref b4), .val (.ref b15), .val (.int mm), .val (.int xx), .val (.int (1 : Int32)), .val (.int ed), .unset] [(.int (own_ch1 xx))])) _
        refine XS.istore X54.here hx rfl (hb hby at_209) rfl (l' := #[.val (.int p1), .val (.int p2), .val (.int p3), .val (.ref b4), .val (.ref b15), .val (.int mm), .val (.int xx), .val (.int (1 : Int32)), .val (.int (own_ch1 xx)), .unset]) rfl ?_
        show Steps p.tables e below (T54.setTop (mkF m 211 #[.val (.int p1), .val (.int p2), .val (.int p3), .val (.ref b4), .val (.ref b15), .val (.int mm), .val (.int xx), .val (.int (1 : Int32)), .val (.int (own_ch1 xx)), .unset] [])) _
        refine XS.iload X54.here hx rfl (hb hby at_211) rfl ?_
        show Steps p.tables e below (T54.setTop (mkF m 213 #[.val (.int p1), .val (.int p2), .val (.int p3), .val (.ref b4), .val (.ref b15), .val (.int mm), .val (.int xx), .val (.int (1 : Int32)), .val (.int (own_ch1 xx)), .unset] [(.int xx)])) _
        refine st55 _ ?_
        show Steps p.tables e below (T55.setTop (mkF m 216 #[.val (.int p1), .val (.int p2), .val (.int p3), .val (.ref b4), .val (.ref b15), .val (.int mm), .val (.int xx), .val (.int (1 : Int32)), .val (.int (own_ch1 xx)), .unset] [(.int (own_st1 xx))])) _
        refine XS.istore X55.here hx rfl (hb hby at_216) rfl (l' := #[.val (.int p1), .val (.int p2), .val (.int p3), .val (.ref b4), .val (.ref b15), .val (.int mm), .val (.int xx), .val (.int (1 : Int32)), .val (.int (own_ch1 xx)), .val (.int (own_st1 xx))]) rfl ?_
        show Steps p.tables e below (T55.setTop (mkF m 218 #[.val (.int p1), .val (.int p2), .val (.int p3), .val (.ref b4), .val (.ref b15), .val (.int mm), .val (.int xx), .val (.int (1 : Int32)), .val (.int (own_ch1 xx)), .val (.int (own_st1 xx))] [])) _
        refine XS.iload X55.here hx rfl (hb hby at_218) rfl ?_
        show Steps p.tables e below (T55.setTop (mkF m 220 #[.val (.int p1), .val (.int p2), .val (.int p3), .val (.ref b4), .val (.ref b15), .val (.int mm), .val (.int xx), .val (.int (1 : Int32)), .val (.int (own_ch1 xx)), .val (.int (own_st1 xx))] [(.int (own_ch1 xx))])) _
        refine XS.iload X55.here hx rfl (hb hby at_220) rfl ?_
        show Steps p.tables e below (T55.setTop (mkF m 222 #[.val (.int p1), .val (.int p2), .val (.int p3), .val (.ref b4), .val (.ref b15), .val (.int mm), .val (.int xx), .val (.int (1 : Int32)), .val (.int (own_ch1 xx)), .val (.int (own_st1 xx))] [(.int (1 : Int32)), (.int (own_ch1 xx))])) _
        refine XS.icmpNo X55.here hx rfl (hb hby at_222) rfl (teq (c1 : (own_ch1 xx) = (1 : Int32))).2 ?_
        show Steps p.tables e below (T55.setTop (mkF m 225 #[.val (.int p1), .val (.int p2), .val (.int p3), .val (.ref b4), .val (.ref b15), .val (.int mm), .val (.int xx), .val (.int (1 : Int32)), .val (.int (own_ch1 xx)), .val (.int (own_st1 xx))] [])) _
        refine XS.iload X55.here hx rfl (hb hby at_225) rfl ?_
        show Steps p.tables e below (T55.setTop (mkF m 227 #[.val (.int p1), .val (.int p2), .val (.int p3), .val (.ref b4), .val (.ref b15), .val (.int mm), .val (.int xx), .val (.int (1 : Int32)), .val (.int (own_ch1 xx)), .val (.int (own_st1 xx))] [(.int (own_ch1 xx))])) _
        refine XS.ifNo X55.here hx rfl (hb hby at_227) rfl ((if0 _ _).trans (feq (by rw [c1]; decide : ¬ ((own_ch1 xx) = (0 : Int32)))).1) ?_
        show Steps p.tables e below (T55.setTop (mkF m 230 #[.val (.int p1), .val (.int p2), .val (.int p3), .val (.ref b4), .val (.ref b15), .val (.int mm), .val (.int xx), .val (.int (1 : Int32)), .val (.int (own_ch1 xx)), .val (.int (own_st1 xx))] [])) _
        refine XS.iload X55.here hx rfl (hb hby at_230) rfl ?_
        show Steps p.tables e below (T55.setTop (mkF m 232 #[.val (.int p1), .val (.int p2), .val (.int p3), .val (.ref b4), .val (.ref b15), .val (.int mm), .val (.int xx), .val (.int (1 : Int32)), .val (.int (own_ch1 xx)), .val (.int (own_st1 xx))] [(.int (own_st1 xx))])) _
        refine XS.ifNo X55.here hx rfl (hb hby at_232) rfl ((if0 _ _).trans (teq (c2 : (own_st1 xx) = (0 : Int32))).2) ?_
        show Steps p.tables e below (T55.setTop (mkF m 235 #[.val (.int p1), .val (.int p2), .val (.int p3), .val (.ref b4), .val (.ref b15), .val (.int mm), .val (.int xx), .val (.int (1 : Int32)), .val (.int (own_ch1 xx)), .val (.int (own_st1 xx))] [])) _
        refine XS.iconst X55.here hx rfl (hb hby at_235) ?_
        show Steps p.tables e below (T55.setTop (mkF m 236 #[.val (.int p1), .val (.int p2), .val (.int p3), .val (.ref b4), .val (.ref b15), .val (.int mm), .val (.int xx), .val (.int (1 : Int32)), .val (.int (own_ch1 xx)), .val (.int (own_st1 xx))] [(.int (1 : Int32))])) _
        refine XS.goto X55.here hx rfl (pc0 := 236) (pc' := 240) rfl (hb hby at_236) (by decide) (by decide) ?_
        show Steps p.tables e below (T55.setTop (mkF m 240 #[.val (.int p1), .val (.int p2), .val (.int p3), .val (.ref b4), .val (.ref b15), .val (.int mm), .val (.int xx), .val (.int (1 : Int32)), .val (.int (own_ch1 xx)), .val (.int (own_st1 xx))] [(.int (1 : Int32))])) _
        exact retN X55 hx (t := .boolean) Bd.returns (by simp) (hb hby at_240) hr
      · show QF n0 _ T55.heap _
        rw [e55]
        exact ⟨rfl, N55⟩
    by_cases k3 : own_in xx (768 : Int32) (879 : Int32) = (0 : Int32)
    rotate_left
    · skip
      have dj : xx.toInt = 45 ∨ (48 ≤ xx.toInt ∧ xx.toInt ≤ 57) ∨ xx.toInt = 183 ∨ (768 ≤ xx.toInt ∧ xx.toInt ≤ 879) ∨ (8255 ≤ xx.toInt ∧ xx.toInt ≤ 8256) := by have q := own_in_nz k3; simp only [f31, f32] at q; omega
      have c1 := own_ch_p dj
      have c2 := own_st_z dj
      obtain ⟨clu56, Aru56, qu56, Su56, Mu56, Hu56, Gu56⟩ := id V_b4_25
      have hinu56 : ¬ ((0 : Int32) < 0 ∨ clu56.slots.size ≤ ((0 : Int32)).toNatClampNeg) := inb_of Su56 ⟨by decide, by decide⟩
      have hatu56 : clu56.slots[((0 : Int32)).toNatClampNeg]? = some (.int (45 : Int32)) := Hu56.at hinu56 rfl
      obtain ⟨clu57, Aru57, qu57, Su57, Mu57, Hu57, Gu57⟩ := id V_b15_25
      have hinu57 : ¬ ((0 : Int32) < 0 ∨ clu57.slots.size ≤ ((0 : Int32)).toNatClampNeg) := inb_of Su57 ⟨by decide, by decide⟩
      have hatu57 : clu57.slots[((0 : Int32)).toNatClampNeg]? = some (.int (45 : Int32)) := Hu57.at hinu57 rfl
      obtain ⟨_, _, ⟨T58, L58, k58, n58⟩, -, X58, ⟨Lc58, hQ58, l58, y58, z58⟩, st58⟩ := Jvm.LawKit.callS X25 hx (y := (⟨"com/example/liana/liana/rdf/TurtleGrammarIsNameCharacterPinLaw", "within", "(III)Z"⟩ : MethodName)) hown (mvT hZ (hw _ (List.mem_of_getElem? (i := 1) rfl))) (mvT hZ (hw _ (List.mem_of_getElem? (i := 2) rfl))) (mvT hZ (hw _ (List.mem_of_getElem? (i := 3) rfl))) (mvT hZ (hw _ (List.mem_of_getElem? (i := 4) rfl))) (by decide) (backOf (W := 0) (rm1U l Z a0 hw [] xx (45 : Int32) (45 : Int32) h25 n0 SZ25 ) hZ (hw _ (List.mem_of_getElem? (i := 4) rfl)) (hw _ (List.mem_of_getElem? (i := 3) rfl)) (by decide) (by decide)) (g := (mkF m 131 #[.val (.int p1), .val (.int p2), .val (.int p3), .val (.ref b4), .val (.ref b15), .val (.int mm), .val (.int xx), .val (.int bb), .val (.int ed), .unset] [(.int (45 : Int32)), (.int (45 : Int32)), (.int xx)])) rfl (by rw [hml]; rfl) (argsL := [(.int xx), (.int (45 : Int32)), (.int (45 : Int32))]) (rest := []) (lenOf pd_0 rfl) rfl (by show 2 * 0 + _ ≤ _; exact Nat.le_of_eq rfl) (hb hby at_131) (fun _ _ => ⟨rfl, e25, (by decide : 2 + 0 ≤ _), (by decide : 10 + 0 ≤ _)⟩)
      dsimp only [Pt.U, Pt.locs, Pt.cells, Pt.slots] at X58 l58 y58 z58 st58 hQ58
      subst l58 y58 z58
      obtain ⟨rfl, N58q, e58⟩ := hQ58
      have N58 := Fr.app N25 N58q
      obtain ⟨clu59, Aru59, qu59, Su59, Mu59, Hu59, Gu59⟩ := id V_b4_25
      have hinu59 : ¬ ((1 : Int32) < 0 ∨ clu59.slots.size ≤ ((1 : Int32)).toNatClampNeg) := inb_of Su59 ⟨by decide, by decide⟩
      have hatu59 : clu59.slots[((1 : Int32)).toNatClampNeg]? = some (.int (48 : Int32)) := Hu59.at hinu59 rfl
      obtain ⟨clu60, Aru60, qu60, Su60, Mu60, Hu60, Gu60⟩ := id V_b15_25
      have hinu60 : ¬ ((1 : Int32) < 0 ∨ clu60.slots.size ≤ ((1 : Int32)).toNatClampNeg) := inb_of Su60 ⟨by decide, by decide⟩
      have hatu60 : clu60.slots[((1 : Int32)).toNatClampNeg]? = some (.int (57 : Int32)) := Hu60.at hinu60 rfl
      obtain ⟨_, _, ⟨T61, L61, k61, n61⟩, -, X61, ⟨Lc61, hQ61, l61, y61, z61⟩, st61⟩ := Jvm.LawKit.callS X58 hx (y := (⟨"com/example/liana/liana/rdf/TurtleGrammarIsNameCharacterPinLaw", "within", "(III)Z"⟩ : MethodName)) hown (mvT hZ (hw _ (List.mem_of_getElem? (i := 1) rfl))) (mvT hZ (hw _ (List.mem_of_getElem? (i := 2) rfl))) (mvT hZ (hw _ (List.mem_of_getElem? (i := 3) rfl))) (mvT hZ (hw _ (List.mem_of_getElem? (i := 4) rfl))) (by decide) (backOf (W := 0) (rm1U l Z a0 hw [] xx (48 : Int32) (57 : Int32) h25 n0 SZ25 ) hZ (hw _ (List.mem_of_getElem? (i := 4) rfl)) (hw _ (List.mem_of_getElem? (i := 3) rfl)) (by decide) (by decide)) (g := (mkF m 146 #[.val (.int p1), .val (.int p2), .val (.int p3), .val (.ref b4), .val (.ref b15), .val (.int mm), .val (.int xx), .val (.int bb), .val (.int ed), .unset] [(.int (57 : Int32)), (.int (48 : Int32)), (.int xx)])) rfl (by rw [hml]; rfl) (argsL := [(.int xx), (.int (48 : Int32)), (.int (57 : Int32))]) (rest := []) (lenOf pd_0 rfl) rfl (by show 2 * 0 + _ ≤ _; exact Nat.le_of_eq rfl) (hb hby at_146) (fun _ _ => ⟨rfl, e58, (by decide : 2 + 0 ≤ _), (by decide : 10 + 0 ≤ _)⟩)
      dsimp only [Pt.U, Pt.locs, Pt.cells, Pt.slots] at X61 l61 y61 z61 st61 hQ61
      subst l61 y61 z61
      obtain ⟨rfl, N61q, e61⟩ := hQ61
      have N61 := Fr.app N58 N61q
      obtain ⟨clu62, Aru62, qu62, Su62, Mu62, Hu62, Gu62⟩ := id V_b4_25
      have hinu62 : ¬ ((2 : Int32) < 0 ∨ clu62.slots.size ≤ ((2 : Int32)).toNatClampNeg) := inb_of Su62 ⟨by decide, by decide⟩
      have hatu62 : clu62.slots[((2 : Int32)).toNatClampNeg]? = some (.int (183 : Int32)) := Hu62.at hinu62 rfl
      obtain ⟨clu63, Aru63, qu63, Su63, Mu63, Hu63, Gu63⟩ := id V_b15_25
      have hinu63 : ¬ ((2 : Int32) < 0 ∨ clu63.slots.size ≤ ((2 : Int32)).toNatClampNeg) := inb_of Su63 ⟨by decide, by decide⟩
      have hatu63 : clu63.slots[((2 : Int32)).toNatClampNeg]? = some (.int (183 : Int32)) := Hu63.at hinu63 rfl
      obtain ⟨_, _, ⟨T64, L64, k64, n64⟩, -, X64, ⟨Lc64, hQ64, l64, y64, z64⟩, st64⟩ := Jvm.LawKit.callS X61 hx (y := (⟨"com/example/liana/liana/rdf/TurtleGrammarIsNameCharacterPinLaw", "within", "(III)Z"⟩ : MethodName)) hown (mvT hZ (hw _ (List.mem_of_getElem? (i := 1) rfl))) (mvT hZ (hw _ (List.mem_of_getElem? (i := 2) rfl))) (mvT hZ (hw _ (List.mem_of_getElem? (i := 3) rfl))) (mvT hZ (hw _ (List.mem_of_getElem? (i := 4) rfl))) (by decide) (backOf (W := 0) (rm1U l Z a0 hw [] xx (183 : Int32) (183 : Int32) h25 n0 SZ25 ) hZ (hw _ (List.mem_of_getElem? (i := 4) rfl)) (hw _ (List.mem_of_getElem? (i := 3) rfl)) (by decide) (by decide)) (g := (mkF m 161 #[.val (.int p1), .val (.int p2), .val (.int p3), .val (.ref b4), .val (.ref b15), .val (.int mm), .val (.int xx), .val (.int bb), .val (.int ed), .unset] [(.int (183 : Int32)), (.int (183 : Int32)), (.int xx)])) rfl (by rw [hml]; rfl) (argsL := [(.int xx), (.int (183 : Int32)), (.int (183 : Int32))]) (rest := []) (lenOf pd_0 rfl) rfl (by show 2 * 0 + _ ≤ _; exact Nat.le_of_eq rfl) (hb hby at_161) (fun _ _ => ⟨rfl, e61, (by decide : 2 + 0 ≤ _), (by decide : 10 + 0 ≤ _)⟩)
      dsimp only [Pt.U, Pt.locs, Pt.cells, Pt.slots] at X64 l64 y64 z64 st64 hQ64
      subst l64 y64 z64
      obtain ⟨rfl, N64q, e64⟩ := hQ64
      have N64 := Fr.app N61 N64q
      obtain ⟨clu65, Aru65, qu65, Su65, Mu65, Hu65, Gu65⟩ := id V_b4_25
      have hinu65 : ¬ ((3 : Int32) < 0 ∨ clu65.slots.size ≤ ((3 : Int32)).toNatClampNeg) := inb_of Su65 ⟨by decide, by decide⟩
      have hatu65 : clu65.slots[((3 : Int32)).toNatClampNeg]? = some (.int (768 : Int32)) := Hu65.at hinu65 rfl
      obtain ⟨clu66, Aru66, qu66, Su66, Mu66, Hu66, Gu66⟩ := id V_b15_25
      have hinu66 : ¬ ((3 : Int32) < 0 ∨ clu66.slots.size ≤ ((3 : Int32)).toNatClampNeg) := inb_of Su66 ⟨by decide, by decide⟩
      have hatu66 : clu66.slots[((3 : Int32)).toNatClampNeg]? = some (.int (879 : Int32)) := Hu66.at hinu66 rfl
      obtain ⟨_, _, ⟨T67, L67, k67, n67⟩, -, X67, ⟨Lc67, hQ67, l67, y67, z67⟩, st67⟩ := Jvm.LawKit.callS X64 hx (y := (⟨"com/example/liana/liana/rdf/TurtleGrammarIsNameCharacterPinLaw", "within", "(III)Z"⟩ : MethodName)) hown (mvT hZ (hw _ (List.mem_of_getElem? (i := 1) rfl))) (mvT hZ (hw _ (List.mem_of_getElem? (i := 2) rfl))) (mvT hZ (hw _ (List.mem_of_getElem? (i := 3) rfl))) (mvT hZ (hw _ (List.mem_of_getElem? (i := 4) rfl))) (by decide) (backOf (W := 0) (rm1U l Z a0 hw [] xx (768 : Int32) (879 : Int32) h25 n0 SZ25 ) hZ (hw _ (List.mem_of_getElem? (i := 4) rfl)) (hw _ (List.mem_of_getElem? (i := 3) rfl)) (by decide) (by decide)) (g := (mkF m 176 #[.val (.int p1), .val (.int p2), .val (.int p3), .val (.ref b4), .val (.ref b15), .val (.int mm), .val (.int xx), .val (.int bb), .val (.int ed), .unset] [(.int (879 : Int32)), (.int (768 : Int32)), (.int xx)])) rfl (by rw [hml]; rfl) (argsL := [(.int xx), (.int (768 : Int32)), (.int (879 : Int32))]) (rest := []) (lenOf pd_0 rfl) rfl (by show 2 * 0 + _ ≤ _; exact Nat.le_of_eq rfl) (hb hby at_176) (fun _ _ => ⟨rfl, e64, (by decide : 2 + 0 ≤ _), (by decide : 10 + 0 ≤ _)⟩)
      dsimp only [Pt.U, Pt.locs, Pt.cells, Pt.slots] at X67 l67 y67 z67 st67 hQ67
      subst l67 y67 z67
      obtain ⟨rfl, N67q, e67⟩ := hQ67
      have N67 := Fr.app N64 N67q
      obtain ⟨_, _, ⟨T68, L68, k68, n68⟩, -, X68, ⟨Lc68, hQ68, l68, y68, z68⟩, st68⟩ := Jvm.LawKit.callS X67 hx (y := (⟨"com/example/liana/liana/rdf/TurtleGrammar", "isNameCharacter", "(I)Z"⟩ : MethodName)) hown (mvT hZ (hw _ (List.mem_of_getElem? (i := 5) rfl))) (mvT hZ (hw _ (List.mem_of_getElem? (i := 6) rfl))) (mvT hZ (hw _ (List.mem_of_getElem? (i := 7) rfl))) (mvT hZ (hw _ (List.mem_of_getElem? (i := 8) rfl))) (by decide) (backOf (W := 0) (rm2 l Z a0 hw [] xx h25 n0 SZ25 ) hZ (hw _ (List.mem_of_getElem? (i := 8) rfl)) (hw _ (List.mem_of_getElem? (i := 7) rfl)) (by decide) (by decide)) (g := (mkF m 206 #[.val (.int p1), .val (.int p2), .val (.int p3), .val (.ref b4), .val (.ref b15), .val (.int mm), .val (.int xx), .val (.int (1 : Int32)), .val (.int ed), .unset] [(.int xx)])) rfl (by rw [hml]; rfl) (argsL := [(.int xx)]) (rest := []) (lenOf pd_1 rfl) rfl (by show 2 * 0 + _ ≤ _; exact Nat.le_of_eq rfl) (hb hby at_206) (fun _ _ => ⟨rfl, e67, (by decide : 2 + 0 ≤ _), (by decide : 10 + 0 ≤ _)⟩)
      dsimp only [Pt.U, Pt.locs, Pt.cells, Pt.slots] at X68 l68 y68 z68 st68 hQ68
      subst l68 y68 z68
      obtain ⟨rfl, N68q, e68⟩ := hQ68
      have N68 := Fr.app N67 N68q
      obtain ⟨_, _, ⟨T69, L69, k69, n69⟩, -, X69, ⟨Lc69, hQ69, l69, y69, z69⟩, st69⟩ := Jvm.LawKit.callS X68 hx (y := (⟨"com/example/liana/liana/rdf/TurtleGrammar", "isNameStart", "(I)Z"⟩ : MethodName)) hown (mvT hZ (hw _ (List.mem_of_getElem? (i := 9) rfl))) (mvT hZ (hw _ (List.mem_of_getElem? (i := 10) rfl))) (mvT hZ (hw _ (List.mem_of_getElem? (i := 7) rfl))) (mvT hZ (hw _ (List.mem_of_getElem? (i := 11) rfl))) (by decide) (backOf (W := 0) (rm3 l Z a0 hw [] xx h25 n0 SZ25 ) hZ (hw _ (List.mem_of_getElem? (i := 11) rfl)) (hw _ (List.mem_of_getElem? (i := 7) rfl)) (by decide) (by decide)) (g := (mkF m 213 #[.val (.int p1), .val (.int p2), .val (.int p3), .val (.ref b4), .val (.ref b15), .val (.int mm), .val (.int xx), .val (.int (1 : Int32)), .val (.int (own_ch1 xx)), .unset] [(.int xx)])) rfl (by rw [hml]; rfl) (argsL := [(.int xx)]) (rest := []) (lenOf pd_1 rfl) rfl (by show 2 * 0 + _ ≤ _; exact Nat.le_of_eq rfl) (hb hby at_213) (fun _ _ => ⟨rfl, e68, (by decide : 2 + 0 ≤ _), (by decide : 10 + 0 ≤ _)⟩)
      dsimp only [Pt.U, Pt.locs, Pt.cells, Pt.slots] at X69 l69 y69 z69 st69 hQ69
      subst l69 y69 z69
      obtain ⟨rfl, N69q, e69⟩ := hQ69
      have N69 := Fr.app N68 N69q
      obtain ⟨fs, hr, hrun, hended, hW, hsame⟩ := X69.leave (v := some (.int (1 : Int32))) (fun h => by rw [Bd.returns] at h; cases h)
      refine ⟨_, _, pre_31 _ ?_, hrun, hended, _, _, rfl, ?_, ⟨_, rfl⟩, hW, hsame.mono (by decide) (by decide)⟩
      · show Steps p.tables e below (T25.setTop (mkF m 122 #[.val (.int p1), .val (.int p2), .val (.int p3), .val (.ref b4), .val (.ref b15), .val (.int mm), .val (.int xx), .val (.int bb), .val (.int ed), .unset] [])) _
        refine XS.iload X25.here hx rfl (hb hby at_122) rfl ?_
        show Steps p.tables e below (T25.setTop (mkF m 124 #[.val (.int p1), .val (.int p2), .val (.int p3), .val (.ref b4), .val (.ref b15), .val (.int mm), .val (.int xx), .val (.int bb), .val (.int ed), .unset] [(.int xx)])) _
        refine XS.aloadN X25.here hx rfl (hb hby at_124) rfl rfl ?_
        show Steps p.tables e below (T25.setTop (mkF m 125 #[.val (.int p1), .val (.int p2), .val (.int p3), .val (.ref b4), .val (.ref b15), .val (.int mm), .val (.int xx), .val (.int bb), .val (.int ed), .unset] [(.ref b4), (.int xx)])) _
        refine XS.iconst X25.here hx rfl (hb hby at_125) ?_
        show Steps p.tables e below (T25.setTop (mkF m 126 #[.val (.int p1), .val (.int p2), .val (.int p3), .val (.ref b4), .val (.ref b15), .val (.int mm), .val (.int xx), .val (.int bb), .val (.int ed), .unset] [(.int (0 : Int32)), (.ref b4), (.int xx)])) _
        refine X25.iaload hx (j := (0 : Int32)) (v := (.int (45 : Int32))) (by rw [e25]; exact Aru56.1) (State.isArrayOf_alike hZ.alike Aru56.2.1) Aru56.2.2 hinu56 hatu56 (g := (mkF m 126 #[.val (.int p1), .val (.int p2), .val (.int p3), .val (.ref b4), .val (.ref b15), .val (.int mm), .val (.int xx), .val (.int bb), .val (.int ed), .unset] [(.int (0 : Int32)), (.ref b4), (.int xx)])) rfl rfl (hb hby at_126) _ ?_
        show Steps p.tables e below (T25.setTop (mkF m 127 #[.val (.int p1), .val (.int p2), .val (.int p3), .val (.ref b4), .val (.ref b15), .val (.int mm), .val (.int xx), .val (.int bb), .val (.int ed), .unset] [(.int (45 : Int32)), (.int xx)])) _
        refine XS.aload X25.here hx rfl (hb hby at_127) rfl rfl ?_
        show Steps p.tables e below (T25.setTop (mkF m 129 #[.val (.int p1), .val (.int p2), .val (.int p3), .val (.ref b4), .val (.ref b15), .val (.int mm), .val (.int xx), .val (.int bb), .val (.int ed), .unset] [(.ref b15), (.int (45 : Int32)), (.int xx)])) _
        refine XS.iconst X25.here hx rfl (hb hby at_129) ?_
        show Steps p.tables e below (T25.setTop (mkF m 130 #[.val (.int p1), .val (.int p2), .val (.int p3), .val (.ref b4), .val (.ref b15), .val (.int mm), .val (.int xx), .val (.int bb), .val (.int ed), .unset] [(.int (0 : Int32)), (.ref b15), (.int (45 : Int32)), (.int xx)])) _
        refine X25.iaload hx (j := (0 : Int32)) (v := (.int (45 : Int32))) (by rw [e25]; exact Aru57.1) (State.isArrayOf_alike hZ.alike Aru57.2.1) Aru57.2.2 hinu57 hatu57 (g := (mkF m 130 #[.val (.int p1), .val (.int p2), .val (.int p3), .val (.ref b4), .val (.ref b15), .val (.int mm), .val (.int xx), .val (.int bb), .val (.int ed), .unset] [(.int (0 : Int32)), (.ref b15), (.int (45 : Int32)), (.int xx)])) rfl rfl (hb hby at_130) _ ?_
        show Steps p.tables e below (T25.setTop (mkF m 131 #[.val (.int p1), .val (.int p2), .val (.int p3), .val (.ref b4), .val (.ref b15), .val (.int mm), .val (.int xx), .val (.int bb), .val (.int ed), .unset] [(.int (45 : Int32)), (.int (45 : Int32)), (.int xx)])) _
        refine st58 _ ?_
        show Steps p.tables e below (T58.setTop (mkF m 134 #[.val (.int p1), .val (.int p2), .val (.int p3), .val (.ref b4), .val (.ref b15), .val (.int mm), .val (.int xx), .val (.int bb), .val (.int ed), .unset] [(.int (own_in xx (45 : Int32) (45 : Int32)))])) _
        refine XS.ifNo X58.here hx rfl (hb hby at_134) rfl ((if0 _ _).trans (teq (k0 : (own_in xx (45 : Int32) (45 : Int32)) = (0 : Int32))).2) ?_
        show Steps p.tables e below (T58.setTop (mkF m 137 #[.val (.int p1), .val (.int p2), .val (.int p3), .val (.ref b4), .val (.ref b15), .val (.int mm), .val (.int xx), .val (.int bb), .val (.int ed), .unset] [])) _
        refine XS.iload X58.here hx rfl (hb hby at_137) rfl ?_
        show Steps p.tables e below (T58.setTop (mkF m 139 #[.val (.int p1), .val (.int p2), .val (.int p3), .val (.ref b4), .val (.ref b15), .val (.int mm), .val (.int xx), .val (.int bb), .val (.int ed), .unset] [(.int xx)])) _
        refine XS.aloadN X58.here hx rfl (hb hby at_139) rfl rfl ?_
        show Steps p.tables e below (T58.setTop (mkF m 140 #[.val (.int p1), .val (.int p2), .val (.int p3), .val (.ref b4), .val (.ref b15), .val (.int mm), .val (.int xx), .val (.int bb), .val (.int ed), .unset] [(.ref b4), (.int xx)])) _
        refine XS.iconst X58.here hx rfl (hb hby at_140) ?_
        show Steps p.tables e below (T58.setTop (mkF m 141 #[.val (.int p1), .val (.int p2), .val (.int p3), .val (.ref b4), .val (.ref b15), .val (.int mm), .val (.int xx), .val (.int bb), .val (.int ed), .unset] [(.int (1 : Int32)), (.ref b4), (.int xx)])) _
        refine X58.iaload hx (j := (1 : Int32)) (v := (.int (48 : Int32))) (by rw [e58]; exact Aru59.1) (State.isArrayOf_alike hZ.alike Aru59.2.1) Aru59.2.2 hinu59 hatu59 (g := (mkF m 141 #[.val (.int p1), .val (.int p2), .val (.int p3), .val (.ref b4), .val (.ref b15), .val (.int mm), .val (.int xx), .val (.int bb), .val (.int ed), .unset] [(.int (1 : Int32)), (.ref b4), (.int xx)])) rfl rfl (hb hby at_141) _ ?_
        show Steps p.tables e below (T58.setTop (mkF m 142 #[.val (.int p1), .val (.int p2), .val (.int p3), .val (.ref b4), .val (.ref b15), .val (.int mm), .val (.int xx), .val (.int bb), .val (.int ed), .unset] [(.int (48 : Int32)), (.int xx)])) _
        refine XS.aload X58.here hx rfl (hb hby at_142) rfl rfl ?_
        show Steps p.tables e below (T58.setTop (mkF m 144 #[.val (.int p1), .val (.int p2), .val (.int p3), .val (.ref b4), .val (.ref b15), .val (.int mm), .val (.int xx), .val (.int bb), .val (.int ed), .unset] [(.ref b15), (.int (48 : Int32)), (.int xx)])) _
        refine XS.iconst X58.here hx rfl (hb hby at_144) ?_
        show Steps p.tables e below (T58.setTop (mkF m 145 #[.val (.int p1), .val (.int p2), .val (.int p3), .val (.ref b4), .val (.ref b15), .val (.int mm), .val (.int xx), .val (.int bb), .val (.int ed), .unset] [(.int (1 : Int32)), (.ref b15), (.int (48 : Int32)), (.int xx)])) _
        refine X58.iaload hx (j := (1 : Int32)) (v := (.int (57 : Int32))) (by rw [e58]; exact Aru60.1) (State.isArrayOf_alike hZ.alike Aru60.2.1) Aru60.2.2 hinu60 hatu60 (g := (mkF m 145 #[.val (.int p1), .val (.int p2), .val (.int p3), .val (.ref b4), .val (.ref b15), .val (.int mm), .val (.int xx), .val (.int bb), .val (.int ed), .unset] [(.int (1 : Int32)), (.ref b15), (.int (48 : Int32)), (.int xx)])) rfl rfl (hb hby at_145) _ ?_
        show Steps p.tables e below (T58.setTop (mkF m 146 #[.val (.int p1), .val (.int p2), .val (.int p3), .val (.ref b4), .val (.ref b15), .val (.int mm), .val (.int xx), .val (.int bb), .val (.int ed), .unset] [(.int (57 : Int32)), (.int (48 : Int32)), (.int xx)])) _
        refine st61 _ ?_
        show Steps p.tables e below (T61.setTop (mkF m 149 #[.val (.int p1), .val (.int p2), .val (.int p3), .val (.ref b4), .val (.ref b15), .val (.int mm), .val (.int xx), .val (.int bb), .val (.int ed), .unset] [(.int (own_in xx (48 : Int32) (57 : Int32)))])) _
        refine XS.ifNo X61.here hx rfl (hb hby at_149) rfl ((if0 _ _).trans (teq (k1 : (own_in xx (48 : Int32) (57 : Int32)) = (0 : Int32))).2) ?_
        show Steps p.tables e below (T61.setTop (mkF m 152 #[.val (.int p1), .val (.int p2), .val (.int p3), .val (.ref b4), .val (.ref b15), .val (.int mm), .val (.int xx), .val (.int bb), .val (.int ed), .unset] [])) _
        refine XS.iload X61.here hx rfl (hb hby at_152) rfl ?_
        show Steps p.tables e below (T61.setTop (mkF m 154 #[.val (.int p1), .val (.int p2), .val (.int p3), .val (.ref b4), .val (.ref b15), .val (.int mm), .val (.int xx), .val (.int bb), .val (.int ed), .unset] [(.int xx)])) _
        refine XS.aloadN X61.here hx rfl (hb hby at_154) rfl rfl ?_
        show Steps p.tables e below (T61.setTop (mkF m 155 #[.val (.int p1), .val (.int p2), .val (.int p3), .val (.ref b4), .val (.ref b15), .val (.int mm), .val (.int xx), .val (.int bb), .val (.int ed), .unset] [(.ref b4), (.int xx)])) _
        refine XS.iconst X61.here hx rfl (hb hby at_155) ?_
        show Steps p.tables e below (T61.setTop (mkF m 156 #[.val (.int p1), .val (.int p2), .val (.int p3), .val (.ref b4), .val (.ref b15), .val (.int mm), .val (.int xx), .val (.int bb), .val (.int ed), .unset] [(.int (2 : Int32)), (.ref b4), (.int xx)])) _
        refine X61.iaload hx (j := (2 : Int32)) (v := (.int (183 : Int32))) (by rw [e61]; exact Aru62.1) (State.isArrayOf_alike hZ.alike Aru62.2.1) Aru62.2.2 hinu62 hatu62 (g := (mkF m 156 #[.val (.int p1), .val (.int p2), .val (.int p3), .val (.ref b4), .val (.ref b15), .val (.int mm), .val (.int xx), .val (.int bb), .val (.int ed), .unset] [(.int (2 : Int32)), (.ref b4), (.int xx)])) rfl rfl (hb hby at_156) _ ?_
        show Steps p.tables e below (T61.setTop (mkF m 157 #[.val (.int p1), .val (.int p2), .val (.int p3), .val (.ref b4), .val (.ref b15), .val (.int mm), .val (.int xx), .val (.int bb), .val (.int ed), .unset] [(.int (183 : Int32)), (.int xx)])) _
        refine XS.aload X61.here hx rfl (hb hby at_157) rfl rfl ?_
        show Steps p.tables e below (T61.setTop (mkF m 159 #[.val (.int p1), .val (.int p2), .val (.int p3), .val (.ref b4), .val (.ref b15), .val (.int mm), .val (.int xx), .val (.int bb), .val (.int ed), .unset] [(.ref b15), (.int (183 : Int32)), (.int xx)])) _
        refine XS.iconst X61.here hx rfl (hb hby at_159) ?_
        show Steps p.tables e below (T61.setTop (mkF m 160 #[.val (.int p1), .val (.int p2), .val (.int p3), .val (.ref b4), .val (.ref b15), .val (.int mm), .val (.int xx), .val (.int bb), .val (.int ed), .unset] [(.int (2 : Int32)), (.ref b15), (.int (183 : Int32)), (.int xx)])) _
        refine X61.iaload hx (j := (2 : Int32)) (v := (.int (183 : Int32))) (by rw [e61]; exact Aru63.1) (State.isArrayOf_alike hZ.alike Aru63.2.1) Aru63.2.2 hinu63 hatu63 (g := (mkF m 160 #[.val (.int p1), .val (.int p2), .val (.int p3), .val (.ref b4), .val (.ref b15), .val (.int mm), .val (.int xx), .val (.int bb), .val (.int ed), .unset] [(.int (2 : Int32)), (.ref b15), (.int (183 : Int32)), (.int xx)])) rfl rfl (hb hby at_160) _ ?_
        show Steps p.tables e below (T61.setTop (mkF m 161 #[.val (.int p1), .val (.int p2), .val (.int p3), .val (.ref b4), .val (.ref b15), .val (.int mm), .val (.int xx), .val (.int bb), .val (.int ed), .unset] [(.int (183 : Int32)), (.int (183 : Int32)), (.int xx)])) _
        refine st64 _ ?_
        show Steps p.tables e below (T64.setTop (mkF m 164 #[.val (.int p1), .val (.int p2), .val (.int p3), .val (.ref b4), .val (.ref b15), .val (.int mm), .val (.int xx), .val (.int bb), .val (.int ed), .unset] [(.int (own_in xx (183 : Int32) (183 : Int32)))])) _
        refine XS.ifNo X64.here hx rfl (hb hby at_164) rfl ((if0 _ _).trans (teq (k2 : (own_in xx (183 : Int32) (183 : Int32)) = (0 : Int32))).2) ?_
        show Steps p.tables e below (T64.setTop (mkF m 167 #[.val (.int p1), .val (.int p2), .val (.int p3), .val (.ref b4), .val (.ref b15), .val (.int mm), .val (.int xx), .val (.int bb), .val (.int ed), .unset] [])) _
        refine XS.iload X64.here hx rfl (hb hby at_167) rfl ?_
        show Steps p.tables e below (T64.setTop (mkF m 169 #[.val (.int p1), .val (.int p2), .val (.int p3), .val (.ref b4), .val (.ref b15), .val (.int mm), .val (.int xx), .val (.int bb), .val (.int ed), .unset] [(.int xx)])) _
        refine XS.aloadN X64.here hx rfl (hb hby at_169) rfl rfl ?_
        show Steps p.tables e below (T64.setTop (mkF m 170 #[.val (.int p1), .val (.int p2), .val (.int p3), .val (.ref b4), .val (.ref b15), .val (.int mm), .val (.int xx), .val (.int bb), .val (.int ed), .unset] [(.ref b4), (.int xx)])) _
        refine XS.iconst X64.here hx rfl (hb hby at_170) ?_
        show Steps p.tables e below (T64.setTop (mkF m 171 #[.val (.int p1), .val (.int p2), .val (.int p3), .val (.ref b4), .val (.ref b15), .val (.int mm), .val (.int xx), .val (.int bb), .val (.int ed), .unset] [(.int (3 : Int32)), (.ref b4), (.int xx)])) _
        refine X64.iaload hx (j := (3 : Int32)) (v := (.int (768 : Int32))) (by rw [e64]; exact Aru65.1) (State.isArrayOf_alike hZ.alike Aru65.2.1) Aru65.2.2 hinu65 hatu65 (g := (mkF m 171 #[.val (.int p1), .val (.int p2), .val (.int p3), .val (.ref b4), .val (.ref b15), .val (.int mm), .val (.int xx), .val (.int bb), .val (.int ed), .unset] [(.int (3 : Int32)), (.ref b4), (.int xx)])) rfl rfl (hb hby at_171) _ ?_
        show Steps p.tables e below (T64.setTop (mkF m 172 #[.val (.int p1), .val (.int p2), .val (.int p3), .val (.ref b4), .val (.ref b15), .val (.int mm), .val (.int xx), .val (.int bb), .val (.int ed), .unset] [(.int (768 : Int32)), (.int xx)])) _
        refine XS.aload X64.here hx rfl (hb hby at_172) rfl rfl ?_
        show Steps p.tables e below (T64.setTop (mkF m 174 #[.val (.int p1), .val (.int p2), .val (.int p3), .val (.ref b4), .val (.ref b15), .val (.int mm), .val (.int xx), .val (.int bb), .val (.int ed), .unset] [(.ref b15), (.int (768 : Int32)), (.int xx)])) _
        refine XS.iconst X64.here hx rfl (hb hby at_174) ?_
        show Steps p.tables e below (T64.setTop (mkF m 175 #[.val (.int p1), .val (.int p2), .val (.int p3), .val (.ref b4), .val (.ref b15), .val (.int mm), .val (.int xx), .val (.int bb), .val (.int ed), .unset] [(.int (3 : Int32)), (.ref b15), (.int (768 : Int32)), (.int xx)])) _
        refine X64.iaload hx (j := (3 : Int32)) (v := (.int (879 : Int32))) (by rw [e64]; exact Aru66.1) (State.isArrayOf_alike hZ.alike Aru66.2.1) Aru66.2.2 hinu66 hatu66 (g := (mkF m 175 #[.val (.int p1), .val (.int p2), .val (.int p3), .val (.ref b4), .val (.ref b15), .val (.int mm), .val (.int xx), .val (.int bb), .val (.int ed), .unset] [(.int (3 : Int32)), (.ref b15), (.int (768 : Int32)), (.int xx)])) rfl rfl (hb hby at_175) _ ?_
        show Steps p.tables e below (T64.setTop (mkF m 176 #[.val (.int p1), .val (.int p2), .val (.int p3), .val (.ref b4), .val (.ref b15), .val (.int mm), .val (.int xx), .val (.int bb), .val (.int ed), .unset] [(.int (879 : Int32)), (.int (768 : Int32)), (.int xx)])) _
        refine st67 _ ?_
        show Steps p.tables e below (T67.setTop (mkF m 179 #[.val (.int p1), .val (.int p2), .val (.int p3), .val (.ref b4), .val (.ref b15), .val (.int mm), .val (.int xx), .val (.int bb), .val (.int ed), .unset] [(.int (own_in xx (768 : Int32) (879 : Int32)))])) _
        refine XS.ifYes X67.here hx rfl (pc0 := 179) (pc' := 197) rfl (hb hby at_179) rfl ((if0 _ _).trans (feq (k3 : ¬ ((own_in xx (768 : Int32) (879 : Int32)) = (0 : Int32)))).2) (by decide) (by decide) ?_
        show Steps p.tables e below (T67.setTop (mkF m 197 #[.val (.int p1), .val (.int p2), .val (.int p3), .val (.ref b4), .val (.ref b15), .val (.int mm), .val (.int xx), .val (.int bb), .val (.int ed), .unset] [])) _
        refine XS.iconst X67.here hx rfl (hb hby at_197) ?_
        show Steps p.tables e below (T67.setTop (mkF m 198 #[.val (.int p1), .val (.int p2), .val (.int p3), .val (.ref b4), .val (.ref b15), .val (.int mm), .val (.int xx), .val (.int bb), .val (.int ed), .unset] [(.int (1 : Int32))])) _
        refine XS.goto X67.here hx rfl (pc0 := 198) (pc' := 202) rfl (hb hby at_198) (by decide) (by decide) ?_
        show Steps p.tables e below (T67.setTop (mkF m 202 #[.val (.int p1), .val (.int p2), .val (.int p3), .val (.ref b4), .val (.ref b15), .val (.int mm), .val (.int xx), .val (.int bb), .val (.int ed), .unset] [(.int (1 : Int32))])) _
        refine XS.istore X67.here hx rfl (hb hby at_202) rfl (l' := #[.val (.int p1), .val (.int p2), .val (.int p3), .val (.ref b4), .val (.ref b15), .val (.int mm), .val (.int xx), .val (.int (1 : Int32)), .val (.int ed), .unset]) rfl ?_
        show Steps p.tables e below (T67.setTop (mkF m 204 #[.val (.int p1), .val (.int p2), .val (.int p3), .val (.ref b4), .val (.ref b15), .val (.int mm), .val (.int xx), .val (.int (1 : Int32)), .val (.int ed), .unset] [])) _
        refine XS.iload X67.here hx rfl (hb hby at_204) rfl ?_
        show Steps p.tables e below (T67.setTop (mkF m 206 #[.val (.int p1), .val (.int p2), .val (.int p3), .val (.ref b4), .val (.ref b15), .val (.int mm), .val (.int xx), .val (.int (1 : Int32)), .val (.int ed), .unset] [(.int xx)])) _
        refine st68 _ ?_
        show Steps p.tables e below (T68.setTop (mkF m 209 #[.val (.int p1), .val (.int p2), .val (.int p3), .val (.ref b4), .val (.ref b15), .val (.int mm), .val (.int xx), .val (.int (1 : Int32)), .val (.int ed), .unset] [(.int (own_ch1 xx))])) _
        refine XS.istore X68.here hx rfl (hb hby at_209) rfl (l' := #[.val (.int p1), .val (.int p2), .val (.int p3), .val (.ref b4), .val (.ref b15), .val (.int mm), .val (.int xx), .val (.int (1 : Int32)), .val (.int (own_ch1 xx)), .unset]) rfl ?_
        show Steps p.tables e below (T68.setTop (mkF m 211 #[.val (.int p1), .val (.int p2), .val (.int p3), .val (.ref b4), .val (.ref b15), .val (.int mm), .val (.int xx), .val (.int (1 : Int32)), .val (.int (own_ch1 xx)), .unset] [])) _
        refine XS.iload X68.here hx rfl (hb hby at_211) rfl ?_
        show Steps p.tables e below (T68.setTop (mkF m 213 #[.val (.int p1), .val (.int p2), .val (.int p3), .val (.ref b4), .val (.ref b15), .val (.int mm), .val (.int xx), .val (.int (1 : Int32)), .val (.int (own_ch1 xx)), .unset] [(.int xx)])) _
        refine st69 _ ?_
        show Steps p.tables e below (T69.setTop (mkF m 216 #[.val (.int p1), .val (.int p2), .val (.int p3), .val (.ref b4), .val (.ref b15), .val (.int mm), .val (.int xx), .val (.int (1 : Int32)), .val (.int (own_ch1 xx)), .unset] [(.int (own_st1 xx))])) _
        refine XS.istore X69.here hx rfl (hb hby at_216) rfl (l' := #[.val (.int p1), .val (.int p2), .val (.int p3), .val (.ref b4), .val (.ref b15), .val (.int mm), .val (.int xx), .val (.int (1 : Int32)), .val (.int (own_ch1 xx)), .val (.int (own_st1 xx))]) rfl ?_
        show Steps p.tables e below (T69.setTop (mkF m 218 #[.val (.int p1), .val (.int p2), .val (.int p3), .val (.ref b4), .val (.ref b15), .val (.int mm), .val (.int xx), .val (.int (1 : Int32)), .val (.int (own_ch1 xx)), .val (.int (own_st1 xx))] [])) _
        refine XS.iload X69.here hx rfl (hb hby at_218) rfl ?_
        show Steps p.tables e below (T69.setTop (mkF m 220 #[.val (.int p1), .val (.int p2), .val (.int p3), .val (.ref b4), .val (.ref b15), .val (.int mm), .val (.int xx), .val (.int (1 : Int32)), .val (.int (own_ch1 xx)), .val (.int (own_st1 xx))] [(.int (own_ch1 xx))])) _
        refine XS.iload X69.here hx rfl (hb hby at_220) rfl ?_
        show Steps p.tables e below (T69.setTop (mkF m 222 #[.val (.int p1), .val (.int p2), .val (.int p3), .val (.ref b4), .val (.ref b15), .val (.int mm), .val (.int xx), .val (.int (1 : Int32)), .val (.int (own_ch1 xx)), .val (.int (own_st1 xx))] [(.int (1 : Int32)), (.int (own_ch1 xx))])) _
        refine XS.icmpNo X69.here hx rfl (hb hby at_222) rfl (teq (c1 : (own_ch1 xx) = (1 : Int32))).2 ?_
        show Steps p.tables e below (T69.setTop (mkF m 225 #[.val (.int p1), .val (.int p2), .val (.int p3), .val (.ref b4), .val (.ref b15), .val (.int mm), .val (.int xx), .val (.int (1 : Int32)), .val (.int (own_ch1 xx)), .val (.int (own_st1 xx))] [])) _
        refine XS.iload X69.here hx rfl (hb hby at_225) rfl ?_
        show Steps p.tables e below (T69.setTop (mkF m 227 #[.val (.int p1), .val (.int p2), .val (.int p3), .val (.ref b4), .val (.ref b15), .val (.int mm), .val (.int xx), .val (.int (1 : Int32)), .val (.int (own_ch1 xx)), .val (.int (own_st1 xx))] [(.int (own_ch1 xx))])) _
        refine XS.ifNo X69.here hx rfl (hb hby at_227) rfl ((if0 _ _).trans (feq (by rw [c1]; decide : ¬ ((own_ch1 xx) = (0 : Int32)))).1) ?_
        show Steps p.tables e below (T69.setTop (mkF m 230 #[.val (.int p1), .val (.int p2), .val (.int p3), .val (.ref b4), .val (.ref b15), .val (.int mm), .val (.int xx), .val (.int (1 : Int32)), .val (.int (own_ch1 xx)), .val (.int (own_st1 xx))] [])) _
        refine XS.iload X69.here hx rfl (hb hby at_230) rfl ?_
        show Steps p.tables e below (T69.setTop (mkF m 232 #[.val (.int p1), .val (.int p2), .val (.int p3), .val (.ref b4), .val (.ref b15), .val (.int mm), .val (.int xx), .val (.int (1 : Int32)), .val (.int (own_ch1 xx)), .val (.int (own_st1 xx))] [(.int (own_st1 xx))])) _
        refine XS.ifNo X69.here hx rfl (hb hby at_232) rfl ((if0 _ _).trans (teq (c2 : (own_st1 xx) = (0 : Int32))).2) ?_
        show Steps p.tables e below (T69.setTop (mkF m 235 #[.val (.int p1), .val (.int p2), .val (.int p3), .val (.ref b4), .val (.ref b15), .val (.int mm), .val (.int xx), .val (.int (1 : Int32)), .val (.int (own_ch1 xx)), .val (.int (own_st1 xx))] [])) _
        refine XS.iconst X69.here hx rfl (hb hby at_235) ?_
        show Steps p.tables e below (T69.setTop (mkF m 236 #[.val (.int p1), .val (.int p2), .val (.int p3), .val (.ref b4), .val (.ref b15), .val (.int mm), .val (.int xx), .val (.int (1 : Int32)), .val (.int (own_ch1 xx)), .val (.int (own_st1 xx))] [(.int (1 : Int32))])) _
        refine XS.goto X69.here hx rfl (pc0 := 236) (pc' := 240) rfl (hb hby at_236) (by decide) (by decide) ?_
        show Steps p.tables e below (T69.setTop (mkF m 240 #[.val (.int p1), .val (.int p2), .val (.int p3), .val (.ref b4), .val (.ref b15), .val (.int mm), .val (.int xx), .val (.int (1 : Int32)), .val (.int (own_ch1 xx)), .val (.int (own_st1 xx))] [(.int (1 : Int32))])) _
        exact retN X69 hx (t := .boolean) Bd.returns (by simp) (hb hby at_240) hr
      · show QF n0 _ T69.heap _
        rw [e69]
        exact ⟨rfl, N69⟩
    by_cases k4 : own_in xx (8255 : Int32) (8256 : Int32) = (0 : Int32)
    rotate_left
    · skip
      have dj : xx.toInt = 45 ∨ (48 ≤ xx.toInt ∧ xx.toInt ≤ 57) ∨ xx.toInt = 183 ∨ (768 ≤ xx.toInt ∧ xx.toInt ≤ 879) ∨ (8255 ≤ xx.toInt ∧ xx.toInt ≤ 8256) := by have q := own_in_nz k4; simp only [f41, f42] at q; omega
      have c1 := own_ch_p dj
      have c2 := own_st_z dj
      obtain ⟨clu70, Aru70, qu70, Su70, Mu70, Hu70, Gu70⟩ := id V_b4_25
      have hinu70 : ¬ ((0 : Int32) < 0 ∨ clu70.slots.size ≤ ((0 : Int32)).toNatClampNeg) := inb_of Su70 ⟨by decide, by decide⟩
      have hatu70 : clu70.slots[((0 : Int32)).toNatClampNeg]? = some (.int (45 : Int32)) := Hu70.at hinu70 rfl
      obtain ⟨clu71, Aru71, qu71, Su71, Mu71, Hu71, Gu71⟩ := id V_b15_25
      have hinu71 : ¬ ((0 : Int32) < 0 ∨ clu71.slots.size ≤ ((0 : Int32)).toNatClampNeg) := inb_of Su71 ⟨by decide, by decide⟩
      have hatu71 : clu71.slots[((0 : Int32)).toNatClampNeg]? = some (.int (45 : Int32)) := Hu71.at hinu71 rfl
      obtain ⟨_, _, ⟨T72, L72, k72, n72⟩, -, X72, ⟨Lc72, hQ72, l72, y72, z72⟩, st72⟩ := Jvm.LawKit.callS X25 hx (y := (⟨"com/example/liana/liana/rdf/TurtleGrammarIsNameCharacterPinLaw", "within", "(III)Z"⟩ : MethodName)) hown (mvT hZ (hw _ (List.mem_of_getElem? (i := 1) rfl))) (mvT hZ (hw _ (List.mem_of_getElem? (i := 2) rfl))) (mvT hZ (hw _ (List.mem_of_getElem? (i := 3) rfl))) (mvT hZ (hw _ (List.mem_of_getElem? (i := 4) rfl))) (by decide) (backOf (W := 0) (rm1U l Z a0 hw [] xx (45 : Int32) (45 : Int32) h25 n0 SZ25 ) hZ (hw _ (List.mem_of_getElem? (i := 4) rfl)) (hw _ (List.mem_of_getElem? (i := 3) rfl)) (by decide) (by decide)) (g := (mkF m 131 #[.val (.int p1), .val (.int p2), .val (.int p3), .val (.ref b4), .val (.ref b15), .val (.int mm), .val (.int xx), .val (.int bb), .val (.int ed), .unset] [(.int (45 : Int32)), (.int (45 : Int32)), (.int xx)])) rfl (by rw [hml]; rfl) (argsL := [(.int xx), (.int (45 : Int32)), (.int (45 : Int32))]) (rest := []) (lenOf pd_0 rfl) rfl (by show 2 * 0 + _ ≤ _; exact Nat.le_of_eq rfl) (hb hby at_131) (fun _ _ => ⟨rfl, e25, (by decide : 2 + 0 ≤ _), (by decide : 10 + 0 ≤ _)⟩)
      dsimp only [Pt.U, Pt.locs, Pt.cells, Pt.slots] at X72 l72 y72 z72 st72 hQ72
      subst l72 y72 z72
      obtain ⟨rfl, N72q, e72⟩ := hQ72
      have N72 := Fr.app N25 N72q
      obtain ⟨clu73, Aru73, qu73, Su73, Mu73, Hu73, Gu73⟩ := id V_b4_25
      have hinu73 : ¬ ((1 : Int32) < 0 ∨ clu73.slots.size ≤ ((1 : Int32)).toNatClampNeg) := inb_of Su73 ⟨by decide, by decide⟩
      have hatu73 : clu73.slots[((1 : Int32)).toNatClampNeg]? = some (.int (48 : Int32)) := Hu73.at hinu73 rfl
      obtain ⟨clu74, Aru74, qu74, Su74, Mu74, Hu74, Gu74⟩ := id V_b15_25
      have hinu74 : ¬ ((1 : Int32) < 0 ∨ clu74.slots.size ≤ ((1 : Int32)).toNatClampNeg) := inb_of Su74 ⟨by decide, by decide⟩
      have hatu74 : clu74.slots[((1 : Int32)).toNatClampNeg]? = some (.int (57 : Int32)) := Hu74.at hinu74 rfl
      obtain ⟨_, _, ⟨T75, L75, k75, n75⟩, -, X75, ⟨Lc75, hQ75, l75, y75, z75⟩, st75⟩ := Jvm.LawKit.callS X72 hx (y := (⟨"com/example/liana/liana/rdf/TurtleGrammarIsNameCharacterPinLaw", "within", "(III)Z"⟩ : MethodName)) hown (mvT hZ (hw _ (List.mem_of_getElem? (i := 1) rfl))) (mvT hZ (hw _ (List.mem_of_getElem? (i := 2) rfl))) (mvT hZ (hw _ (List.mem_of_getElem? (i := 3) rfl))) (mvT hZ (hw _ (List.mem_of_getElem? (i := 4) rfl))) (by decide) (backOf (W := 0) (rm1U l Z a0 hw [] xx (48 : Int32) (57 : Int32) h25 n0 SZ25 ) hZ (hw _ (List.mem_of_getElem? (i := 4) rfl)) (hw _ (List.mem_of_getElem? (i := 3) rfl)) (by decide) (by decide)) (g := (mkF m 146 #[.val (.int p1), .val (.int p2), .val (.int p3), .val (.ref b4), .val (.ref b15), .val (.int mm), .val (.int xx), .val (.int bb), .val (.int ed), .unset] [(.int (57 : Int32)), (.int (48 : Int32)), (.int xx)])) rfl (by rw [hml]; rfl) (argsL := [(.int xx), (.int (48 : Int32)), (.int (57 : Int32))]) (rest := []) (lenOf pd_0 rfl) rfl (by show 2 * 0 + _ ≤ _; exact Nat.le_of_eq rfl) (hb hby at_146) (fun _ _ => ⟨rfl, e72, (by decide : 2 + 0 ≤ _), (by decide : 10 + 0 ≤ _)⟩)
      dsimp only [Pt.U, Pt.locs, Pt.cells, Pt.slots] at X75 l75 y75 z75 st75 hQ75
      subst l75 y75 z75
      obtain ⟨rfl, N75q, e75⟩ := hQ75
      have N75 := Fr.app N72 N75q
      obtain ⟨clu76, Aru76, qu76, Su76, Mu76, Hu76, Gu76⟩ := id V_b4_25
      have hinu76 : ¬ ((2 : Int32) < 0 ∨ clu76.slots.size ≤ ((2 : Int32)).toNatClampNeg) := inb_of Su76 ⟨by decide, by decide⟩
      have hatu76 : clu76.slots[((2 : Int32)).toNatClampNeg]? = some (.int (183 : Int32)) := Hu76.at hinu76 rfl
      obtain ⟨clu77, Aru77, qu77, Su77, Mu77, Hu77, Gu77⟩ := id V_b15_25
      have hinu77 : ¬ ((2 : Int32) < 0 ∨ clu77.slots.size ≤ ((2 : Int32)).toNatClampNeg) := inb_of Su77 ⟨by decide, by decide⟩
      have hatu77 : clu77.slots[((2 : Int32)).toNatClampNeg]? = some (.int (183 : Int32)) := Hu77.at hinu77 rfl
      obtain ⟨_, _, ⟨T78, L78, k78, n78⟩, -, X78, ⟨Lc78, hQ78, l78, y78, z78⟩, st78⟩ := Jvm.LawKit.callS X75 hx (y := (⟨"com/example/liana/liana/rdf/TurtleGrammarIsNameCharacterPinLaw", "within", "(III)Z"⟩ : MethodName)) hown (mvT hZ (hw _ (List.mem_of_getElem? (i := 1) rfl))) (mvT hZ (hw _ (List.mem_of_getElem? (i := 2) rfl))) (mvT hZ (hw _ (List.mem_of_getElem? (i := 3) rfl))) (mvT hZ (hw _ (List.mem_of_getElem? (i := 4) rfl))) (by decide) (backOf (W := 0) (rm1U l Z a0 hw [] xx (183 : Int32) (183 : Int32) h25 n0 SZ25 ) hZ (hw _ (List.mem_of_getElem? (i := 4) rfl)) (hw _ (List.mem_of_getElem? (i := 3) rfl)) (by decide) (by decide)) (g := (mkF m 161 #[.val (.int p1), .val (.int p2), .val (.int p3), .val (.ref b4), .val (.ref b15), .val (.int mm), .val (.int xx), .val (.int bb), .val (.int ed), .unset] [(.int (183 : Int32)), (.int (183 : Int32)), (.int xx)])) rfl (by rw [hml]; rfl) (argsL := [(.int xx), (.int (183 : Int32)), (.int (183 : Int32))]) (rest := []) (lenOf pd_0 rfl) rfl (by show 2 * 0 + _ ≤ _; exact Nat.le_of_eq rfl) (hb hby at_161) (fun _ _ => ⟨rfl, e75, (by decide : 2 + 0 ≤ _), (by decide : 10 + 0 ≤ _)⟩)
      dsimp only [Pt.U, Pt.locs, Pt.cells, Pt.slots] at X78 l78 y78 z78 st78 hQ78
      subst l78 y78 z78
      obtain ⟨rfl, N78q, e78⟩ := hQ78
      have N78 := Fr.app N75 N78q
      obtain ⟨clu79, Aru79, qu79, Su79, Mu79, Hu79, Gu79⟩ := id V_b4_25
      have hinu79 : ¬ ((3 : Int32) < 0 ∨ clu79.slots.size ≤ ((3 : Int32)).toNatClampNeg) := inb_of Su79 ⟨by decide, by decide⟩
      have hatu79 : clu79.slots[((3 : Int32)).toNatClampNeg]? = some (.int (768 : Int32)) := Hu79.at hinu79 rfl
      obtain ⟨clu80, Aru80, qu80, Su80, Mu80, Hu80, Gu80⟩ := id V_b15_25
      have hinu80 : ¬ ((3 : Int32) < 0 ∨ clu80.slots.size ≤ ((3 : Int32)).toNatClampNeg) := inb_of Su80 ⟨by decide, by decide⟩
      have hatu80 : clu80.slots[((3 : Int32)).toNatClampNeg]? = some (.int (879 : Int32)) := Hu80.at hinu80 rfl
      obtain ⟨_, _, ⟨T81, L81, k81, n81⟩, -, X81, ⟨Lc81, hQ81, l81, y81, z81⟩, st81⟩ := Jvm.LawKit.callS X78 hx (y := (⟨"com/example/liana/liana/rdf/TurtleGrammarIsNameCharacterPinLaw", "within", "(III)Z"⟩ : MethodName)) hown (mvT hZ (hw _ (List.mem_of_getElem? (i := 1) rfl))) (mvT hZ (hw _ (List.mem_of_getElem? (i := 2) rfl))) (mvT hZ (hw _ (List.mem_of_getElem? (i := 3) rfl))) (mvT hZ (hw _ (List.mem_of_getElem? (i := 4) rfl))) (by decide) (backOf (W := 0) (rm1U l Z a0 hw [] xx (768 : Int32) (879 : Int32) h25 n0 SZ25 ) hZ (hw _ (List.mem_of_getElem? (i := 4) rfl)) (hw _ (List.mem_of_getElem? (i := 3) rfl)) (by decide) (by decide)) (g := (mkF m 176 #[.val (.int p1), .val (.int p2), .val (.int p3), .val (.ref b4), .val (.ref b15), .val (.int mm), .val (.int xx), .val (.int bb), .val (.int ed), .unset] [(.int (879 : Int32)), (.int (768 : Int32)), (.int xx)])) rfl (by rw [hml]; rfl) (argsL := [(.int xx), (.int (768 : Int32)), (.int (879 : Int32))]) (rest := []) (lenOf pd_0 rfl) rfl (by show 2 * 0 + _ ≤ _; exact Nat.le_of_eq rfl) (hb hby at_176) (fun _ _ => ⟨rfl, e78, (by decide : 2 + 0 ≤ _), (by decide : 10 + 0 ≤ _)⟩)
      dsimp only [Pt.U, Pt.locs, Pt.cells, Pt.slots] at X81 l81 y81 z81 st81 hQ81
      subst l81 y81 z81
      obtain ⟨rfl, N81q, e81⟩ := hQ81
      have N81 := Fr.app N78 N81q
      obtain ⟨clu82, Aru82, qu82, Su82, Mu82, Hu82, Gu82⟩ := id V_b4_25
      have hinu82 : ¬ ((4 : Int32) < 0 ∨ clu82.slots.size ≤ ((4 : Int32)).toNatClampNeg) := inb_of Su82 ⟨by decide, by decide⟩
      have hatu82 : clu82.slots[((4 : Int32)).toNatClampNeg]? = some (.int (8255 : Int32)) := Hu82.at hinu82 rfl
      obtain ⟨clu83, Aru83, qu83, Su83, Mu83, Hu83, Gu83⟩ := id V_b15_25
      have hinu83 : ¬ ((4 : Int32) < 0 ∨ clu83.slots.size ≤ ((4 : Int32)).toNatClampNeg) := inb_of Su83 ⟨by decide, by decide⟩
      have hatu83 : clu83.slots[((4 : Int32)).toNatClampNeg]? = some (.int (8256 : Int32)) := Hu83.at hinu83 rfl
      obtain ⟨_, _, ⟨T84, L84, k84, n84⟩, -, X84, ⟨Lc84, hQ84, l84, y84, z84⟩, st84⟩ := Jvm.LawKit.callS X81 hx (y := (⟨"com/example/liana/liana/rdf/TurtleGrammarIsNameCharacterPinLaw", "within", "(III)Z"⟩ : MethodName)) hown (mvT hZ (hw _ (List.mem_of_getElem? (i := 1) rfl))) (mvT hZ (hw _ (List.mem_of_getElem? (i := 2) rfl))) (mvT hZ (hw _ (List.mem_of_getElem? (i := 3) rfl))) (mvT hZ (hw _ (List.mem_of_getElem? (i := 4) rfl))) (by decide) (backOf (W := 0) (rm1U l Z a0 hw [] xx (8255 : Int32) (8256 : Int32) h25 n0 SZ25 ) hZ (hw _ (List.mem_of_getElem? (i := 4) rfl)) (hw _ (List.mem_of_getElem? (i := 3) rfl)) (by decide) (by decide)) (g := (mkF m 191 #[.val (.int p1), .val (.int p2), .val (.int p3), .val (.ref b4), .val (.ref b15), .val (.int mm), .val (.int xx), .val (.int bb), .val (.int ed), .unset] [(.int (8256 : Int32)), (.int (8255 : Int32)), (.int xx)])) rfl (by rw [hml]; rfl) (argsL := [(.int xx), (.int (8255 : Int32)), (.int (8256 : Int32))]) (rest := []) (lenOf pd_0 rfl) rfl (by show 2 * 0 + _ ≤ _; exact Nat.le_of_eq rfl) (hb hby at_191) (fun _ _ => ⟨rfl, e81, (by decide : 2 + 0 ≤ _), (by decide : 10 + 0 ≤ _)⟩)
      dsimp only [Pt.U, Pt.locs, Pt.cells, Pt.slots] at X84 l84 y84 z84 st84 hQ84
      subst l84 y84 z84
      obtain ⟨rfl, N84q, e84⟩ := hQ84
      have N84 := Fr.app N81 N84q
      obtain ⟨_, _, ⟨T85, L85, k85, n85⟩, -, X85, ⟨Lc85, hQ85, l85, y85, z85⟩, st85⟩ := Jvm.LawKit.callS X84 hx (y := (⟨"com/example/liana/liana/rdf/TurtleGrammar", "isNameCharacter", "(I)Z"⟩ : MethodName)) hown (mvT hZ (hw _ (List.mem_of_getElem? (i := 5) rfl))) (mvT hZ (hw _ (List.mem_of_getElem? (i := 6) rfl))) (mvT hZ (hw _ (List.mem_of_getElem? (i := 7) rfl))) (mvT hZ (hw _ (List.mem_of_getElem? (i := 8) rfl))) (by decide) (backOf (W := 0) (rm2 l Z a0 hw [] xx h25 n0 SZ25 ) hZ (hw _ (List.mem_of_getElem? (i := 8) rfl)) (hw _ (List.mem_of_getElem? (i := 7) rfl)) (by decide) (by decide)) (g := (mkF m 206 #[.val (.int p1), .val (.int p2), .val (.int p3), .val (.ref b4), .val (.ref b15), .val (.int mm), .val (.int xx), .val (.int (1 : Int32)), .val (.int ed), .unset] [(.int xx)])) rfl (by rw [hml]; rfl) (argsL := [(.int xx)]) (rest := []) (lenOf pd_1 rfl) rfl (by show 2 * 0 + _ ≤ _; exact Nat.le_of_eq rfl) (hb hby at_206) (fun _ _ => ⟨rfl, e84, (by decide : 2 + 0 ≤ _), (by decide : 10 + 0 ≤ _)⟩)
      dsimp only [Pt.U, Pt.locs, Pt.cells, Pt.slots] at X85 l85 y85 z85 st85 hQ85
      subst l85 y85 z85
      obtain ⟨rfl, N85q, e85⟩ := hQ85
      have N85 := Fr.app N84 N85q
      obtain ⟨_, _, ⟨T86, L86, k86, n86⟩, -, X86, ⟨Lc86, hQ86, l86, y86, z86⟩, st86⟩ := Jvm.LawKit.callS X85 hx (y := (⟨"com/example/liana/liana/rdf/TurtleGrammar", "isNameStart", "(I)Z"⟩ : MethodName)) hown (mvT hZ (hw _ (List.mem_of_getElem? (i := 9) rfl))) (mvT hZ (hw _ (List.mem_of_getElem? (i := 10) rfl))) (mvT hZ (hw _ (List.mem_of_getElem? (i := 7) rfl))) (mvT hZ (hw _ (List.mem_of_getElem? (i := 11) rfl))) (by decide) (backOf (W := 0) (rm3 l Z a0 hw [] xx h25 n0 SZ25 ) hZ (hw _ (List.mem_of_getElem? (i := 11) rfl)) (hw _ (List.mem_of_getElem? (i := 7) rfl)) (by decide) (by decide)) (g := (mkF m 213 #[.val (.int p1), .val (.int p2), .val (.int p3), .val (.ref b4), .val (.ref b15), .val (.int mm), .val (.int xx), .val (.int (1 : Int32)), .val (.int (own_ch1 xx)), .unset] [(.int xx)])) rfl (by rw [hml]; rfl) (argsL := [(.int xx)]) (rest := []) (lenOf pd_1 rfl) rfl (by show 2 * 0 + _ ≤ _; exact Nat.le_of_eq rfl) (hb hby at_213) (fun _ _ => ⟨rfl, e85, (by decide : 2 + 0 ≤ _), (by decide : 10 + 0 ≤ _)⟩)
      dsimp only [Pt.U, Pt.locs, Pt.cells, Pt.slots] at X86 l86 y86 z86 st86 hQ86
      subst l86 y86 z86
      obtain ⟨rfl, N86q, e86⟩ := hQ86
      have N86 := Fr.app N85 N86q
      obtain ⟨fs, hr, hrun, hended, hW, hsame⟩ := X86.leave (v := some (.int (1 : Int32))) (fun h => by rw [Bd.returns] at h; cases h)
      refine ⟨_, _, pre_31 _ ?_, hrun, hended, _, _, rfl, ?_, ⟨_, rfl⟩, hW, hsame.mono (by decide) (by decide)⟩
      · show Steps p.tables e below (T25.setTop (mkF m 122 #[.val (.int p1), .val (.int p2), .val (.int p3), .val (.ref b4), .val (.ref b15), .val (.int mm), .val (.int xx), .val (.int bb), .val (.int ed), .unset] [])) _
        refine XS.iload X25.here hx rfl (hb hby at_122) rfl ?_
        show Steps p.tables e below (T25.setTop (mkF m 124 #[.val (.int p1), .val (.int p2), .val (.int p3), .val (.ref b4), .val (.ref b15), .val (.int mm), .val (.int xx), .val (.int bb), .val (.int ed), .unset] [(.int xx)])) _
        refine XS.aloadN X25.here hx rfl (hb hby at_124) rfl rfl ?_
        show Steps p.tables e below (T25.setTop (mkF m 125 #[.val (.int p1), .val (.int p2), .val (.int p3), .val (.ref b4), .val (.ref b15), .val (.int mm), .val (.int xx), .val (.int bb), .val (.int ed), .unset] [(.ref b4), (.int xx)])) _
        refine XS.iconst X25.here hx rfl (hb hby at_125) ?_
        show Steps p.tables e below (T25.setTop (mkF m 126 #[.val (.int p1), .val (.int p2), .val (.int p3), .val (.ref b4), .val (.ref b15), .val (.int mm), .val (.int xx), .val (.int bb), .val (.int ed), .unset] [(.int (0 : Int32)), (.ref b4), (.int xx)])) _
        refine X25.iaload hx (j := (0 : Int32)) (v := (.int (45 : Int32))) (by rw [e25]; exact Aru70.1) (State.isArrayOf_alike hZ.alike Aru70.2.1) Aru70.2.2 hinu70 hatu70 (g := (mkF m 126 #[.val (.int p1), .val (.int p2), .val (.int p3), .val (.ref b4), .val (.ref b15), .val (.int mm), .val (.int xx), .val (.int bb), .val (.int ed), .unset] [(.int (0 : Int32)), (.ref b4), (.int xx)])) rfl rfl (hb hby at_126) _ ?_
        show Steps p.tables e below (T25.setTop (mkF m 127 #[.val (.int p1), .val (.int p2), .val (.int p3), .val (.ref b4), .val (.ref b15), .val (.int mm), .val (.int xx), .val (.int bb), .val (.int ed), .unset] [(.int (45 : Int32)), (.int xx)])) _
        refine XS.aload X25.here hx rfl (hb hby at_127) rfl rfl ?_
        show Steps p.tables e below (T25.setTop (mkF m 129 #[.val (.int p1), .val (.int p2), .val (.int p3), .val (.ref b4), .val (.ref b15), .val (.int mm), .val (.int xx), .val (.int bb), .val (.int ed), .unset] [(.ref b15), (.int (45 : Int32)), (.int xx)])) _
        refine XS.iconst X25.here hx rfl (hb hby at_129) ?_
        show Steps p.tables e below (T25.setTop (mkF m 130 #[.val (.int p1), .val (.int p2), .val (.int p3), .val (.ref b4), .val (.ref b15), .val (.int mm), .val (.int xx), .val (.int bb), .val (.int ed), .unset] [(.int (0 : Int32)), (.ref b15), (.int (45 : Int32)), (.int xx)])) _
        refine X25.iaload hx (j := (0 : Int32)) (v := (.int (45 : Int32))) (by rw [e25]; exact Aru71.1) (State.isArrayOf_alike hZ.alike Aru71.2.1) Aru71.2.2 hinu71 hatu71 (g := (mkF m 130 #[.val (.int p1), .val (.int p2), .val (.int p3), .val (.ref b4), .val (.ref b15), .val (.int mm), .val (.int xx), .val (.int bb), .val (.int ed), .unset] [(.int (0 : Int32)), (.ref b15), (.int (45 : Int32)), (.int xx)])) rfl rfl (hb hby at_130) _ ?_
        show Steps p.tables e below (T25.setTop (mkF m 131 #[.val (.int p1), .val (.int p2), .val (.int p3), .val (.ref b4), .val (.ref b15), .val (.int mm), .val (.int xx), .val (.int bb), .val (.int ed), .unset] [(.int (45 : Int32)), (.int (45 : Int32)), (.int xx)])) _
        refine st72 _ ?_
        show Steps p.tables e below (T72.setTop (mkF m 134 #[.val (.int p1), .val (.int p2), .val (.int p3), .val (.ref b4), .val (.ref b15), .val (.int mm), .val (.int xx), .val (.int bb), .val (.int ed), .unset] [(.int (own_in xx (45 : Int32) (45 : Int32)))])) _
        refine XS.ifNo X72.here hx rfl (hb hby at_134) rfl ((if0 _ _).trans (teq (k0 : (own_in xx (45 : Int32) (45 : Int32)) = (0 : Int32))).2) ?_
        show Steps p.tables e below (T72.setTop (mkF m 137 #[.val (.int p1), .val (.int p2), .val (.int p3), .val (.ref b4), .val (.ref b15), .val (.int mm), .val (.int xx), .val (.int bb), .val (.int ed), .unset] [])) _
        refine XS.iload X72.here hx rfl (hb hby at_137) rfl ?_
        show Steps p.tables e below (T72.setTop (mkF m 139 #[.val (.int p1), .val (.int p2), .val (.int p3), .val (.ref b4), .val (.ref b15), .val (.int mm), .val (.int xx), .val (.int bb), .val (.int ed), .unset] [(.int xx)])) _
        refine XS.aloadN X72.here hx rfl (hb hby at_139) rfl rfl ?_
        show Steps p.tables e below (T72.setTop (mkF m 140 #[.val (.int p1), .val (.int p2), .val (.int p3), .val (.ref b4), .val (.ref b15), .val (.int mm), .val (.int xx), .val (.int bb), .val (.int ed), .unset] [(.ref b4), (.int xx)])) _
        refine XS.iconst X72.here hx rfl (hb hby at_140) ?_
        show Steps p.tables e below (T72.setTop (mkF m 141 #[.val (.int p1), .val (.int p2), .val (.int p3), .val (.ref b4), .val (.ref b15), .val (.int mm), .val (.int xx), .val (.int bb), .val (.int ed), .unset] [(.int (1 : Int32)), (.ref b4), (.int xx)])) _
        refine X72.iaload hx (j := (1 : Int32)) (v := (.int (48 : Int32))) (by rw [e72]; exact Aru73.1) (State.isArrayOf_alike hZ.alike Aru73.2.1) Aru73.2.2 hinu73 hatu73 (g := (mkF m 141 #[.val (.int p1), .val (.int p2), .val (.int p3), .val (.ref b4), .val (.ref b15), .val (.int mm), .val (.int xx), .val (.int bb), .val (.int ed), .unset] [(.int (1 : Int32)), (.ref b4), (.int xx)])) rfl rfl (hb hby at_141) _ ?_
        show Steps p.tables e below (T72.setTop (mkF m 142 #[.val (.int p1), .val (.int p2), .val (.int p3), .val (.ref b4), .val (.ref b15), .val (.int mm), .val (.int xx), .val (.int bb), .val (.int ed), .unset] [(.int (48 : Int32)), (.int xx)])) _
        refine XS.aload X72.here hx rfl (hb hby at_142) rfl rfl ?_
        show Steps p.tables e below (T72.setTop (mkF m 144 #[.val (.int p1), .val (.int p2), .val (.int p3), .val (.ref b4), .val (.ref b15), .val (.int mm), .val (.int xx), .val (.int bb), .val (.int ed), .unset] [(.ref b15), (.int (48 : Int32)), (.int xx)])) _
        refine XS.iconst X72.here hx rfl (hb hby at_144) ?_
        show Steps p.tables e below (T72.setTop (mkF m 145 #[.val (.int p1), .val (.int p2), .val (.int p3), .val (.ref b4), .val (.ref b15), .val (.int mm), .val (.int xx), .val (.int bb), .val (.int ed), .unset] [(.int (1 : Int32)), (.ref b15), (.int (48 : Int32)), (.int xx)])) _
        refine X72.iaload hx (j := (1 : Int32)) (v := (.int (57 : Int32))) (by rw [e72]; exact Aru74.1) (State.isArrayOf_alike hZ.alike Aru74.2.1) Aru74.2.2 hinu74 hatu74 (g := (mkF m 145 #[.val (.int p1), .val (.int p2), .val (.int p3), .val (.ref b4), .val (.ref b15), .val (.int mm), .val (.int xx), .val (.int bb), .val (.int ed), .unset] [(.int (1 : Int32)), (.ref b15), (.int (48 : Int32)), (.int xx)])) rfl rfl (hb hby at_145) _ ?_
        show Steps p.tables e below (T72.setTop (mkF m 146 #[.val (.int p1), .val (.int p2), .val (.int p3), .val (.ref b4), .val (.ref b15), .val (.int mm), .val (.int xx), .val (.int bb), .val (.int ed), .unset] [(.int (57 : Int32)), (.int (48 : Int32)), (.int xx)])) _
        refine st75 _ ?_
        show Steps p.tables e below (T75.setTop (mkF m 149 #[.val (.int p1), .val (.int p2), .val (.int p3), .val (.ref b4), .val (.ref b15), .val (.int mm), .val (.int xx), .val (.int bb), .val (.int ed), .unset] [(.int (own_in xx (48 : Int32) (57 : Int32)))])) _
        refine XS.ifNo X75.here hx rfl (hb hby at_149) rfl ((if0 _ _).trans (teq (k1 : (own_in xx (48 : Int32) (57 : Int32)) = (0 : Int32))).2) ?_
        show Steps p.tables e below (T75.setTop (mkF m 152 #[.val (.int p1), .val (.int p2), .val (.int p3), .val (.ref b4), .val (.ref b15), .val (.int mm), .val (.int xx), .val (.int bb), .val (.int ed), .unset] [])) _
        refine XS.iload X75.here hx rfl (hb hby at_152) rfl ?_
        show Steps p.tables e below (T75.setTop (mkF m 154 #[.val (.int p1), .val (.int p2), .val (.int p3), .val (.ref b4), .val (.ref b15), .val (.int mm), .val (.int xx), .val (.int bb), .val (.int ed), .unset] [(.int xx)])) _
        refine XS.aloadN X75.here hx rfl (hb hby at_154) rfl rfl ?_
        show Steps p.tables e below (T75.setTop (mkF m 155 #[.val (.int p1), .val (.int p2), .val (.int p3), .val (.ref b4), .val (.ref b15), .val (.int mm), .val (.int xx), .val (.int bb), .val (.int ed), .unset] [(.ref b4), (.int xx)])) _
        refine XS.iconst X75.here hx rfl (hb hby at_155) ?_
        show Steps p.tables e below (T75.setTop (mkF m 156 #[.val (.int p1), .val (.int p2), .val (.int p3), .val (.ref b4), .val (.ref b15), .val (.int mm), .val (.int xx), .val (.int bb), .val (.int ed), .unset] [(.int (2 : Int32)), (.ref b4), (.int xx)])) _
        refine X75.iaload hx (j := (2 : Int32)) (v := (.int (183 : Int32))) (by rw [e75]; exact Aru76.1) (State.isArrayOf_alike hZ.alike Aru76.2.1) Aru76.2.2 hinu76 hatu76 (g := (mkF m 156 #[.val (.int p1), .val (.int p2), .val (.int p3), .val (.ref b4), .val (.ref b15), .val (.int mm), .val (.int xx), .val (.int bb), .val (.int ed), .unset] [(.int (2 : Int32)), (.ref b4), (.int xx)])) rfl rfl (hb hby at_156) _ ?_
        show Steps p.tables e below (T75.setTop (mkF m 157 #[.val (.int p1), .val (.int p2), .val (.int p3), .val (.ref b4), .val (.ref b15), .val (.int mm), .val (.int xx), .val (.int bb), .val (.int ed), .unset] [(.int (183 : Int32)), (.int xx)])) _
        refine XS.aload X75.here hx rfl (hb hby at_157) rfl rfl ?_
        show Steps p.tables e below (T75.setTop (mkF m 159 #[.val (.int p1), .val (.int p2), .val (.int p3), .val (.ref b4), .val (.ref b15), .val (.int mm), .val (.int xx), .val (.int bb), .val (.int ed), .unset] [(.ref b15), (.int (183 : Int32)), (.int xx)])) _
        refine XS.iconst X75.here hx rfl (hb hby at_159) ?_
        show Steps p.tables e below (T75.setTop (mkF m 160 #[.val (.int p1), .val (.int p2), .val (.int p3), .val (.ref b4), .val (.ref b15), .val (.int mm), .val (.int xx), .val (.int bb), .val (.int ed), .unset] [(.int (2 : Int32)), (.ref b15), (.int (183 : Int32)), (.int xx)])) _
        refine X75.iaload hx (j := (2 : Int32)) (v := (.int (183 : Int32))) (by rw [e75]; exact Aru77.1) (State.isArrayOf_alike hZ.alike Aru77.2.1) Aru77.2.2 hinu77 hatu77 (g := (mkF m 160 #[.val (.int p1), .val (.int p2), .val (.int p3), .val (.ref b4), .val (.ref b15), .val (.int mm), .val (.int xx), .val (.int bb), .val (.int ed), .unset] [(.int (2 : Int32)), (.ref b15), (.int (183 : Int32)), (.int xx)])) rfl rfl (hb hby at_160) _ ?_
        show Steps p.tables e below (T75.setTop (mkF m 161 #[.val (.int p1), .val (.int p2), .val (.int p3), .val (.ref b4), .val (.ref b15), .val (.int mm), .val (.int xx), .val (.int bb), .val (.int ed), .unset] [(.int (183 : Int32)), (.int (183 : Int32)), (.int xx)])) _
        refine st78 _ ?_
        show Steps p.tables e below (T78.setTop (mkF m 164 #[.val (.int p1), .val (.int p2), .val (.int p3), .val (.ref b4), .val (.ref b15), .val (.int mm), .val (.int xx), .val (.int bb), .val (.int ed), .unset] [(.int (own_in xx (183 : Int32) (183 : Int32)))])) _
        refine XS.ifNo X78.here hx rfl (hb hby at_164) rfl ((if0 _ _).trans (teq (k2 : (own_in xx (183 : Int32) (183 : Int32)) = (0 : Int32))).2) ?_
        show Steps p.tables e below (T78.setTop (mkF m 167 #[.val (.int p1), .val (.int p2), .val (.int p3), .val (.ref b4), .val (.ref b15), .val (.int mm), .val (.int xx), .val (.int bb), .val (.int ed), .unset] [])) _
        refine XS.iload X78.here hx rfl (hb hby at_167) rfl ?_
        show Steps p.tables e below (T78.setTop (mkF m 169 #[.val (.int p1), .val (.int p2), .val (.int p3), .val (.ref b4), .val (.ref b15), .val (.int mm), .val (.int xx), .val (.int bb), .val (.int ed), .unset] [(.int xx)])) _
        refine XS.aloadN X78.here hx rfl (hb hby at_169) rfl rfl ?_
        show Steps p.tables e below (T78.setTop (mkF m 170 #[.val (.int p1), .val (.int p2), .val (.int p3), .val (.ref b4), .val (.ref b15), .val (.int mm), .val (.int xx), .val (.int bb), .val (.int ed), .unset] [(.ref b4), (.int xx)])) _
        refine XS.iconst X78.here hx rfl (hb hby at_170) ?_
        show Steps p.tables e below (T78.setTop (mkF m 171 #[.val (.int p1), .val (.int p2), .val (.int p3), .val (.ref b4), .val (.ref b15), .val (.int mm), .val (.int xx), .val (.int bb), .val (.int ed), .unset] [(.int (3 : Int32)), (.ref b4), (.int xx)])) _
        refine X78.iaload hx (j := (3 : Int32)) (v := (.int (768 : Int32))) (by rw [e78]; exact Aru79.1) (State.isArrayOf_alike hZ.alike Aru79.2.1) Aru79.2.2 hinu79 hatu79 (g := (mkF m 171 #[.val (.int p1), .val (.int p2), .val (.int p3), .val (.ref b4), .val (.ref b15), .val (.int mm), .val (.int xx), .val (.int bb), .val (.int ed), .unset] [(.int (3 : Int32)), (.ref b4), (.int xx)])) rfl rfl (hb hby at_171) _ ?_
        show Steps p.tables e below (T78.setTop (mkF m 172 #[.val (.int p1), .val (.int p2), .val (.int p3), .val (.ref b4), .val (.ref b15), .val (.int mm), .val (.int xx), .val (.int bb), .val (.int ed), .unset] [(.int (768 : Int32)), (.int xx)])) _
        refine XS.aload X78.here hx rfl (hb hby at_172) rfl rfl ?_
        show Steps p.tables e below (T78.setTop (mkF m 174 #[.val (.int p1), .val (.int p2), .val (.int p3), .val (.ref b4), .val (.ref b15), .val (.int mm), .val (.int xx), .val (.int bb), .val (.int ed), .unset] [(.ref b15), (.int (768 : Int32)), (.int xx)])) _
        refine XS.iconst X78.here hx rfl (hb hby at_174) ?_
        show Steps p.tables e below (T78.setTop (mkF m 175 #[.val (.int p1), .val (.int p2), .val (.int p3), .val (.ref b4), .val (.ref b15), .val (.int mm), .val (.int xx), .val (.int bb), .val (.int ed), .unset] [(.int (3 : Int32)), (.ref b15), (.int (768 : Int32)), (.int xx)])) _
        refine X78.iaload hx (j := (3 : Int32)) (v := (.int (879 : Int32))) (by rw [e78]; exact Aru80.1) (State.isArrayOf_alike hZ.alike Aru80.2.1) Aru80.2.2 hinu80 hatu80 (g := (mkF m 175 #[.val (.int p1), .val (.int p2), .val (.int p3), .val (.ref b4), .val (.ref b15), .val (.int mm), .val (.int xx), .val (.int bb), .val (.int ed), .unset] [(.int (3 : Int32)), (.ref b15), (.int (768 : Int32)), (.int xx)])) rfl rfl (hb hby at_175) _ ?_
        show Steps p.tables e below (T78.setTop (mkF m 176 #[.val (.int p1), .val (.int p2), .val (.int p3), .val (.ref b4), .val (.ref b15), .val (.int mm), .val (.int xx), .val (.int bb), .val (.int ed), .unset] [(.int (879 : Int32)), (.int (768 : Int32)), (.int xx)])) _
        refine st81 _ ?_
        show Steps p.tables e below (T81.setTop (mkF m 179 #[.val (.int p1), .val (.int p2), .val (.int p3), .val (.ref b4), .val (.ref b15), .val (.int mm), .val (.int xx), .val (.int bb), .val (.int ed), .unset] [(.int (own_in xx (768 : Int32) (879 : Int32)))])) _
        refine XS.ifNo X81.here hx rfl (hb hby at_179) rfl ((if0 _ _).trans (teq (k3 : (own_in xx (768 : Int32) (879 : Int32)) = (0 : Int32))).2) ?_
        show Steps p.tables e below (T81.setTop (mkF m 182 #[.val (.int p1), .val (.int p2), .val (.int p3), .val (.ref b4), .val (.ref b15), .val (.int mm), .val (.int xx), .val (.int bb), .val (.int ed), .unset] [])) _
        refine XS.iload X81.here hx rfl (hb hby at_182) rfl ?_
        show Steps p.tables e below (T81.setTop (mkF m 184 #[.val (.int p1), .val (.int p2), .val (.int p3), .val (.ref b4), .val (.ref b15), .val (.int mm), .val (.int xx), .val (.int bb), .val (.int ed), .unset] [(.int xx)])) _
        refine XS.aloadN X81.here hx rfl (hb hby at_184) rfl rfl ?_
        show Steps p.tables e below (T81.setTop (mkF m 185 #[.val (.int p1), .val (.int p2), .val (.int p3), .val (.ref b4), .val (.ref b15), .val (.int mm), .val (.int xx), .val (.int bb), .val (.int ed), .unset] [(.ref b4), (.int xx)])) _
        refine XS.iconst X81.here hx rfl (hb hby at_185) ?_
        show Steps p.tables e below (T81.setTop (mkF m 186 #[.val (.int p1), .val (.int p2), .val (.int p3), .val (.ref b4), .val (.ref b15), .val (.int mm), .val (.int xx), .val (.int bb), .val (.int ed), .unset] [(.int (4 : Int32)), (.ref b4), (.int xx)])) _
        refine X81.iaload hx (j := (4 : Int32)) (v := (.int (8255 : Int32))) (by rw [e81]; exact Aru82.1) (State.isArrayOf_alike hZ.alike Aru82.2.1) Aru82.2.2 hinu82 hatu82 (g := (mkF m 186 #[.val (.int p1), .val (.int p2), .val (.int p3), .val (.ref b4), .val (.ref b15), .val (.int mm), .val (.int xx), .val (.int bb), .val (.int ed), .unset] [(.int (4 : Int32)), (.ref b4), (.int xx)])) rfl rfl (hb hby at_186) _ ?_
        show Steps p.tables e below (T81.setTop (mkF m 187 #[.val (.int p1), .val (.int p2), .val (.int p3), .val (.ref b4), .val (.ref b15), .val (.int mm), .val (.int xx), .val (.int bb), .val (.int ed), .unset] [(.int (8255 : Int32)), (.int xx)])) _
        refine XS.aload X81.here hx rfl (hb hby at_187) rfl rfl ?_
        show Steps p.tables e below (T81.setTop (mkF m 189 #[.val (.int p1), .val (.int p2), .val (.int p3), .val (.ref b4), .val (.ref b15), .val (.int mm), .val (.int xx), .val (.int bb), .val (.int ed), .unset] [(.ref b15), (.int (8255 : Int32)), (.int xx)])) _
        refine XS.iconst X81.here hx rfl (hb hby at_189) ?_
        show Steps p.tables e below (T81.setTop (mkF m 190 #[.val (.int p1), .val (.int p2), .val (.int p3), .val (.ref b4), .val (.ref b15), .val (.int mm), .val (.int xx), .val (.int bb), .val (.int ed), .unset] [(.int (4 : Int32)), (.ref b15), (.int (8255 : Int32)), (.int xx)])) _
        refine X81.iaload hx (j := (4 : Int32)) (v := (.int (8256 : Int32))) (by rw [e81]; exact Aru83.1) (State.isArrayOf_alike hZ.alike Aru83.2.1) Aru83.2.2 hinu83 hatu83 (g := (mkF m 190 #[.val (.int p1), .val (.int p2), .val (.int p3), .val (.ref b4), .val (.ref b15), .val (.int mm), .val (.int xx), .val (.int bb), .val (.int ed), .unset] [(.int (4 : Int32)), (.ref b15), (.int (8255 : Int32)), (.int xx)])) rfl rfl (hb hby at_190) _ ?_
        show Steps p.tables e below (T81.setTop (mkF m 191 #[.val (.int p1), .val (.int p2), .val (.int p3), .val (.ref b4), .val (.ref b15), .val (.int mm), .val (.int xx), .val (.int bb), .val (.int ed), .unset] [(.int (8256 : Int32)), (.int (8255 : Int32)), (.int xx)])) _
        refine st84 _ ?_
        show Steps p.tables e below (T84.setTop (mkF m 194 #[.val (.int p1), .val (.int p2), .val (.int p3), .val (.ref b4), .val (.ref b15), .val (.int mm), .val (.int xx), .val (.int bb), .val (.int ed), .unset] [(.int (own_in xx (8255 : Int32) (8256 : Int32)))])) _
        refine XS.ifNo X84.here hx rfl (hb hby at_194) rfl ((if0 _ _).trans (feq (k4 : ¬ ((own_in xx (8255 : Int32) (8256 : Int32)) = (0 : Int32)))).1) ?_
        show Steps p.tables e below (T84.setTop (mkF m 197 #[.val (.int p1), .val (.int p2), .val (.int p3), .val (.ref b4), .val (.ref b15), .val (.int mm), .val (.int xx), .val (.int bb), .val (.int ed), .unset] [])) _
        refine XS.iconst X84.here hx rfl (hb hby at_197) ?_
        show Steps p.tables e below (T84.setTop (mkF m 198 #[.val (.int p1), .val (.int p2), .val (.int p3), .val (.ref b4), .val (.ref b15), .val (.int mm), .val (.int xx), .val (.int bb), .val (.int ed), .unset] [(.int (1 : Int32))])) _
        refine XS.goto X84.here hx rfl (pc0 := 198) (pc' := 202) rfl (hb hby at_198) (by decide) (by decide) ?_
        show Steps p.tables e below (T84.setTop (mkF m 202 #[.val (.int p1), .val (.int p2), .val (.int p3), .val (.ref b4), .val (.ref b15), .val (.int mm), .val (.int xx), .val (.int bb), .val (.int ed), .unset] [(.int (1 : Int32))])) _
        refine XS.istore X84.here hx rfl (hb hby at_202) rfl (l' := #[.val (.int p1), .val (.int p2), .val (.int p3), .val (.ref b4), .val (.ref b15), .val (.int mm), .val (.int xx), .val (.int (1 : Int32)), .val (.int ed), .unset]) rfl ?_
        show Steps p.tables e below (T84.setTop (mkF m 204 #[.val (.int p1), .val (.int p2), .val (.int p3), .val (.ref b4), .val (.ref b15), .val (.int mm), .val (.int xx), .val (.int (1 : Int32)), .val (.int ed), .unset] [])) _
        refine XS.iload X84.here hx rfl (hb hby at_204) rfl ?_
        show Steps p.tables e below (T84.setTop (mkF m 206 #[.val (.int p1), .val (.int p2), .val (.int p3), .val (.ref b4), .val (.ref b15), .val (.int mm), .val (.int xx), .val (.int (1 : Int32)), .val (.int ed), .unset] [(.int xx)])) _
        refine st85 _ ?_
        show Steps p.tables e below (T85.setTop (mkF m 209 #[.val (.int p1), .val (.int p2), .val (.int p3), .val (.ref b4), .val (.ref b15), .val (.int mm), .val (.int xx), .val (.int (1 : Int32)), .val (.int ed), .unset] [(.int (own_ch1 xx))])) _
        refine XS.istore X85.here hx rfl (hb hby at_209) rfl (l' := #[.val (.int p1), .val (.int p2), .val (.int p3), .val (.ref b4), .val (.ref b15), .val (.int mm), .val (.int xx), .val (.int (1 : Int32)), .val (.int (own_ch1 xx)), .unset]) rfl ?_
        show Steps p.tables e below (T85.setTop (mkF m 211 #[.val (.int p1), .val (.int p2), .val (.int p3), .val (.ref b4), .val (.ref b15), .val (.int mm), .val (.int xx), .val (.int (1 : Int32)), .val (.int (own_ch1 xx)), .unset] [])) _
        refine XS.iload X85.here hx rfl (hb hby at_211) rfl ?_
        show Steps p.tables e below (T85.setTop (mkF m 213 #[.val (.int p1), .val (.int p2), .val (.int p3), .val (.ref b4), .val (.ref b15), .val (.int mm), .val (.int xx), .val (.int (1 : Int32)), .val (.int (own_ch1 xx)), .unset] [(.int xx)])) _
        refine st86 _ ?_
        show Steps p.tables e below (T86.setTop (mkF m 216 #[.val (.int p1), .val (.int p2), .val (.int p3), .val (.ref b4), .val (.ref b15), .val (.int mm), .val (.int xx), .val (.int (1 : Int32)), .val (.int (own_ch1 xx)), .unset] [(.int (own_st1 xx))])) _
        refine XS.istore X86.here hx rfl (hb hby at_216) rfl (l' := #[.val (.int p1), .val (.int p2), .val (.int p3), .val (.ref b4), .val (.ref b15), .val (.int mm), .val (.int xx), .val (.int (1 : Int32)), .val (.int (own_ch1 xx)), .val (.int (own_st1 xx))]) rfl ?_
        show Steps p.tables e below (T86.setTop (mkF m 218 #[.val (.int p1), .val (.int p2), .val (.int p3), .val (.ref b4), .val (.ref b15), .val (.int mm), .val (.int xx), .val (.int (1 : Int32)), .val (.int (own_ch1 xx)), .val (.int (own_st1 xx))] [])) _
        refine XS.iload X86.here hx rfl (hb hby at_218) rfl ?_
        show Steps p.tables e below (T86.setTop (mkF m 220 #[.val (.int p1), .val (.int p2), .val (.int p3), .val (.ref b4), .val (.ref b15), .val (.int mm), .val (.int xx), .val (.int (1 : Int32)), .val (.int (own_ch1 xx)), .val (.int (own_st1 xx))] [(.int (own_ch1 xx))])) _
        refine XS.iload X86.here hx rfl (hb hby at_220) rfl ?_
        show Steps p.tables e below (T86.setTop (mkF m 222 #[.val (.int p1), .val (.int p2), .val (.int p3), .val (.ref b4), .val (.ref b15), .val (.int mm), .val (.int xx), .val (.int (1 : Int32)), .val (.int (own_ch1 xx)), .val (.int (own_st1 xx))] [(.int (1 : Int32)), (.int (own_ch1 xx))])) _
        refine XS.icmpNo X86.here hx rfl (hb hby at_222) rfl (teq (c1 : (own_ch1 xx) = (1 : Int32))).2 ?_
        show Steps p.tables e below (T86.setTop (mkF m 225 #[.val (.int p1), .val (.int p2), .val (.int p3), .val (.ref b4), .val (.ref b15), .val (.int mm), .val (.int xx), .val (.int (1 : Int32)), .val (.int (own_ch1 xx)), .val (.int (own_st1 xx))] [])) _
        refine XS.iload X86.here hx rfl (hb hby at_225) rfl ?_
        show Steps p.tables e below (T86.setTop (mkF m 227 #[.val (.int p1), .val (.int p2), .val (.int p3), .val (.ref b4), .val (.ref b15), .val (.int mm), .val (.int xx), .val (.int (1 : Int32)), .val (.int (own_ch1 xx)), .val (.int (own_st1 xx))] [(.int (own_ch1 xx))])) _
        refine XS.ifNo X86.here hx rfl (hb hby at_227) rfl ((if0 _ _).trans (feq (by rw [c1]; decide : ¬ ((own_ch1 xx) = (0 : Int32)))).1) ?_
        show Steps p.tables e below (T86.setTop (mkF m 230 #[.val (.int p1), .val (.int p2), .val (.int p3), .val (.ref b4), .val (.ref b15), .val (.int mm), .val (.int xx), .val (.int (1 : Int32)), .val (.int (own_ch1 xx)), .val (.int (own_st1 xx))] [])) _
        refine XS.iload X86.here hx rfl (hb hby at_230) rfl ?_
        show Steps p.tables e below (T86.setTop (mkF m 232 #[.val (.int p1), .val (.int p2), .val (.int p3), .val (.ref b4), .val (.ref b15), .val (.int mm), .val (.int xx), .val (.int (1 : Int32)), .val (.int (own_ch1 xx)), .val (.int (own_st1 xx))] [(.int (own_st1 xx))])) _
        refine XS.ifNo X86.here hx rfl (hb hby at_232) rfl ((if0 _ _).trans (teq (c2 : (own_st1 xx) = (0 : Int32))).2) ?_
        show Steps p.tables e below (T86.setTop (mkF m 235 #[.val (.int p1), .val (.int p2), .val (.int p3), .val (.ref b4), .val (.ref b15), .val (.int mm), .val (.int xx), .val (.int (1 : Int32)), .val (.int (own_ch1 xx)), .val (.int (own_st1 xx))] [])) _
        refine XS.iconst X86.here hx rfl (hb hby at_235) ?_
        show Steps p.tables e below (T86.setTop (mkF m 236 #[.val (.int p1), .val (.int p2), .val (.int p3), .val (.ref b4), .val (.ref b15), .val (.int mm), .val (.int xx), .val (.int (1 : Int32)), .val (.int (own_ch1 xx)), .val (.int (own_st1 xx))] [(.int (1 : Int32))])) _
        refine XS.goto X86.here hx rfl (pc0 := 236) (pc' := 240) rfl (hb hby at_236) (by decide) (by decide) ?_
        show Steps p.tables e below (T86.setTop (mkF m 240 #[.val (.int p1), .val (.int p2), .val (.int p3), .val (.ref b4), .val (.ref b15), .val (.int mm), .val (.int xx), .val (.int (1 : Int32)), .val (.int (own_ch1 xx)), .val (.int (own_st1 xx))] [(.int (1 : Int32))])) _
        exact retN X86 hx (t := .boolean) Bd.returns (by simp) (hb hby at_240) hr
      · show QF n0 _ T86.heap _
        rw [e86]
        exact ⟨rfl, N86⟩
    have dn : ¬ (xx.toInt = 45 ∨ (48 ≤ xx.toInt ∧ xx.toInt ≤ 57) ∨ xx.toInt = 183 ∨ (768 ≤ xx.toInt ∧ xx.toInt ≤ 879) ∨ (8255 ≤ xx.toInt ∧ xx.toInt ≤ 8256)) := by
      have q0 := own_in_z k0; simp only [f01, f02] at q0
      have q1 := own_in_z k1; simp only [f11, f12] at q1
      have q2 := own_in_z k2; simp only [f21, f22] at q2
      have q3 := own_in_z k3; simp only [f31, f32] at q3
      have q4 := own_in_z k4; simp only [f41, f42] at q4
      omega
    have c1 := own_ch_n dn
    obtain ⟨clu87, Aru87, qu87, Su87, Mu87, Hu87, Gu87⟩ := id V_b4_25
    have hinu87 : ¬ ((0 : Int32) < 0 ∨ clu87.slots.size ≤ ((0 : Int32)).toNatClampNeg) := inb_of Su87 ⟨by decide, by decide⟩
    have hatu87 : clu87.slots[((0 : Int32)).toNatClampNeg]? = some (.int (45 : Int32)) := Hu87.at hinu87 rfl
    obtain ⟨clu88, Aru88, qu88, Su88, Mu88, Hu88, Gu88⟩ := id V_b15_25
    have hinu88 : ¬ ((0 : Int32) < 0 ∨ clu88.slots.size ≤ ((0 : Int32)).toNatClampNeg) := inb_of Su88 ⟨by decide, by decide⟩
    have hatu88 : clu88.slots[((0 : Int32)).toNatClampNeg]? = some (.int (45 : Int32)) := Hu88.at hinu88 rfl
    obtain ⟨_, _, ⟨T89, L89, k89, n89⟩, -, X89, ⟨Lc89, hQ89, l89, y89, z89⟩, st89⟩ := Jvm.LawKit.callS X25 hx (y := (⟨"com/example/liana/liana/rdf/TurtleGrammarIsNameCharacterPinLaw", "within", "(III)Z"⟩ : MethodName)) hown (mvT hZ (hw _ (List.mem_of_getElem? (i := 1) rfl))) (mvT hZ (hw _ (List.mem_of_getElem? (i := 2) rfl))) (mvT hZ (hw _ (List.mem_of_getElem? (i := 3) rfl))) (mvT hZ (hw _ (List.mem_of_getElem? (i := 4) rfl))) (by decide) (backOf (W := 0) (rm1U l Z a0 hw [] xx (45 : Int32) (45 : Int32) h25 n0 SZ25 ) hZ (hw _ (List.mem_of_getElem? (i := 4) rfl)) (hw _ (List.mem_of_getElem? (i := 3) rfl)) (by decide) (by decide)) (g := (mkF m 131 #[.val (.int p1), .val (.int p2), .val (.int p3), .val (.ref b4), .val (.ref b15), .val (.int mm), .val (.int xx), .val (.int bb), .val (.int ed), .unset] [(.int (45 : Int32)), (.int (45 : Int32)), (.int xx)])) rfl (by rw [hml]; rfl) (argsL := [(.int xx), (.int (45 : Int32)), (.int (45 : Int32))]) (rest := []) (lenOf pd_0 rfl) rfl (by show 2 * 0 + _ ≤ _; exact Nat.le_of_eq rfl) (hb hby at_131) (fun _ _ => ⟨rfl, e25, (by decide : 2 + 0 ≤ _), (by decide : 10 + 0 ≤ _)⟩)
    dsimp only [Pt.U, Pt.locs, Pt.cells, Pt.slots] at X89 l89 y89 z89 st89 hQ89
    subst l89 y89 z89
    obtain ⟨rfl, N89q, e89⟩ := hQ89
    have N89 := Fr.app N25 N89q
    obtain ⟨clu90, Aru90, qu90, Su90, Mu90, Hu90, Gu90⟩ := id V_b4_25
    have hinu90 : ¬ ((1 : Int32) < 0 ∨ clu90.slots.size ≤ ((1 : Int32)).toNatClampNeg) := inb_of Su90 ⟨by decide, by decide⟩
    have hatu90 : clu90.slots[((1 : Int32)).toNatClampNeg]? = some (.int (48 : Int32)) := Hu90.at hinu90 rfl
    obtain ⟨clu91, Aru91, qu91, Su91, Mu91, Hu91, Gu91⟩ := id V_b15_25
    have hinu91 : ¬ ((1 : Int32) < 0 ∨ clu91.slots.size ≤ ((1 : Int32)).toNatClampNeg) := inb_of Su91 ⟨by decide, by decide⟩
    have hatu91 : clu91.slots[((1 : Int32)).toNatClampNeg]? = some (.int (57 : Int32)) := Hu91.at hinu91 rfl
    obtain ⟨_, _, ⟨T92, L92, k92, n92⟩, -, X92, ⟨Lc92, hQ92, l92, y92, z92⟩, st92⟩ := Jvm.LawKit.callS X89 hx (y := (⟨"com/example/liana/liana/rdf/TurtleGrammarIsNameCharacterPinLaw", "within", "(III)Z"⟩ : MethodName)) hown (mvT hZ (hw _ (List.mem_of_getElem? (i := 1) rfl))) (mvT hZ (hw _ (List.mem_of_getElem? (i := 2) rfl))) (mvT hZ (hw _ (List.mem_of_getElem? (i := 3) rfl))) (mvT hZ (hw _ (List.mem_of_getElem? (i := 4) rfl))) (by decide) (backOf (W := 0) (rm1U l Z a0 hw [] xx (48 : Int32) (57 : Int32) h25 n0 SZ25 ) hZ (hw _ (List.mem_of_getElem? (i := 4) rfl)) (hw _ (List.mem_of_getElem? (i := 3) rfl)) (by decide) (by decide)) (g := (mkF m 146 #[.val (.int p1), .val (.int p2), .val (.int p3), .val (.ref b4), .val (.ref b15), .val (.int mm), .val (.int xx), .val (.int bb), .val (.int ed), .unset] [(.int (57 : Int32)), (.int (48 : Int32)), (.int xx)])) rfl (by rw [hml]; rfl) (argsL := [(.int xx), (.int (48 : Int32)), (.int (57 : Int32))]) (rest := []) (lenOf pd_0 rfl) rfl (by show 2 * 0 + _ ≤ _; exact Nat.le_of_eq rfl) (hb hby at_146) (fun _ _ => ⟨rfl, e89, (by decide : 2 + 0 ≤ _), (by decide : 10 + 0 ≤ _)⟩)
    dsimp only [Pt.U, Pt.locs, Pt.cells, Pt.slots] at X92 l92 y92 z92 st92 hQ92
    subst l92 y92 z92
    obtain ⟨rfl, N92q, e92⟩ := hQ92
    have N92 := Fr.app N89 N92q
    obtain ⟨clu93, Aru93, qu93, Su93, Mu93, Hu93, Gu93⟩ := id V_b4_25
    have hinu93 : ¬ ((2 : Int32) < 0 ∨ clu93.slots.size ≤ ((2 : Int32)).toNatClampNeg) := inb_of Su93 ⟨by decide, by decide⟩
    have hatu93 : clu93.slots[((2 : Int32)).toNatClampNeg]? = some (.int (183 : Int32)) := Hu93.at hinu93 rfl
    obtain ⟨clu94, Aru94, qu94, Su94, Mu94, Hu94, Gu94⟩ := id V_b15_25
    have hinu94 : ¬ ((2 : Int32) < 0 ∨ clu94.slots.size ≤ ((2 : Int32)).toNatClampNeg) := inb_of Su94 ⟨by decide, by decide⟩
    have hatu94 : clu94.slots[((2 : Int32)).toNatClampNeg]? = some (.int (183 : Int32)) := Hu94.at hinu94 rfl
    obtain ⟨_, _, ⟨T95, L95, k95, n95⟩, -, X95, ⟨Lc95, hQ95, l95, y95, z95⟩, st95⟩ := Jvm.LawKit.callS X92 hx (y := (⟨"com/example/liana/liana/rdf/TurtleGrammarIsNameCharacterPinLaw", "within", "(III)Z"⟩ : MethodName)) hown (mvT hZ (hw _ (List.mem_of_getElem? (i := 1) rfl))) (mvT hZ (hw _ (List.mem_of_getElem? (i := 2) rfl))) (mvT hZ (hw _ (List.mem_of_getElem? (i := 3) rfl))) (mvT hZ (hw _ (List.mem_of_getElem? (i := 4) rfl))) (by decide) (backOf (W := 0) (rm1U l Z a0 hw [] xx (183 : Int32) (183 : Int32) h25 n0 SZ25 ) hZ (hw _ (List.mem_of_getElem? (i := 4) rfl)) (hw _ (List.mem_of_getElem? (i := 3) rfl)) (by decide) (by decide)) (g := (mkF m 161 #[.val (.int p1), .val (.int p2), .val (.int p3), .val (.ref b4), .val (.ref b15), .val (.int mm), .val (.int xx), .val (.int bb), .val (.int ed), .unset] [(.int (183 : Int32)), (.int (183 : Int32)), (.int xx)])) rfl (by rw [hml]; rfl) (argsL := [(.int xx), (.int (183 : Int32)), (.int (183 : Int32))]) (rest := []) (lenOf pd_0 rfl) rfl (by show 2 * 0 + _ ≤ _; exact Nat.le_of_eq rfl) (hb hby at_161) (fun _ _ => ⟨rfl, e92, (by decide : 2 + 0 ≤ _), (by decide : 10 + 0 ≤ _)⟩)
    dsimp only [Pt.U, Pt.locs, Pt.cells, Pt.slots] at X95 l95 y95 z95 st95 hQ95
    subst l95 y95 z95
    obtain ⟨rfl, N95q, e95⟩ := hQ95
    have N95 := Fr.app N92 N95q
    obtain ⟨clu96, Aru96, qu96, Su96, Mu96, Hu96, Gu96⟩ := id V_b4_25
    have hinu96 : ¬ ((3 : Int32) < 0 ∨ clu96.slots.size ≤ ((3 : Int32)).toNatClampNeg) := inb_of Su96 ⟨by decide, by decide⟩
    have hatu96 : clu96.slots[((3 : Int32)).toNatClampNeg]? = some (.int (768 : Int32)) := Hu96.at hinu96 rfl
    obtain ⟨clu97, Aru97, qu97, Su97, Mu97, Hu97, Gu97⟩ := id V_b15_25
    have hinu97 : ¬ ((3 : Int32) < 0 ∨ clu97.slots.size ≤ ((3 : Int32)).toNatClampNeg) := inb_of Su97 ⟨by decide, by decide⟩
    have hatu97 : clu97.slots[((3 : Int32)).toNatClampNeg]? = some (.int (879 : Int32)) := Hu97.at hinu97 rfl
    obtain ⟨_, _, ⟨T98, L98, k98, n98⟩, -, X98, ⟨Lc98, hQ98, l98, y98, z98⟩, st98⟩ := Jvm.LawKit.callS X95 hx (y := (⟨"com/example/liana/liana/rdf/TurtleGrammarIsNameCharacterPinLaw", "within", "(III)Z"⟩ : MethodName)) hown (mvT hZ (hw _ (List.mem_of_getElem? (i := 1) rfl))) (mvT hZ (hw _ (List.mem_of_getElem? (i := 2) rfl))) (mvT hZ (hw _ (List.mem_of_getElem? (i := 3) rfl))) (mvT hZ (hw _ (List.mem_of_getElem? (i := 4) rfl))) (by decide) (backOf (W := 0) (rm1U l Z a0 hw [] xx (768 : Int32) (879 : Int32) h25 n0 SZ25 ) hZ (hw _ (List.mem_of_getElem? (i := 4) rfl)) (hw _ (List.mem_of_getElem? (i := 3) rfl)) (by decide) (by decide)) (g := (mkF m 176 #[.val (.int p1), .val (.int p2), .val (.int p3), .val (.ref b4), .val (.ref b15), .val (.int mm), .val (.int xx), .val (.int bb), .val (.int ed), .unset] [(.int (879 : Int32)), (.int (768 : Int32)), (.int xx)])) rfl (by rw [hml]; rfl) (argsL := [(.int xx), (.int (768 : Int32)), (.int (879 : Int32))]) (rest := []) (lenOf pd_0 rfl) rfl (by show 2 * 0 + _ ≤ _; exact Nat.le_of_eq rfl) (hb hby at_176) (fun _ _ => ⟨rfl, e95, (by decide : 2 + 0 ≤ _), (by decide : 10 + 0 ≤ _)⟩)
    dsimp only [Pt.U, Pt.locs, Pt.cells, Pt.slots] at X98 l98 y98 z98 st98 hQ98
    subst l98 y98 z98
    obtain ⟨rfl, N98q, e98⟩ := hQ98
    have N98 := Fr.app N95 N98q
    obtain ⟨clu99, Aru99, qu99, Su99, Mu99, Hu99, Gu99⟩ := id V_b4_25
    have hinu99 : ¬ ((4 : Int32) < 0 ∨ clu99.slots.size ≤ ((4 : Int32)).toNatClampNeg) := inb_of Su99 ⟨by decide, by decide⟩
    have hatu99 : clu99.slots[((4 : Int32)).toNatClampNeg]? = some (.int (8255 : Int32)) := Hu99.at hinu99 rfl
    obtain ⟨clu100, Aru100, qu100, Su100, Mu100, Hu100, Gu100⟩ := id V_b15_25
    have hinu100 : ¬ ((4 : Int32) < 0 ∨ clu100.slots.size ≤ ((4 : Int32)).toNatClampNeg) := inb_of Su100 ⟨by decide, by decide⟩
    have hatu100 : clu100.slots[((4 : Int32)).toNatClampNeg]? = some (.int (8256 : Int32)) := Hu100.at hinu100 rfl
    obtain ⟨_, _, ⟨T101, L101, k101, n101⟩, -, X101, ⟨Lc101, hQ101, l101, y101, z101⟩, st101⟩ := Jvm.LawKit.callS X98 hx (y := (⟨"com/example/liana/liana/rdf/TurtleGrammarIsNameCharacterPinLaw", "within", "(III)Z"⟩ : MethodName)) hown (mvT hZ (hw _ (List.mem_of_getElem? (i := 1) rfl))) (mvT hZ (hw _ (List.mem_of_getElem? (i := 2) rfl))) (mvT hZ (hw _ (List.mem_of_getElem? (i := 3) rfl))) (mvT hZ (hw _ (List.mem_of_getElem? (i := 4) rfl))) (by decide) (backOf (W := 0) (rm1U l Z a0 hw [] xx (8255 : Int32) (8256 : Int32) h25 n0 SZ25 ) hZ (hw _ (List.mem_of_getElem? (i := 4) rfl)) (hw _ (List.mem_of_getElem? (i := 3) rfl)) (by decide) (by decide)) (g := (mkF m 191 #[.val (.int p1), .val (.int p2), .val (.int p3), .val (.ref b4), .val (.ref b15), .val (.int mm), .val (.int xx), .val (.int bb), .val (.int ed), .unset] [(.int (8256 : Int32)), (.int (8255 : Int32)), (.int xx)])) rfl (by rw [hml]; rfl) (argsL := [(.int xx), (.int (8255 : Int32)), (.int (8256 : Int32))]) (rest := []) (lenOf pd_0 rfl) rfl (by show 2 * 0 + _ ≤ _; exact Nat.le_of_eq rfl) (hb hby at_191) (fun _ _ => ⟨rfl, e98, (by decide : 2 + 0 ≤ _), (by decide : 10 + 0 ≤ _)⟩)
    dsimp only [Pt.U, Pt.locs, Pt.cells, Pt.slots] at X101 l101 y101 z101 st101 hQ101
    subst l101 y101 z101
    obtain ⟨rfl, N101q, e101⟩ := hQ101
    have N101 := Fr.app N98 N101q
    obtain ⟨_, _, ⟨T102, L102, k102, n102⟩, -, X102, ⟨Lc102, hQ102, l102, y102, z102⟩, st102⟩ := Jvm.LawKit.callS X101 hx (y := (⟨"com/example/liana/liana/rdf/TurtleGrammar", "isNameCharacter", "(I)Z"⟩ : MethodName)) hown (mvT hZ (hw _ (List.mem_of_getElem? (i := 5) rfl))) (mvT hZ (hw _ (List.mem_of_getElem? (i := 6) rfl))) (mvT hZ (hw _ (List.mem_of_getElem? (i := 7) rfl))) (mvT hZ (hw _ (List.mem_of_getElem? (i := 8) rfl))) (by decide) (backOf (W := 0) (rm2 l Z a0 hw [] xx h25 n0 SZ25 ) hZ (hw _ (List.mem_of_getElem? (i := 8) rfl)) (hw _ (List.mem_of_getElem? (i := 7) rfl)) (by decide) (by decide)) (g := (mkF m 206 #[.val (.int p1), .val (.int p2), .val (.int p3), .val (.ref b4), .val (.ref b15), .val (.int mm), .val (.int xx), .val (.int (0 : Int32)), .val (.int ed), .unset] [(.int xx)])) rfl (by rw [hml]; rfl) (argsL := [(.int xx)]) (rest := []) (lenOf pd_1 rfl) rfl (by show 2 * 0 + _ ≤ _; exact Nat.le_of_eq rfl) (hb hby at_206) (fun _ _ => ⟨rfl, e101, (by decide : 2 + 0 ≤ _), (by decide : 10 + 0 ≤ _)⟩)
    dsimp only [Pt.U, Pt.locs, Pt.cells, Pt.slots] at X102 l102 y102 z102 st102 hQ102
    subst l102 y102 z102
    obtain ⟨rfl, N102q, e102⟩ := hQ102
    have N102 := Fr.app N101 N102q
    obtain ⟨_, _, ⟨T103, L103, k103, n103⟩, -, X103, ⟨Lc103, hQ103, l103, y103, z103⟩, st103⟩ := Jvm.LawKit.callS X102 hx (y := (⟨"com/example/liana/liana/rdf/TurtleGrammar", "isNameStart", "(I)Z"⟩ : MethodName)) hown (mvT hZ (hw _ (List.mem_of_getElem? (i := 9) rfl))) (mvT hZ (hw _ (List.mem_of_getElem? (i := 10) rfl))) (mvT hZ (hw _ (List.mem_of_getElem? (i := 7) rfl))) (mvT hZ (hw _ (List.mem_of_getElem? (i := 11) rfl))) (by decide) (backOf (W := 0) (rm3 l Z a0 hw [] xx h25 n0 SZ25 ) hZ (hw _ (List.mem_of_getElem? (i := 11) rfl)) (hw _ (List.mem_of_getElem? (i := 7) rfl)) (by decide) (by decide)) (g := (mkF m 213 #[.val (.int p1), .val (.int p2), .val (.int p3), .val (.ref b4), .val (.ref b15), .val (.int mm), .val (.int xx), .val (.int (0 : Int32)), .val (.int (own_ch1 xx)), .unset] [(.int xx)])) rfl (by rw [hml]; rfl) (argsL := [(.int xx)]) (rest := []) (lenOf pd_1 rfl) rfl (by show 2 * 0 + _ ≤ _; exact Nat.le_of_eq rfl) (hb hby at_213) (fun _ _ => ⟨rfl, e102, (by decide : 2 + 0 ≤ _), (by decide : 10 + 0 ≤ _)⟩)
    dsimp only [Pt.U, Pt.locs, Pt.cells, Pt.slots] at X103 l103 y103 z103 st103 hQ103
    subst l103 y103 z103
    obtain ⟨rfl, N103q, e103⟩ := hQ103
    have N103 := Fr.app N102 N103q
    obtain ⟨fs, hr, hrun, hended, hW, hsame⟩ := X103.leave (v := some (.int (1 : Int32))) (fun h => by rw [Bd.returns] at h; cases h)
    refine ⟨_, _, pre_31 _ ?_, hrun, hended, _, _, rfl, ?_, ⟨_, rfl⟩, hW, hsame.mono (by decide) (by decide)⟩
    · show Steps p.tables e below (T25.setTop (mkF m 122 #[.val (.int p1), .val (.int p2), .val (.int p3), .val (.ref b4), .val (.ref b15), .val (.int mm), .val (.int xx), .val (.int bb), .val (.int ed), .unset] [])) _
      refine XS.iload X25.here hx rfl (hb hby at_122) rfl ?_
      show Steps p.tables e below (T25.setTop (mkF m 124 #[.val (.int p1), .val (.int p2), .val (.int p3), .val (.ref b4), .val (.ref b15), .val (.int mm), .val (.int xx), .val (.int bb), .val (.int ed), .unset] [(.int xx)])) _
      refine XS.aloadN X25.here hx rfl (hb hby at_124) rfl rfl ?_
      show Steps p.tables e below (T25.setTop (mkF m 125 #[.val (.int p1), .val (.int p2), .val (.int p3), .val (.ref b4), .val (.ref b15), .val (.int mm), .val (.int xx), .val (.int bb), .val (.int ed), .unset] [(.ref b4), (.int xx)])) _
      refine XS.iconst X25.here hx rfl (hb hby at_125) ?_
      show Steps p.tables e below (T25.setTop (mkF m 126 #[.val (.int p1), .val (.int p2), .val (.int p3), .val (.ref b4), .val (.ref b15), .val (.int mm), .val (.int xx), .val (.int bb), .val (.int ed), .unset] [(.int (0 : Int32)), (.ref b4), (.int xx)])) _
      refine X25.iaload hx (j := (0 : Int32)) (v := (.int (45 : Int32))) (by rw [e25]; exact Aru87.1) (State.isArrayOf_alike hZ.alike Aru87.2.1) Aru87.2.2 hinu87 hatu87 (g := (mkF m 126 #[.val (.int p1), .val (.int p2), .val (.int p3), .val (.ref b4), .val (.ref b15), .val (.int mm), .val (.int xx), .val (.int bb), .val (.int ed), .unset] [(.int (0 : Int32)), (.ref b4), (.int xx)])) rfl rfl (hb hby at_126) _ ?_
      show Steps p.tables e below (T25.setTop (mkF m 127 #[.val (.int p1), .val (.int p2), .val (.int p3), .val (.ref b4), .val (.ref b15), .val (.int mm), .val (.int xx), .val (.int bb), .val (.int ed), .unset] [(.int (45 : Int32)), (.int xx)])) _
      refine XS.aload X25.here hx rfl (hb hby at_127) rfl rfl ?_
      show Steps p.tables e below (T25.setTop (mkF m 129 #[.val (.int p1), .val (.int p2), .val (.int p3), .val (.ref b4), .val (.ref b15), .val (.int mm), .val (.int xx), .val (.int bb), .val (.int ed), .unset] [(.ref b15), (.int (45 : Int32)), (.int xx)])) _
      refine XS.iconst X25.here hx rfl (hb hby at_129) ?_
      show Steps p.tables e below (T25.setTop (mkF m 130 #[.val (.int p1), .val (.int p2), .val (.int p3), .val (.ref b4), .val (.ref b15), .val (.int mm), .val (.int xx), .val (.int bb), .val (.int ed), .unset] [(.int (0 : Int32)), (.ref b15), (.int (45 : Int32)), (.int xx)])) _
      refine X25.iaload hx (j := (0 : Int32)) (v := (.int (45 : Int32))) (by rw [e25]; exact Aru88.1) (State.isArrayOf_alike hZ.alike Aru88.2.1) Aru88.2.2 hinu88 hatu88 (g := (mkF m 130 #[.val (.int p1), .val (.int p2), .val (.int p3), .val (.ref b4), .val (.ref b15), .val (.int mm), .val (.int xx), .val (.int bb), .val (.int ed), .unset] [(.int (0 : Int32)), (.ref b15), (.int (45 : Int32)), (.int xx)])) rfl rfl (hb hby at_130) _ ?_
      show Steps p.tables e below (T25.setTop (mkF m 131 #[.val (.int p1), .val (.int p2), .val (.int p3), .val (.ref b4), .val (.ref b15), .val (.int mm), .val (.int xx), .val (.int bb), .val (.int ed), .unset] [(.int (45 : Int32)), (.int (45 : Int32)), (.int xx)])) _
      refine st89 _ ?_
      show Steps p.tables e below (T89.setTop (mkF m 134 #[.val (.int p1), .val (.int p2), .val (.int p3), .val (.ref b4), .val (.ref b15), .val (.int mm), .val (.int xx), .val (.int bb), .val (.int ed), .unset] [(.int (own_in xx (45 : Int32) (45 : Int32)))])) _
      refine XS.ifNo X89.here hx rfl (hb hby at_134) rfl ((if0 _ _).trans (teq (k0 : (own_in xx (45 : Int32) (45 : Int32)) = (0 : Int32))).2) ?_
      show Steps p.tables e below (T89.setTop (mkF m 137 #[.val (.int p1), .val (.int p2), .val (.int p3), .val (.ref b4), .val (.ref b15), .val (.int mm), .val (.int xx), .val (.int bb), .val (.int ed), .unset] [])) _
      refine XS.iload X89.here hx rfl (hb hby at_137) rfl ?_
      show Steps p.tables e below (T89.setTop (mkF m 139 #[.val (.int p1), .val (.int p2), .val (.int p3), .val (.ref b4), .val (.ref b15), .val (.int mm), .val (.int xx), .val (.int bb), .val (.int ed), .unset] [(.int xx)])) _
      refine XS.aloadN X89.here hx rfl (hb hby at_139) rfl rfl ?_
      show Steps p.tables e below (T89.setTop (mkF m 140 #[.val (.int p1), .val (.int p2), .val (.int p3), .val (.ref b4), .val (.ref b15), .val (.int mm), .val (.int xx), .val (.int bb), .val (.int ed), .unset] [(.ref b4), (.int xx)])) _
      refine XS.iconst X89.here hx rfl (hb hby at_140) ?_
      show Steps p.tables e below (T89.setTop (mkF m 141 #[.val (.int p1), .val (.int p2), .val (.int p3), .val (.ref b4), .val (.ref b15), .val (.int mm), .val (.int xx), .val (.int bb), .val (.int ed), .unset] [(.int (1 : Int32)), (.ref b4), (.int xx)])) _
      refine X89.iaload hx (j := (1 : Int32)) (v := (.int (48 : Int32))) (by rw [e89]; exact Aru90.1) (State.isArrayOf_alike hZ.alike Aru90.2.1) Aru90.2.2 hinu90 hatu90 (g := (mkF m 141 #[.val (.int p1), .val (.int p2), .val (.int p3), .val (.ref b4), .val (.ref b15), .val (.int mm), .val (.int xx), .val (.int bb), .val (.int ed), .unset] [(.int (1 : Int32)), (.ref b4), (.int xx)])) rfl rfl (hb hby at_141) _ ?_
      show Steps p.tables e below (T89.setTop (mkF m 142 #[.val (.int p1), .val (.int p2), .val (.int p3), .val (.ref b4), .val (.ref b15), .val (.int mm), .val (.int xx), .val (.int bb), .val (.int ed), .unset] [(.int (48 : Int32)), (.int xx)])) _
      refine XS.aload X89.here hx rfl (hb hby at_142) rfl rfl ?_
      show Steps p.tables e below (T89.setTop (mkF m 144 #[.val (.int p1), .val (.int p2), .val (.int p3), .val (.ref b4), .val (.ref b15), .val (.int mm), .val (.int xx), .val (.int bb), .val (.int ed), .unset] [(.ref b15), (.int (48 : Int32)), (.int xx)])) _
      refine XS.iconst X89.here hx rfl (hb hby at_144) ?_
      show Steps p.tables e below (T89.setTop (mkF m 145 #[.val (.int p1), .val (.int p2), .val (.int p3), .val (.ref b4), .val (.ref b15), .val (.int mm), .val (.int xx), .val (.int bb), .val (.int ed), .unset] [(.int (1 : Int32)), (.ref b15), (.int (48 : Int32)), (.int xx)])) _
      refine X89.iaload hx (j := (1 : Int32)) (v := (.int (57 : Int32))) (by rw [e89]; exact Aru91.1) (State.isArrayOf_alike hZ.alike Aru91.2.1) Aru91.2.2 hinu91 hatu91 (g := (mkF m 145 #[.val (.int p1), .val (.int p2), .val (.int p3), .val (.ref b4), .val (.ref b15), .val (.int mm), .val (.int xx), .val (.int bb), .val (.int ed), .unset] [(.int (1 : Int32)), (.ref b15), (.int (48 : Int32)), (.int xx)])) rfl rfl (hb hby at_145) _ ?_
      show Steps p.tables e below (T89.setTop (mkF m 146 #[.val (.int p1), .val (.int p2), .val (.int p3), .val (.ref b4), .val (.ref b15), .val (.int mm), .val (.int xx), .val (.int bb), .val (.int ed), .unset] [(.int (57 : Int32)), (.int (48 : Int32)), (.int xx)])) _
      refine st92 _ ?_
      show Steps p.tables e below (T92.setTop (mkF m 149 #[.val (.int p1), .val (.int p2), .val (.int p3), .val (.ref b4), .val (.ref b15), .val (.int mm), .val (.int xx), .val (.int bb), .val (.int ed), .unset] [(.int (own_in xx (48 : Int32) (57 : Int32)))])) _
      refine XS.ifNo X92.here hx rfl (hb hby at_149) rfl ((if0 _ _).trans (teq (k1 : (own_in xx (48 : Int32) (57 : Int32)) = (0 : Int32))).2) ?_
      show Steps p.tables e below (T92.setTop (mkF m 152 #[.val (.int p1), .val (.int p2), .val (.int p3), .val (.ref b4), .val (.ref b15), .val (.int mm), .val (.int xx), .val (.int bb), .val (.int ed), .unset] [])) _
      refine XS.iload X92.here hx rfl (hb hby at_152) rfl ?_
      show Steps p.tables e below (T92.setTop (mkF m 154 #[.val (.int p1), .val (.int p2), .val (.int p3), .val (.ref b4), .val (.ref b15), .val (.int mm), .val (.int xx), .val (.int bb), .val (.int ed), .unset] [(.int xx)])) _
      refine XS.aloadN X92.here hx rfl (hb hby at_154) rfl rfl ?_
      show Steps p.tables e below (T92.setTop (mkF m 155 #[.val (.int p1), .val (.int p2), .val (.int p3), .val (.ref b4), .val (.ref b15), .val (.int mm), .val (.int xx), .val (.int bb), .val (.int ed), .unset] [(.ref b4), (.int xx)])) _
      refine XS.iconst X92.here hx rfl (hb hby at_155) ?_
      show Steps p.tables e below (T92.setTop (mkF m 156 #[.val (.int p1), .val (.int p2), .val (.int p3), .val (.ref b4), .val (.ref b15), .val (.int mm), .val (.int xx), .val (.int bb), .val (.int ed), .unset] [(.int (2 : Int32)), (.ref b4), (.int xx)])) _
      refine X92.iaload hx (j := (2 : Int32)) (v := (.int (183 : Int32))) (by rw [e92]; exact Aru93.1) (State.isArrayOf_alike hZ.alike Aru93.2.1) Aru93.2.2 hinu93 hatu93 (g := (mkF m 156 #[.val (.int p1), .val (.int p2), .val (.int p3), .val (.ref b4), .val (.ref b15), .val (.int mm), .val (.int xx), .val (.int bb), .val (.int ed), .unset] [(.int (2 : Int32)), (.ref b4), (.int xx)])) rfl rfl (hb hby at_156) _ ?_
      show Steps p.tables e below (T92.setTop (mkF m 157 #[.val (.int p1), .val (.int p2), .val (.int p3), .val (.ref b4), .val (.ref b15), .val (.int mm), .val (.int xx), .val (.int bb), .val (.int ed), .unset] [(.int (183 : Int32)), (.int xx)])) _
      refine XS.aload X92.here hx rfl (hb hby at_157) rfl rfl ?_
      show Steps p.tables e below (T92.setTop (mkF m 159 #[.val (.int p1), .val (.int p2), .val (.int p3), .val (.ref b4), .val (.ref b15), .val (.int mm), .val (.int xx), .val (.int bb), .val (.int ed), .unset] [(.ref b15), (.int (183 : Int32)), (.int xx)])) _
      refine XS.iconst X92.here hx rfl (hb hby at_159) ?_
      show Steps p.tables e below (T92.setTop (mkF m 160 #[.val (.int p1), .val (.int p2), .val (.int p3), .val (.ref b4), .val (.ref b15), .val (.int mm), .val (.int xx), .val (.int bb), .val (.int ed), .unset] [(.int (2 : Int32)), (.ref b15), (.int (183 : Int32)), (.int xx)])) _
      refine X92.iaload hx (j := (2 : Int32)) (v := (.int (183 : Int32))) (by rw [e92]; exact Aru94.1) (State.isArrayOf_alike hZ.alike Aru94.2.1) Aru94.2.2 hinu94 hatu94 (g := (mkF m 160 #[.val (.int p1), .val (.int p2), .val (.int p3), .val (.ref b4), .val (.ref b15), .val (.int mm), .val (.int xx), .val (.int bb), .val (.int ed), .unset] [(.int (2 : Int32)), (.ref b15), (.int (183 : Int32)), (.int xx)])) rfl rfl (hb hby at_160) _ ?_
      show Steps p.tables e below (T92.setTop (mkF m 161 #[.val (.int p1), .val (.int p2), .val (.int p3), .val (.ref b4), .val (.ref b15), .val (.int mm), .val (.int xx), .val (.int bb), .val (.int ed), .unset] [(.int (183 : Int32)), (.int (183 : Int32)), (.int xx)])) _
      refine st95 _ ?_
      show Steps p.tables e below (T95.setTop (mkF m 164 #[.val (.int p1), .val (.int p2), .val (.int p3), .val (.ref b4), .val (.ref b15), .val (.int mm), .val (.int xx), .val (.int bb), .val (.int ed), .unset] [(.int (own_in xx (183 : Int32) (183 : Int32)))])) _
      refine XS.ifNo X95.here hx rfl (hb hby at_164) rfl ((if0 _ _).trans (teq (k2 : (own_in xx (183 : Int32) (183 : Int32)) = (0 : Int32))).2) ?_
      show Steps p.tables e below (T95.setTop (mkF m 167 #[.val (.int p1), .val (.int p2), .val (.int p3), .val (.ref b4), .val (.ref b15), .val (.int mm), .val (.int xx), .val (.int bb), .val (.int ed), .unset] [])) _
      refine XS.iload X95.here hx rfl (hb hby at_167) rfl ?_
      show Steps p.tables e below (T95.setTop (mkF m 169 #[.val (.int p1), .val (.int p2), .val (.int p3), .val (.ref b4), .val (.ref b15), .val (.int mm), .val (.int xx), .val (.int bb), .val (.int ed), .unset] [(.int xx)])) _
      refine XS.aloadN X95.here hx rfl (hb hby at_169) rfl rfl ?_
      show Steps p.tables e below (T95.setTop (mkF m 170 #[.val (.int p1), .val (.int p2), .val (.int p3), .val (.ref b4), .val (.ref b15), .val (.int mm), .val (.int xx), .val (.int bb), .val (.int ed), .unset] [(.ref b4), (.int xx)])) _
      refine XS.iconst X95.here hx rfl (hb hby at_170) ?_
      show Steps p.tables e below (T95.setTop (mkF m 171 #[.val (.int p1), .val (.int p2), .val (.int p3), .val (.ref b4), .val (.ref b15), .val (.int mm), .val (.int xx), .val (.int bb), .val (.int ed), .unset] [(.int (3 : Int32)), (.ref b4), (.int xx)])) _
      refine X95.iaload hx (j := (3 : Int32)) (v := (.int (768 : Int32))) (by rw [e95]; exact Aru96.1) (State.isArrayOf_alike hZ.alike Aru96.2.1) Aru96.2.2 hinu96 hatu96 (g := (mkF m 171 #[.val (.int p1), .val (.int p2), .val (.int p3), .val (.ref b4), .val (.ref b15), .val (.int mm), .val (.int xx), .val (.int bb), .val (.int ed), .unset] [(.int (3 : Int32)), (.ref b4), (.int xx)])) rfl rfl (hb hby at_171) _ ?_
      show Steps p.tables e below (T95.setTop (mkF m 172 #[.val (.int p1), .val (.int p2), .val (.int p3), .val (.ref b4), .val (.ref b15), .val (.int mm), .val (.int xx), .val (.int bb), .val (.int ed), .unset] [(.int (768 : Int32)), (.int xx)])) _
      refine XS.aload X95.here hx rfl (hb hby at_172) rfl rfl ?_
      show Steps p.tables e below (T95.setTop (mkF m 174 #[.val (.int p1), .val (.int p2), .val (.int p3), .val (.ref b4), .val (.ref b15), .val (.int mm), .val (.int xx), .val (.int bb), .val (.int ed), .unset] [(.ref b15), (.int (768 : Int32)), (.int xx)])) _
      refine XS.iconst X95.here hx rfl (hb hby at_174) ?_
      show Steps p.tables e below (T95.setTop (mkF m 175 #[.val (.int p1), .val (.int p2), .val (.int p3), .val (.ref b4), .val (.ref b15), .val (.int mm), .val (.int xx), .val (.int bb), .val (.int ed), .unset] [(.int (3 : Int32)), (.ref b15), (.int (768 : Int32)), (.int xx)])) _
      refine X95.iaload hx (j := (3 : Int32)) (v := (.int (879 : Int32))) (by rw [e95]; exact Aru97.1) (State.isArrayOf_alike hZ.alike Aru97.2.1) Aru97.2.2 hinu97 hatu97 (g := (mkF m 175 #[.val (.int p1), .val (.int p2), .val (.int p3), .val (.ref b4), .val (.ref b15), .val (.int mm), .val (.int xx), .val (.int bb), .val (.int ed), .unset] [(.int (3 : Int32)), (.ref b15), (.int (768 : Int32)), (.int xx)])) rfl rfl (hb hby at_175) _ ?_
      show Steps p.tables e below (T95.setTop (mkF m 176 #[.val (.int p1), .val (.int p2), .val (.int p3), .val (.ref b4), .val (.ref b15), .val (.int mm), .val (.int xx), .val (.int bb), .val (.int ed), .unset] [(.int (879 : Int32)), (.int (768 : Int32)), (.int xx)])) _
      refine st98 _ ?_
      show Steps p.tables e below (T98.setTop (mkF m 179 #[.val (.int p1), .val (.int p2), .val (.int p3), .val (.ref b4), .val (.ref b15), .val (.int mm), .val (.int xx), .val (.int bb), .val (.int ed), .unset] [(.int (own_in xx (768 : Int32) (879 : Int32)))])) _
      refine XS.ifNo X98.here hx rfl (hb hby at_179) rfl ((if0 _ _).trans (teq (k3 : (own_in xx (768 : Int32) (879 : Int32)) = (0 : Int32))).2) ?_
      show Steps p.tables e below (T98.setTop (mkF m 182 #[.val (.int p1), .val (.int p2), .val (.int p3), .val (.ref b4), .val (.ref b15), .val (.int mm), .val (.int xx), .val (.int bb), .val (.int ed), .unset] [])) _
      refine XS.iload X98.here hx rfl (hb hby at_182) rfl ?_
      show Steps p.tables e below (T98.setTop (mkF m 184 #[.val (.int p1), .val (.int p2), .val (.int p3), .val (.ref b4), .val (.ref b15), .val (.int mm), .val (.int xx), .val (.int bb), .val (.int ed), .unset] [(.int xx)])) _
      refine XS.aloadN X98.here hx rfl (hb hby at_184) rfl rfl ?_
      show Steps p.tables e below (T98.setTop (mkF m 185 #[.val (.int p1), .val (.int p2), .val (.int p3), .val (.ref b4), .val (.ref b15), .val (.int mm), .val (.int xx), .val (.int bb), .val (.int ed), .unset] [(.ref b4), (.int xx)])) _
      refine XS.iconst X98.here hx rfl (hb hby at_185) ?_
      show Steps p.tables e below (T98.setTop (mkF m 186 #[.val (.int p1), .val (.int p2), .val (.int p3), .val (.ref b4), .val (.ref b15), .val (.int mm), .val (.int xx), .val (.int bb), .val (.int ed), .unset] [(.int (4 : Int32)), (.ref b4), (.int xx)])) _
      refine X98.iaload hx (j := (4 : Int32)) (v := (.int (8255 : Int32))) (by rw [e98]; exact Aru99.1) (State.isArrayOf_alike hZ.alike Aru99.2.1) Aru99.2.2 hinu99 hatu99 (g := (mkF m 186 #[.val (.int p1), .val (.int p2), .val (.int p3), .val (.ref b4), .val (.ref b15), .val (.int mm), .val (.int xx), .val (.int bb), .val (.int ed), .unset] [(.int (4 : Int32)), (.ref b4), (.int xx)])) rfl rfl (hb hby at_186) _ ?_
      show Steps p.tables e below (T98.setTop (mkF m 187 #[.val (.int p1), .val (.int p2), .val (.int p3), .val (.ref b4), .val (.ref b15), .val (.int mm), .val (.int xx), .val (.int bb), .val (.int ed), .unset] [(.int (8255 : Int32)), (.int xx)])) _
      refine XS.aload X98.here hx rfl (hb hby at_187) rfl rfl ?_
      show Steps p.tables e below (T98.setTop (mkF m 189 #[.val (.int p1), .val (.int p2), .val (.int p3), .val (.ref b4), .val (.ref b15), .val (.int mm), .val (.int xx), .val (.int bb), .val (.int ed), .unset] [(.ref b15), (.int (8255 : Int32)), (.int xx)])) _
      refine XS.iconst X98.here hx rfl (hb hby at_189) ?_
      show Steps p.tables e below (T98.setTop (mkF m 190 #[.val (.int p1), .val (.int p2), .val (.int p3), .val (.ref b4), .val (.ref b15), .val (.int mm), .val (.int xx), .val (.int bb), .val (.int ed), .unset] [(.int (4 : Int32)), (.ref b15), (.int (8255 : Int32)), (.int xx)])) _
      refine X98.iaload hx (j := (4 : Int32)) (v := (.int (8256 : Int32))) (by rw [e98]; exact Aru100.1) (State.isArrayOf_alike hZ.alike Aru100.2.1) Aru100.2.2 hinu100 hatu100 (g := (mkF m 190 #[.val (.int p1), .val (.int p2), .val (.int p3), .val (.ref b4), .val (.ref b15), .val (.int mm), .val (.int xx), .val (.int bb), .val (.int ed), .unset] [(.int (4 : Int32)), (.ref b15), (.int (8255 : Int32)), (.int xx)])) rfl rfl (hb hby at_190) _ ?_
      show Steps p.tables e below (T98.setTop (mkF m 191 #[.val (.int p1), .val (.int p2), .val (.int p3), .val (.ref b4), .val (.ref b15), .val (.int mm), .val (.int xx), .val (.int bb), .val (.int ed), .unset] [(.int (8256 : Int32)), (.int (8255 : Int32)), (.int xx)])) _
      refine st101 _ ?_
      show Steps p.tables e below (T101.setTop (mkF m 194 #[.val (.int p1), .val (.int p2), .val (.int p3), .val (.ref b4), .val (.ref b15), .val (.int mm), .val (.int xx), .val (.int bb), .val (.int ed), .unset] [(.int (own_in xx (8255 : Int32) (8256 : Int32)))])) _
      refine XS.ifYes X101.here hx rfl (pc0 := 194) (pc' := 201) rfl (hb hby at_194) rfl ((if0 _ _).trans (teq (k4 : (own_in xx (8255 : Int32) (8256 : Int32)) = (0 : Int32))).1) (by decide) (by decide) ?_
      show Steps p.tables e below (T101.setTop (mkF m 201 #[.val (.int p1), .val (.int p2), .val (.int p3), .val (.ref b4), .val (.ref b15), .val (.int mm), .val (.int xx), .val (.int bb), .val (.int ed), .unset] [])) _
      refine XS.iconst X101.here hx rfl (hb hby at_201) ?_
      show Steps p.tables e below (T101.setTop (mkF m 202 #[.val (.int p1), .val (.int p2), .val (.int p3), .val (.ref b4), .val (.ref b15), .val (.int mm), .val (.int xx), .val (.int bb), .val (.int ed), .unset] [(.int (0 : Int32))])) _
      refine XS.istore X101.here hx rfl (hb hby at_202) rfl (l' := #[.val (.int p1), .val (.int p2), .val (.int p3), .val (.ref b4), .val (.ref b15), .val (.int mm), .val (.int xx), .val (.int (0 : Int32)), .val (.int ed), .unset]) rfl ?_
      show Steps p.tables e below (T101.setTop (mkF m 204 #[.val (.int p1), .val (.int p2), .val (.int p3), .val (.ref b4), .val (.ref b15), .val (.int mm), .val (.int xx), .val (.int (0 : Int32)), .val (.int ed), .unset] [])) _
      refine XS.iload X101.here hx rfl (hb hby at_204) rfl ?_
      show Steps p.tables e below (T101.setTop (mkF m 206 #[.val (.int p1), .val (.int p2), .val (.int p3), .val (.ref b4), .val (.ref b15), .val (.int mm), .val (.int xx), .val (.int (0 : Int32)), .val (.int ed), .unset] [(.int xx)])) _
      refine st102 _ ?_
      show Steps p.tables e below (T102.setTop (mkF m 209 #[.val (.int p1), .val (.int p2), .val (.int p3), .val (.ref b4), .val (.ref b15), .val (.int mm), .val (.int xx), .val (.int (0 : Int32)), .val (.int ed), .unset] [(.int (own_ch1 xx))])) _
      refine XS.istore X102.here hx rfl (hb hby at_209) rfl (l' := #[.val (.int p1), .val (.int p2), .val (.int p3), .val (.ref b4), .val (.ref b15), .val (.int mm), .val (.int xx), .val (.int (0 : Int32)), .val (.int (own_ch1 xx)), .unset]) rfl ?_
      show Steps p.tables e below (T102.setTop (mkF m 211 #[.val (.int p1), .val (.int p2), .val (.int p3), .val (.ref b4), .val (.ref b15), .val (.int mm), .val (.int xx), .val (.int (0 : Int32)), .val (.int (own_ch1 xx)), .unset] [])) _
      refine XS.iload X102.here hx rfl (hb hby at_211) rfl ?_
      show Steps p.tables e below (T102.setTop (mkF m 213 #[.val (.int p1), .val (.int p2), .val (.int p3), .val (.ref b4), .val (.ref b15), .val (.int mm), .val (.int xx), .val (.int (0 : Int32)), .val (.int (own_ch1 xx)), .unset] [(.int xx)])) _
      refine st103 _ ?_
      show Steps p.tables e below (T103.setTop (mkF m 216 #[.val (.int p1), .val (.int p2), .val (.int p3), .val (.ref b4), .val (.ref b15), .val (.int mm), .val (.int xx), .val (.int (0 : Int32)), .val (.int (own_ch1 xx)), .unset] [(.int (own_st1 xx))])) _
      refine XS.istore X103.here hx rfl (hb hby at_216) rfl (l' := #[.val (.int p1), .val (.int p2), .val (.int p3), .val (.ref b4), .val (.ref b15), .val (.int mm), .val (.int xx), .val (.int (0 : Int32)), .val (.int (own_ch1 xx)), .val (.int (own_st1 xx))]) rfl ?_
      show Steps p.tables e below (T103.setTop (mkF m 218 #[.val (.int p1), .val (.int p2), .val (.int p3), .val (.ref b4), .val (.ref b15), .val (.int mm), .val (.int xx), .val (.int (0 : Int32)), .val (.int (own_ch1 xx)), .val (.int (own_st1 xx))] [])) _
      refine XS.iload X103.here hx rfl (hb hby at_218) rfl ?_
      show Steps p.tables e below (T103.setTop (mkF m 220 #[.val (.int p1), .val (.int p2), .val (.int p3), .val (.ref b4), .val (.ref b15), .val (.int mm), .val (.int xx), .val (.int (0 : Int32)), .val (.int (own_ch1 xx)), .val (.int (own_st1 xx))] [(.int (own_ch1 xx))])) _
      refine XS.iload X103.here hx rfl (hb hby at_220) rfl ?_
      show Steps p.tables e below (T103.setTop (mkF m 222 #[.val (.int p1), .val (.int p2), .val (.int p3), .val (.ref b4), .val (.ref b15), .val (.int mm), .val (.int xx), .val (.int (0 : Int32)), .val (.int (own_ch1 xx)), .val (.int (own_st1 xx))] [(.int (0 : Int32)), (.int (own_ch1 xx))])) _
      refine XS.icmpNo X103.here hx rfl (hb hby at_222) rfl (teq (c1 : (own_ch1 xx) = (0 : Int32))).2 ?_
      show Steps p.tables e below (T103.setTop (mkF m 225 #[.val (.int p1), .val (.int p2), .val (.int p3), .val (.ref b4), .val (.ref b15), .val (.int mm), .val (.int xx), .val (.int (0 : Int32)), .val (.int (own_ch1 xx)), .val (.int (own_st1 xx))] [])) _
      refine XS.iload X103.here hx rfl (hb hby at_225) rfl ?_
      show Steps p.tables e below (T103.setTop (mkF m 227 #[.val (.int p1), .val (.int p2), .val (.int p3), .val (.ref b4), .val (.ref b15), .val (.int mm), .val (.int xx), .val (.int (0 : Int32)), .val (.int (own_ch1 xx)), .val (.int (own_st1 xx))] [(.int (own_ch1 xx))])) _
      refine XS.ifYes X103.here hx rfl (pc0 := 227) (pc' := 235) rfl (hb hby at_227) rfl ((if0 _ _).trans (teq (c1 : (own_ch1 xx) = (0 : Int32))).1) (by decide) (by decide) ?_
      show Steps p.tables e below (T103.setTop (mkF m 235 #[.val (.int p1), .val (.int p2), .val (.int p3), .val (.ref b4), .val (.ref b15), .val (.int mm), .val (.int xx), .val (.int (0 : Int32)), .val (.int (own_ch1 xx)), .val (.int (own_st1 xx))] [])) _
      refine XS.iconst X103.here hx rfl (hb hby at_235) ?_
      show Steps p.tables e below (T103.setTop (mkF m 236 #[.val (.int p1), .val (.int p2), .val (.int p3), .val (.ref b4), .val (.ref b15), .val (.int mm), .val (.int xx), .val (.int (0 : Int32)), .val (.int (own_ch1 xx)), .val (.int (own_st1 xx))] [(.int (1 : Int32))])) _
      refine XS.goto X103.here hx rfl (pc0 := 236) (pc' := 240) rfl (hb hby at_236) (by decide) (by decide) ?_
      show Steps p.tables e below (T103.setTop (mkF m 240 #[.val (.int p1), .val (.int p2), .val (.int p3), .val (.ref b4), .val (.ref b15), .val (.int mm), .val (.int xx), .val (.int (0 : Int32)), .val (.int (own_ch1 xx)), .val (.int (own_st1 xx))] [(.int (1 : Int32))])) _
      exact retN X103 hx (t := .boolean) Bd.returns (by simp) (hb hby at_240) hr
    · show QF n0 _ T103.heap _
      rw [e103]
      exact ⟨rfl, N103⟩
  · skip
    have pre_104 : ∀ t, Steps p.tables e below (T25.setTop (mkF m 122 #[.val (.int p1), .val (.int p2), .val (.int p3), .val (.ref b4), .val (.ref b15), .val (.int mm), .val (.int p1), .unset, .unset, .unset] [])) t → Steps p.tables e below (s₁.setTop (entryFrame m #[(.int p1), (.int p2), (.int p3)] maxLocals)) t := by
      intro t kt
      refine pre_27 _ ?_
      show Steps p.tables e below (T25.setTop (mkF m 71 #[.val (.int p1), .val (.int p2), .val (.int p3), .val (.ref b4), .val (.ref b15), .val (.int mm), .unset, .unset, .unset, .unset] [])) _
      refine XS.iload X25.here hx rfl (hb hby at_71) rfl ?_
      show Steps p.tables e below (T25.setTop (mkF m 73 #[.val (.int p1), .val (.int p2), .val (.int p3), .val (.ref b4), .val (.ref b15), .val (.int mm), .unset, .unset, .unset, .unset] [(.int mm)])) _
      refine XS.bipush X25.here hx rfl (hb hby at_73) ?_
      show Steps p.tables e below (T25.setTop (mkF m 75 #[.val (.int p1), .val (.int p2), .val (.int p3), .val (.ref b4), .val (.ref b15), .val (.int mm), .unset, .unset, .unset, .unset] [(.int (10 : Int32)), (.int mm)])) _
      refine XS.icmpYes X25.here hx rfl (pc0 := 75) (pc' := 119) rfl (hb hby at_75) rfl (flt (ka : ¬ (mm < (10 : Int32)))).2.1 (by decide) (by decide) ?_
      show Steps p.tables e below (T25.setTop (mkF m 119 #[.val (.int p1), .val (.int p2), .val (.int p3), .val (.ref b4), .val (.ref b15), .val (.int mm), .unset, .unset, .unset, .unset] [])) _
      refine XS.iloadN X25.here hx rfl (hb hby at_119) rfl ?_
      show Steps p.tables e below (T25.setTop (mkF m 120 #[.val (.int p1), .val (.int p2), .val (.int p3), .val (.ref b4), .val (.ref b15), .val (.int mm), .unset, .unset, .unset, .unset] [(.int p1)])) _
      refine XS.istore X25.here hx rfl (hb hby at_120) rfl (l' := #[.val (.int p1), .val (.int p2), .val (.int p3), .val (.ref b4), .val (.ref b15), .val (.int mm), .val (.int p1), .unset, .unset, .unset]) rfl ?_
      exact kt
    have f01 : (45 : Int32).toInt = 45 := rfl
    have f02 : (45 : Int32).toInt = 45 := rfl
    have f11 : (48 : Int32).toInt = 48 := rfl
    have f12 : (57 : Int32).toInt = 57 := rfl
    have f21 : (183 : Int32).toInt = 183 := rfl
    have f22 : (183 : Int32).toInt = 183 := rfl
    have f31 : (768 : Int32).toInt = 768 := rfl
    have f32 : (879 : Int32).toInt = 879 := rfl
    have f41 : (8255 : Int32).toInt = 8255 := rfl
    have f42 : (8256 : Int32).toInt = 8256 := rfl
    by_cases k0 : own_in p1 (45 : Int32) (45 : Int32) = (0 : Int32)
    rotate_left
    · skip
      have dj : p1.toInt = 45 ∨ (48 ≤ p1.toInt ∧ p1.toInt ≤ 57) ∨ p1.toInt = 183 ∨ (768 ≤ p1.toInt ∧ p1.toInt ≤ 879) ∨ (8255 ≤ p1.toInt ∧ p1.toInt ≤ 8256) := by have q := own_in_nz k0; simp only [f01, f02] at q; omega
      have c1 := own_ch_p dj
      have c2 := own_st_z dj
      obtain ⟨clu105, Aru105, qu105, Su105, Mu105, Hu105, Gu105⟩ := id V_b4_25
      have hinu105 : ¬ ((0 : Int32) < 0 ∨ clu105.slots.size ≤ ((0 : Int32)).toNatClampNeg) := inb_of Su105 ⟨by decide, by decide⟩
      have hatu105 : clu105.slots[((0 : Int32)).toNatClampNeg]? = some (.int (45 : Int32)) := Hu105.at hinu105 rfl
      obtain ⟨clu106, Aru106, qu106, Su106, Mu106, Hu106, Gu106⟩ := id V_b15_25
      have hinu106 : ¬ ((0 : Int32) < 0 ∨ clu106.slots.size ≤ ((0 : Int32)).toNatClampNeg) := inb_of Su106 ⟨by decide, by decide⟩
      have hatu106 : clu106.slots[((0 : Int32)).toNatClampNeg]? = some (.int (45 : Int32)) := Hu106.at hinu106 rfl
      obtain ⟨_, _, ⟨T107, L107, k107, n107⟩, -, X107, ⟨Lc107, hQ107, l107, y107, z107⟩, st107⟩ := Jvm.LawKit.callS X25 hx (y := (⟨"com/example/liana/liana/rdf/TurtleGrammarIsNameCharacterPinLaw", "within", "(III)Z"⟩ : MethodName)) hown (mvT hZ (hw _ (List.mem_of_getElem? (i := 1) rfl))) (mvT hZ (hw _ (List.mem_of_getElem? (i := 2) rfl))) (mvT hZ (hw _ (List.mem_of_getElem? (i := 3) rfl))) (mvT hZ (hw _ (List.mem_of_getElem? (i := 4) rfl))) (by decide) (backOf (W := 0) (rm1U l Z a0 hw [] p1 (45 : Int32) (45 : Int32) h25 n0 SZ25 ) hZ (hw _ (List.mem_of_getElem? (i := 4) rfl)) (hw _ (List.mem_of_getElem? (i := 3) rfl)) (by decide) (by decide)) (g := (mkF m 131 #[.val (.int p1), .val (.int p2), .val (.int p3), .val (.ref b4), .val (.ref b15), .val (.int mm), .val (.int p1), .unset, .unset, .unset] [(.int (45 : Int32)), (.int (45 : Int32)), (.int p1)])) rfl (by rw [hml]; rfl) (argsL := [(.int p1), (.int (45 : Int32)), (.int (45 : Int32))]) (rest := []) (lenOf pd_0 rfl) rfl (by show 2 * 0 + _ ≤ _; exact Nat.le_of_eq rfl) (hb hby at_131) (fun _ _ => ⟨rfl, e25, (by decide : 2 + 0 ≤ _), (by decide : 10 + 0 ≤ _)⟩)
      dsimp only [Pt.U, Pt.locs, Pt.cells, Pt.slots] at X107 l107 y107 z107 st107 hQ107
      subst l107 y107 z107
      obtain ⟨rfl, N107q, e107⟩ := hQ107
      have N107 := Fr.app N25 N107q
      obtain ⟨_, _, ⟨T108, L108, k108, n108⟩, -, X108, ⟨Lc108, hQ108, l108, y108, z108⟩, st108⟩ := Jvm.LawKit.callS X107 hx (y := (⟨"com/example/liana/liana/rdf/TurtleGrammar", "isNameCharacter", "(I)Z"⟩ : MethodName)) hown (mvT hZ (hw _ (List.mem_of_getElem? (i := 5) rfl))) (mvT hZ (hw _ (List.mem_of_getElem? (i := 6) rfl))) (mvT hZ (hw _ (List.mem_of_getElem? (i := 7) rfl))) (mvT hZ (hw _ (List.mem_of_getElem? (i := 8) rfl))) (by decide) (backOf (W := 0) (rm2 l Z a0 hw [] p1 h25 n0 SZ25 ) hZ (hw _ (List.mem_of_getElem? (i := 8) rfl)) (hw _ (List.mem_of_getElem? (i := 7) rfl)) (by decide) (by decide)) (g := (mkF m 206 #[.val (.int p1), .val (.int p2), .val (.int p3), .val (.ref b4), .val (.ref b15), .val (.int mm), .val (.int p1), .val (.int (1 : Int32)), .unset, .unset] [(.int p1)])) rfl (by rw [hml]; rfl) (argsL := [(.int p1)]) (rest := []) (lenOf pd_1 rfl) rfl (by show 2 * 0 + _ ≤ _; exact Nat.le_of_eq rfl) (hb hby at_206) (fun _ _ => ⟨rfl, e107, (by decide : 2 + 0 ≤ _), (by decide : 10 + 0 ≤ _)⟩)
      dsimp only [Pt.U, Pt.locs, Pt.cells, Pt.slots] at X108 l108 y108 z108 st108 hQ108
      subst l108 y108 z108
      obtain ⟨rfl, N108q, e108⟩ := hQ108
      have N108 := Fr.app N107 N108q
      obtain ⟨_, _, ⟨T109, L109, k109, n109⟩, -, X109, ⟨Lc109, hQ109, l109, y109, z109⟩, st109⟩ := Jvm.LawKit.callS X108 hx (y := (⟨"com/example/liana/liana/rdf/TurtleGrammar", "isNameStart", "(I)Z"⟩ : MethodName)) hown (mvT hZ (hw _ (List.mem_of_getElem? (i := 9) rfl))) (mvT hZ (hw _ (List.mem_of_getElem? (i := 10) rfl))) (mvT hZ (hw _ (List.mem_of_getElem? (i := 7) rfl))) (mvT hZ (hw _ (List.mem_of_getElem? (i := 11) rfl))) (by decide) (backOf (W := 0) (rm3 l Z a0 hw [] p1 h25 n0 SZ25 ) hZ (hw _ (List.mem_of_getElem? (i := 11) rfl)) (hw _ (List.mem_of_getElem? (i := 7) rfl)) (by decide) (by decide)) (g := (mkF m 213 #[.val (.int p1), .val (.int p2), .val (.int p3), .val (.ref b4), .val (.ref b15), .val (.int mm), .val (.int p1), .val (.int (1 : Int32)), .val (.int (own_ch1 p1)), .unset] [(.int p1)])) rfl (by rw [hml]; rfl) (argsL := [(.int p1)]) (rest := []) (lenOf pd_1 rfl) rfl (by show 2 * 0 + _ ≤ _; exact Nat.le_of_eq rfl) (hb hby at_213) (fun _ _ => ⟨rfl, e108, (by decide : 2 + 0 ≤ _), (by decide : 10 + 0 ≤ _)⟩)
      dsimp only [Pt.U, Pt.locs, Pt.cells, Pt.slots] at X109 l109 y109 z109 st109 hQ109
      subst l109 y109 z109
      obtain ⟨rfl, N109q, e109⟩ := hQ109
      have N109 := Fr.app N108 N109q
      obtain ⟨fs, hr, hrun, hended, hW, hsame⟩ := X109.leave (v := some (.int (1 : Int32))) (fun h => by rw [Bd.returns] at h; cases h)
      refine ⟨_, _, pre_104 _ ?_, hrun, hended, _, _, rfl, ?_, ⟨_, rfl⟩, hW, hsame.mono (by decide) (by decide)⟩
      · show Steps p.tables e below (T25.setTop (mkF m 122 #[.val (.int p1), .val (.int p2), .val (.int p3), .val (.ref b4), .val (.ref b15), .val (.int mm), .val (.int p1), .unset, .unset, .unset] [])) _
        refine XS.iload X25.here hx rfl (hb hby at_122) rfl ?_
        show Steps p.tables e below (T25.setTop (mkF m 124 #[.val (.int p1), .val (.int p2), .val (.int p3), .val (.ref b4), .val (.ref b15), .val (.int mm), .val (.int p1), .unset, .unset, .unset] [(.int p1)])) _
        refine XS.aloadN X25.here hx rfl (hb hby at_124) rfl rfl ?_
        show Steps p.tables e below (T25.setTop (mkF m 125 #[.val (.int p1), .val (.int p2), .val (.int p3), .val (.ref b4), .val (.ref b15), .val (.int mm), .val (.int p1), .unset, .unset, .unset] [(.ref b4), (.int p1)])) _
        refine XS.iconst X25.here hx rfl (hb hby at_125) ?_
        show Steps p.tables e below (T25.setTop (mkF m 126 #[.val (.int p1), .val (.int p2), .val (.int p3), .val (.ref b4), .val (.ref b15), .val (.int mm), .val (.int p1), .unset, .unset, .unset] [(.int (0 : Int32)), (.ref b4), (.int p1)])) _
        refine X25.iaload hx (j := (0 : Int32)) (v := (.int (45 : Int32))) (by rw [e25]; exact Aru105.1) (State.isArrayOf_alike hZ.alike Aru105.2.1) Aru105.2.2 hinu105 hatu105 (g := (mkF m 126 #[.val (.int p1), .val (.int p2), .val (.int p3), .val (.ref b4), .val (.ref b15), .val (.int mm), .val (.int p1), .unset, .unset, .unset] [(.int (0 : Int32)), (.ref b4), (.int p1)])) rfl rfl (hb hby at_126) _ ?_
        show Steps p.tables e below (T25.setTop (mkF m 127 #[.val (.int p1), .val (.int p2), .val (.int p3), .val (.ref b4), .val (.ref b15), .val (.int mm), .val (.int p1), .unset, .unset, .unset] [(.int (45 : Int32)), (.int p1)])) _
        refine XS.aload X25.here hx rfl (hb hby at_127) rfl rfl ?_
        show Steps p.tables e below (T25.setTop (mkF m 129 #[.val (.int p1), .val (.int p2), .val (.int p3), .val (.ref b4), .val (.ref b15), .val (.int mm), .val (.int p1), .unset, .unset, .unset] [(.ref b15), (.int (45 : Int32)), (.int p1)])) _
        refine XS.iconst X25.here hx rfl (hb hby at_129) ?_
        show Steps p.tables e below (T25.setTop (mkF m 130 #[.val (.int p1), .val (.int p2), .val (.int p3), .val (.ref b4), .val (.ref b15), .val (.int mm), .val (.int p1), .unset, .unset, .unset] [(.int (0 : Int32)), (.ref b15), (.int (45 : Int32)), (.int p1)])) _
        refine X25.iaload hx (j := (0 : Int32)) (v := (.int (45 : Int32))) (by rw [e25]; exact Aru106.1) (State.isArrayOf_alike hZ.alike Aru106.2.1) Aru106.2.2 hinu106 hatu106 (g := (mkF m 130 #[.val (.int p1), .val (.int p2), .val (.int p3), .val (.ref b4), .val (.ref b15), .val (.int mm), .val (.int p1), .unset, .unset, .unset] [(.int (0 : Int32)), (.ref b15), (.int (45 : Int32)), (.int p1)])) rfl rfl (hb hby at_130) _ ?_
        show Steps p.tables e below (T25.setTop (mkF m 131 #[.val (.int p1), .val (.int p2), .val (.int p3), .val (.ref b4), .val (.ref b15), .val (.int mm), .val (.int p1), .unset, .unset, .unset] [(.int (45 : Int32)), (.int (45 : Int32)), (.int p1)])) _
        refine st107 _ ?_
        show Steps p.tables e below (T107.setTop (mkF m 134 #[.val (.int p1), .val (.int p2), .val (.int p3), .val (.ref b4), .val (.ref b15), .val (.int mm), .val (.int p1), .unset, .unset, .unset] [(.int (own_in p1 (45 : Int32) (45 : Int32)))])) _
        refine XS.ifYes X107.here hx rfl (pc0 := 134) (pc' := 197) rfl (hb hby at_134) rfl ((if0 _ _).trans (feq (k0 : ¬ ((own_in p1 (45 : Int32) (45 : Int32)) = (0 : Int32)))).2) (by decide) (by decide) ?_
        show Steps p.tables e below (T107.setTop (mkF m 197 #[.val (.int p1), .val (.int p2), .val (.int p3), .val (.ref b4), .val (.ref b15), .val (.int mm), .val (.int p1), .unset, .unset, .unset] [])) _
        refine XS.iconst X107.here hx rfl (hb hby at_197) ?_
        show Steps p.tables e below (T107.setTop (mkF m 198 #[.val (.int p1), .val (.int p2), .val (.int p3), .val (.ref b4), .val (.ref b15), .val (.int mm), .val (.int p1), .unset, .unset, .unset] [(.int (1 : Int32))])) _
        refine XS.goto X107.here hx rfl (pc0 := 198) (pc' := 202) rfl (hb hby at_198) (by decide) (by decide) ?_
        show Steps p.tables e below (T107.setTop (mkF m 202 #[.val (.int p1), .val (.int p2), .val (.int p3), .val (.ref b4), .val (.ref b15), .val (.int mm), .val (.int p1), .unset, .unset, .unset] [(.int (1 : Int32))])) _
        refine XS.istore X107.here hx rfl (hb hby at_202) rfl (l' := #[.val (.int p1), .val (.int p2), .val (.int p3), .val (.ref b4), .val (.ref b15), .val (.int mm), .val (.int p1), .val (.int (1 : Int32)), .unset, .unset]) rfl ?_
        show Steps p.tables e below (T107.setTop (mkF m 204 #[.val (.int p1), .val (.int p2), .val (.int p3), .val (.ref b4), .val (.ref b15), .val (.int mm), .val (.int p1), .val (.int (1 : Int32)), .unset, .unset] [])) _
        refine XS.iload X107.here hx rfl (hb hby at_204) rfl ?_
        show Steps p.tables e below (T107.setTop (mkF m 206 #[.val (.int p1), .val (.int p2), .val (.int p3), .val (.ref b4), .val (.ref b15), .val (.int mm), .val (.int p1), .val (.int (1 : Int32)), .unset, .unset] [(.int p1)])) _
        refine st108 _ ?_
        show Steps p.tables e below (T108.setTop (mkF m 209 #[.val (.int p1), .val (.int p2), .val (.int p3), .val (.ref b4), .val (.ref b15), .val (.int mm), .val (.int p1), .val (.int (1 : Int32)), .unset, .unset] [(.int (own_ch1 p1))])) _
        refine XS.istore X108.here hx rfl (hb hby at_209) rfl (l' := #[.val (.int p1), .val (.int p2), .val (.int p3), .val (.ref b4), .val (.ref b15), .val (.int mm), .val (.int p1), .val (.int (1 : Int32)), .val (.int (own_ch1 p1)), .unset]) rfl ?_
        show Steps p.tables e below (T108.setTop (mkF m 211 #[.val (.int p1), .val (.int p2), .val (.int p3), .val (.ref b4), .val (.ref b15), .val (.int mm), .val (.int p1), .val (.int (1 : Int32)), .val (.int (own_ch1 p1)), .unset] [])) _
        refine XS.iload X108.here hx rfl (hb hby at_211) rfl ?_
        show Steps p.tables e below (T108.setTop (mkF m 213 #[.val (.int p1), .val (.int p2), .val (.int p3), .val (.ref b4), .val (.ref b15), .val (.int mm), .val (.int p1), .val (.int (1 : Int32)), .val (.int (own_ch1 p1)), .unset] [(.int p1)])) _
        refine st109 _ ?_
        show Steps p.tables e below (T109.setTop (mkF m 216 #[.val (.int p1), .val (.int p2), .val (.int p3), .val (.ref b4), .val (.ref b15), .val (.int mm), .val (.int p1), .val (.int (1 : Int32)), .val (.int (own_ch1 p1)), .unset] [(.int (own_st1 p1))])) _
        refine XS.istore X109.here hx rfl (hb hby at_216) rfl (l' := #[.val (.int p1), .val (.int p2), .val (.int p3), .val (.ref b4), .val (.ref b15), .val (.int mm), .val (.int p1), .val (.int (1 : Int32)), .val (.int (own_ch1 p1)), .val (.int (own_st1 p1))]) rfl ?_
        show Steps p.tables e below (T109.setTop (mkF m 218 #[.val (.int p1), .val (.int p2), .val (.int p3), .val (.ref b4), .val (.ref b15), .val (.int mm), .val (.int p1), .val (.int (1 : Int32)), .val (.int (own_ch1 p1)), .val (.int (own_st1 p1))] [])) _
        refine XS.iload X109.here hx rfl (hb hby at_218) rfl ?_
        show Steps p.tables e below (T109.setTop (mkF m 220 #[.val (.int p1), .val (.int p2), .val (.int p3), .val (.ref b4), .val (.ref b15), .val (.int mm), .val (.int p1), .val (.int (1 : Int32)), .val (.int (own_ch1 p1)), .val (.int (own_st1 p1))] [(.int (own_ch1 p1))])) _
        refine XS.iload X109.here hx rfl (hb hby at_220) rfl ?_
        show Steps p.tables e below (T109.setTop (mkF m 222 #[.val (.int p1), .val (.int p2), .val (.int p3), .val (.ref b4), .val (.ref b15), .val (.int mm), .val (.int p1), .val (.int (1 : Int32)), .val (.int (own_ch1 p1)), .val (.int (own_st1 p1))] [(.int (1 : Int32)), (.int (own_ch1 p1))])) _
        refine XS.icmpNo X109.here hx rfl (hb hby at_222) rfl (teq (c1 : (own_ch1 p1) = (1 : Int32))).2 ?_
        show Steps p.tables e below (T109.setTop (mkF m 225 #[.val (.int p1), .val (.int p2), .val (.int p3), .val (.ref b4), .val (.ref b15), .val (.int mm), .val (.int p1), .val (.int (1 : Int32)), .val (.int (own_ch1 p1)), .val (.int (own_st1 p1))] [])) _
        refine XS.iload X109.here hx rfl (hb hby at_225) rfl ?_
        show Steps p.tables e below (T109.setTop (mkF m 227 #[.val (.int p1), .val (.int p2), .val (.int p3), .val (.ref b4), .val (.ref b15), .val (.int mm), .val (.int p1), .val (.int (1 : Int32)), .val (.int (own_ch1 p1)), .val (.int (own_st1 p1))] [(.int (own_ch1 p1))])) _
        refine XS.ifNo X109.here hx rfl (hb hby at_227) rfl ((if0 _ _).trans (feq (by rw [c1]; decide : ¬ ((own_ch1 p1) = (0 : Int32)))).1) ?_
        show Steps p.tables e below (T109.setTop (mkF m 230 #[.val (.int p1), .val (.int p2), .val (.int p3), .val (.ref b4), .val (.ref b15), .val (.int mm), .val (.int p1), .val (.int (1 : Int32)), .val (.int (own_ch1 p1)), .val (.int (own_st1 p1))] [])) _
        refine XS.iload X109.here hx rfl (hb hby at_230) rfl ?_
        show Steps p.tables e below (T109.setTop (mkF m 232 #[.val (.int p1), .val (.int p2), .val (.int p3), .val (.ref b4), .val (.ref b15), .val (.int mm), .val (.int p1), .val (.int (1 : Int32)), .val (.int (own_ch1 p1)), .val (.int (own_st1 p1))] [(.int (own_st1 p1))])) _
        refine XS.ifNo X109.here hx rfl (hb hby at_232) rfl ((if0 _ _).trans (teq (c2 : (own_st1 p1) = (0 : Int32))).2) ?_
        show Steps p.tables e below (T109.setTop (mkF m 235 #[.val (.int p1), .val (.int p2), .val (.int p3), .val (.ref b4), .val (.ref b15), .val (.int mm), .val (.int p1), .val (.int (1 : Int32)), .val (.int (own_ch1 p1)), .val (.int (own_st1 p1))] [])) _
        refine XS.iconst X109.here hx rfl (hb hby at_235) ?_
        show Steps p.tables e below (T109.setTop (mkF m 236 #[.val (.int p1), .val (.int p2), .val (.int p3), .val (.ref b4), .val (.ref b15), .val (.int mm), .val (.int p1), .val (.int (1 : Int32)), .val (.int (own_ch1 p1)), .val (.int (own_st1 p1))] [(.int (1 : Int32))])) _
        refine XS.goto X109.here hx rfl (pc0 := 236) (pc' := 240) rfl (hb hby at_236) (by decide) (by decide) ?_
        show Steps p.tables e below (T109.setTop (mkF m 240 #[.val (.int p1), .val (.int p2), .val (.int p3), .val (.ref b4), .val (.ref b15), .val (.int mm), .val (.int p1), .val (.int (1 : Int32)), .val (.int (own_ch1 p1)), .val (.int (own_st1 p1))] [(.int (1 : Int32))])) _
        exact retN X109 hx (t := .boolean) Bd.returns (by simp) (hb hby at_240) hr
      · show QF n0 _ T109.heap _
        rw [e109]
        exact ⟨rfl, N109⟩
    by_cases k1 : own_in p1 (48 : Int32) (57 : Int32) = (0 : Int32)
    rotate_left
    · skip
      have dj : p1.toInt = 45 ∨ (48 ≤ p1.toInt ∧ p1.toInt ≤ 57) ∨ p1.toInt = 183 ∨ (768 ≤ p1.toInt ∧ p1.toInt ≤ 879) ∨ (8255 ≤ p1.toInt ∧ p1.toInt ≤ 8256) := by have q := own_in_nz k1; simp only [f11, f12] at q; omega
      have c1 := own_ch_p dj
      have c2 := own_st_z dj
      obtain ⟨clu110, Aru110, qu110, Su110, Mu110, Hu110, Gu110⟩ := id V_b4_25
      have hinu110 : ¬ ((0 : Int32) < 0 ∨ clu110.slots.size ≤ ((0 : Int32)).toNatClampNeg) := inb_of Su110 ⟨by decide, by decide⟩
      have hatu110 : clu110.slots[((0 : Int32)).toNatClampNeg]? = some (.int (45 : Int32)) := Hu110.at hinu110 rfl
      obtain ⟨clu111, Aru111, qu111, Su111, Mu111, Hu111, Gu111⟩ := id V_b15_25
      have hinu111 : ¬ ((0 : Int32) < 0 ∨ clu111.slots.size ≤ ((0 : Int32)).toNatClampNeg) := inb_of Su111 ⟨by decide, by decide⟩
      have hatu111 : clu111.slots[((0 : Int32)).toNatClampNeg]? = some (.int (45 : Int32)) := Hu111.at hinu111 rfl
      obtain ⟨_, _, ⟨T112, L112, k112, n112⟩, -, X112, ⟨Lc112, hQ112, l112, y112, z112⟩, st112⟩ := Jvm.LawKit.callS X25 hx (y := (⟨"com/example/liana/liana/rdf/TurtleGrammarIsNameCharacterPinLaw", "within", "(III)Z"⟩ : MethodName)) hown (mvT hZ (hw _ (List.mem_of_getElem? (i := 1) rfl))) (mvT hZ (hw _ (List.mem_of_getElem? (i := 2) rfl))) (mvT hZ (hw _ (List.mem_of_getElem? (i := 3) rfl))) (mvT hZ (hw _ (List.mem_of_getElem? (i := 4) rfl))) (by decide) (backOf (W := 0) (rm1U l Z a0 hw [] p1 (45 : Int32) (45 : Int32) h25 n0 SZ25 ) hZ (hw _ (List.mem_of_getElem? (i := 4) rfl)) (hw _ (List.mem_of_getElem? (i := 3) rfl)) (by decide) (by decide)) (g := (mkF m 131 #[.val (.int p1), .val (.int p2), .val (.int p3), .val (.ref b4), .val (.ref b15), .val (.int mm), .val (.int p1), .unset, .unset, .unset] [(.int (45 : Int32)), (.int (45 : Int32)), (.int p1)])) rfl (by rw [hml]; rfl) (argsL := [(.int p1), (.int (45 : Int32)), (.int (45 : Int32))]) (rest := []) (lenOf pd_0 rfl) rfl (by show 2 * 0 + _ ≤ _; exact Nat.le_of_eq rfl) (hb hby at_131) (fun _ _ => ⟨rfl, e25, (by decide : 2 + 0 ≤ _), (by decide : 10 + 0 ≤ _)⟩)
      dsimp only [Pt.U, Pt.locs, Pt.cells, Pt.slots] at X112 l112 y112 z112 st112 hQ112
      subst l112 y112 z112
      obtain ⟨rfl, N112q, e112⟩ := hQ112
      have N112 := Fr.app N25 N112q
      obtain ⟨clu113, Aru113, qu113, Su113, Mu113, Hu113, Gu113⟩ := id V_b4_25
      have hinu113 : ¬ ((1 : Int32) < 0 ∨ clu113.slots.size ≤ ((1 : Int32)).toNatClampNeg) := inb_of Su113 ⟨by decide, by decide⟩
      have hatu113 : clu113.slots[((1 : Int32)).toNatClampNeg]? = some (.int (48 : Int32)) := Hu113.at hinu113 rfl
      obtain ⟨clu114, Aru114, qu114, Su114, Mu114, Hu114, Gu114⟩ := id V_b15_25
      have hinu114 : ¬ ((1 : Int32) < 0 ∨ clu114.slots.size ≤ ((1 : Int32)).toNatClampNeg) := inb_of Su114 ⟨by decide, by decide⟩
      have hatu114 : clu114.slots[((1 : Int32)).toNatClampNeg]? = some (.int (57 : Int32)) := Hu114.at hinu114 rfl
      obtain ⟨_, _, ⟨T115, L115, k115, n115⟩, -, X115, ⟨Lc115, hQ115, l115, y115, z115⟩, st115⟩ := Jvm.LawKit.callS X112 hx (y := (⟨"com/example/liana/liana/rdf/TurtleGrammarIsNameCharacterPinLaw", "within", "(III)Z"⟩ : MethodName)) hown (mvT hZ (hw _ (List.mem_of_getElem? (i := 1) rfl))) (mvT hZ (hw _ (List.mem_of_getElem? (i := 2) rfl))) (mvT hZ (hw _ (List.mem_of_getElem? (i := 3) rfl))) (mvT hZ (hw _ (List.mem_of_getElem? (i := 4) rfl))) (by decide) (backOf (W := 0) (rm1U l Z a0 hw [] p1 (48 : Int32) (57 : Int32) h25 n0 SZ25 ) hZ (hw _ (List.mem_of_getElem? (i := 4) rfl)) (hw _ (List.mem_of_getElem? (i := 3) rfl)) (by decide) (by decide)) (g := (mkF m 146 #[.val (.int p1), .val (.int p2), .val (.int p3), .val (.ref b4), .val (.ref b15), .val (.int mm), .val (.int p1), .unset, .unset, .unset] [(.int (57 : Int32)), (.int (48 : Int32)), (.int p1)])) rfl (by rw [hml]; rfl) (argsL := [(.int p1), (.int (48 : Int32)), (.int (57 : Int32))]) (rest := []) (lenOf pd_0 rfl) rfl (by show 2 * 0 + _ ≤ _; exact Nat.le_of_eq rfl) (hb hby at_146) (fun _ _ => ⟨rfl, e112, (by decide : 2 + 0 ≤ _), (by decide : 10 + 0 ≤ _)⟩)
      dsimp only [Pt.U, Pt.locs, Pt.cells, Pt.slots] at X115 l115 y115 z115 st115 hQ115
      subst l115 y115 z115
      obtain ⟨rfl, N115q, e115⟩ := hQ115
      have N115 := Fr.app N112 N115q
      obtain ⟨_, _, ⟨T116, L116, k116, n116⟩, -, X116, ⟨Lc116, hQ116, l116, y116, z116⟩, st116⟩ := Jvm.LawKit.callS X115 hx (y := (⟨"com/example/liana/liana/rdf/TurtleGrammar", "isNameCharacter", "(I)Z"⟩ : MethodName)) hown (mvT hZ (hw _ (List.mem_of_getElem? (i := 5) rfl))) (mvT hZ (hw _ (List.mem_of_getElem? (i := 6) rfl))) (mvT hZ (hw _ (List.mem_of_getElem? (i := 7) rfl))) (mvT hZ (hw _ (List.mem_of_getElem? (i := 8) rfl))) (by decide) (backOf (W := 0) (rm2 l Z a0 hw [] p1 h25 n0 SZ25 ) hZ (hw _ (List.mem_of_getElem? (i := 8) rfl)) (hw _ (List.mem_of_getElem? (i := 7) rfl)) (by decide) (by decide)) (g := (mkF m 206 #[.val (.int p1), .val (.int p2), .val (.int p3), .val (.ref b4), .val (.ref b15), .val (.int mm), .val (.int p1), .val (.int (1 : Int32)), .unset, .unset] [(.int p1)])) rfl (by rw [hml]; rfl) (argsL := [(.int p1)]) (rest := []) (lenOf pd_1 rfl) rfl (by show 2 * 0 + _ ≤ _; exact Nat.le_of_eq rfl) (hb hby at_206) (fun _ _ => ⟨rfl, e115, (by decide : 2 + 0 ≤ _), (by decide : 10 + 0 ≤ _)⟩)
      dsimp only [Pt.U, Pt.locs, Pt.cells, Pt.slots] at X116 l116 y116 z116 st116 hQ116
      subst l116 y116 z116
      obtain ⟨rfl, N116q, e116⟩ := hQ116
      have N116 := Fr.app N115 N116q
      obtain ⟨_, _, ⟨T117, L117, k117, n117⟩, -, X117, ⟨Lc117, hQ117, l117, y117, z117⟩, st117⟩ := Jvm.LawKit.callS X116 hx (y := (⟨"com/example/liana/liana/rdf/TurtleGrammar", "isNameStart", "(I)Z"⟩ : MethodName)) hown (mvT hZ (hw _ (List.mem_of_getElem? (i := 9) rfl))) (mvT hZ (hw _ (List.mem_of_getElem? (i := 10) rfl))) (mvT hZ (hw _ (List.mem_of_getElem? (i := 7) rfl))) (mvT hZ (hw _ (List.mem_of_getElem? (i := 11) rfl))) (by decide) (backOf (W := 0) (rm3 l Z a0 hw [] p1 h25 n0 SZ25 ) hZ (hw _ (List.mem_of_getElem? (i := 11) rfl)) (hw _ (List.mem_of_getElem? (i := 7) rfl)) (by decide) (by decide)) (g := (mkF m 213 #[.val (.int p1), .val (.int p2), .val (.int p3), .val (.ref b4), .val (.ref b15), .val (.int mm), .val (.int p1), .val (.int (1 : Int32)), .val (.int (own_ch1 p1)), .unset] [(.int p1)])) rfl (by rw [hml]; rfl) (argsL := [(.int p1)]) (rest := []) (lenOf pd_1 rfl) rfl (by show 2 * 0 + _ ≤ _; exact Nat.le_of_eq rfl) (hb hby at_213) (fun _ _ => ⟨rfl, e116, (by decide : 2 + 0 ≤ _), (by decide : 10 + 0 ≤ _)⟩)
      dsimp only [Pt.U, Pt.locs, Pt.cells, Pt.slots] at X117 l117 y117 z117 st117 hQ117
      subst l117 y117 z117
      obtain ⟨rfl, N117q, e117⟩ := hQ117
      have N117 := Fr.app N116 N117q
      obtain ⟨fs, hr, hrun, hended, hW, hsame⟩ := X117.leave (v := some (.int (1 : Int32))) (fun h => by rw [Bd.returns] at h; cases h)
      refine ⟨_, _, pre_104 _ ?_, hrun, hended, _, _, rfl, ?_, ⟨_, rfl⟩, hW, hsame.mono (by decide) (by decide)⟩
      · show Steps p.tables e below (T25.setTop (mkF m 122 #[.val (.int p1), .val (.int p2), .val (.int p3), .val (.ref b4), .val (.ref b15), .val (.int mm), .val (.int p1), .unset, .unset, .unset] [])) _
        refine XS.iload X25.here hx rfl (hb hby at_122) rfl ?_
        show Steps p.tables e below (T25.setTop (mkF m 124 #[.val (.int p1), .val (.int p2), .val (.int p3), .val (.ref b4), .val (.ref b15), .val (.int mm), .val (.int p1), .unset, .unset, .unset] [(.int p1)])) _
        refine XS.aloadN X25.here hx rfl (hb hby at_124) rfl rfl ?_
        show Steps p.tables e below (T25.setTop (mkF m 125 #[.val (.int p1), .val (.int p2), .val (.int p3), .val (.ref b4), .val (.ref b15), .val (.int mm), .val (.int p1), .unset, .unset, .unset] [(.ref b4), (.int p1)])) _
        refine XS.iconst X25.here hx rfl (hb hby at_125) ?_
        show Steps p.tables e below (T25.setTop (mkF m 126 #[.val (.int p1), .val (.int p2), .val (.int p3), .val (.ref b4), .val (.ref b15), .val (.int mm), .val (.int p1), .unset, .unset, .unset] [(.int (0 : Int32)), (.ref b4), (.int p1)])) _
        refine X25.iaload hx (j := (0 : Int32)) (v := (.int (45 : Int32))) (by rw [e25]; exact Aru110.1) (State.isArrayOf_alike hZ.alike Aru110.2.1) Aru110.2.2 hinu110 hatu110 (g := (mkF m 126 #[.val (.int p1), .val (.int p2), .val (.int p3), .val (.ref b4), .val (.ref b15), .val (.int mm), .val (.int p1), .unset, .unset, .unset] [(.int (0 : Int32)), (.ref b4), (.int p1)])) rfl rfl (hb hby at_126) _ ?_
        show Steps p.tables e below (T25.setTop (mkF m 127 #[.val (.int p1), .val (.int p2), .val (.int p3), .val (.ref b4), .val (.ref b15), .val (.int mm), .val (.int p1), .unset, .unset, .unset] [(.int (45 : Int32)), (.int p1)])) _
        refine XS.aload X25.here hx rfl (hb hby at_127) rfl rfl ?_
        show Steps p.tables e below (T25.setTop (mkF m 129 #[.val (.int p1), .val (.int p2), .val (.int p3), .val (.ref b4), .val (.ref b15), .val (.int mm), .val (.int p1), .unset, .unset, .unset] [(.ref b15), (.int (45 : Int32)), (.int p1)])) _
        refine XS.iconst X25.here hx rfl (hb hby at_129) ?_
        show Steps p.tables e below (T25.setTop (mkF m 130 #[.val (.int p1), .val (.int p2), .val (.int p3), .val (.ref b4), .val (.ref b15), .val (.int mm), .val (.int p1), .unset, .unset, .unset] [(.int (0 : Int32)), (.ref b15), (.int (45 : Int32)), (.int p1)])) _
        refine X25.iaload hx (j := (0 : Int32)) (v := (.int (45 : Int32))) (by rw [e25]; exact Aru111.1) (State.isArrayOf_alike hZ.alike Aru111.2.1) Aru111.2.2 hinu111 hatu111 (g := (mkF m 130 #[.val (.int p1), .val (.int p2), .val (.int p3), .val (.ref b4), .val (.ref b15), .val (.int mm), .val (.int p1), .unset, .unset, .unset] [(.int (0 : Int32)), (.ref b15), (.int (45 : Int32)), (.int p1)])) rfl rfl (hb hby at_130) _ ?_
        show Steps p.tables e below (T25.setTop (mkF m 131 #[.val (.int p1), .val (.int p2), .val (.int p3), .val (.ref b4), .val (.ref b15), .val (.int mm), .val (.int p1), .unset, .unset, .unset] [(.int (45 : Int32)), (.int (45 : Int32)), (.int p1)])) _
        refine st112 _ ?_
        show Steps p.tables e below (T112.setTop (mkF m 134 #[.val (.int p1), .val (.int p2), .val (.int p3), .val (.ref b4), .val (.ref b15), .val (.int mm), .val (.int p1), .unset, .unset, .unset] [(.int (own_in p1 (45 : Int32) (45 : Int32)))])) _
        refine XS.ifNo X112.here hx rfl (hb hby at_134) rfl ((if0 _ _).trans (teq (k0 : (own_in p1 (45 : Int32) (45 : Int32)) = (0 : Int32))).2) ?_
        show Steps p.tables e below (T112.setTop (mkF m 137 #[.val (.int p1), .val (.int p2), .val (.int p3), .val (.ref b4), .val (.ref b15), .val (.int mm), .val (.int p1), .unset, .unset, .unset] [])) _
        refine XS.iload X112.here hx rfl (hb hby at_137) rfl ?_
        show Steps p.tables e below (T112.setTop (mkF m 139 #[.val (.int p1), .val (.int p2), .val (.int p3), .val (.ref b4), .val (.ref b15), .val (.int mm), .val (.int p1), .unset, .unset, .unset] [(.int p1)])) _
        refine XS.aloadN X112.here hx rfl (hb hby at_139) rfl rfl ?_
        show Steps p.tables e below (T112.setTop (mkF m 140 #[.val (.int p1), .val (.int p2), .val (.int p3), .val (.ref b4), .val (.ref b15), .val (.int mm), .val (.int p1), .unset, .unset, .unset] [(.ref b4), (.int p1)])) _
        refine XS.iconst X112.here hx rfl (hb hby at_140) ?_
        show Steps p.tables e below (T112.setTop (mkF m 141 #[.val (.int p1), .val (.int p2), .val (.int p3), .val (.ref b4), .val (.ref b15), .val (.int mm), .val (.int p1), .unset, .unset, .unset] [(.int (1 : Int32)), (.ref b4), (.int p1)])) _
        refine X112.iaload hx (j := (1 : Int32)) (v := (.int (48 : Int32))) (by rw [e112]; exact Aru113.1) (State.isArrayOf_alike hZ.alike Aru113.2.1) Aru113.2.2 hinu113 hatu113 (g := (mkF m 141 #[.val (.int p1), .val (.int p2), .val (.int p3), .val (.ref b4), .val (.ref b15), .val (.int mm), .val (.int p1), .unset, .unset, .unset] [(.int (1 : Int32)), (.ref b4), (.int p1)])) rfl rfl (hb hby at_141) _ ?_
        show Steps p.tables e below (T112.setTop (mkF m 142 #[.val (.int p1), .val (.int p2), .val (.int p3), .val (.ref b4), .val (.ref b15), .val (.int mm), .val (.int p1), .unset, .unset, .unset] [(.int (48 : Int32)), (.int p1)])) _
        refine XS.aload X112.here hx rfl (hb hby at_142) rfl rfl ?_
        show Steps p.tables e below (T112.setTop (mkF m 144 #[.val (.int p1), .val (.int p2), .val (.int p3), .val (.ref b4), .val (.ref b15), .val (.int mm), .val (.int p1), .unset, .unset, .unset] [(.ref b15), (.int (48 : Int32)), (.int p1)])) _
        refine XS.iconst X112.here hx rfl (hb hby at_144) ?_
        show Steps p.tables e below (T112.setTop (mkF m 145 #[.val (.int p1), .val (.int p2), .val (.int p3), .val (.ref b4), .val (.ref b15), .val (.int mm), .val (.int p1), .unset, .unset, .unset] [(.int (1 : Int32)), (.ref b15), (.int (48 : Int32)), (.int p1)])) _
        refine X112.iaload hx (j := (1 : Int32)) (v := (.int (57 : Int32))) (by rw [e112]; exact Aru114.1) (State.isArrayOf_alike hZ.alike Aru114.2.1) Aru114.2.2 hinu114 hatu114 (g := (mkF m 145 #[.val (.int p1), .val (.int p2), .val (.int p3), .val (.ref b4), .val (.ref b15), .val (.int mm), .val (.int p1), .unset, .unset, .unset] [(.int (1 : Int32)), (.ref b15), (.int (48 : Int32)), (.int p1)])) rfl rfl (hb hby at_145) _ ?_
        show Steps p.tables e below (T112.setTop (mkF m 146 #[.val (.int p1), .val (.int p2), .val (.int p3), .val (.ref b4), .val (.ref b15), .val (.int mm), .val (.int p1), .unset, .unset, .unset] [(.int (57 : Int32)), (.int (48 : Int32)), (.int p1)])) _
        refine st115 _ ?_
        show Steps p.tables e below (T115.setTop (mkF m 149 #[.val (.int p1), .val (.int p2), .val (.int p3), .val (.ref b4), .val (.ref b15), .val (.int mm), .val (.int p1), .unset, .unset, .unset] [(.int (own_in p1 (48 : Int32) (57 : Int32)))])) _
        refine XS.ifYes X115.here hx rfl (pc0 := 149) (pc' := 197) rfl (hb hby at_149) rfl ((if0 _ _).trans (feq (k1 : ¬ ((own_in p1 (48 : Int32) (57 : Int32)) = (0 : Int32)))).2) (by decide) (by decide) ?_
        show Steps p.tables e below (T115.setTop (mkF m 197 #[.val (.int p1), .val (.int p2), .val (.int p3), .val (.ref b4), .val (.ref b15), .val (.int mm), .val (.int p1), .unset, .unset, .unset] [])) _
        refine XS.iconst X115.here hx rfl (hb hby at_197) ?_
        show Steps p.tables e below (T115.setTop (mkF m 198 #[.val (.int p1), .val (.int p2), .val (.int p3), .val (.ref b4), .val (.ref b15), .val (.int mm), .val (.int p1), .unset, .unset, .unset] [(.int (1 : Int32))])) _
        refine XS.goto X115.here hx rfl (pc0 := 198) (pc' := 202) rfl (hb hby at_198) (by decide) (by decide) ?_
        show Steps p.tables e below (T115.setTop (mkF m 202 #[.val (.int p1), .val (.int p2), .val (.int p3), .val (.ref b4), .val (.ref b15), .val (.int mm), .val (.int p1), .unset, .unset, .unset] [(.int (1 : Int32))])) _
        refine XS.istore X115.here hx rfl (hb hby at_202) rfl (l' := #[.val (.int p1), .val (.int p2), .val (.int p3), .val (.ref b4), .val (.ref b15), .val (.int mm), .val (.int p1), .val (.int (1 : Int32)), .unset, .unset]) rfl ?_
        show Steps p.tables e below (T115.setTop (mkF m 204 #[.val (.int p1), .val (.int p2), .val (.int p3), .val (.ref b4), .val (.ref b15), .val (.int mm), .val (.int p1), .val (.int (1 : Int32)), .unset, .unset] [])) _
        refine XS.iload X115.here hx rfl (hb hby at_204) rfl ?_
        show Steps p.tables e below (T115.setTop (mkF m 206 #[.val (.int p1), .val (.int p2), .val (.int p3), .val (.ref b4), .val (.ref b15), .val (.int mm), .val (.int p1), .val (.int (1 : Int32)), .unset, .unset] [(.int p1)])) _
        refine st116 _ ?_
        show Steps p.tables e below (T116.setTop (mkF m 209 #[.val (.int p1), .val (.int p2), .val (.int p3), .val (.ref b4), .val (.ref b15), .val (.int mm), .val (.int p1), .val (.int (1 : Int32)), .unset, .unset] [(.int (own_ch1 p1))])) _
        refine XS.istore X116.here hx rfl (hb hby at_209) rfl (l' := #[.val (.int p1), .val (.int p2), .val (.int p3), .val (.ref b4), .val (.ref b15), .val (.int mm), .val (.int p1), .val (.int (1 : Int32)), .val (.int (own_ch1 p1)), .unset]) rfl ?_
        show Steps p.tables e below (T116.setTop (mkF m 211 #[.val (.int p1), .val (.int p2), .val (.int p3), .val (.ref b4), .val (.ref b15), .val (.int mm), .val (.int p1), .val (.int (1 : Int32)), .val (.int (own_ch1 p1)), .unset] [])) _
        refine XS.iload X116.here hx rfl (hb hby at_211) rfl ?_
        show Steps p.tables e below (T116.setTop (mkF m 213 #[.val (.int p1), .val (.int p2), .val (.int p3), .val (.ref b4), .val (.ref b15), .val (.int mm), .val (.int p1), .val (.int (1 : Int32)), .val (.int (own_ch1 p1)), .unset] [(.int p1)])) _
        refine st117 _ ?_
        show Steps p.tables e below (T117.setTop (mkF m 216 #[.val (.int p1), .val (.int p2), .val (.int p3), .val (.ref b4), .val (.ref b15), .val (.int mm), .val (.int p1), .val (.int (1 : Int32)), .val (.int (own_ch1 p1)), .unset] [(.int (own_st1 p1))])) _
        refine XS.istore X117.here hx rfl (hb hby at_216) rfl (l' := #[.val (.int p1), .val (.int p2), .val (.int p3), .val (.ref b4), .val (.ref b15), .val (.int mm), .val (.int p1), .val (.int (1 : Int32)), .val (.int (own_ch1 p1)), .val (.int (own_st1 p1))]) rfl ?_
        show Steps p.tables e below (T117.setTop (mkF m 218 #[.val (.int p1), .val (.int p2), .val (.int p3), .val (.ref b4), .val (.ref b15), .val (.int mm), .val (.int p1), .val (.int (1 : Int32)), .val (.int (own_ch1 p1)), .val (.int (own_st1 p1))] [])) _
        refine XS.iload X117.here hx rfl (hb hby at_218) rfl ?_
        show Steps p.tables e below (T117.setTop (mkF m 220 #[.val (.int p1), .val (.int p2), .val (.int p3), .val (.ref b4), .val (.ref b15), .val (.int mm), .val (.int p1), .val (.int (1 : Int32)), .val (.int (own_ch1 p1)), .val (.int (own_st1 p1))] [(.int (own_ch1 p1))])) _
        refine XS.iload X117.here hx rfl (hb hby at_220) rfl ?_
        show Steps p.tables e below (T117.setTop (mkF m 222 #[.val (.int p1), .val (.int p2), .val (.int p3), .val (.ref b4), .val (.ref b15), .val (.int mm), .val (.int p1), .val (.int (1 : Int32)), .val (.int (own_ch1 p1)), .val (.int (own_st1 p1))] [(.int (1 : Int32)), (.int (own_ch1 p1))])) _
        refine XS.icmpNo X117.here hx rfl (hb hby at_222) rfl (teq (c1 : (own_ch1 p1) = (1 : Int32))).2 ?_
        show Steps p.tables e below (T117.setTop (mkF m 225 #[.val (.int p1), .val (.int p2), .val (.int p3), .val (.ref b4), .val (.ref b15), .val (.int mm), .val (.int p1), .val (.int (1 : Int32)), .val (.int (own_ch1 p1)), .val (.int (own_st1 p1))] [])) _
        refine XS.iload X117.here hx rfl (hb hby at_225) rfl ?_
        show Steps p.tables e below (T117.setTop (mkF m 227 #[.val (.int p1), .val (.int p2), .val (.int p3), .val (.ref b4), .val (.ref b15), .val (.int mm), .val (.int p1), .val (.int (1 : Int32)), .val (.int (own_ch1 p1)), .val (.int (own_st1 p1))] [(.int (own_ch1 p1))])) _
        refine XS.ifNo X117.here hx rfl (hb hby at_227) rfl ((if0 _ _).trans (feq (by rw [c1]; decide : ¬ ((own_ch1 p1) = (0 : Int32)))).1) ?_
        show Steps p.tables e below (T117.setTop (mkF m 230 #[.val (.int p1), .val (.int p2), .val (.int p3), .val (.ref b4), .val (.ref b15), .val (.int mm), .val (.int p1), .val (.int (1 : Int32)), .val (.int (own_ch1 p1)), .val (.int (own_st1 p1))] [])) _
        refine XS.iload X117.here hx rfl (hb hby at_230) rfl ?_
        show Steps p.tables e below (T117.setTop (mkF m 232 #[.val (.int p1), .val (.int p2), .val (.int p3), .val (.ref b4), .val (.ref b15), .val (.int mm), .val (.int p1), .val (.int (1 : Int32)), .val (.int (own_ch1 p1)), .val (.int (own_st1 p1))] [(.int (own_st1 p1))])) _
        refine XS.ifNo X117.here hx rfl (hb hby at_232) rfl ((if0 _ _).trans (teq (c2 : (own_st1 p1) = (0 : Int32))).2) ?_
        show Steps p.tables e below (T117.setTop (mkF m 235 #[.val (.int p1), .val (.int p2), .val (.int p3), .val (.ref b4), .val (.ref b15), .val (.int mm), .val (.int p1), .val (.int (1 : Int32)), .val (.int (own_ch1 p1)), .val (.int (own_st1 p1))] [])) _
        refine XS.iconst X117.here hx rfl (hb hby at_235) ?_
        show Steps p.tables e below (T117.setTop (mkF m 236 #[.val (.int p1), .val (.int p2), .val (.int p3), .val (.ref b4), .val (.ref b15), .val (.int mm), .val (.int p1), .val (.int (1 : Int32)), .val (.int (own_ch1 p1)), .val (.int (own_st1 p1))] [(.int (1 : Int32))])) _
        refine XS.goto X117.here hx rfl (pc0 := 236) (pc' := 240) rfl (hb hby at_236) (by decide) (by decide) ?_
        show Steps p.tables e below (T117.setTop (mkF m 240 #[.val (.int p1), .val (.int p2), .val (.int p3), .val (.ref b4), .val (.ref b15), .val (.int mm), .val (.int p1), .val (.int (1 : Int32)), .val (.int (own_ch1 p1)), .val (.int (own_st1 p1))] [(.int (1 : Int32))])) _
        exact retN X117 hx (t := .boolean) Bd.returns (by simp) (hb hby at_240) hr
      · show QF n0 _ T117.heap _
        rw [e117]
        exact ⟨rfl, N117⟩
    by_cases k2 : own_in p1 (183 : Int32) (183 : Int32) = (0 : Int32)
    rotate_left
    · skip
      have dj : p1.toInt = 45 ∨ (48 ≤ p1.toInt ∧ p1.toInt ≤ 57) ∨ p1.toInt = 183 ∨ (768 ≤ p1.toInt ∧ p1.toInt ≤ 879) ∨ (8255 ≤ p1.toInt ∧ p1.toInt ≤ 8256) := by have q := own_in_nz k2; simp only [f21, f22] at q; omega
      have c1 := own_ch_p dj
      have c2 := own_st_z dj
      obtain ⟨clu118, Aru118, qu118, Su118, Mu118, Hu118, Gu118⟩ := id V_b4_25
      have hinu118 : ¬ ((0 : Int32) < 0 ∨ clu118.slots.size ≤ ((0 : Int32)).toNatClampNeg) := inb_of Su118 ⟨by decide, by decide⟩
      have hatu118 : clu118.slots[((0 : Int32)).toNatClampNeg]? = some (.int (45 : Int32)) := Hu118.at hinu118 rfl
      obtain ⟨clu119, Aru119, qu119, Su119, Mu119, Hu119, Gu119⟩ := id V_b15_25
      have hinu119 : ¬ ((0 : Int32) < 0 ∨ clu119.slots.size ≤ ((0 : Int32)).toNatClampNeg) := inb_of Su119 ⟨by decide, by decide⟩
      have hatu119 : clu119.slots[((0 : Int32)).toNatClampNeg]? = some (.int (45 : Int32)) := Hu119.at hinu119 rfl
      obtain ⟨_, _, ⟨T120, L120, k120, n120⟩, -, X120, ⟨Lc120, hQ120, l120, y120, z120⟩, st120⟩ := Jvm.LawKit.callS X25 hx (y := (⟨"com/example/liana/liana/rdf/TurtleGrammarIsNameCharacterPinLaw", "within", "(III)Z"⟩ : MethodName)) hown (mvT hZ (hw _ (List.mem_of_getElem? (i := 1) rfl))) (mvT hZ (hw _ (List.mem_of_getElem? (i := 2) rfl))) (mvT hZ (hw _ (List.mem_of_getElem? (i := 3) rfl))) (mvT hZ (hw _ (List.mem_of_getElem? (i := 4) rfl))) (by decide) (backOf (W := 0) (rm1U l Z a0 hw [] p1 (45 : Int32) (45 : Int32) h25 n0 SZ25 ) hZ (hw _ (List.mem_of_getElem? (i := 4) rfl)) (hw _ (List.mem_of_getElem? (i := 3) rfl)) (by decide) (by decide)) (g := (mkF m 131 #[.val (.int p1), .val (.int p2), .val (.int p3), .val (.ref b4), .val (.ref b15), .val (.int mm), .val (.int p1), .unset, .unset, .unset] [(.int (45 : Int32)), (.int (45 : Int32)), (.int p1)])) rfl (by rw [hml]; rfl) (argsL := [(.int p1), (.int (45 : Int32)), (.int (45 : Int32))]) (rest := []) (lenOf pd_0 rfl) rfl (by show 2 * 0 + _ ≤ _; exact Nat.le_of_eq rfl) (hb hby at_131) (fun _ _ => ⟨rfl, e25, (by decide : 2 + 0 ≤ _), (by decide : 10 + 0 ≤ _)⟩)
      dsimp only [Pt.U, Pt.locs, Pt.cells, Pt.slots] at X120 l120 y120 z120 st120 hQ120
      subst l120 y120 z120
      obtain ⟨rfl, N120q, e120⟩ := hQ120
      have N120 := Fr.app N25 N120q
      obtain ⟨clu121, Aru121, qu121, Su121, Mu121, Hu121, Gu121⟩ := id V_b4_25
      have hinu121 : ¬ ((1 : Int32) < 0 ∨ clu121.slots.size ≤ ((1 : Int32)).toNatClampNeg) := inb_of Su121 ⟨by decide, by decide⟩
      have hatu121 : clu121.slots[((1 : Int32)).toNatClampNeg]? = some (.int (48 : Int32)) := Hu121.at hinu121 rfl
      obtain ⟨clu122, Aru122, qu122, Su122, Mu122, Hu122, Gu122⟩ := id V_b15_25
      have hinu122 : ¬ ((1 : Int32) < 0 ∨ clu122.slots.size ≤ ((1 : Int32)).toNatClampNeg) := inb_of Su122 ⟨by decide, by decide⟩
      have hatu122 : clu122.slots[((1 : Int32)).toNatClampNeg]? = some (.int (57 : Int32)) := Hu122.at hinu122 rfl
      obtain ⟨_, _, ⟨T123, L123, k123, n123⟩, -, X123, ⟨Lc123, hQ123, l123, y123, z123⟩, st123⟩ := Jvm.LawKit.callS X120 hx (y := (⟨"com/example/liana/liana/rdf/TurtleGrammarIsNameCharacterPinLaw", "within", "(III)Z"⟩ : MethodName)) hown (mvT hZ (hw _ (List.mem_of_getElem? (i := 1) rfl))) (mvT hZ (hw _ (List.mem_of_getElem? (i := 2) rfl))) (mvT hZ (hw _ (List.mem_of_getElem? (i := 3) rfl))) (mvT hZ (hw _ (List.mem_of_getElem? (i := 4) rfl))) (by decide) (backOf (W := 0) (rm1U l Z a0 hw [] p1 (48 : Int32) (57 : Int32) h25 n0 SZ25 ) hZ (hw _ (List.mem_of_getElem? (i := 4) rfl)) (hw _ (List.mem_of_getElem? (i := 3) rfl)) (by decide) (by decide)) (g := (mkF m 146 #[.val (.int p1), .val (.int p2), .val (.int p3), .val (.ref b4), .val (.ref b15), .val (.int mm), .val (.int p1), .unset, .unset, .unset] [(.int (57 : Int32)), (.int (48 : Int32)), (.int p1)])) rfl (by rw [hml]; rfl) (argsL := [(.int p1), (.int (48 : Int32)), (.int (57 : Int32))]) (rest := []) (lenOf pd_0 rfl) rfl (by show 2 * 0 + _ ≤ _; exact Nat.le_of_eq rfl) (hb hby at_146) (fun _ _ => ⟨rfl, e120, (by decide : 2 + 0 ≤ _), (by decide : 10 + 0 ≤ _)⟩)
      dsimp only [Pt.U, Pt.locs, Pt.cells, Pt.slots] at X123 l123 y123 z123 st123 hQ123
      subst l123 y123 z123
      obtain ⟨rfl, N123q, e123⟩ := hQ123
      have N123 := Fr.app N120 N123q
      obtain ⟨clu124, Aru124, qu124, Su124, Mu124, Hu124, Gu124⟩ := id V_b4_25
      have hinu124 : ¬ ((2 : Int32) < 0 ∨ clu124.slots.size ≤ ((2 : Int32)).toNatClampNeg) := inb_of Su124 ⟨by decide, by decide⟩
      have hatu124 : clu124.slots[((2 : Int32)).toNatClampNeg]? = some (.int (183 : Int32)) := Hu124.at hinu124 rfl
      obtain ⟨clu125, Aru125, qu125, Su125, Mu125, Hu125, Gu125⟩ := id V_b15_25
      have hinu125 : ¬ ((2 : Int32) < 0 ∨ clu125.slots.size ≤ ((2 : Int32)).toNatClampNeg) := inb_of Su125 ⟨by decide, by decide⟩
      have hatu125 : clu125.slots[((2 : Int32)).toNatClampNeg]? = some (.int (183 : Int32)) := Hu125.at hinu125 rfl
      obtain ⟨_, _, ⟨T126, L126, k126, n126⟩, -, X126, ⟨Lc126, hQ126, l126, y126, z126⟩, st126⟩ := Jvm.LawKit.callS X123 hx (y := (⟨"com/example/liana/liana/rdf/TurtleGrammarIsNameCharacterPinLaw", "within", "(III)Z"⟩ : MethodName)) hown (mvT hZ (hw _ (List.mem_of_getElem? (i := 1) rfl))) (mvT hZ (hw _ (List.mem_of_getElem? (i := 2) rfl))) (mvT hZ (hw _ (List.mem_of_getElem? (i := 3) rfl))) (mvT hZ (hw _ (List.mem_of_getElem? (i := 4) rfl))) (by decide) (backOf (W := 0) (rm1U l Z a0 hw [] p1 (183 : Int32) (183 : Int32) h25 n0 SZ25 ) hZ (hw _ (List.mem_of_getElem? (i := 4) rfl)) (hw _ (List.mem_of_getElem? (i := 3) rfl)) (by decide) (by decide)) (g := (mkF m 161 #[.val (.int p1), .val (.int p2), .val (.int p3), .val (.ref b4), .val (.ref b15), .val (.int mm), .val (.int p1), .unset, .unset, .unset] [(.int (183 : Int32)), (.int (183 : Int32)), (.int p1)])) rfl (by rw [hml]; rfl) (argsL := [(.int p1), (.int (183 : Int32)), (.int (183 : Int32))]) (rest := []) (lenOf pd_0 rfl) rfl (by show 2 * 0 + _ ≤ _; exact Nat.le_of_eq rfl) (hb hby at_161) (fun _ _ => ⟨rfl, e123, (by decide : 2 + 0 ≤ _), (by decide : 10 + 0 ≤ _)⟩)
      dsimp only [Pt.U, Pt.locs, Pt.cells, Pt.slots] at X126 l126 y126 z126 st126 hQ126
      subst l126 y126 z126
      obtain ⟨rfl, N126q, e126⟩ := hQ126
      have N126 := Fr.app N123 N126q
      obtain ⟨_, _, ⟨T127, L127, k127, n127⟩, -, X127, ⟨Lc127, hQ127, l127, y127, z127⟩, st127⟩ := Jvm.LawKit.callS X126 hx (y := (⟨"com/example/liana/liana/rdf/TurtleGrammar", "isNameCharacter", "(I)Z"⟩ : MethodName)) hown (mvT hZ (hw _ (List.mem_of_getElem? (i := 5) rfl))) (mvT hZ (hw _ (List.mem_of_getElem? (i := 6) rfl))) (mvT hZ (hw _ (List.mem_of_getElem? (i := 7) rfl))) (mvT hZ (hw _ (List.mem_of_getElem? (i := 8) rfl))) (by decide) (backOf (W := 0) (rm2 l Z a0 hw [] p1 h25 n0 SZ25 ) hZ (hw _ (List.mem_of_getElem? (i := 8) rfl)) (hw _ (List.mem_of_getElem? (i := 7) rfl)) (by decide) (by decide)) (g := (mkF m 206 #[.val (.int p1), .val (.int p2), .val (.int p3), .val (.ref b4), .val (.ref b15), .val (.int mm), .val (.int p1), .val (.int (1 : Int32)), .unset, .unset] [(.int p1)])) rfl (by rw [hml]; rfl) (argsL := [(.int p1)]) (rest := []) (lenOf pd_1 rfl) rfl (by show 2 * 0 + _ ≤ _; exact Nat.le_of_eq rfl) (hb hby at_206) (fun _ _ => ⟨rfl, e126, (by decide : 2 + 0 ≤ _), (by decide : 10 + 0 ≤ _)⟩)
      dsimp only [Pt.U, Pt.locs, Pt.cells, Pt.slots] at X127 l127 y127 z127 st127 hQ127
      subst l127 y127 z127
      obtain ⟨rfl, N127q, e127⟩ := hQ127
      have N127 := Fr.app N126 N127q
      obtain ⟨_, _, ⟨T128, L128, k128, n128⟩, -, X128, ⟨Lc128, hQ128, l128, y128, z128⟩, st128⟩ := Jvm.LawKit.callS X127 hx (y := (⟨"com/example/liana/liana/rdf/TurtleGrammar", "isNameStart", "(I)Z"⟩ : MethodName)) hown (mvT hZ (hw _ (List.mem_of_getElem? (i := 9) rfl))) (mvT hZ (hw _ (List.mem_of_getElem? (i := 10) rfl))) (mvT hZ (hw _ (List.mem_of_getElem? (i := 7) rfl))) (mvT hZ (hw _ (List.mem_of_getElem? (i := 11) rfl))) (by decide) (backOf (W := 0) (rm3 l Z a0 hw [] p1 h25 n0 SZ25 ) hZ (hw _ (List.mem_of_getElem? (i := 11) rfl)) (hw _ (List.mem_of_getElem? (i := 7) rfl)) (by decide) (by decide)) (g := (mkF m 213 #[.val (.int p1), .val (.int p2), .val (.int p3), .val (.ref b4), .val (.ref b15), .val (.int mm), .val (.int p1), .val (.int (1 : Int32)), .val (.int (own_ch1 p1)), .unset] [(.int p1)])) rfl (by rw [hml]; rfl) (argsL := [(.int p1)]) (rest := []) (lenOf pd_1 rfl) rfl (by show 2 * 0 + _ ≤ _; exact Nat.le_of_eq rfl) (hb hby at_213) (fun _ _ => ⟨rfl, e127, (by decide : 2 + 0 ≤ _), (by decide : 10 + 0 ≤ _)⟩)
      dsimp only [Pt.U, Pt.locs, Pt.cells, Pt.slots] at X128 l128 y128 z128 st128 hQ128
      subst l128 y128 z128
      obtain ⟨rfl, N128q, e128⟩ := hQ128
      have N128 := Fr.app N127 N128q
      obtain ⟨fs, hr, hrun, hended, hW, hsame⟩ := X128.leave (v := some (.int (1 : Int32))) (fun h => by rw [Bd.returns] at h; cases h)
      refine ⟨_, _, pre_104 _ ?_, hrun, hended, _, _, rfl, ?_, ⟨_, rfl⟩, hW, hsame.mono (by decide) (by decide)⟩
      · show Steps p.tables e below (T25.setTop (mkF m 122 #[.val (.int p1), .val (.int p2), .val (.int p3), .val (.ref b4), .val (.ref b15), .val (.int mm), .val (.int p1), .unset, .unset, .unset] [])) _
        refine XS.iload X25.here hx rfl (hb hby at_122) rfl ?_
        show Steps p.tables e below (T25.setTop (mkF m 124 #[.val (.int p1), .val (.int p2), .val (.int p3), .val (.ref b4), .val (.ref b15), .val (.int mm), .val (.int p1), .unset, .unset, .unset] [(.int p1)])) _
        refine XS.aloadN X25.here hx rfl (hb hby at_124) rfl rfl ?_
        show Steps p.tables e below (T25.setTop (mkF m 125 #[.val (.int p1), .val (.int p2), .val (.int p3), .val (.ref b4), .val (.ref b15), .val (.int mm), .val (.int p1), .unset, .unset, .unset] [(.ref b4), (.int p1)])) _
        refine XS.iconst X25.here hx rfl (hb hby at_125) ?_
        show Steps p.tables e below (T25.setTop (mkF m 126 #[.val (.int p1), .val (.int p2), .val (.int p3), .val (.ref b4), .val (.ref b15), .val (.int mm), .val (.int p1), .unset, .unset, .unset] [(.int (0 : Int32)), (.ref b4), (.int p1)])) _
        refine X25.iaload hx (j := (0 : Int32)) (v := (.int (45 : Int32))) (by rw [e25]; exact Aru118.1) (State.isArrayOf_alike hZ.alike Aru118.2.1) Aru118.2.2 hinu118 hatu118 (g := (mkF m 126 #[.val (.int p1), .val (.int p2), .val (.int p3), .val (.ref b4), .val (.ref b15), .val (.int mm), .val (.int p1), .unset, .unset, .unset] [(.int (0 : Int32)), (.ref b4), (.int p1)])) rfl rfl (hb hby at_126) _ ?_
        show Steps p.tables e below (T25.setTop (mkF m 127 #[.val (.int p1), .val (.int p2), .val (.int p3), .val (.ref b4), .val (.ref b15), .val (.int mm), .val (.int p1), .unset, .unset, .unset] [(.int (45 : Int32)), (.int p1)])) _
        refine XS.aload X25.here hx rfl (hb hby at_127) rfl rfl ?_
        show Steps p.tables e below (T25.setTop (mkF m 129 #[.val (.int p1), .val (.int p2), .val (.int p3), .val (.ref b4), .val (.ref b15), .val (.int mm), .val (.int p1), .unset, .unset, .unset] [(.ref b15), (.int (45 : Int32)), (.int p1)])) _
        refine XS.iconst X25.here hx rfl (hb hby at_129) ?_
        show Steps p.tables e below (T25.setTop (mkF m 130 #[.val (.int p1), .val (.int p2), .val (.int p3), .val (.ref b4), .val (.ref b15), .val (.int mm), .val (.int p1), .unset, .unset, .unset] [(.int (0 : Int32)), (.ref b15), (.int (45 : Int32)), (.int p1)])) _
        refine X25.iaload hx (j := (0 : Int32)) (v := (.int (45 : Int32))) (by rw [e25]; exact Aru119.1) (State.isArrayOf_alike hZ.alike Aru119.2.1) Aru119.2.2 hinu119 hatu119 (g := (mkF m 130 #[.val (.int p1), .val (.int p2), .val (.int p3), .val (.ref b4), .val (.ref b15), .val (.int mm), .val (.int p1), .unset, .unset, .unset] [(.int (0 : Int32)), (.ref b15), (.int (45 : Int32)), (.int p1)])) rfl rfl (hb hby at_130) _ ?_
        show Steps p.tables e below (T25.setTop (mkF m 131 #[.val (.int p1), .val (.int p2), .val (.int p3), .val (.ref b4), .val (.ref b15), .val (.int mm), .val (.int p1), .unset, .unset, .unset] [(.int (45 : Int32)), (.int (45 : Int32)), (.int p1)])) _
        refine st120 _ ?_
        show Steps p.tables e below (T120.setTop (mkF m 134 #[.val (.int p1), .val (.int p2), .val (.int p3), .val (.ref b4), .val (.ref b15), .val (.int mm), .val (.int p1), .unset, .unset, .unset] [(.int (own_in p1 (45 : Int32) (45 : Int32)))])) _
        refine XS.ifNo X120.here hx rfl (hb hby at_134) rfl ((if0 _ _).trans (teq (k0 : (own_in p1 (45 : Int32) (45 : Int32)) = (0 : Int32))).2) ?_
        show Steps p.tables e below (T120.setTop (mkF m 137 #[.val (.int p1), .val (.int p2), .val (.int p3), .val (.ref b4), .val (.ref b15), .val (.int mm), .val (.int p1), .unset, .unset, .unset] [])) _
        refine XS.iload X120.here hx rfl (hb hby at_137) rfl ?_
        show Steps p.tables e below (T120.setTop (mkF m 139 #[.val (.int p1), .val (.int p2), .val (.int p3), .val (.ref b4), .val (.ref b15), .val (.int mm), .val (.int p1), .unset, .unset, .unset] [(.int p1)])) _
        refine XS.aloadN X120.here hx rfl (hb hby at_139) rfl rfl ?_
        show Steps p.tables e below (T120.setTop (mkF m 140 #[.val (.int p1), .val (.int p2), .val (.int p3), .val (.ref b4), .val (.ref b15), .val (.int mm), .val (.int p1), .unset, .unset, .unset] [(.ref b4), (.int p1)])) _
        refine XS.iconst X120.here hx rfl (hb hby at_140) ?_
        show Steps p.tables e below (T120.setTop (mkF m 141 #[.val (.int p1), .val (.int p2), .val (.int p3), .val (.ref b4), .val (.ref b15), .val (.int mm), .val (.int p1), .unset, .unset, .unset] [(.int (1 : Int32)), (.ref b4), (.int p1)])) _
        refine X120.iaload hx (j := (1 : Int32)) (v := (.int (48 : Int32))) (by rw [e120]; exact Aru121.1) (State.isArrayOf_alike hZ.alike Aru121.2.1) Aru121.2.2 hinu121 hatu121 (g := (mkF m 141 #[.val (.int p1), .val (.int p2), .val (.int p3), .val (.ref b4), .val (.ref b15), .val (.int mm), .val (.int p1), .unset, .unset, .unset] [(.int (1 : Int32)), (.ref b4), (.int p1)])) rfl rfl (hb hby at_141) _ ?_
        show Steps p.tables e below (T120.setTop (mkF m 142 #[.val (.int p1), .val (.int p2), .val (.int p3), .val (.ref b4), .val (.ref b15), .val (.int mm), .val (.int p1), .unset, .unset, .unset] [(.int (48 : Int32)), (.int p1)])) _
        refine XS.aload X120.here hx rfl (hb hby at_142) rfl rfl ?_
        show Steps p.tables e below (T120.setTop (mkF m 144 #[.val (.int p1), .val (.int p2), .val (.int p3), .val (.ref b4), .val (.ref b15), .val (.int mm), .val (.int p1), .unset, .unset, .unset] [(.ref b15), (.int (48 : Int32)), (.int p1)])) _
        refine XS.iconst X120.here hx rfl (hb hby at_144) ?_
        show Steps p.tables e below (T120.setTop (mkF m 145 #[.val (.int p1), .val (.int p2), .val (.int p3), .val (.ref b4), .val (.ref b15), .val (.int mm), .val (.int p1), .unset, .unset, .unset] [(.int (1 : Int32)), (.ref b15), (.int (48 : Int32)), (.int p1)])) _
        refine X120.iaload hx (j := (1 : Int32)) (v := (.int (57 : Int32))) (by rw [e120]; exact Aru122.1) (State.isArrayOf_alike hZ.alike Aru122.2.1) Aru122.2.2 hinu122 hatu122 (g := (mkF m 145 #[.val (.int p1), .val (.int p2), .val (.int p3), .val (.ref b4), .val (.ref b15), .val (.int mm), .val (.int p1), .unset, .unset, .unset] [(.int (1 : Int32)), (.ref b15), (.int (48 : Int32)), (.int p1)])) rfl rfl (hb hby at_145) _ ?_
        show Steps p.tables e below (T120.setTop (mkF m 146 #[.val (.int p1), .val (.int p2), .val (.int p3), .val (.ref b4), .val (.ref b15), .val (.int mm), .val (.int p1), .unset, .unset, .unset] [(.int (57 : Int32)), (.int (48 : Int32)), (.int p1)])) _
        refine st123 _ ?_
        show Steps p.tables e below (T123.setTop (mkF m 149 #[.val (.int p1), .val (.int p2), .val (.int p3), .val (.ref b4), .val (.ref b15), .val (.int mm), .val (.int p1), .unset, .unset, .unset] [(.int (own_in p1 (48 : Int32) (57 : Int32)))])) _
        refine XS.ifNo X123.here hx rfl (hb hby at_149) rfl ((if0 _ _).trans (teq (k1 : (own_in p1 (48 : Int32) (57 : Int32)) = (0 : Int32))).2) ?_
        show Steps p.tables e below (T123.setTop (mkF m 152 #[.val (.int p1), .val (.int p2), .val (.int p3), .val (.ref b4), .val (.ref b15), .val (.int mm), .val (.int p1), .unset, .unset, .unset] [])) _
        refine XS.iload X123.here hx rfl (hb hby at_152) rfl ?_
        show Steps p.tables e below (T123.setTop (mkF m 154 #[.val (.int p1), .val (.int p2), .val (.int p3), .val (.ref b4), .val (.ref b15), .val (.int mm), .val (.int p1), .unset, .unset, .unset] [(.int p1)])) _
        refine XS.aloadN X123.here hx rfl (hb hby at_154) rfl rfl ?_
        show Steps p.tables e below (T123.setTop (mkF m 155 #[.val (.int p1), .val (.int p2), .val (.int p3), .val (.ref b4), .val (.ref b15), .val (.int mm), .val (.int p1), .unset, .unset, .unset] [(.ref b4), (.int p1)])) _
        refine XS.iconst X123.here hx rfl (hb hby at_155) ?_
        show Steps p.tables e below (T123.setTop (mkF m 156 #[.val (.int p1), .val (.int p2), .val (.int p3), .val (.ref b4), .val (.ref b15), .val (.int mm), .val (.int p1), .unset, .unset, .unset] [(.int (2 : Int32)), (.ref b4), (.int p1)])) _
        refine X123.iaload hx (j := (2 : Int32)) (v := (.int (183 : Int32))) (by rw [e123]; exact Aru124.1) (State.isArrayOf_alike hZ.alike Aru124.2.1) Aru124.2.2 hinu124 hatu124 (g := (mkF m 156 #[.val (.int p1), .val (.int p2), .val (.int p3), .val (.ref b4), .val (.ref b15), .val (.int mm), .val (.int p1), .unset, .unset, .unset] [(.int (2 : Int32)), (.ref b4), (.int p1)])) rfl rfl (hb hby at_156) _ ?_
        show Steps p.tables e below (T123.setTop (mkF m 157 #[.val (.int p1), .val (.int p2), .val (.int p3), .val (.ref b4), .val (.ref b15), .val (.int mm), .val (.int p1), .unset, .unset, .unset] [(.int (183 : Int32)), (.int p1)])) _
        refine XS.aload X123.here hx rfl (hb hby at_157) rfl rfl ?_
        show Steps p.tables e below (T123.setTop (mkF m 159 #[.val (.int p1), .val (.int p2), .val (.int p3), .val (.ref b4), .val (.ref b15), .val (.int mm), .val (.int p1), .unset, .unset, .unset] [(.ref b15), (.int (183 : Int32)), (.int p1)])) _
        refine XS.iconst X123.here hx rfl (hb hby at_159) ?_
        show Steps p.tables e below (T123.setTop (mkF m 160 #[.val (.int p1), .val (.int p2), .val (.int p3), .val (.ref b4), .val (.ref b15), .val (.int mm), .val (.int p1), .unset, .unset, .unset] [(.int (2 : Int32)), (.ref b15), (.int (183 : Int32)), (.int p1)])) _
        refine X123.iaload hx (j := (2 : Int32)) (v := (.int (183 : Int32))) (by rw [e123]; exact Aru125.1) (State.isArrayOf_alike hZ.alike Aru125.2.1) Aru125.2.2 hinu125 hatu125 (g := (mkF m 160 #[.val (.int p1), .val (.int p2), .val (.int p3), .val (.ref b4), .val (.ref b15), .val (.int mm), .val (.int p1), .unset, .unset, .unset] [(.int (2 : Int32)), (.ref b15), (.int (183 : Int32)), (.int p1)])) rfl rfl (hb hby at_160) _ ?_
        show Steps p.tables e below (T123.setTop (mkF m 161 #[.val (.int p1), .val (.int p2), .val (.int p3), .val (.ref b4), .val (.ref b15), .val (.int mm), .val (.int p1), .unset, .unset, .unset] [(.int (183 : Int32)), (.int (183 : Int32)), (.int p1)])) _
        refine st126 _ ?_
        show Steps p.tables e below (T126.setTop (mkF m 164 #[.val (.int p1), .val (.int p2), .val (.int p3), .val (.ref b4), .val (.ref b15), .val (.int mm), .val (.int p1), .unset, .unset, .unset] [(.int (own_in p1 (183 : Int32) (183 : Int32)))])) _
        refine XS.ifYes X126.here hx rfl (pc0 := 164) (pc' := 197) rfl (hb hby at_164) rfl ((if0 _ _).trans (feq (k2 : ¬ ((own_in p1 (183 : Int32) (183 : Int32)) = (0 : Int32)))).2) (by decide) (by decide) ?_
        show Steps p.tables e below (T126.setTop (mkF m 197 #[.val (.int p1), .val (.int p2), .val (.int p3), .val (.ref b4), .val (.ref b15), .val (.int mm), .val (.int p1), .unset, .unset, .unset] [])) _
        refine XS.iconst X126.here hx rfl (hb hby at_197) ?_
        show Steps p.tables e below (T126.setTop (mkF m 198 #[.val (.int p1), .val (.int p2), .val (.int p3), .val (.ref b4), .val (.ref b15), .val (.int mm), .val (.int p1), .unset, .unset, .unset] [(.int (1 : Int32))])) _
        refine XS.goto X126.here hx rfl (pc0 := 198) (pc' := 202) rfl (hb hby at_198) (by decide) (by decide) ?_
        show Steps p.tables e below (T126.setTop (mkF m 202 #[.val (.int p1), .val (.int p2), .val (.int p3), .val (.ref b4), .val (.ref b15), .val (.int mm), .val (.int p1), .unset, .unset, .unset] [(.int (1 : Int32))])) _
        refine XS.istore X126.here hx rfl (hb hby at_202) rfl (l' := #[.val (.int p1), .val (.int p2), .val (.int p3), .val (.ref b4), .val (.ref b15), .val (.int mm), .val (.int p1), .val (.int (1 : Int32)), .unset, .unset]) rfl ?_
        show Steps p.tables e below (T126.setTop (mkF m 204 #[.val (.int p1), .val (.int p2), .val (.int p3), .val (.ref b4), .val (.ref b15), .val (.int mm), .val (.int p1), .val (.int (1 : Int32)), .unset, .unset] [])) _
        refine XS.iload X126.here hx rfl (hb hby at_204) rfl ?_
        show Steps p.tables e below (T126.setTop (mkF m 206 #[.val (.int p1), .val (.int p2), .val (.int p3), .val (.ref b4), .val (.ref b15), .val (.int mm), .val (.int p1), .val (.int (1 : Int32)), .unset, .unset] [(.int p1)])) _
        refine st127 _ ?_
        show Steps p.tables e below (T127.setTop (mkF m 209 #[.val (.int p1), .val (.int p2), .val (.int p3), .val (.ref b4), .val (.ref b15), .val (.int mm), .val (.int p1), .val (.int (1 : Int32)), .unset, .unset] [(.int (own_ch1 p1))])) _
        refine XS.istore X127.here hx rfl (hb hby at_209) rfl (l' := #[.val (.int p1), .val (.int p2), .val (.int p3), .val (.ref b4), .val (.ref b15), .val (.int mm), .val (.int p1), .val (.int (1 : Int32)), .val (.int (own_ch1 p1)), .unset]) rfl ?_
        show Steps p.tables e below (T127.setTop (mkF m 211 #[.val (.int p1), .val (.int p2), .val (.int p3), .val (.ref b4), .val (.ref b15), .val (.int mm), .val (.int p1), .val (.int (1 : Int32)), .val (.int (own_ch1 p1)), .unset] [])) _
        refine XS.iload X127.here hx rfl (hb hby at_211) rfl ?_
        show Steps p.tables e below (T127.setTop (mkF m 213 #[.val (.int p1), .val (.int p2), .val (.int p3), .val (.ref b4), .val (.ref b15), .val (.int mm), .val (.int p1), .val (.int (1 : Int32)), .val (.int (own_ch1 p1)), .unset] [(.int p1)])) _
        refine st128 _ ?_
        show Steps p.tables e below (T128.setTop (mkF m 216 #[.val (.int p1), .val (.int p2), .val (.int p3), .val (.ref b4), .val (.ref b15), .val (.int mm), .val (.int p1), .val (.int (1 : Int32)), .val (.int (own_ch1 p1)), .unset] [(.int (own_st1 p1))])) _
        refine XS.istore X128.here hx rfl (hb hby at_216) rfl (l' := #[.val (.int p1), .val (.int p2), .val (.int p3), .val (.ref b4), .val (.ref b15), .val (.int mm), .val (.int p1), .val (.int (1 : Int32)), .val (.int (own_ch1 p1)), .val (.int (own_st1 p1))]) rfl ?_
        show Steps p.tables e below (T128.setTop (mkF m 218 #[.val (.int p1), .val (.int p2), .val (.int p3), .val (.ref b4), .val (.ref b15), .val (.int mm), .val (.int p1), .val (.int (1 : Int32)), .val (.int (own_ch1 p1)), .val (.int (own_st1 p1))] [])) _
        refine XS.iload X128.here hx rfl (hb hby at_218) rfl ?_
        show Steps p.tables e below (T128.setTop (mkF m 220 #[.val (.int p1), .val (.int p2), .val (.int p3), .val (.ref b4), .val (.ref b15), .val (.int mm), .val (.int p1), .val (.int (1 : Int32)), .val (.int (own_ch1 p1)), .val (.int (own_st1 p1))] [(.int (own_ch1 p1))])) _
        refine XS.iload X128.here hx rfl (hb hby at_220) rfl ?_
        show Steps p.tables e below (T128.setTop (mkF m 222 #[.val (.int p1), .val (.int p2), .val (.int p3), .val (.ref b4), .val (.ref b15), .val (.int mm), .val (.int p1), .val (.int (1 : Int32)), .val (.int (own_ch1 p1)), .val (.int (own_st1 p1))] [(.int (1 : Int32)), (.int (own_ch1 p1))])) _
        refine XS.icmpNo X128.here hx rfl (hb hby at_222) rfl (teq (c1 : (own_ch1 p1) = (1 : Int32))).2 ?_
        show Steps p.tables e below (T128.setTop (mkF m 225 #[.val (.int p1), .val (.int p2), .val (.int p3), .val (.ref b4), .val (.ref b15), .val (.int mm), .val (.int p1), .val (.int (1 : Int32)), .val (.int (own_ch1 p1)), .val (.int (own_st1 p1))] [])) _
        refine XS.iload X128.here hx rfl (hb hby at_225) rfl ?_
        show Steps p.tables e below (T128.setTop (mkF m 227 #[.val (.int p1), .val (.int p2), .val (.int p3), .val (.ref b4), .val (.ref b15), .val (.int mm), .val (.int p1), .val (.int (1 : Int32)), .val (.int (own_ch1 p1)), .val (.int (own_st1 p1))] [(.int (own_ch1 p1))])) _
        refine XS.ifNo X128.here hx rfl (hb hby at_227) rfl ((if0 _ _).trans (feq (by rw [c1]; decide : ¬ ((own_ch1 p1) = (0 : Int32)))).1) ?_
        show Steps p.tables e below (T128.setTop (mkF m 230 #[.val (.int p1), .val (.int p2), .val (.int p3), .val (.ref b4), .val (.ref b15), .val (.int mm), .val (.int p1), .val (.int (1 : Int32)), .val (.int (own_ch1 p1)), .val (.int (own_st1 p1))] [])) _
        refine XS.iload X128.here hx rfl (hb hby at_230) rfl ?_
        show Steps p.tables e below (T128.setTop (mkF m 232 #[.val (.int p1), .val (.int p2), .val (.int p3), .val (.ref b4), .val (.ref b15), .val (.int mm), .val (.int p1), .val (.int (1 : Int32)), .val (.int (own_ch1 p1)), .val (.int (own_st1 p1))] [(.int (own_st1 p1))])) _
        refine XS.ifNo X128.here hx rfl (hb hby at_232) rfl ((if0 _ _).trans (teq (c2 : (own_st1 p1) = (0 : Int32))).2) ?_
        show Steps p.tables e below (T128.setTop (mkF m 235 #[.val (.int p1), .val (.int p2), .val (.int p3), .val (.ref b4), .val (.ref b15), .val (.int mm), .val (.int p1), .val (.int (1 : Int32)), .val (.int (own_ch1 p1)), .val (.int (own_st1 p1))] [])) _
        refine XS.iconst X128.here hx rfl (hb hby at_235) ?_
        show Steps p.tables e below (T128.setTop (mkF m 236 #[.val (.int p1), .val (.int p2), .val (.int p3), .val (.ref b4), .val (.ref b15), .val (.int mm), .val (.int p1), .val (.int (1 : Int32)), .val (.int (own_ch1 p1)), .val (.int (own_st1 p1))] [(.int (1 : Int32))])) _
        refine XS.goto X128.here hx rfl (pc0 := 236) (pc' := 240) rfl (hb hby at_236) (by decide) (by decide) ?_
        show Steps p.tables e below (T128.setTop (mkF m 240 #[.val (.int p1), .val (.int p2), .val (.int p3), .val (.ref b4), .val (.ref b15), .val (.int mm), .val (.int p1), .val (.int (1 : Int32)), .val (.int (own_ch1 p1)), .val (.int (own_st1 p1))] [(.int (1 : Int32))])) _
        exact retN X128 hx (t := .boolean) Bd.returns (by simp) (hb hby at_240) hr
      · show QF n0 _ T128.heap _
        rw [e128]
        exact ⟨rfl, N128⟩
    by_cases k3 : own_in p1 (768 : Int32) (879 : Int32) = (0 : Int32)
    rotate_left
    · skip
      have dj : p1.toInt = 45 ∨ (48 ≤ p1.toInt ∧ p1.toInt ≤ 57) ∨ p1.toInt = 183 ∨ (768 ≤ p1.toInt ∧ p1.toInt ≤ 879) ∨ (8255 ≤ p1.toInt ∧ p1.toInt ≤ 8256) := by have q := own_in_nz k3; simp only [f31, f32] at q; omega
      have c1 := own_ch_p dj
      have c2 := own_st_z dj
      obtain ⟨clu129, Aru129, qu129, Su129, Mu129, Hu129, Gu129⟩ := id V_b4_25
      have hinu129 : ¬ ((0 : Int32) < 0 ∨ clu129.slots.size ≤ ((0 : Int32)).toNatClampNeg) := inb_of Su129 ⟨by decide, by decide⟩
      have hatu129 : clu129.slots[((0 : Int32)).toNatClampNeg]? = some (.int (45 : Int32)) := Hu129.at hinu129 rfl
      obtain ⟨clu130, Aru130, qu130, Su130, Mu130, Hu130, Gu130⟩ := id V_b15_25
      have hinu130 : ¬ ((0 : Int32) < 0 ∨ clu130.slots.size ≤ ((0 : Int32)).toNatClampNeg) := inb_of Su130 ⟨by decide, by decide⟩
      have hatu130 : clu130.slots[((0 : Int32)).toNatClampNeg]? = some (.int (45 : Int32)) := Hu130.at hinu130 rfl
      obtain ⟨_, _, ⟨T131, L131, k131, n131⟩, -, X131, ⟨Lc131, hQ131, l131, y131, z131⟩, st131⟩ := Jvm.LawKit.callS X25 hx (y := (⟨"com/example/liana/liana/rdf/TurtleGrammarIsNameCharacterPinLaw", "within", "(III)Z"⟩ : MethodName)) hown (mvT hZ (hw _ (List.mem_of_getElem? (i := 1) rfl))) (mvT hZ (hw _ (List.mem_of_getElem? (i := 2) rfl))) (mvT hZ (hw _ (List.mem_of_getElem? (i := 3) rfl))) (mvT hZ (hw _ (List.mem_of_getElem? (i := 4) rfl))) (by decide) (backOf (W := 0) (rm1U l Z a0 hw [] p1 (45 : Int32) (45 : Int32) h25 n0 SZ25 ) hZ (hw _ (List.mem_of_getElem? (i := 4) rfl)) (hw _ (List.mem_of_getElem? (i := 3) rfl)) (by decide) (by decide)) (g := (mkF m 131 #[.val (.int p1), .val (.int p2), .val (.int p3), .val (.ref b4), .val (.ref b15), .val (.int mm), .val (.int p1), .unset, .unset, .unset] [(.int (45 : Int32)), (.int (45 : Int32)), (.int p1)])) rfl (by rw [hml]; rfl) (argsL := [(.int p1), (.int (45 : Int32)), (.int (45 : Int32))]) (rest := []) (lenOf pd_0 rfl) rfl (by show 2 * 0 + _ ≤ _; exact Nat.le_of_eq rfl) (hb hby at_131) (fun _ _ => ⟨rfl, e25, (by decide : 2 + 0 ≤ _), (by decide : 10 + 0 ≤ _)⟩)
      dsimp only [Pt.U, Pt.locs, Pt.cells, Pt.slots] at X131 l131 y131 z131 st131 hQ131
      subst l131 y131 z131
      obtain ⟨rfl, N131q, e131⟩ := hQ131
      have N131 := Fr.app N25 N131q
      obtain ⟨clu132, Aru132, qu132, Su132, Mu132, Hu132, Gu132⟩ := id V_b4_25
      have hinu132 : ¬ ((1 : Int32) < 0 ∨ clu132.slots.size ≤ ((1 : Int32)).toNatClampNeg) := inb_of Su132 ⟨by decide, by decide⟩
      have hatu132 : clu132.slots[((1 : Int32)).toNatClampNeg]? = some (.int (48 : Int32)) := Hu132.at hinu132 rfl
      obtain ⟨clu133, Aru133, qu133, Su133, Mu133, Hu133, Gu133⟩ := id V_b15_25
      have hinu133 : ¬ ((1 : Int32) < 0 ∨ clu133.slots.size ≤ ((1 : Int32)).toNatClampNeg) := inb_of Su133 ⟨by decide, by decide⟩
      have hatu133 : clu133.slots[((1 : Int32)).toNatClampNeg]? = some (.int (57 : Int32)) := Hu133.at hinu133 rfl
      obtain ⟨_, _, ⟨T134, L134, k134, n134⟩, -, X134, ⟨Lc134, hQ134, l134, y134, z134⟩, st134⟩ := Jvm.LawKit.callS X131 hx (y := (⟨"com/example/liana/liana/rdf/TurtleGrammarIsNameCharacterPinLaw", "within", "(III)Z"⟩ : MethodName)) hown (mvT hZ (hw _ (List.mem_of_getElem? (i := 1) rfl))) (mvT hZ (hw _ (List.mem_of_getElem? (i := 2) rfl))) (mvT hZ (hw _ (List.mem_of_getElem? (i := 3) rfl))) (mvT hZ (hw _ (List.mem_of_getElem? (i := 4) rfl))) (by decide) (backOf (W := 0) (rm1U l Z a0 hw [] p1 (48 : Int32) (57 : Int32) h25 n0 SZ25 ) hZ (hw _ (List.mem_of_getElem? (i := 4) rfl)) (hw _ (List.mem_of_getElem? (i := 3) rfl)) (by decide) (by decide)) (g := (mkF m 146 #[.val (.int p1), .val (.int p2), .val (.int p3), .val (.ref b4), .val (.ref b15), .val (.int mm), .val (.int p1), .unset, .unset, .unset] [(.int (57 : Int32)), (.int (48 : Int32)), (.int p1)])) rfl (by rw [hml]; rfl) (argsL := [(.int p1), (.int (48 : Int32)), (.int (57 : Int32))]) (rest := []) (lenOf pd_0 rfl) rfl (by show 2 * 0 + _ ≤ _; exact Nat.le_of_eq rfl) (hb hby at_146) (fun _ _ => ⟨rfl, e131, (by decide : 2 + 0 ≤ _), (by decide : 10 + 0 ≤ _)⟩)
      dsimp only [Pt.U, Pt.locs, Pt.cells, Pt.slots] at X134 l134 y134 z134 st134 hQ134
      subst l134 y134 z134
      obtain ⟨rfl, N134q, e134⟩ := hQ134
      have N134 := Fr.app N131 N134q
      obtain ⟨clu135, Aru135, qu135, Su135, Mu135, Hu135, Gu135⟩ := id V_b4_25
      have hinu135 : ¬ ((2 : Int32) < 0 ∨ clu135.slots.size ≤ ((2 : Int32)).toNatClampNeg) := inb_of Su135 ⟨by decide, by decide⟩
      have hatu135 : clu135.slots[((2 : Int32)).toNatClampNeg]? = some (.int (183 : Int32)) := Hu135.at hinu135 rfl
      obtain ⟨clu136, Aru136, qu136, Su136, Mu136, Hu136, Gu136⟩ := id V_b15_25
      have hinu136 : ¬ ((2 : Int32) < 0 ∨ clu136.slots.size ≤ ((2 : Int32)).toNatClampNeg) := inb_of Su136 ⟨by decide, by decide⟩
      have hatu136 : clu136.slots[((2 : Int32)).toNatClampNeg]? = some (.int (183 : Int32)) := Hu136.at hinu136 rfl
      obtain ⟨_, _, ⟨T137, L137, k137, n137⟩, -, X137, ⟨Lc137, hQ137, l137, y137, z137⟩, st137⟩ := Jvm.LawKit.callS X134 hx (y := (⟨"com/example/liana/liana/rdf/TurtleGrammarIsNameCharacterPinLaw", "within", "(III)Z"⟩ : MethodName)) hown (mvT hZ (hw _ (List.mem_of_getElem? (i := 1) rfl))) (mvT hZ (hw _ (List.mem_of_getElem? (i := 2) rfl))) (mvT hZ (hw _ (List.mem_of_getElem? (i := 3) rfl))) (mvT hZ (hw _ (List.mem_of_getElem? (i := 4) rfl))) (by decide) (backOf (W := 0) (rm1U l Z a0 hw [] p1 (183 : Int32) (183 : Int32) h25 n0 SZ25 ) hZ (hw _ (List.mem_of_getElem? (i := 4) rfl)) (hw _ (List.mem_of_getElem? (i := 3) rfl)) (by decide) (by decide)) (g := (mkF m 161 #[.val (.int p1), .val (.int p2), .val (.int p3), .val (.ref b4), .val (.ref b15), .val (.int mm), .val (.int p1), .unset, .unset, .unset] [(.int (183 : Int32)), (.int (183 : Int32)), (.int p1)])) rfl (by rw [hml]; rfl) (argsL := [(.int p1), (.int (183 : Int32)), (.int (183 : Int32))]) (rest := []) (lenOf pd_0 rfl) rfl (by show 2 * 0 + _ ≤ _; exact Nat.le_of_eq rfl) (hb hby at_161) (fun _ _ => ⟨rfl, e134, (by decide : 2 + 0 ≤ _), (by decide : 10 + 0 ≤ _)⟩)
      dsimp only [Pt.U, Pt.locs, Pt.cells, Pt.slots] at X137 l137 y137 z137 st137 hQ137
      subst l137 y137 z137
      obtain ⟨rfl, N137q, e137⟩ := hQ137
      have N137 := Fr.app N134 N137q
      obtain ⟨clu138, Aru138, qu138, Su138, Mu138, Hu138, Gu138⟩ := id V_b4_25
      have hinu138 : ¬ ((3 : Int32) < 0 ∨ clu138.slots.size ≤ ((3 : Int32)).toNatClampNeg) := inb_of Su138 ⟨by decide, by decide⟩
      have hatu138 : clu138.slots[((3 : Int32)).toNatClampNeg]? = some (.int (768 : Int32)) := Hu138.at hinu138 rfl
      obtain ⟨clu139, Aru139, qu139, Su139, Mu139, Hu139, Gu139⟩ := id V_b15_25
      have hinu139 : ¬ ((3 : Int32) < 0 ∨ clu139.slots.size ≤ ((3 : Int32)).toNatClampNeg) := inb_of Su139 ⟨by decide, by decide⟩
      have hatu139 : clu139.slots[((3 : Int32)).toNatClampNeg]? = some (.int (879 : Int32)) := Hu139.at hinu139 rfl
      obtain ⟨_, _, ⟨T140, L140, k140, n140⟩, -, X140, ⟨Lc140, hQ140, l140, y140, z140⟩, st140⟩ := Jvm.LawKit.callS X137 hx (y := (⟨"com/example/liana/liana/rdf/TurtleGrammarIsNameCharacterPinLaw", "within", "(III)Z"⟩ : MethodName)) hown (mvT hZ (hw _ (List.mem_of_getElem? (i := 1) rfl))) (mvT hZ (hw _ (List.mem_of_getElem? (i := 2) rfl))) (mvT hZ (hw _ (List.mem_of_getElem? (i := 3) rfl))) (mvT hZ (hw _ (List.mem_of_getElem? (i := 4) rfl))) (by decide) (backOf (W := 0) (rm1U l Z a0 hw [] p1 (768 : Int32) (879 : Int32) h25 n0 SZ25 ) hZ (hw _ (List.mem_of_getElem? (i := 4) rfl)) (hw _ (List.mem_of_getElem? (i := 3) rfl)) (by decide) (by decide)) (g := (mkF m 176 #[.val (.int p1), .val (.int p2), .val (.int p3), .val (.ref b4), .val (.ref b15), .val (.int mm), .val (.int p1), .unset, .unset, .unset] [(.int (879 : Int32)), (.int (768 : Int32)), (.int p1)])) rfl (by rw [hml]; rfl) (argsL := [(.int p1), (.int (768 : Int32)), (.int (879 : Int32))]) (rest := []) (lenOf pd_0 rfl) rfl (by show 2 * 0 + _ ≤ _; exact Nat.le_of_eq rfl) (hb hby at_176) (fun _ _ => ⟨rfl, e137, (by decide : 2 + 0 ≤ _), (by decide : 10 + 0 ≤ _)⟩)
      dsimp only [Pt.U, Pt.locs, Pt.cells, Pt.slots] at X140 l140 y140 z140 st140 hQ140
      subst l140 y140 z140
      obtain ⟨rfl, N140q, e140⟩ := hQ140
      have N140 := Fr.app N137 N140q
      obtain ⟨_, _, ⟨T141, L141, k141, n141⟩, -, X141, ⟨Lc141, hQ141, l141, y141, z141⟩, st141⟩ := Jvm.LawKit.callS X140 hx (y := (⟨"com/example/liana/liana/rdf/TurtleGrammar", "isNameCharacter", "(I)Z"⟩ : MethodName)) hown (mvT hZ (hw _ (List.mem_of_getElem? (i := 5) rfl))) (mvT hZ (hw _ (List.mem_of_getElem? (i := 6) rfl))) (mvT hZ (hw _ (List.mem_of_getElem? (i := 7) rfl))) (mvT hZ (hw _ (List.mem_of_getElem? (i := 8) rfl))) (by decide) (backOf (W := 0) (rm2 l Z a0 hw [] p1 h25 n0 SZ25 ) hZ (hw _ (List.mem_of_getElem? (i := 8) rfl)) (hw _ (List.mem_of_getElem? (i := 7) rfl)) (by decide) (by decide)) (g := (mkF m 206 #[.val (.int p1), .val (.int p2), .val (.int p3), .val (.ref b4), .val (.ref b15), .val (.int mm), .val (.int p1), .val (.int (1 : Int32)), .unset, .unset] [(.int p1)])) rfl (by rw [hml]; rfl) (argsL := [(.int p1)]) (rest := []) (lenOf pd_1 rfl) rfl (by show 2 * 0 + _ ≤ _; exact Nat.le_of_eq rfl) (hb hby at_206) (fun _ _ => ⟨rfl, e140, (by decide : 2 + 0 ≤ _), (by decide : 10 + 0 ≤ _)⟩)
      dsimp only [Pt.U, Pt.locs, Pt.cells, Pt.slots] at X141 l141 y141 z141 st141 hQ141
      subst l141 y141 z141
      obtain ⟨rfl, N141q, e141⟩ := hQ141
      have N141 := Fr.app N140 N141q
      obtain ⟨_, _, ⟨T142, L142, k142, n142⟩, -, X142, ⟨Lc142, hQ142, l142, y142, z142⟩, st142⟩ := Jvm.LawKit.callS X141 hx (y := (⟨"com/example/liana/liana/rdf/TurtleGrammar", "isNameStart", "(I)Z"⟩ : MethodName)) hown (mvT hZ (hw _ (List.mem_of_getElem? (i := 9) rfl))) (mvT hZ (hw _ (List.mem_of_getElem? (i := 10) rfl))) (mvT hZ (hw _ (List.mem_of_getElem? (i := 7) rfl))) (mvT hZ (hw _ (List.mem_of_getElem? (i := 11) rfl))) (by decide) (backOf (W := 0) (rm3 l Z a0 hw [] p1 h25 n0 SZ25 ) hZ (hw _ (List.mem_of_getElem? (i := 11) rfl)) (hw _ (List.mem_of_getElem? (i := 7) rfl)) (by decide) (by decide)) (g := (mkF m 213 #[.val (.int p1), .val (.int p2), .val (.int p3), .val (.ref b4), .val (.ref b15), .val (.int mm), .val (.int p1), .val (.int (1 : Int32)), .val (.int (own_ch1 p1)), .unset] [(.int p1)])) rfl (by rw [hml]; rfl) (argsL := [(.int p1)]) (rest := []) (lenOf pd_1 rfl) rfl (by show 2 * 0 + _ ≤ _; exact Nat.le_of_eq rfl) (hb hby at_213) (fun _ _ => ⟨rfl, e141, (by decide : 2 + 0 ≤ _), (by decide : 10 + 0 ≤ _)⟩)
      dsimp only [Pt.U, Pt.locs, Pt.cells, Pt.slots] at X142 l142 y142 z142 st142 hQ142
      subst l142 y142 z142
      obtain ⟨rfl, N142q, e142⟩ := hQ142
      have N142 := Fr.app N141 N142q
      obtain ⟨fs, hr, hrun, hended, hW, hsame⟩ := X142.leave (v := some (.int (1 : Int32))) (fun h => by rw [Bd.returns] at h; cases h)
      refine ⟨_, _, pre_104 _ ?_, hrun, hended, _, _, rfl, ?_, ⟨_, rfl⟩, hW, hsame.mono (by decide) (by decide)⟩
      · show Steps p.tables e below (T25.setTop (mkF m 122 #[.val (.int p1), .val (.int p2), .val (.int p3), .val (.ref b4), .val (.ref b15), .val (.int mm), .val (.int p1), .unset, .unset, .unset] [])) _
        refine XS.iload X25.here hx rfl (hb hby at_122) rfl ?_
        show Steps p.tables e below (T25.setTop (mkF m 124 #[.val (.int p1), .val (.int p2), .val (.int p3), .val (.ref b4), .val (.ref b15), .val (.int mm), .val (.int p1), .unset, .unset, .unset] [(.int p1)])) _
        refine XS.aloadN X25.here hx rfl (hb hby at_124) rfl rfl ?_
        show Steps p.tables e below (T25.setTop (mkF m 125 #[.val (.int p1), .val (.int p2), .val (.int p3), .val (.ref b4), .val (.ref b15), .val (.int mm), .val (.int p1), .unset, .unset, .unset] [(.ref b4), (.int p1)])) _
        refine XS.iconst X25.here hx rfl (hb hby at_125) ?_
        show Steps p.tables e below (T25.setTop (mkF m 126 #[.val (.int p1), .val (.int p2), .val (.int p3), .val (.ref b4), .val (.ref b15), .val (.int mm), .val (.int p1), .unset, .unset, .unset] [(.int (0 : Int32)), (.ref b4), (.int p1)])) _
        refine X25.iaload hx (j := (0 : Int32)) (v := (.int (45 : Int32))) (by rw [e25]; exact Aru129.1) (State.isArrayOf_alike hZ.alike Aru129.2.1) Aru129.2.2 hinu129 hatu129 (g := (mkF m 126 #[.val (.int p1), .val (.int p2), .val (.int p3), .val (.ref b4), .val (.ref b15), .val (.int mm), .val (.int p1), .unset, .unset, .unset] [(.int (0 : Int32)), (.ref b4), (.int p1)])) rfl rfl (hb hby at_126) _ ?_
        show Steps p.tables e below (T25.setTop (mkF m 127 #[.val (.int p1), .val (.int p2), .val (.int p3), .val (.ref b4), .val (.ref b15), .val (.int mm), .val (.int p1), .unset, .unset, .unset] [(.int (45 : Int32)), (.int p1)])) _
        refine XS.aload X25.here hx rfl (hb hby at_127) rfl rfl ?_
        show Steps p.tables e below (T25.setTop (mkF m 129 #[.val (.int p1), .val (.int p2), .val (.int p3), .val (.ref b4), .val (.ref b15), .val (.int mm), .val (.int p1), .unset, .unset, .unset] [(.ref b15), (.int (45 : Int32)), (.int p1)])) _
        refine XS.iconst X25.here hx rfl (hb hby at_129) ?_
        show Steps p.tables e below (T25.setTop (mkF m 130 #[.val (.int p1), .val (.int p2), .val (.int p3), .val (.ref b4), .val (.ref b15), .val (.int mm), .val (.int p1), .unset, .unset, .unset] [(.int (0 : Int32)), (.ref b15), (.int (45 : Int32)), (.int p1)])) _
        refine X25.iaload hx (j := (0 : Int32)) (v := (.int (45 : Int32))) (by rw [e25]; exact Aru130.1) (State.isArrayOf_alike hZ.alike Aru130.2.1) Aru130.2.2 hinu130 hatu130 (g := (mkF m 130 #[.val (.int p1), .val (.int p2), .val (.int p3), .val (.ref b4), .val (.ref b15), .val (.int mm), .val (.int p1), .unset, .unset, .unset] [(.int (0 : Int32)), (.ref b15), (.int (45 : Int32)), (.int p1)])) rfl rfl (hb hby at_130) _ ?_
        show Steps p.tables e below (T25.setTop (mkF m 131 #[.val (.int p1), .val (.int p2), .val (.int p3), .val (.ref b4), .val (.ref b15), .val (.int mm), .val (.int p1), .unset, .unset, .unset] [(.int (45 : Int32)), (.int (45 : Int32)), (.int p1)])) _
        refine st131 _ ?_
        show Steps p.tables e below (T131.setTop (mkF m 134 #[.val (.int p1), .val (.int p2), .val (.int p3), .val (.ref b4), .val (.ref b15), .val (.int mm), .val (.int p1), .unset, .unset, .unset] [(.int (own_in p1 (45 : Int32) (45 : Int32)))])) _
        refine XS.ifNo X131.here hx rfl (hb hby at_134) rfl ((if0 _ _).trans (teq (k0 : (own_in p1 (45 : Int32) (45 : Int32)) = (0 : Int32))).2) ?_
        show Steps p.tables e below (T131.setTop (mkF m 137 #[.val (.int p1), .val (.int p2), .val (.int p3), .val (.ref b4), .val (.ref b15), .val (.int mm), .val (.int p1), .unset, .unset, .unset] [])) _
        refine XS.iload X131.here hx rfl (hb hby at_137) rfl ?_
        show Steps p.tables e below (T131.setTop (mkF m 139 #[.val (.int p1), .val (.int p2), .val (.int p3), .val (.ref b4), .val (.ref b15), .val (.int mm), .val (.int p1), .unset, .unset, .unset] [(.int p1)])) _
        refine XS.aloadN X131.here hx rfl (hb hby at_139) rfl rfl ?_
        show Steps p.tables e below (T131.setTop (mkF m 140 #[.val (.int p1), .val (.int p2), .val (.int p3), .val (.ref b4), .val (.ref b15), .val (.int mm), .val (.int p1), .unset, .unset, .unset] [(.ref b4), (.int p1)])) _
        refine XS.iconst X131.here hx rfl (hb hby at_140) ?_
        show Steps p.tables e below (T131.setTop (mkF m 141 #[.val (.int p1), .val (.int p2), .val (.int p3), .val (.ref b4), .val (.ref b15), .val (.int mm), .val (.int p1), .unset, .unset, .unset] [(.int (1 : Int32)), (.ref b4), (.int p1)])) _
        refine X131.iaload hx (j := (1 : Int32)) (v := (.int (48 : Int32))) (by rw [e131]; exact Aru132.1) (State.isArrayOf_alike hZ.alike Aru132.2.1) Aru132.2.2 hinu132 hatu132 (g := (mkF m 141 #[.val (.int p1), .val (.int p2), .val (.int p3), .val (.ref b4), .val (.ref b15), .val (.int mm), .val (.int p1), .unset, .unset, .unset] [(.int (1 : Int32)), (.ref b4), (.int p1)])) rfl rfl (hb hby at_141) _ ?_
        show Steps p.tables e below (T131.setTop (mkF m 142 #[.val (.int p1), .val (.int p2), .val (.int p3), .val (.ref b4), .val (.ref b15), .val (.int mm), .val (.int p1), .unset, .unset, .unset] [(.int (48 : Int32)), (.int p1)])) _
        refine XS.aload X131.here hx rfl (hb hby at_142) rfl rfl ?_
        show Steps p.tables e below (T131.setTop (mkF m 144 #[.val (.int p1), .val (.int p2), .val (.int p3), .val (.ref b4), .val (.ref b15), .val (.int mm), .val (.int p1), .unset, .unset, .unset] [(.ref b15), (.int (48 : Int32)), (.int p1)])) _
        refine XS.iconst X131.here hx rfl (hb hby at_144) ?_
        show Steps p.tables e below (T131.setTop (mkF m 145 #[.val (.int p1), .val (.int p2), .val (.int p3), .val (.ref b4), .val (.ref b15), .val (.int mm), .val (.int p1), .unset, .unset, .unset] [(.int (1 : Int32)), (.ref b15), (.int (48 : Int32)), (.int p1)])) _
        refine X131.iaload hx (j := (1 : Int32)) (v := (.int (57 : Int32))) (by rw [e131]; exact Aru133.1) (State.isArrayOf_alike hZ.alike Aru133.2.1) Aru133.2.2 hinu133 hatu133 (g := (mkF m 145 #[.val (.int p1), .val (.int p2), .val (.int p3), .val (.ref b4), .val (.ref b15), .val (.int mm), .val (.int p1), .unset, .unset, .unset] [(.int (1 : Int32)), (.ref b15), (.int (48 : Int32)), (.int p1)])) rfl rfl (hb hby at_145) _ ?_
        show Steps p.tables e below (T131.setTop (mkF m 146 #[.val (.int p1), .val (.int p2), .val (.int p3), .val (.ref b4), .val (.ref b15), .val (.int mm), .val (.int p1), .unset, .unset, .unset] [(.int (57 : Int32)), (.int (48 : Int32)), (.int p1)])) _
        refine st134 _ ?_
        show Steps p.tables e below (T134.setTop (mkF m 149 #[.val (.int p1), .val (.int p2), .val (.int p3), .val (.ref b4), .val (.ref b15), .val (.int mm), .val (.int p1), .unset, .unset, .unset] [(.int (own_in p1 (48 : Int32) (57 : Int32)))])) _
        refine XS.ifNo X134.here hx rfl (hb hby at_149) rfl ((if0 _ _).trans (teq (k1 : (own_in p1 (48 : Int32) (57 : Int32)) = (0 : Int32))).2) ?_
        show Steps p.tables e below (T134.setTop (mkF m 152 #[.val (.int p1), .val (.int p2), .val (.int p3), .val (.ref b4), .val (.ref b15), .val (.int mm), .val (.int p1), .unset, .unset, .unset] [])) _
        refine XS.iload X134.here hx rfl (hb hby at_152) rfl ?_
        show Steps p.tables e below (T134.setTop (mkF m 154 #[.val (.int p1), .val (.int p2), .val (.int p3), .val (.ref b4), .val (.ref b15), .val (.int mm), .val (.int p1), .unset, .unset, .unset] [(.int p1)])) _
        refine XS.aloadN X134.here hx rfl (hb hby at_154) rfl rfl ?_
        show Steps p.tables e below (T134.setTop (mkF m 155 #[.val (.int p1), .val (.int p2), .val (.int p3), .val (.ref b4), .val (.ref b15), .val (.int mm), .val (.int p1), .unset, .unset, .unset] [(.ref b4), (.int p1)])) _
        refine XS.iconst X134.here hx rfl (hb hby at_155) ?_
        show Steps p.tables e below (T134.setTop (mkF m 156 #[.val (.int p1), .val (.int p2), .val (.int p3), .val (.ref b4), .val (.ref b15), .val (.int mm), .val (.int p1), .unset, .unset, .unset] [(.int (2 : Int32)), (.ref b4), (.int p1)])) _
        refine X134.iaload hx (j := (2 : Int32)) (v := (.int (183 : Int32))) (by rw [e134]; exact Aru135.1) (State.isArrayOf_alike hZ.alike Aru135.2.1) Aru135.2.2 hinu135 hatu135 (g := (mkF m 156 #[.val (.int p1), .val (.int p2), .val (.int p3), .val (.ref b4), .val (.ref b15), .val (.int mm), .val (.int p1), .unset, .unset, .unset] [(.int (2 : Int32)), (.ref b4), (.int p1)])) rfl rfl (hb hby at_156) _ ?_
        show Steps p.tables e below (T134.setTop (mkF m 157 #[.val (.int p1), .val (.int p2), .val (.int p3), .val (.ref b4), .val (.ref b15), .val (.int mm), .val (.int p1), .unset, .unset, .unset] [(.int (183 : Int32)), (.int p1)])) _
        refine XS.aload X134.here hx rfl (hb hby at_157) rfl rfl ?_
        show Steps p.tables e below (T134.setTop (mkF m 159 #[.val (.int p1), .val (.int p2), .val (.int p3), .val (.ref b4), .val (.ref b15), .val (.int mm), .val (.int p1), .unset, .unset, .unset] [(.ref b15), (.int (183 : Int32)), (.int p1)])) _
        refine XS.iconst X134.here hx rfl (hb hby at_159) ?_
        show Steps p.tables e below (T134.setTop (mkF m 160 #[.val (.int p1), .val (.int p2), .val (.int p3), .val (.ref b4), .val (.ref b15), .val (.int mm), .val (.int p1), .unset, .unset, .unset] [(.int (2 : Int32)), (.ref b15), (.int (183 : Int32)), (.int p1)])) _
        refine X134.iaload hx (j := (2 : Int32)) (v := (.int (183 : Int32))) (by rw [e134]; exact Aru136.1) (State.isArrayOf_alike hZ.alike Aru136.2.1) Aru136.2.2 hinu136 hatu136 (g := (mkF m 160 #[.val (.int p1), .val (.int p2), .val (.int p3), .val (.ref b4), .val (.ref b15), .val (.int mm), .val (.int p1), .unset, .unset, .unset] [(.int (2 : Int32)), (.ref b15), (.int (183 : Int32)), (.int p1)])) rfl rfl (hb hby at_160) _ ?_
        show Steps p.tables e below (T134.setTop (mkF m 161 #[.val (.int p1), .val (.int p2), .val (.int p3), .val (.ref b4), .val (.ref b15), .val (.int mm), .val (.int p1), .unset, .unset, .unset] [(.int (183 : Int32)), (.int (183 : Int32)), (.int p1)])) _
        refine st137 _ ?_
        show Steps p.tables e below (T137.setTop (mkF m 164 #[.val (.int p1), .val (.int p2), .val (.int p3), .val (.ref b4), .val (.ref b15), .val (.int mm), .val (.int p1), .unset, .unset, .unset] [(.int (own_in p1 (183 : Int32) (183 : Int32)))])) _
        refine XS.ifNo X137.here hx rfl (hb hby at_164) rfl ((if0 _ _).trans (teq (k2 : (own_in p1 (183 : Int32) (183 : Int32)) = (0 : Int32))).2) ?_
        show Steps p.tables e below (T137.setTop (mkF m 167 #[.val (.int p1), .val (.int p2), .val (.int p3), .val (.ref b4), .val (.ref b15), .val (.int mm), .val (.int p1), .unset, .unset, .unset] [])) _
        refine XS.iload X137.here hx rfl (hb hby at_167) rfl ?_
        show Steps p.tables e below (T137.setTop (mkF m 169 #[.val (.int p1), .val (.int p2), .val (.int p3), .val (.ref b4), .val (.ref b15), .val (.int mm), .val (.int p1), .unset, .unset, .unset] [(.int p1)])) _
        refine XS.aloadN X137.here hx rfl (hb hby at_169) rfl rfl ?_
        show Steps p.tables e below (T137.setTop (mkF m 170 #[.val (.int p1), .val (.int p2), .val (.int p3), .val (.ref b4), .val (.ref b15), .val (.int mm), .val (.int p1), .unset, .unset, .unset] [(.ref b4), (.int p1)])) _
        refine XS.iconst X137.here hx rfl (hb hby at_170) ?_
        show Steps p.tables e below (T137.setTop (mkF m 171 #[.val (.int p1), .val (.int p2), .val (.int p3), .val (.ref b4), .val (.ref b15), .val (.int mm), .val (.int p1), .unset, .unset, .unset] [(.int (3 : Int32)), (.ref b4), (.int p1)])) _
        refine X137.iaload hx (j := (3 : Int32)) (v := (.int (768 : Int32))) (by rw [e137]; exact Aru138.1) (State.isArrayOf_alike hZ.alike Aru138.2.1) Aru138.2.2 hinu138 hatu138 (g := (mkF m 171 #[.val (.int p1), .val (.int p2), .val (.int p3), .val (.ref b4), .val (.ref b15), .val (.int mm), .val (.int p1), .unset, .unset, .unset] [(.int (3 : Int32)), (.ref b4), (.int p1)])) rfl rfl (hb hby at_171) _ ?_
        show Steps p.tables e below (T137.setTop (mkF m 172 #[.val (.int p1), .val (.int p2), .val (.int p3), .val (.ref b4), .val (.ref b15), .val (.int mm), .val (.int p1), .unset, .unset, .unset] [(.int (768 : Int32)), (.int p1)])) _
        refine XS.aload X137.here hx rfl (hb hby at_172) rfl rfl ?_
        show Steps p.tables e below (T137.setTop (mkF m 174 #[.val (.int p1), .val (.int p2), .val (.int p3), .val (.ref b4), .val (.ref b15), .val (.int mm), .val (.int p1), .unset, .unset, .unset] [(.ref b15), (.int (768 : Int32)), (.int p1)])) _
        refine XS.iconst X137.here hx rfl (hb hby at_174) ?_
        show Steps p.tables e below (T137.setTop (mkF m 175 #[.val (.int p1), .val (.int p2), .val (.int p3), .val (.ref b4), .val (.ref b15), .val (.int mm), .val (.int p1), .unset, .unset, .unset] [(.int (3 : Int32)), (.ref b15), (.int (768 : Int32)), (.int p1)])) _
        refine X137.iaload hx (j := (3 : Int32)) (v := (.int (879 : Int32))) (by rw [e137]; exact Aru139.1) (State.isArrayOf_alike hZ.alike Aru139.2.1) Aru139.2.2 hinu139 hatu139 (g := (mkF m 175 #[.val (.int p1), .val (.int p2), .val (.int p3), .val (.ref b4), .val (.ref b15), .val (.int mm), .val (.int p1), .unset, .unset, .unset] [(.int (3 : Int32)), (.ref b15), (.int (768 : Int32)), (.int p1)])) rfl rfl (hb hby at_175) _ ?_
        show Steps p.tables e below (T137.setTop (mkF m 176 #[.val (.int p1), .val (.int p2), .val (.int p3), .val (.ref b4), .val (.ref b15), .val (.int mm), .val (.int p1), .unset, .unset, .unset] [(.int (879 : Int32)), (.int (768 : Int32)), (.int p1)])) _
        refine st140 _ ?_
        show Steps p.tables e below (T140.setTop (mkF m 179 #[.val (.int p1), .val (.int p2), .val (.int p3), .val (.ref b4), .val (.ref b15), .val (.int mm), .val (.int p1), .unset, .unset, .unset] [(.int (own_in p1 (768 : Int32) (879 : Int32)))])) _
        refine XS.ifYes X140.here hx rfl (pc0 := 179) (pc' := 197) rfl (hb hby at_179) rfl ((if0 _ _).trans (feq (k3 : ¬ ((own_in p1 (768 : Int32) (879 : Int32)) = (0 : Int32)))).2) (by decide) (by decide) ?_
        show Steps p.tables e below (T140.setTop (mkF m 197 #[.val (.int p1), .val (.int p2), .val (.int p3), .val (.ref b4), .val (.ref b15), .val (.int mm), .val (.int p1), .unset, .unset, .unset] [])) _
        refine XS.iconst X140.here hx rfl (hb hby at_197) ?_
        show Steps p.tables e below (T140.setTop (mkF m 198 #[.val (.int p1), .val (.int p2), .val (.int p3), .val (.ref b4), .val (.ref b15), .val (.int mm), .val (.int p1), .unset, .unset, .unset] [(.int (1 : Int32))])) _
        refine XS.goto X140.here hx rfl (pc0 := 198) (pc' := 202) rfl (hb hby at_198) (by decide) (by decide) ?_
        show Steps p.tables e below (T140.setTop (mkF m 202 #[.val (.int p1), .val (.int p2), .val (.int p3), .val (.ref b4), .val (.ref b15), .val (.int mm), .val (.int p1), .unset, .unset, .unset] [(.int (1 : Int32))])) _
        refine XS.istore X140.here hx rfl (hb hby at_202) rfl (l' := #[.val (.int p1), .val (.int p2), .val (.int p3), .val (.ref b4), .val (.ref b15), .val (.int mm), .val (.int p1), .val (.int (1 : Int32)), .unset, .unset]) rfl ?_
        show Steps p.tables e below (T140.setTop (mkF m 204 #[.val (.int p1), .val (.int p2), .val (.int p3), .val (.ref b4), .val (.ref b15), .val (.int mm), .val (.int p1), .val (.int (1 : Int32)), .unset, .unset] [])) _
        refine XS.iload X140.here hx rfl (hb hby at_204) rfl ?_
        show Steps p.tables e below (T140.setTop (mkF m 206 #[.val (.int p1), .val (.int p2), .val (.int p3), .val (.ref b4), .val (.ref b15), .val (.int mm), .val (.int p1), .val (.int (1 : Int32)), .unset, .unset] [(.int p1)])) _
        refine st141 _ ?_
        show Steps p.tables e below (T141.setTop (mkF m 209 #[.val (.int p1), .val (.int p2), .val (.int p3), .val (.ref b4), .val (.ref b15), .val (.int mm), .val (.int p1), .val (.int (1 : Int32)), .unset, .unset] [(.int (own_ch1 p1))])) _
        refine XS.istore X141.here hx rfl (hb hby at_209) rfl (l' := #[.val (.int p1), .val (.int p2), .val (.int p3), .val (.ref b4), .val (.ref b15), .val (.int mm), .val (.int p1), .val (.int (1 : Int32)), .val (.int (own_ch1 p1)), .unset]) rfl ?_
        show Steps p.tables e below (T141.setTop (mkF m 211 #[.val (.int p1), .val (.int p2), .val (.int p3), .val (.ref b4), .val (.ref b15), .val (.int mm), .val (.int p1), .val (.int (1 : Int32)), .val (.int (own_ch1 p1)), .unset] [])) _
        refine XS.iload X141.here hx rfl (hb hby at_211) rfl ?_
        show Steps p.tables e below (T141.setTop (mkF m 213 #[.val (.int p1), .val (.int p2), .val (.int p3), .val (.ref b4), .val (.ref b15), .val (.int mm), .val (.int p1), .val (.int (1 : Int32)), .val (.int (own_ch1 p1)), .unset] [(.int p1)])) _
        refine st142 _ ?_
        show Steps p.tables e below (T142.setTop (mkF m 216 #[.val (.int p1), .val (.int p2), .val (.int p3), .val (.ref b4), .val (.ref b15), .val (.int mm), .val (.int p1), .val (.int (1 : Int32)), .val (.int (own_ch1 p1)), .unset] [(.int (own_st1 p1))])) _
        refine XS.istore X142.here hx rfl (hb hby at_216) rfl (l' := #[.val (.int p1), .val (.int p2), .val (.int p3), .val (.ref b4), .val (.ref b15), .val (.int mm), .val (.int p1), .val (.int (1 : Int32)), .val (.int (own_ch1 p1)), .val (.int (own_st1 p1))]) rfl ?_
        show Steps p.tables e below (T142.setTop (mkF m 218 #[.val (.int p1), .val (.int p2), .val (.int p3), .val (.ref b4), .val (.ref b15), .val (.int mm), .val (.int p1), .val (.int (1 : Int32)), .val (.int (own_ch1 p1)), .val (.int (own_st1 p1))] [])) _
        refine XS.iload X142.here hx rfl (hb hby at_218) rfl ?_
        show Steps p.tables e below (T142.setTop (mkF m 220 #[.val (.int p1), .val (.int p2), .val (.int p3), .val (.ref b4), .val (.ref b15), .val (.int mm), .val (.int p1), .val (.int (1 : Int32)), .val (.int (own_ch1 p1)), .val (.int (own_st1 p1))] [(.int (own_ch1 p1))])) _
        refine XS.iload X142.here hx rfl (hb hby at_220) rfl ?_
        show Steps p.tables e below (T142.setTop (mkF m 222 #[.val (.int p1), .val (.int p2), .val (.int p3), .val (.ref b4), .val (.ref b15), .val (.int mm), .val (.int p1), .val (.int (1 : Int32)), .val (.int (own_ch1 p1)), .val (.int (own_st1 p1))] [(.int (1 : Int32)), (.int (own_ch1 p1))])) _
        refine XS.icmpNo X142.here hx rfl (hb hby at_222) rfl (teq (c1 : (own_ch1 p1) = (1 : Int32))).2 ?_
        show Steps p.tables e below (T142.setTop (mkF m 225 #[.val (.int p1), .val (.int p2), .val (.int p3), .val (.ref b4), .val (.ref b15), .val (.int mm), .val (.int p1), .val (.int (1 : Int32)), .val (.int (own_ch1 p1)), .val (.int (own_st1 p1))] [])) _
        refine XS.iload X142.here hx rfl (hb hby at_225) rfl ?_
        show Steps p.tables e below (T142.setTop (mkF m 227 #[.val (.int p1), .val (.int p2), .val (.int p3), .val (.ref b4), .val (.ref b15), .val (.int mm), .val (.int p1), .val (.int (1 : Int32)), .val (.int (own_ch1 p1)), .val (.int (own_st1 p1))] [(.int (own_ch1 p1))])) _
        refine XS.ifNo X142.here hx rfl (hb hby at_227) rfl ((if0 _ _).trans (feq (by rw [c1]; decide : ¬ ((own_ch1 p1) = (0 : Int32)))).1) ?_
        show Steps p.tables e below (T142.setTop (mkF m 230 #[.val (.int p1), .val (.int p2), .val (.int p3), .val (.ref b4), .val (.ref b15), .val (.int mm), .val (.int p1), .val (.int (1 : Int32)), .val (.int (own_ch1 p1)), .val (.int (own_st1 p1))] [])) _
        refine XS.iload X142.here hx rfl (hb hby at_230) rfl ?_
        show Steps p.tables e below (T142.setTop (mkF m 232 #[.val (.int p1), .val (.int p2), .val (.int p3), .val (.ref b4), .val (.ref b15), .val (.int mm), .val (.int p1), .val (.int (1 : Int32)), .val (.int (own_ch1 p1)), .val (.int (own_st1 p1))] [(.int (own_st1 p1))])) _
        refine XS.ifNo X142.here hx rfl (hb hby at_232) rfl ((if0 _ _).trans (teq (c2 : (own_st1 p1) = (0 : Int32))).2) ?_
        show Steps p.tables e below (T142.setTop (mkF m 235 #[.val (.int p1), .val (.int p2), .val (.int p3), .val (.ref b4), .val (.ref b15), .val (.int mm), .val (.int p1), .val (.int (1 : Int32)), .val (.int (own_ch1 p1)), .val (.int (own_st1 p1))] [])) _
        refine XS.iconst X142.here hx rfl (hb hby at_235) ?_
        show Steps p.tables e below (T142.setTop (mkF m 236 #[.val (.int p1), .val (.int p2), .val (.int p3), .val (.ref b4), .val (.ref b15), .val (.int mm), .val (.int p1), .val (.int (1 : Int32)), .val (.int (own_ch1 p1)), .val (.int (own_st1 p1))] [(.int (1 : Int32))])) _
        refine XS.goto X142.here hx rfl (pc0 := 236) (pc' := 240) rfl (hb hby at_236) (by decide) (by decide) ?_
        show Steps p.tables e below (T142.setTop (mkF m 240 #[.val (.int p1), .val (.int p2), .val (.int p3), .val (.ref b4), .val (.ref b15), .val (.int mm), .val (.int p1), .val (.int (1 : Int32)), .val (.int (own_ch1 p1)), .val (.int (own_st1 p1))] [(.int (1 : Int32))])) _
        exact retN X142 hx (t := .boolean) Bd.returns (by simp) (hb hby at_240) hr
      · show QF n0 _ T142.heap _
        rw [e142]
        exact ⟨rfl, N142⟩
    by_cases k4 : own_in p1 (8255 : Int32) (8256 : Int32) = (0 : Int32)
    rotate_left
    · skip
      have dj : p1.toInt = 45 ∨ (48 ≤ p1.toInt ∧ p1.toInt ≤ 57) ∨ p1.toInt = 183 ∨ (768 ≤ p1.toInt ∧ p1.toInt ≤ 879) ∨ (8255 ≤ p1.toInt ∧ p1.toInt ≤ 8256) := by have q := own_in_nz k4; simp only [f41, f42] at q; omega
      have c1 := own_ch_p dj
      have c2 := own_st_z dj
      obtain ⟨clu143, Aru143, qu143, Su143, Mu143, Hu143, Gu143⟩ := id V_b4_25
      have hinu143 : ¬ ((0 : Int32) < 0 ∨ clu143.slots.size ≤ ((0 : Int32)).toNatClampNeg) := inb_of Su143 ⟨by decide, by decide⟩
      have hatu143 : clu143.slots[((0 : Int32)).toNatClampNeg]? = some (.int (45 : Int32)) := Hu143.at hinu143 rfl
      obtain ⟨clu144, Aru144, qu144, Su144, Mu144, Hu144, Gu144⟩ := id V_b15_25
      have hinu144 : ¬ ((0 : Int32) < 0 ∨ clu144.slots.size ≤ ((0 : Int32)).toNatClampNeg) := inb_of Su144 ⟨by decide, by decide⟩
      have hatu144 : clu144.slots[((0 : Int32)).toNatClampNeg]? = some (.int (45 : Int32)) := Hu144.at hinu144 rfl
      obtain ⟨_, _, ⟨T145, L145, k145, n145⟩, -, X145, ⟨Lc145, hQ145, l145, y145, z145⟩, st145⟩ := Jvm.LawKit.callS X25 hx (y := (⟨"com/example/liana/liana/rdf/TurtleGrammarIsNameCharacterPinLaw", "within", "(III)Z"⟩ : MethodName)) hown (mvT hZ (hw _ (List.mem_of_getElem? (i := 1) rfl))) (mvT hZ (hw _ (List.mem_of_getElem? (i := 2) rfl))) (mvT hZ (hw _ (List.mem_of_getElem? (i := 3) rfl))) (mvT hZ (hw _ (List.mem_of_getElem? (i := 4) rfl))) (by decide) (backOf (W := 0) (rm1U l Z a0 hw [] p1 (45 : Int32) (45 : Int32) h25 n0 SZ25 ) hZ (hw _ (List.mem_of_getElem? (i := 4) rfl)) (hw _ (List.mem_of_getElem? (i := 3) rfl)) (by decide) (by decide)) (g := (mkF m 131 #[.val (.int p1), .val (.int p2), .val (.int p3), .val (.ref b4), .val (.ref b15), .val (.int mm), .val (.int p1), .unset, .unset, .unset] [(.int (45 : Int32)), (.int (45 : Int32)), (.int p1)])) rfl (by rw [hml]; rfl) (argsL := [(.int p1), (.int (45 : Int32)), (.int (45 : Int32))]) (rest := []) (lenOf pd_0 rfl) rfl (by show 2 * 0 + _ ≤ _; exact Nat.le_of_eq rfl) (hb hby at_131) (fun _ _ => ⟨rfl, e25, (by decide : 2 + 0 ≤ _), (by decide : 10 + 0 ≤ _)⟩)
      dsimp only [Pt.U, Pt.locs, Pt.cells, Pt.slots] at X145 l145 y145 z145 st145 hQ145
      subst l145 y145 z145
      obtain ⟨rfl, N145q, e145⟩ := hQ145
      have N145 := Fr.app N25 N145q
      obtain ⟨clu146, Aru146, qu146, Su146, Mu146, Hu146, Gu146⟩ := id V_b4_25
      have hinu146 : ¬ ((1 : Int32) < 0 ∨ clu146.slots.size ≤ ((1 : Int32)).toNatClampNeg) := inb_of Su146 ⟨by decide, by decide⟩
      have hatu146 : clu146.slots[((1 : Int32)).toNatClampNeg]? = some (.int (48 : Int32)) := Hu146.at hinu146 rfl
      obtain ⟨clu147, Aru147, qu147, Su147, Mu147, Hu147, Gu147⟩ := id V_b15_25
      have hinu147 : ¬ ((1 : Int32) < 0 ∨ clu147.slots.size ≤ ((1 : Int32)).toNatClampNeg) := inb_of Su147 ⟨by decide, by decide⟩
      have hatu147 : clu147.slots[((1 : Int32)).toNatClampNeg]? = some (.int (57 : Int32)) := Hu147.at hinu147 rfl
      obtain ⟨_, _, ⟨T148, L148, k148, n148⟩, -, X148, ⟨Lc148, hQ148, l148, y148, z148⟩, st148⟩ := Jvm.LawKit.callS X145 hx (y := (⟨"com/example/liana/liana/rdf/TurtleGrammarIsNameCharacterPinLaw", "within", "(III)Z"⟩ : MethodName)) hown (mvT hZ (hw _ (List.mem_of_getElem? (i := 1) rfl))) (mvT hZ (hw _ (List.mem_of_getElem? (i := 2) rfl))) (mvT hZ (hw _ (List.mem_of_getElem? (i := 3) rfl))) (mvT hZ (hw _ (List.mem_of_getElem? (i := 4) rfl))) (by decide) (backOf (W := 0) (rm1U l Z a0 hw [] p1 (48 : Int32) (57 : Int32) h25 n0 SZ25 ) hZ (hw _ (List.mem_of_getElem? (i := 4) rfl)) (hw _ (List.mem_of_getElem? (i := 3) rfl)) (by decide) (by decide)) (g := (mkF m 146 #[.val (.int p1), .val (.int p2), .val (.int p3), .val (.ref b4), .val (.ref b15), .val (.int mm), .val (.int p1), .unset, .unset, .unset] [(.int (57 : Int32)), (.int (48 : Int32)), (.int p1)])) rfl (by rw [hml]; rfl) (argsL := [(.int p1), (.int (48 : Int32)), (.int (57 : Int32))]) (rest := []) (lenOf pd_0 rfl) rfl (by show 2 * 0 + _ ≤ _; exact Nat.le_of_eq rfl) (hb hby at_146) (fun _ _ => ⟨rfl, e145, (by decide : 2 + 0 ≤ _), (by decide : 10 + 0 ≤ _)⟩)
      dsimp only [Pt.U, Pt.locs, Pt.cells, Pt.slots] at X148 l148 y148 z148 st148 hQ148
      subst l148 y148 z148
      obtain ⟨rfl, N148q, e148⟩ := hQ148
      have N148 := Fr.app N145 N148q
      obtain ⟨clu149, Aru149, qu149, Su149, Mu149, Hu149, Gu149⟩ := id V_b4_25
      have hinu149 : ¬ ((2 : Int32) < 0 ∨ clu149.slots.size ≤ ((2 : Int32)).toNatClampNeg) := inb_of Su149 ⟨by decide, by decide⟩
      have hatu149 : clu149.slots[((2 : Int32)).toNatClampNeg]? = some (.int (183 : Int32)) := Hu149.at hinu149 rfl
      obtain ⟨clu150, Aru150, qu150, Su150, Mu150, Hu150, Gu150⟩ := id V_b15_25
      have hinu150 : ¬ ((2 : Int32) < 0 ∨ clu150.slots.size ≤ ((2 : Int32)).toNatClampNeg) := inb_of Su150 ⟨by decide, by decide⟩
      have hatu150 : clu150.slots[((2 : Int32)).toNatClampNeg]? = some (.int (183 : Int32)) := Hu150.at hinu150 rfl
      obtain ⟨_, _, ⟨T151, L151, k151, n151⟩, -, X151, ⟨Lc151, hQ151, l151, y151, z151⟩, st151⟩ := Jvm.LawKit.callS X148 hx (y := (⟨"com/example/liana/liana/rdf/TurtleGrammarIsNameCharacterPinLaw", "within", "(III)Z"⟩ : MethodName)) hown (mvT hZ (hw _ (List.mem_of_getElem? (i := 1) rfl))) (mvT hZ (hw _ (List.mem_of_getElem? (i := 2) rfl))) (mvT hZ (hw _ (List.mem_of_getElem? (i := 3) rfl))) (mvT hZ (hw _ (List.mem_of_getElem? (i := 4) rfl))) (by decide) (backOf (W := 0) (rm1U l Z a0 hw [] p1 (183 : Int32) (183 : Int32) h25 n0 SZ25 ) hZ (hw _ (List.mem_of_getElem? (i := 4) rfl)) (hw _ (List.mem_of_getElem? (i := 3) rfl)) (by decide) (by decide)) (g := (mkF m 161 #[.val (.int p1), .val (.int p2), .val (.int p3), .val (.ref b4), .val (.ref b15), .val (.int mm), .val (.int p1), .unset, .unset, .unset] [(.int (183 : Int32)), (.int (183 : Int32)), (.int p1)])) rfl (by rw [hml]; rfl) (argsL := [(.int p1), (.int (183 : Int32)), (.int (183 : Int32))]) (rest := []) (lenOf pd_0 rfl) rfl (by show 2 * 0 + _ ≤ _; exact Nat.le_of_eq rfl) (hb hby at_161) (fun _ _ => ⟨rfl, e148, (by decide : 2 + 0 ≤ _), (by decide : 10 + 0 ≤ _)⟩)
      dsimp only [Pt.U, Pt.locs, Pt.cells, Pt.slots] at X151 l151 y151 z151 st151 hQ151
      subst l151 y151 z151
      obtain ⟨rfl, N151q, e151⟩ := hQ151
      have N151 := Fr.app N148 N151q
      obtain ⟨clu152, Aru152, qu152, Su152, Mu152, Hu152, Gu152⟩ := id V_b4_25
      have hinu152 : ¬ ((3 : Int32) < 0 ∨ clu152.slots.size ≤ ((3 : Int32)).toNatClampNeg) := inb_of Su152 ⟨by decide, by decide⟩
      have hatu152 : clu152.slots[((3 : Int32)).toNatClampNeg]? = some (.int (768 : Int32)) := Hu152.at hinu152 rfl
      obtain ⟨clu153, Aru153, qu153, Su153, Mu153, Hu153, Gu153⟩ := id V_b15_25
      have hinu153 : ¬ ((3 : Int32) < 0 ∨ clu153.slots.size ≤ ((3 : Int32)).toNatClampNeg) := inb_of Su153 ⟨by decide, by decide⟩
      have hatu153 : clu153.slots[((3 : Int32)).toNatClampNeg]? = some (.int (879 : Int32)) := Hu153.at hinu153 rfl
      obtain ⟨_, _, ⟨T154, L154, k154, n154⟩, -, X154, ⟨Lc154, hQ154, l154, y154, z154⟩, st154⟩ := Jvm.LawKit.callS X151 hx (y := (⟨"com/example/liana/liana/rdf/TurtleGrammarIsNameCharacterPinLaw", "within", "(III)Z"⟩ : MethodName)) hown (mvT hZ (hw _ (List.mem_of_getElem? (i := 1) rfl))) (mvT hZ (hw _ (List.mem_of_getElem? (i := 2) rfl))) (mvT hZ (hw _ (List.mem_of_getElem? (i := 3) rfl))) (mvT hZ (hw _ (List.mem_of_getElem? (i := 4) rfl))) (by decide) (backOf (W := 0) (rm1U l Z a0 hw [] p1 (768 : Int32) (879 : Int32) h25 n0 SZ25 ) hZ (hw _ (List.mem_of_getElem? (i := 4) rfl)) (hw _ (List.mem_of_getElem? (i := 3) rfl)) (by decide) (by decide)) (g := (mkF m 176 #[.val (.int p1), .val (.int p2), .val (.int p3), .val (.ref b4), .val (.ref b15), .val (.int mm), .val (.int p1), .unset, .unset, .unset] [(.int (879 : Int32)), (.int (768 : Int32)), (.int p1)])) rfl (by rw [hml]; rfl) (argsL := [(.int p1), (.int (768 : Int32)), (.int (879 : Int32))]) (rest := []) (lenOf pd_0 rfl) rfl (by show 2 * 0 + _ ≤ _; exact Nat.le_of_eq rfl) (hb hby at_176) (fun _ _ => ⟨rfl, e151, (by decide : 2 + 0 ≤ _), (by decide : 10 + 0 ≤ _)⟩)
      dsimp only [Pt.U, Pt.locs, Pt.cells, Pt.slots] at X154 l154 y154 z154 st154 hQ154
      subst l154 y154 z154
      obtain ⟨rfl, N154q, e154⟩ := hQ154
      have N154 := Fr.app N151 N154q
      obtain ⟨clu155, Aru155, qu155, Su155, Mu155, Hu155, Gu155⟩ := id V_b4_25
      have hinu155 : ¬ ((4 : Int32) < 0 ∨ clu155.slots.size ≤ ((4 : Int32)).toNatClampNeg) := inb_of Su155 ⟨by decide, by decide⟩
      have hatu155 : clu155.slots[((4 : Int32)).toNatClampNeg]? = some (.int (8255 : Int32)) := Hu155.at hinu155 rfl
      obtain ⟨clu156, Aru156, qu156, Su156, Mu156, Hu156, Gu156⟩ := id V_b15_25
      have hinu156 : ¬ ((4 : Int32) < 0 ∨ clu156.slots.size ≤ ((4 : Int32)).toNatClampNeg) := inb_of Su156 ⟨by decide, by decide⟩
      have hatu156 : clu156.slots[((4 : Int32)).toNatClampNeg]? = some (.int (8256 : Int32)) := Hu156.at hinu156 rfl
      obtain ⟨_, _, ⟨T157, L157, k157, n157⟩, -, X157, ⟨Lc157, hQ157, l157, y157, z157⟩, st157⟩ := Jvm.LawKit.callS X154 hx (y := (⟨"com/example/liana/liana/rdf/TurtleGrammarIsNameCharacterPinLaw", "within", "(III)Z"⟩ : MethodName)) hown (mvT hZ (hw _ (List.mem_of_getElem? (i := 1) rfl))) (mvT hZ (hw _ (List.mem_of_getElem? (i := 2) rfl))) (mvT hZ (hw _ (List.mem_of_getElem? (i := 3) rfl))) (mvT hZ (hw _ (List.mem_of_getElem? (i := 4) rfl))) (by decide) (backOf (W := 0) (rm1U l Z a0 hw [] p1 (8255 : Int32) (8256 : Int32) h25 n0 SZ25 ) hZ (hw _ (List.mem_of_getElem? (i := 4) rfl)) (hw _ (List.mem_of_getElem? (i := 3) rfl)) (by decide) (by decide)) (g := (mkF m 191 #[.val (.int p1), .val (.int p2), .val (.int p3), .val (.ref b4), .val (.ref b15), .val (.int mm), .val (.int p1), .unset, .unset, .unset] [(.int (8256 : Int32)), (.int (8255 : Int32)), (.int p1)])) rfl (by rw [hml]; rfl) (argsL := [(.int p1), (.int (8255 : Int32)), (.int (8256 : Int32))]) (rest := []) (lenOf pd_0 rfl) rfl (by show 2 * 0 + _ ≤ _; exact Nat.le_of_eq rfl) (hb hby at_191) (fun _ _ => ⟨rfl, e154, (by decide : 2 + 0 ≤ _), (by decide : 10 + 0 ≤ _)⟩)
      dsimp only [Pt.U, Pt.locs, Pt.cells, Pt.slots] at X157 l157 y157 z157 st157 hQ157
      subst l157 y157 z157
      obtain ⟨rfl, N157q, e157⟩ := hQ157
      have N157 := Fr.app N154 N157q
      obtain ⟨_, _, ⟨T158, L158, k158, n158⟩, -, X158, ⟨Lc158, hQ158, l158, y158, z158⟩, st158⟩ := Jvm.LawKit.callS X157 hx (y := (⟨"com/example/liana/liana/rdf/TurtleGrammar", "isNameCharacter", "(I)Z"⟩ : MethodName)) hown (mvT hZ (hw _ (List.mem_of_getElem? (i := 5) rfl))) (mvT hZ (hw _ (List.mem_of_getElem? (i := 6) rfl))) (mvT hZ (hw _ (List.mem_of_getElem? (i := 7) rfl))) (mvT hZ (hw _ (List.mem_of_getElem? (i := 8) rfl))) (by decide) (backOf (W := 0) (rm2 l Z a0 hw [] p1 h25 n0 SZ25 ) hZ (hw _ (List.mem_of_getElem? (i := 8) rfl)) (hw _ (List.mem_of_getElem? (i := 7) rfl)) (by decide) (by decide)) (g := (mkF m 206 #[.val (.int p1), .val (.int p2), .val (.int p3), .val (.ref b4), .val (.ref b15), .val (.int mm), .val (.int p1), .val (.int (1 : Int32)), .unset, .unset] [(.int p1)])) rfl (by rw [hml]; rfl) (argsL := [(.int p1)]) (rest := []) (lenOf pd_1 rfl) rfl (by show 2 * 0 + _ ≤ _; exact Nat.le_of_eq rfl) (hb hby at_206) (fun _ _ => ⟨rfl, e157, (by decide : 2 + 0 ≤ _), (by decide : 10 + 0 ≤ _)⟩)
      dsimp only [Pt.U, Pt.locs, Pt.cells, Pt.slots] at X158 l158 y158 z158 st158 hQ158
      subst l158 y158 z158
      obtain ⟨rfl, N158q, e158⟩ := hQ158
      have N158 := Fr.app N157 N158q
      obtain ⟨_, _, ⟨T159, L159, k159, n159⟩, -, X159, ⟨Lc159, hQ159, l159, y159, z159⟩, st159⟩ := Jvm.LawKit.callS X158 hx (y := (⟨"com/example/liana/liana/rdf/TurtleGrammar", "isNameStart", "(I)Z"⟩ : MethodName)) hown (mvT hZ (hw _ (List.mem_of_getElem? (i := 9) rfl))) (mvT hZ (hw _ (List.mem_of_getElem? (i := 10) rfl))) (mvT hZ (hw _ (List.mem_of_getElem? (i := 7) rfl))) (mvT hZ (hw _ (List.mem_of_getElem? (i := 11) rfl))) (by decide) (backOf (W := 0) (rm3 l Z a0 hw [] p1 h25 n0 SZ25 ) hZ (hw _ (List.mem_of_getElem? (i := 11) rfl)) (hw _ (List.mem_of_getElem? (i := 7) rfl)) (by decide) (by decide)) (g := (mkF m 213 #[.val (.int p1), .val (.int p2), .val (.int p3), .val (.ref b4), .val (.ref b15), .val (.int mm), .val (.int p1), .val (.int (1 : Int32)), .val (.int (own_ch1 p1)), .unset] [(.int p1)])) rfl (by rw [hml]; rfl) (argsL := [(.int p1)]) (rest := []) (lenOf pd_1 rfl) rfl (by show 2 * 0 + _ ≤ _; exact Nat.le_of_eq rfl) (hb hby at_213) (fun _ _ => ⟨rfl, e158, (by decide : 2 + 0 ≤ _), (by decide : 10 + 0 ≤ _)⟩)
      dsimp only [Pt.U, Pt.locs, Pt.cells, Pt.slots] at X159 l159 y159 z159 st159 hQ159
      subst l159 y159 z159
      obtain ⟨rfl, N159q, e159⟩ := hQ159
      have N159 := Fr.app N158 N159q
      obtain ⟨fs, hr, hrun, hended, hW, hsame⟩ := X159.leave (v := some (.int (1 : Int32))) (fun h => by rw [Bd.returns] at h; cases h)
      refine ⟨_, _, pre_104 _ ?_, hrun, hended, _, _, rfl, ?_, ⟨_, rfl⟩, hW, hsame.mono (by decide) (by decide)⟩
      · show Steps p.tables e below (T25.setTop (mkF m 122 #[.val (.int p1), .val (.int p2), .val (.int p3), .val (.ref b4), .val (.ref b15), .val (.int mm), .val (.int p1), .unset, .unset, .unset] [])) _
        refine XS.iload X25.here hx rfl (hb hby at_122) rfl ?_
        show Steps p.tables e below (T25.setTop (mkF m 124 #[.val (.int p1), .val (.int p2), .val (.int p3), .val (.ref b4), .val (.ref b15), .val (.int mm), .val (.int p1), .unset, .unset, .unset] [(.int p1)])) _
        refine XS.aloadN X25.here hx rfl (hb hby at_124) rfl rfl ?_
        show Steps p.tables e below (T25.setTop (mkF m 125 #[.val (.int p1), .val (.int p2), .val (.int p3), .val (.ref b4), .val (.ref b15), .val (.int mm), .val (.int p1), .unset, .unset, .unset] [(.ref b4), (.int p1)])) _
        refine XS.iconst X25.here hx rfl (hb hby at_125) ?_
        show Steps p.tables e below (T25.setTop (mkF m 126 #[.val (.int p1), .val (.int p2), .val (.int p3), .val (.ref b4), .val (.ref b15), .val (.int mm), .val (.int p1), .unset, .unset, .unset] [(.int (0 : Int32)), (.ref b4), (.int p1)])) _
        refine X25.iaload hx (j := (0 : Int32)) (v := (.int (45 : Int32))) (by rw [e25]; exact Aru143.1) (State.isArrayOf_alike hZ.alike Aru143.2.1) Aru143.2.2 hinu143 hatu143 (g := (mkF m 126 #[.val (.int p1), .val (.int p2), .val (.int p3), .val (.ref b4), .val (.ref b15), .val (.int mm), .val (.int p1), .unset, .unset, .unset] [(.int (0 : Int32)), (.ref b4), (.int p1)])) rfl rfl (hb hby at_126) _ ?_
        show Steps p.tables e below (T25.setTop (mkF m 127 #[.val (.int p1), .val (.int p2), .val (.int p3), .val (.ref b4), .val (.ref b15), .val (.int mm), .val (.int p1), .unset, .unset, .unset] [(.int (45 : Int32)), (.int p1)])) _
        refine XS.aload X25.here hx rfl (hb hby at_127) rfl rfl ?_
        show Steps p.tables e below (T25.setTop (mkF m 129 #[.val (.int p1), .val (.int p2), .val (.int p3), .val (.ref b4), .val (.ref b15), .val (.int mm), .val (.int p1), .unset, .unset, .unset] [(.ref b15), (.int (45 : Int32)), (.int p1)])) _
        refine XS.iconst X25.here hx rfl (hb hby at_129) ?_
        show Steps p.tables e below (T25.setTop (mkF m 130 #[.val (.int p1), .val (.int p2), .val (.int p3), .val (.ref b4), .val (.ref b15), .val (.int mm), .val (.int p1), .unset, .unset, .unset] [(.int (0 : Int32)), (.ref b15), (.int (45 : Int32)), (.int p1)])) _
        refine X25.iaload hx (j := (0 : Int32)) (v := (.int (45 : Int32))) (by rw [e25]; exact Aru144.1) (State.isArrayOf_alike hZ.alike Aru144.2.1) Aru144.2.2 hinu144 hatu144 (g := (mkF m 130 #[.val (.int p1), .val (.int p2), .val (.int p3), .val (.ref b4), .val (.ref b15), .val (.int mm), .val (.int p1), .unset, .unset, .unset] [(.int (0 : Int32)), (.ref b15), (.int (45 : Int32)), (.int p1)])) rfl rfl (hb hby at_130) _ ?_
        show Steps p.tables e below (T25.setTop (mkF m 131 #[.val (.int p1), .val (.int p2), .val (.int p3), .val (.ref b4), .val (.ref b15), .val (.int mm), .val (.int p1), .unset, .unset, .unset] [(.int (45 : Int32)), (.int (45 : Int32)), (.int p1)])) _
        refine st145 _ ?_
        show Steps p.tables e below (T145.setTop (mkF m 134 #[.val (.int p1), .val (.int p2), .val (.int p3), .val (.ref b4), .val (.ref b15), .val (.int mm), .val (.int p1), .unset, .unset, .unset] [(.int (own_in p1 (45 : Int32) (45 : Int32)))])) _
        refine XS.ifNo X145.here hx rfl (hb hby at_134) rfl ((if0 _ _).trans (teq (k0 : (own_in p1 (45 : Int32) (45 : Int32)) = (0 : Int32))).2) ?_
        show Steps p.tables e below (T145.setTop (mkF m 137 #[.val (.int p1), .val (.int p2), .val (.int p3), .val (.ref b4), .val (.ref b15), .val (.int mm), .val (.int p1), .unset, .unset, .unset] [])) _
        refine XS.iload X145.here hx rfl (hb hby at_137) rfl ?_
        show Steps p.tables e below (T145.setTop (mkF m 139 #[.val (.int p1), .val (.int p2), .val (.int p3), .val (.ref b4), .val (.ref b15), .val (.int mm), .val (.int p1), .unset, .unset, .unset] [(.int p1)])) _
        refine XS.aloadN X145.here hx rfl (hb hby at_139) rfl rfl ?_
        show Steps p.tables e below (T145.setTop (mkF m 140 #[.val (.int p1), .val (.int p2), .val (.int p3), .val (.ref b4), .val (.ref b15), .val (.int mm), .val (.int p1), .unset, .unset, .unset] [(.ref b4), (.int p1)])) _
        refine XS.iconst X145.here hx rfl (hb hby at_140) ?_
        show Steps p.tables e below (T145.setTop (mkF m 141 #[.val (.int p1), .val (.int p2), .val (.int p3), .val (.ref b4), .val (.ref b15), .val (.int mm), .val (.int p1), .unset, .unset, .unset] [(.int (1 : Int32)), (.ref b4), (.int p1)])) _
        refine X145.iaload hx (j := (1 : Int32)) (v := (.int (48 : Int32))) (by rw [e145]; exact Aru146.1) (State.isArrayOf_alike hZ.alike Aru146.2.1) Aru146.2.2 hinu146 hatu146 (g := (mkF m 141 #[.val (.int p1), .val (.int p2), .val (.int p3), .val (.ref b4), .val (.ref b15), .val (.int mm), .val (.int p1), .unset, .unset, .unset] [(.int (1 : Int32)), (.ref b4), (.int p1)])) rfl rfl (hb hby at_141) _ ?_
        show Steps p.tables e below (T145.setTop (mkF m 142 #[.val (.int p1), .val (.int p2), .val (.int p3), .val (.ref b4), .val (.ref b15), .val (.int mm), .val (.int p1), .unset, .unset, .unset] [(.int (48 : Int32)), (.int p1)])) _
        refine XS.aload X145.here hx rfl (hb hby at_142) rfl rfl ?_
        show Steps p.tables e below (T145.setTop (mkF m 144 #[.val (.int p1), .val (.int p2), .val (.int p3), .val (.ref b4), .val (.ref b15), .val (.int mm), .val (.int p1), .unset, .unset, .unset] [(.ref b15), (.int (48 : Int32)), (.int p1)])) _
        refine XS.iconst X145.here hx rfl (hb hby at_144) ?_
        show Steps p.tables e below (T145.setTop (mkF m 145 #[.val (.int p1), .val (.int p2), .val (.int p3), .val (.ref b4), .val (.ref b15), .val (.int mm), .val (.int p1), .unset, .unset, .unset] [(.int (1 : Int32)), (.ref b15), (.int (48 : Int32)), (.int p1)])) _
        refine X145.iaload hx (j := (1 : Int32)) (v := (.int (57 : Int32))) (by rw [e145]; exact Aru147.1) (State.isArrayOf_alike hZ.alike Aru147.2.1) Aru147.2.2 hinu147 hatu147 (g := (mkF m 145 #[.val (.int p1), .val (.int p2), .val (.int p3), .val (.ref b4), .val (.ref b15), .val (.int mm), .val (.int p1), .unset, .unset, .unset] [(.int (1 : Int32)), (.ref b15), (.int (48 : Int32)), (.int p1)])) rfl rfl (hb hby at_145) _ ?_
        show Steps p.tables e below (T145.setTop (mkF m 146 #[.val (.int p1), .val (.int p2), .val (.int p3), .val (.ref b4), .val (.ref b15), .val (.int mm), .val (.int p1), .unset, .unset, .unset] [(.int (57 : Int32)), (.int (48 : Int32)), (.int p1)])) _
        refine st148 _ ?_
        show Steps p.tables e below (T148.setTop (mkF m 149 #[.val (.int p1), .val (.int p2), .val (.int p3), .val (.ref b4), .val (.ref b15), .val (.int mm), .val (.int p1), .unset, .unset, .unset] [(.int (own_in p1 (48 : Int32) (57 : Int32)))])) _
        refine XS.ifNo X148.here hx rfl (hb hby at_149) rfl ((if0 _ _).trans (teq (k1 : (own_in p1 (48 : Int32) (57 : Int32)) = (0 : Int32))).2) ?_
        show Steps p.tables e below (T148.setTop (mkF m 152 #[.val (.int p1), .val (.int p2), .val (.int p3), .val (.ref b4), .val (.ref b15), .val (.int mm), .val (.int p1), .unset, .unset, .unset] [])) _
        refine XS.iload X148.here hx rfl (hb hby at_152) rfl ?_
        show Steps p.tables e below (T148.setTop (mkF m 154 #[.val (.int p1), .val (.int p2), .val (.int p3), .val (.ref b4), .val (.ref b15), .val (.int mm), .val (.int p1), .unset, .unset, .unset] [(.int p1)])) _
        refine XS.aloadN X148.here hx rfl (hb hby at_154) rfl rfl ?_
        show Steps p.tables e below (T148.setTop (mkF m 155 #[.val (.int p1), .val (.int p2), .val (.int p3), .val (.ref b4), .val (.ref b15), .val (.int mm), .val (.int p1), .unset, .unset, .unset] [(.ref b4), (.int p1)])) _
        refine XS.iconst X148.here hx rfl (hb hby at_155) ?_
        show Steps p.tables e below (T148.setTop (mkF m 156 #[.val (.int p1), .val (.int p2), .val (.int p3), .val (.ref b4), .val (.ref b15), .val (.int mm), .val (.int p1), .unset, .unset, .unset] [(.int (2 : Int32)), (.ref b4), (.int p1)])) _
        refine X148.iaload hx (j := (2 : Int32)) (v := (.int (183 : Int32))) (by rw [e148]; exact Aru149.1) (State.isArrayOf_alike hZ.alike Aru149.2.1) Aru149.2.2 hinu149 hatu149 (g := (mkF m 156 #[.val (.int p1), .val (.int p2), .val (.int p3), .val (.ref b4), .val (.ref b15), .val (.int mm), .val (.int p1), .unset, .unset, .unset] [(.int (2 : Int32)), (.ref b4), (.int p1)])) rfl rfl (hb hby at_156) _ ?_
        show Steps p.tables e below (T148.setTop (mkF m 157 #[.val (.int p1), .val (.int p2), .val (.int p3), .val (.ref b4), .val (.ref b15), .val (.int mm), .val (.int p1), .unset, .unset, .unset] [(.int (183 : Int32)), (.int p1)])) _
        refine XS.aload X148.here hx rfl (hb hby at_157) rfl rfl ?_
        show Steps p.tables e below (T148.setTop (mkF m 159 #[.val (.int p1), .val (.int p2), .val (.int p3), .val (.ref b4), .val (.ref b15), .val (.int mm), .val (.int p1), .unset, .unset, .unset] [(.ref b15), (.int (183 : Int32)), (.int p1)])) _
        refine XS.iconst X148.here hx rfl (hb hby at_159) ?_
        show Steps p.tables e below (T148.setTop (mkF m 160 #[.val (.int p1), .val (.int p2), .val (.int p3), .val (.ref b4), .val (.ref b15), .val (.int mm), .val (.int p1), .unset, .unset, .unset] [(.int (2 : Int32)), (.ref b15), (.int (183 : Int32)), (.int p1)])) _
        refine X148.iaload hx (j := (2 : Int32)) (v := (.int (183 : Int32))) (by rw [e148]; exact Aru150.1) (State.isArrayOf_alike hZ.alike Aru150.2.1) Aru150.2.2 hinu150 hatu150 (g := (mkF m 160 #[.val (.int p1), .val (.int p2), .val (.int p3), .val (.ref b4), .val (.ref b15), .val (.int mm), .val (.int p1), .unset, .unset, .unset] [(.int (2 : Int32)), (.ref b15), (.int (183 : Int32)), (.int p1)])) rfl rfl (hb hby at_160) _ ?_
        show Steps p.tables e below (T148.setTop (mkF m 161 #[.val (.int p1), .val (.int p2), .val (.int p3), .val (.ref b4), .val (.ref b15), .val (.int mm), .val (.int p1), .unset, .unset, .unset] [(.int (183 : Int32)), (.int (183 : Int32)), (.int p1)])) _
        refine st151 _ ?_
        show Steps p.tables e below (T151.setTop (mkF m 164 #[.val (.int p1), .val (.int p2), .val (.int p3), .val (.ref b4), .val (.ref b15), .val (.int mm), .val (.int p1), .unset, .unset, .unset] [(.int (own_in p1 (183 : Int32) (183 : Int32)))])) _
        refine XS.ifNo X151.here hx rfl (hb hby at_164) rfl ((if0 _ _).trans (teq (k2 : (own_in p1 (183 : Int32) (183 : Int32)) = (0 : Int32))).2) ?_
        show Steps p.tables e below (T151.setTop (mkF m 167 #[.val (.int p1), .val (.int p2), .val (.int p3), .val (.ref b4), .val (.ref b15), .val (.int mm), .val (.int p1), .unset, .unset, .unset] [])) _
        refine XS.iload X151.here hx rfl (hb hby at_167) rfl ?_
        show Steps p.tables e below (T151.setTop (mkF m 169 #[.val (.int p1), .val (.int p2), .val (.int p3), .val (.ref b4), .val (.ref b15), .val (.int mm), .val (.int p1), .unset, .unset, .unset] [(.int p1)])) _
        refine XS.aloadN X151.here hx rfl (hb hby at_169) rfl rfl ?_
        show Steps p.tables e below (T151.setTop (mkF m 170 #[.val (.int p1), .val (.int p2), .val (.int p3), .val (.ref b4), .val (.ref b15), .val (.int mm), .val (.int p1), .unset, .unset, .unset] [(.ref b4), (.int p1)])) _
        refine XS.iconst X151.here hx rfl (hb hby at_170) ?_
        show Steps p.tables e below (T151.setTop (mkF m 171 #[.val (.int p1), .val (.int p2), .val (.int p3), .val (.ref b4), .val (.ref b15), .val (.int mm), .val (.int p1), .unset, .unset, .unset] [(.int (3 : Int32)), (.ref b4), (.int p1)])) _
        refine X151.iaload hx (j := (3 : Int32)) (v := (.int (768 : Int32))) (by rw [e151]; exact Aru152.1) (State.isArrayOf_alike hZ.alike Aru152.2.1) Aru152.2.2 hinu152 hatu152 (g := (mkF m 171 #[.val (.int p1), .val (.int p2), .val (.int p3), .val (.ref b4), .val (.ref b15), .val (.int mm), .val (.int p1), .unset, .unset, .unset] [(.int (3 : Int32)), (.ref b4), (.int p1)])) rfl rfl (hb hby at_171) _ ?_
        show Steps p.tables e below (T151.setTop (mkF m 172 #[.val (.int p1), .val (.int p2), .val (.int p3), .val (.ref b4), .val (.ref b15), .val (.int mm), .val (.int p1), .unset, .unset, .unset] [(.int (768 : Int32)), (.int p1)])) _
        refine XS.aload X151.here hx rfl (hb hby at_172) rfl rfl ?_
        show Steps p.tables e below (T151.setTop (mkF m 174 #[.val (.int p1), .val (.int p2), .val (.int p3), .val (.ref b4), .val (.ref b15), .val (.int mm), .val (.int p1), .unset, .unset, .unset] [(.ref b15), (.int (768 : Int32)), (.int p1)])) _
        refine XS.iconst X151.here hx rfl (hb hby at_174) ?_
        show Steps p.tables e below (T151.setTop (mkF m 175 #[.val (.int p1), .val (.int p2), .val (.int p3), .val (.ref b4), .val (.ref b15), .val (.int mm), .val (.int p1), .unset, .unset, .unset] [(.int (3 : Int32)), (.ref b15), (.int (768 : Int32)), (.int p1)])) _
        refine X151.iaload hx (j := (3 : Int32)) (v := (.int (879 : Int32))) (by rw [e151]; exact Aru153.1) (State.isArrayOf_alike hZ.alike Aru153.2.1) Aru153.2.2 hinu153 hatu153 (g := (mkF m 175 #[.val (.int p1), .val (.int p2), .val (.int p3), .val (.ref b4), .val (.ref b15), .val (.int mm), .val (.int p1), .unset, .unset, .unset] [(.int (3 : Int32)), (.ref b15), (.int (768 : Int32)), (.int p1)])) rfl rfl (hb hby at_175) _ ?_
        show Steps p.tables e below (T151.setTop (mkF m 176 #[.val (.int p1), .val (.int p2), .val (.int p3), .val (.ref b4), .val (.ref b15), .val (.int mm), .val (.int p1), .unset, .unset, .unset] [(.int (879 : Int32)), (.int (768 : Int32)), (.int p1)])) _
        refine st154 _ ?_
        show Steps p.tables e below (T154.setTop (mkF m 179 #[.val (.int p1), .val (.int p2), .val (.int p3), .val (.ref b4), .val (.ref b15), .val (.int mm), .val (.int p1), .unset, .unset, .unset] [(.int (own_in p1 (768 : Int32) (879 : Int32)))])) _
        refine XS.ifNo X154.here hx rfl (hb hby at_179) rfl ((if0 _ _).trans (teq (k3 : (own_in p1 (768 : Int32) (879 : Int32)) = (0 : Int32))).2) ?_
        show Steps p.tables e below (T154.setTop (mkF m 182 #[.val (.int p1), .val (.int p2), .val (.int p3), .val (.ref b4), .val (.ref b15), .val (.int mm), .val (.int p1), .unset, .unset, .unset] [])) _
        refine XS.iload X154.here hx rfl (hb hby at_182) rfl ?_
        show Steps p.tables e below (T154.setTop (mkF m 184 #[.val (.int p1), .val (.int p2), .val (.int p3), .val (.ref b4), .val (.ref b15), .val (.int mm), .val (.int p1), .unset, .unset, .unset] [(.int p1)])) _
        refine XS.aloadN X154.here hx rfl (hb hby at_184) rfl rfl ?_
        show Steps p.tables e below (T154.setTop (mkF m 185 #[.val (.int p1), .val (.int p2), .val (.int p3), .val (.ref b4), .val (.ref b15), .val (.int mm), .val (.int p1), .unset, .unset, .unset] [(.ref b4), (.int p1)])) _
        refine XS.iconst X154.here hx rfl (hb hby at_185) ?_
        show Steps p.tables e below (T154.setTop (mkF m 186 #[.val (.int p1), .val (.int p2), .val (.int p3), .val (.ref b4), .val (.ref b15), .val (.int mm), .val (.int p1), .unset, .unset, .unset] [(.int (4 : Int32)), (.ref b4), (.int p1)])) _
        refine X154.iaload hx (j := (4 : Int32)) (v := (.int (8255 : Int32))) (by rw [e154]; exact Aru155.1) (State.isArrayOf_alike hZ.alike Aru155.2.1) Aru155.2.2 hinu155 hatu155 (g := (mkF m 186 #[.val (.int p1), .val (.int p2), .val (.int p3), .val (.ref b4), .val (.ref b15), .val (.int mm), .val (.int p1), .unset, .unset, .unset] [(.int (4 : Int32)), (.ref b4), (.int p1)])) rfl rfl (hb hby at_186) _ ?_
        show Steps p.tables e below (T154.setTop (mkF m 187 #[.val (.int p1), .val (.int p2), .val (.int p3), .val (.ref b4), .val (.ref b15), .val (.int mm), .val (.int p1), .unset, .unset, .unset] [(.int (8255 : Int32)), (.int p1)])) _
        refine XS.aload X154.here hx rfl (hb hby at_187) rfl rfl ?_
        show Steps p.tables e below (T154.setTop (mkF m 189 #[.val (.int p1), .val (.int p2), .val (.int p3), .val (.ref b4), .val (.ref b15), .val (.int mm), .val (.int p1), .unset, .unset, .unset] [(.ref b15), (.int (8255 : Int32)), (.int p1)])) _
        refine XS.iconst X154.here hx rfl (hb hby at_189) ?_
        show Steps p.tables e below (T154.setTop (mkF m 190 #[.val (.int p1), .val (.int p2), .val (.int p3), .val (.ref b4), .val (.ref b15), .val (.int mm), .val (.int p1), .unset, .unset, .unset] [(.int (4 : Int32)), (.ref b15), (.int (8255 : Int32)), (.int p1)])) _
        refine X154.iaload hx (j := (4 : Int32)) (v := (.int (8256 : Int32))) (by rw [e154]; exact Aru156.1) (State.isArrayOf_alike hZ.alike Aru156.2.1) Aru156.2.2 hinu156 hatu156 (g := (mkF m 190 #[.val (.int p1), .val (.int p2), .val (.int p3), .val (.ref b4), .val (.ref b15), .val (.int mm), .val (.int p1), .unset, .unset, .unset] [(.int (4 : Int32)), (.ref b15), (.int (8255 : Int32)), (.int p1)])) rfl rfl (hb hby at_190) _ ?_
        show Steps p.tables e below (T154.setTop (mkF m 191 #[.val (.int p1), .val (.int p2), .val (.int p3), .val (.ref b4), .val (.ref b15), .val (.int mm), .val (.int p1), .unset, .unset, .unset] [(.int (8256 : Int32)), (.int (8255 : Int32)), (.int p1)])) _
        refine st157 _ ?_
        show Steps p.tables e below (T157.setTop (mkF m 194 #[.val (.int p1), .val (.int p2), .val (.int p3), .val (.ref b4), .val (.ref b15), .val (.int mm), .val (.int p1), .unset, .unset, .unset] [(.int (own_in p1 (8255 : Int32) (8256 : Int32)))])) _
        refine XS.ifNo X157.here hx rfl (hb hby at_194) rfl ((if0 _ _).trans (feq (k4 : ¬ ((own_in p1 (8255 : Int32) (8256 : Int32)) = (0 : Int32)))).1) ?_
        show Steps p.tables e below (T157.setTop (mkF m 197 #[.val (.int p1), .val (.int p2), .val (.int p3), .val (.ref b4), .val (.ref b15), .val (.int mm), .val (.int p1), .unset, .unset, .unset] [])) _
        refine XS.iconst X157.here hx rfl (hb hby at_197) ?_
        show Steps p.tables e below (T157.setTop (mkF m 198 #[.val (.int p1), .val (.int p2), .val (.int p3), .val (.ref b4), .val (.ref b15), .val (.int mm), .val (.int p1), .unset, .unset, .unset] [(.int (1 : Int32))])) _
        refine XS.goto X157.here hx rfl (pc0 := 198) (pc' := 202) rfl (hb hby at_198) (by decide) (by decide) ?_
        show Steps p.tables e below (T157.setTop (mkF m 202 #[.val (.int p1), .val (.int p2), .val (.int p3), .val (.ref b4), .val (.ref b15), .val (.int mm), .val (.int p1), .unset, .unset, .unset] [(.int (1 : Int32))])) _
        refine XS.istore X157.here hx rfl (hb hby at_202) rfl (l' := #[.val (.int p1), .val (.int p2), .val (.int p3), .val (.ref b4), .val (.ref b15), .val (.int mm), .val (.int p1), .val (.int (1 : Int32)), .unset, .unset]) rfl ?_
        show Steps p.tables e below (T157.setTop (mkF m 204 #[.val (.int p1), .val (.int p2), .val (.int p3), .val (.ref b4), .val (.ref b15), .val (.int mm), .val (.int p1), .val (.int (1 : Int32)), .unset, .unset] [])) _
        refine XS.iload X157.here hx rfl (hb hby at_204) rfl ?_
        show Steps p.tables e below (T157.setTop (mkF m 206 #[.val (.int p1), .val (.int p2), .val (.int p3), .val (.ref b4), .val (.ref b15), .val (.int mm), .val (.int p1), .val (.int (1 : Int32)), .unset, .unset] [(.int p1)])) _
        refine st158 _ ?_
        show Steps p.tables e below (T158.setTop (mkF m 209 #[.val (.int p1), .val (.int p2), .val (.int p3), .val (.ref b4), .val (.ref b15), .val (.int mm), .val (.int p1), .val (.int (1 : Int32)), .unset, .unset] [(.int (own_ch1 p1))])) _
        refine XS.istore X158.here hx rfl (hb hby at_209) rfl (l' := #[.val (.int p1), .val (.int p2), .val (.int p3), .val (.ref b4), .val (.ref b15), .val (.int mm), .val (.int p1), .val (.int (1 : Int32)), .val (.int (own_ch1 p1)), .unset]) rfl ?_
        show Steps p.tables e below (T158.setTop (mkF m 211 #[.val (.int p1), .val (.int p2), .val (.int p3), .val (.ref b4), .val (.ref b15), .val (.int mm), .val (.int p1), .val (.int (1 : Int32)), .val (.int (own_ch1 p1)), .unset] [])) _
        refine XS.iload X158.here hx rfl (hb hby at_211) rfl ?_
        show Steps p.tables e below (T158.setTop (mkF m 213 #[.val (.int p1), .val (.int p2), .val (.int p3), .val (.ref b4), .val (.ref b15), .val (.int mm), .val (.int p1), .val (.int (1 : Int32)), .val (.int (own_ch1 p1)), .unset] [(.int p1)])) _
        refine st159 _ ?_
        show Steps p.tables e below (T159.setTop (mkF m 216 #[.val (.int p1), .val (.int p2), .val (.int p3), .val (.ref b4), .val (.ref b15), .val (.int mm), .val (.int p1), .val (.int (1 : Int32)), .val (.int (own_ch1 p1)), .unset] [(.int (own_st1 p1))])) _
        refine XS.istore X159.here hx rfl (hb hby at_216) rfl (l' := #[.val (.int p1), .val (.int p2), .val (.int p3), .val (.ref b4), .val (.ref b15), .val (.int mm), .val (.int p1), .val (.int (1 : Int32)), .val (.int (own_ch1 p1)), .val (.int (own_st1 p1))]) rfl ?_
        show Steps p.tables e below (T159.setTop (mkF m 218 #[.val (.int p1), .val (.int p2), .val (.int p3), .val (.ref b4), .val (.ref b15), .val (.int mm), .val (.int p1), .val (.int (1 : Int32)), .val (.int (own_ch1 p1)), .val (.int (own_st1 p1))] [])) _
        refine XS.iload X159.here hx rfl (hb hby at_218) rfl ?_
        show Steps p.tables e below (T159.setTop (mkF m 220 #[.val (.int p1), .val (.int p2), .val (.int p3), .val (.ref b4), .val (.ref b15), .val (.int mm), .val (.int p1), .val (.int (1 : Int32)), .val (.int (own_ch1 p1)), .val (.int (own_st1 p1))] [(.int (own_ch1 p1))])) _
        refine XS.iload X159.here hx rfl (hb hby at_220) rfl ?_
        show Steps p.tables e below (T159.setTop (mkF m 222 #[.val (.int p1), .val (.int p2), .val (.int p3), .val (.ref b4), .val (.ref b15), .val (.int mm), .val (.int p1), .val (.int (1 : Int32)), .val (.int (own_ch1 p1)), .val (.int (own_st1 p1))] [(.int (1 : Int32)), (.int (own_ch1 p1))])) _
        refine XS.icmpNo X159.here hx rfl (hb hby at_222) rfl (teq (c1 : (own_ch1 p1) = (1 : Int32))).2 ?_
        show Steps p.tables e below (T159.setTop (mkF m 225 #[.val (.int p1), .val (.int p2), .val (.int p3), .val (.ref b4), .val (.ref b15), .val (.int mm), .val (.int p1), .val (.int (1 : Int32)), .val (.int (own_ch1 p1)), .val (.int (own_st1 p1))] [])) _
        refine XS.iload X159.here hx rfl (hb hby at_225) rfl ?_
        show Steps p.tables e below (T159.setTop (mkF m 227 #[.val (.int p1), .val (.int p2), .val (.int p3), .val (.ref b4), .val (.ref b15), .val (.int mm), .val (.int p1), .val (.int (1 : Int32)), .val (.int (own_ch1 p1)), .val (.int (own_st1 p1))] [(.int (own_ch1 p1))])) _
        refine XS.ifNo X159.here hx rfl (hb hby at_227) rfl ((if0 _ _).trans (feq (by rw [c1]; decide : ¬ ((own_ch1 p1) = (0 : Int32)))).1) ?_
        show Steps p.tables e below (T159.setTop (mkF m 230 #[.val (.int p1), .val (.int p2), .val (.int p3), .val (.ref b4), .val (.ref b15), .val (.int mm), .val (.int p1), .val (.int (1 : Int32)), .val (.int (own_ch1 p1)), .val (.int (own_st1 p1))] [])) _
        refine XS.iload X159.here hx rfl (hb hby at_230) rfl ?_
        show Steps p.tables e below (T159.setTop (mkF m 232 #[.val (.int p1), .val (.int p2), .val (.int p3), .val (.ref b4), .val (.ref b15), .val (.int mm), .val (.int p1), .val (.int (1 : Int32)), .val (.int (own_ch1 p1)), .val (.int (own_st1 p1))] [(.int (own_st1 p1))])) _
        refine XS.ifNo X159.here hx rfl (hb hby at_232) rfl ((if0 _ _).trans (teq (c2 : (own_st1 p1) = (0 : Int32))).2) ?_
        show Steps p.tables e below (T159.setTop (mkF m 235 #[.val (.int p1), .val (.int p2), .val (.int p3), .val (.ref b4), .val (.ref b15), .val (.int mm), .val (.int p1), .val (.int (1 : Int32)), .val (.int (own_ch1 p1)), .val (.int (own_st1 p1))] [])) _
        refine XS.iconst X159.here hx rfl (hb hby at_235) ?_
        show Steps p.tables e below (T159.setTop (mkF m 236 #[.val (.int p1), .val (.int p2), .val (.int p3), .val (.ref b4), .val (.ref b15), .val (.int mm), .val (.int p1), .val (.int (1 : Int32)), .val (.int (own_ch1 p1)), .val (.int (own_st1 p1))] [(.int (1 : Int32))])) _
        refine XS.goto X159.here hx rfl (pc0 := 236) (pc' := 240) rfl (hb hby at_236) (by decide) (by decide) ?_
        show Steps p.tables e below (T159.setTop (mkF m 240 #[.val (.int p1), .val (.int p2), .val (.int p3), .val (.ref b4), .val (.ref b15), .val (.int mm), .val (.int p1), .val (.int (1 : Int32)), .val (.int (own_ch1 p1)), .val (.int (own_st1 p1))] [(.int (1 : Int32))])) _
        exact retN X159 hx (t := .boolean) Bd.returns (by simp) (hb hby at_240) hr
      · show QF n0 _ T159.heap _
        rw [e159]
        exact ⟨rfl, N159⟩
    have dn : ¬ (p1.toInt = 45 ∨ (48 ≤ p1.toInt ∧ p1.toInt ≤ 57) ∨ p1.toInt = 183 ∨ (768 ≤ p1.toInt ∧ p1.toInt ≤ 879) ∨ (8255 ≤ p1.toInt ∧ p1.toInt ≤ 8256)) := by
      have q0 := own_in_z k0; simp only [f01, f02] at q0
      have q1 := own_in_z k1; simp only [f11, f12] at q1
      have q2 := own_in_z k2; simp only [f21, f22] at q2
      have q3 := own_in_z k3; simp only [f31, f32] at q3
      have q4 := own_in_z k4; simp only [f41, f42] at q4
      omega
    have c1 := own_ch_n dn
    obtain ⟨clu160, Aru160, qu160, Su160, Mu160, Hu160, Gu160⟩ := id V_b4_25
    have hinu160 : ¬ ((0 : Int32) < 0 ∨ clu160.slots.size ≤ ((0 : Int32)).toNatClampNeg) := inb_of Su160 ⟨by decide, by decide⟩
    have hatu160 : clu160.slots[((0 : Int32)).toNatClampNeg]? = some (.int (45 : Int32)) := Hu160.at hinu160 rfl
    obtain ⟨clu161, Aru161, qu161, Su161, Mu161, Hu161, Gu161⟩ := id V_b15_25
    have hinu161 : ¬ ((0 : Int32) < 0 ∨ clu161.slots.size ≤ ((0 : Int32)).toNatClampNeg) := inb_of Su161 ⟨by decide, by decide⟩
    have hatu161 : clu161.slots[((0 : Int32)).toNatClampNeg]? = some (.int (45 : Int32)) := Hu161.at hinu161 rfl
    obtain ⟨_, _, ⟨T162, L162, k162, n162⟩, -, X162, ⟨Lc162, hQ162, l162, y162, z162⟩, st162⟩ := Jvm.LawKit.callS X25 hx (y := (⟨"com/example/liana/liana/rdf/TurtleGrammarIsNameCharacterPinLaw", "within", "(III)Z"⟩ : MethodName)) hown (mvT hZ (hw _ (List.mem_of_getElem? (i := 1) rfl))) (mvT hZ (hw _ (List.mem_of_getElem? (i := 2) rfl))) (mvT hZ (hw _ (List.mem_of_getElem? (i := 3) rfl))) (mvT hZ (hw _ (List.mem_of_getElem? (i := 4) rfl))) (by decide) (backOf (W := 0) (rm1U l Z a0 hw [] p1 (45 : Int32) (45 : Int32) h25 n0 SZ25 ) hZ (hw _ (List.mem_of_getElem? (i := 4) rfl)) (hw _ (List.mem_of_getElem? (i := 3) rfl)) (by decide) (by decide)) (g := (mkF m 131 #[.val (.int p1), .val (.int p2), .val (.int p3), .val (.ref b4), .val (.ref b15), .val (.int mm), .val (.int p1), .unset, .unset, .unset] [(.int (45 : Int32)), (.int (45 : Int32)), (.int p1)])) rfl (by rw [hml]; rfl) (argsL := [(.int p1), (.int (45 : Int32)), (.int (45 : Int32))]) (rest := []) (lenOf pd_0 rfl) rfl (by show 2 * 0 + _ ≤ _; exact Nat.le_of_eq rfl) (hb hby at_131) (fun _ _ => ⟨rfl, e25, (by decide : 2 + 0 ≤ _), (by decide : 10 + 0 ≤ _)⟩)
    dsimp only [Pt.U, Pt.locs, Pt.cells, Pt.slots] at X162 l162 y162 z162 st162 hQ162
    subst l162 y162 z162
    obtain ⟨rfl, N162q, e162⟩ := hQ162
    have N162 := Fr.app N25 N162q
    obtain ⟨clu163, Aru163, qu163, Su163, Mu163, Hu163, Gu163⟩ := id V_b4_25
    have hinu163 : ¬ ((1 : Int32) < 0 ∨ clu163.slots.size ≤ ((1 : Int32)).toNatClampNeg) := inb_of Su163 ⟨by decide, by decide⟩
    have hatu163 : clu163.slots[((1 : Int32)).toNatClampNeg]? = some (.int (48 : Int32)) := Hu163.at hinu163 rfl
    obtain ⟨clu164, Aru164, qu164, Su164, Mu164, Hu164, Gu164⟩ := id V_b15_25
    have hinu164 : ¬ ((1 : Int32) < 0 ∨ clu164.slots.size ≤ ((1 : Int32)).toNatClampNeg) := inb_of Su164 ⟨by decide, by decide⟩
    have hatu164 : clu164.slots[((1 : Int32)).toNatClampNeg]? = some (.int (57 : Int32)) := Hu164.at hinu164 rfl
    obtain ⟨_, _, ⟨T165, L165, k165, n165⟩, -, X165, ⟨Lc165, hQ165, l165, y165, z165⟩, st165⟩ := Jvm.LawKit.callS X162 hx (y := (⟨"com/example/liana/liana/rdf/TurtleGrammarIsNameCharacterPinLaw", "within", "(III)Z"⟩ : MethodName)) hown (mvT hZ (hw _ (List.mem_of_getElem? (i := 1) rfl))) (mvT hZ (hw _ (List.mem_of_getElem? (i := 2) rfl))) (mvT hZ (hw _ (List.mem_of_getElem? (i := 3) rfl))) (mvT hZ (hw _ (List.mem_of_getElem? (i := 4) rfl))) (by decide) (backOf (W := 0) (rm1U l Z a0 hw [] p1 (48 : Int32) (57 : Int32) h25 n0 SZ25 ) hZ (hw _ (List.mem_of_getElem? (i := 4) rfl)) (hw _ (List.mem_of_getElem? (i := 3) rfl)) (by decide) (by decide)) (g := (mkF m 146 #[.val (.int p1), .val (.int p2), .val (.int p3), .val (.ref b4), .val (.ref b15), .val (.int mm), .val (.int p1), .unset, .unset, .unset] [(.int (57 : Int32)), (.int (48 : Int32)), (.int p1)])) rfl (by rw [hml]; rfl) (argsL := [(.int p1), (.int (48 : Int32)), (.int (57 : Int32))]) (rest := []) (lenOf pd_0 rfl) rfl (by show 2 * 0 + _ ≤ _; exact Nat.le_of_eq rfl) (hb hby at_146) (fun _ _ => ⟨rfl, e162, (by decide : 2 + 0 ≤ _), (by decide : 10 + 0 ≤ _)⟩)
    dsimp only [Pt.U, Pt.locs, Pt.cells, Pt.slots] at X165 l165 y165 z165 st165 hQ165
    subst l165 y165 z165
    obtain ⟨rfl, N165q, e165⟩ := hQ165
    have N165 := Fr.app N162 N165q
    obtain ⟨clu166, Aru166, qu166, Su166, Mu166, Hu166, Gu166⟩ := id V_b4_25
    have hinu166 : ¬ ((2 : Int32) < 0 ∨ clu166.slots.size ≤ ((2 : Int32)).toNatClampNeg) := inb_of Su166 ⟨by decide, by decide⟩
    have hatu166 : clu166.slots[((2 : Int32)).toNatClampNeg]? = some (.int (183 : Int32)) := Hu166.at hinu166 rfl
    obtain ⟨clu167, Aru167, qu167, Su167, Mu167, Hu167, Gu167⟩ := id V_b15_25
    have hinu167 : ¬ ((2 : Int32) < 0 ∨ clu167.slots.size ≤ ((2 : Int32)).toNatClampNeg) := inb_of Su167 ⟨by decide, by decide⟩
    have hatu167 : clu167.slots[((2 : Int32)).toNatClampNeg]? = some (.int (183 : Int32)) := Hu167.at hinu167 rfl
    obtain ⟨_, _, ⟨T168, L168, k168, n168⟩, -, X168, ⟨Lc168, hQ168, l168, y168, z168⟩, st168⟩ := Jvm.LawKit.callS X165 hx (y := (⟨"com/example/liana/liana/rdf/TurtleGrammarIsNameCharacterPinLaw", "within", "(III)Z"⟩ : MethodName)) hown (mvT hZ (hw _ (List.mem_of_getElem? (i := 1) rfl))) (mvT hZ (hw _ (List.mem_of_getElem? (i := 2) rfl))) (mvT hZ (hw _ (List.mem_of_getElem? (i := 3) rfl))) (mvT hZ (hw _ (List.mem_of_getElem? (i := 4) rfl))) (by decide) (backOf (W := 0) (rm1U l Z a0 hw [] p1 (183 : Int32) (183 : Int32) h25 n0 SZ25 ) hZ (hw _ (List.mem_of_getElem? (i := 4) rfl)) (hw _ (List.mem_of_getElem? (i := 3) rfl)) (by decide) (by decide)) (g := (mkF m 161 #[.val (.int p1), .val (.int p2), .val (.int p3), .val (.ref b4), .val (.ref b15), .val (.int mm), .val (.int p1), .unset, .unset, .unset] [(.int (183 : Int32)), (.int (183 : Int32)), (.int p1)])) rfl (by rw [hml]; rfl) (argsL := [(.int p1), (.int (183 : Int32)), (.int (183 : Int32))]) (rest := []) (lenOf pd_0 rfl) rfl (by show 2 * 0 + _ ≤ _; exact Nat.le_of_eq rfl) (hb hby at_161) (fun _ _ => ⟨rfl, e165, (by decide : 2 + 0 ≤ _), (by decide : 10 + 0 ≤ _)⟩)
    dsimp only [Pt.U, Pt.locs, Pt.cells, Pt.slots] at X168 l168 y168 z168 st168 hQ168
    subst l168 y168 z168
    obtain ⟨rfl, N168q, e168⟩ := hQ168
    have N168 := Fr.app N165 N168q
    obtain ⟨clu169, Aru169, qu169, Su169, Mu169, Hu169, Gu169⟩ := id V_b4_25
    have hinu169 : ¬ ((3 : Int32) < 0 ∨ clu169.slots.size ≤ ((3 : Int32)).toNatClampNeg) := inb_of Su169 ⟨by decide, by decide⟩
    have hatu169 : clu169.slots[((3 : Int32)).toNatClampNeg]? = some (.int (768 : Int32)) := Hu169.at hinu169 rfl
    obtain ⟨clu170, Aru170, qu170, Su170, Mu170, Hu170, Gu170⟩ := id V_b15_25
    have hinu170 : ¬ ((3 : Int32) < 0 ∨ clu170.slots.size ≤ ((3 : Int32)).toNatClampNeg) := inb_of Su170 ⟨by decide, by decide⟩
    have hatu170 : clu170.slots[((3 : Int32)).toNatClampNeg]? = some (.int (879 : Int32)) := Hu170.at hinu170 rfl
    obtain ⟨_, _, ⟨T171, L171, k171, n171⟩, -, X171, ⟨Lc171, hQ171, l171, y171, z171⟩, st171⟩ := Jvm.LawKit.callS X168 hx (y := (⟨"com/example/liana/liana/rdf/TurtleGrammarIsNameCharacterPinLaw", "within", "(III)Z"⟩ : MethodName)) hown (mvT hZ (hw _ (List.mem_of_getElem? (i := 1) rfl))) (mvT hZ (hw _ (List.mem_of_getElem? (i := 2) rfl))) (mvT hZ (hw _ (List.mem_of_getElem? (i := 3) rfl))) (mvT hZ (hw _ (List.mem_of_getElem? (i := 4) rfl))) (by decide) (backOf (W := 0) (rm1U l Z a0 hw [] p1 (768 : Int32) (879 : Int32) h25 n0 SZ25 ) hZ (hw _ (List.mem_of_getElem? (i := 4) rfl)) (hw _ (List.mem_of_getElem? (i := 3) rfl)) (by decide) (by decide)) (g := (mkF m 176 #[.val (.int p1), .val (.int p2), .val (.int p3), .val (.ref b4), .val (.ref b15), .val (.int mm), .val (.int p1), .unset, .unset, .unset] [(.int (879 : Int32)), (.int (768 : Int32)), (.int p1)])) rfl (by rw [hml]; rfl) (argsL := [(.int p1), (.int (768 : Int32)), (.int (879 : Int32))]) (rest := []) (lenOf pd_0 rfl) rfl (by show 2 * 0 + _ ≤ _; exact Nat.le_of_eq rfl) (hb hby at_176) (fun _ _ => ⟨rfl, e168, (by decide : 2 + 0 ≤ _), (by decide : 10 + 0 ≤ _)⟩)
    dsimp only [Pt.U, Pt.locs, Pt.cells, Pt.slots] at X171 l171 y171 z171 st171 hQ171
    subst l171 y171 z171
    obtain ⟨rfl, N171q, e171⟩ := hQ171
    have N171 := Fr.app N168 N171q
    obtain ⟨clu172, Aru172, qu172, Su172, Mu172, Hu172, Gu172⟩ := id V_b4_25
    have hinu172 : ¬ ((4 : Int32) < 0 ∨ clu172.slots.size ≤ ((4 : Int32)).toNatClampNeg) := inb_of Su172 ⟨by decide, by decide⟩
    have hatu172 : clu172.slots[((4 : Int32)).toNatClampNeg]? = some (.int (8255 : Int32)) := Hu172.at hinu172 rfl
    obtain ⟨clu173, Aru173, qu173, Su173, Mu173, Hu173, Gu173⟩ := id V_b15_25
    have hinu173 : ¬ ((4 : Int32) < 0 ∨ clu173.slots.size ≤ ((4 : Int32)).toNatClampNeg) := inb_of Su173 ⟨by decide, by decide⟩
    have hatu173 : clu173.slots[((4 : Int32)).toNatClampNeg]? = some (.int (8256 : Int32)) := Hu173.at hinu173 rfl
    obtain ⟨_, _, ⟨T174, L174, k174, n174⟩, -, X174, ⟨Lc174, hQ174, l174, y174, z174⟩, st174⟩ := Jvm.LawKit.callS X171 hx (y := (⟨"com/example/liana/liana/rdf/TurtleGrammarIsNameCharacterPinLaw", "within", "(III)Z"⟩ : MethodName)) hown (mvT hZ (hw _ (List.mem_of_getElem? (i := 1) rfl))) (mvT hZ (hw _ (List.mem_of_getElem? (i := 2) rfl))) (mvT hZ (hw _ (List.mem_of_getElem? (i := 3) rfl))) (mvT hZ (hw _ (List.mem_of_getElem? (i := 4) rfl))) (by decide) (backOf (W := 0) (rm1U l Z a0 hw [] p1 (8255 : Int32) (8256 : Int32) h25 n0 SZ25 ) hZ (hw _ (List.mem_of_getElem? (i := 4) rfl)) (hw _ (List.mem_of_getElem? (i := 3) rfl)) (by decide) (by decide)) (g := (mkF m 191 #[.val (.int p1), .val (.int p2), .val (.int p3), .val (.ref b4), .val (.ref b15), .val (.int mm), .val (.int p1), .unset, .unset, .unset] [(.int (8256 : Int32)), (.int (8255 : Int32)), (.int p1)])) rfl (by rw [hml]; rfl) (argsL := [(.int p1), (.int (8255 : Int32)), (.int (8256 : Int32))]) (rest := []) (lenOf pd_0 rfl) rfl (by show 2 * 0 + _ ≤ _; exact Nat.le_of_eq rfl) (hb hby at_191) (fun _ _ => ⟨rfl, e171, (by decide : 2 + 0 ≤ _), (by decide : 10 + 0 ≤ _)⟩)
    dsimp only [Pt.U, Pt.locs, Pt.cells, Pt.slots] at X174 l174 y174 z174 st174 hQ174
    subst l174 y174 z174
    obtain ⟨rfl, N174q, e174⟩ := hQ174
    have N174 := Fr.app N171 N174q
    obtain ⟨_, _, ⟨T175, L175, k175, n175⟩, -, X175, ⟨Lc175, hQ175, l175, y175, z175⟩, st175⟩ := Jvm.LawKit.callS X174 hx (y := (⟨"com/example/liana/liana/rdf/TurtleGrammar", "isNameCharacter", "(I)Z"⟩ : MethodName)) hown (mvT hZ (hw _ (List.mem_of_getElem? (i := 5) rfl))) (mvT hZ (hw _ (List.mem_of_getElem? (i := 6) rfl))) (mvT hZ (hw _ (List.mem_of_getElem? (i := 7) rfl))) (mvT hZ (hw _ (List.mem_of_getElem? (i := 8) rfl))) (by decide) (backOf (W := 0) (rm2 l Z a0 hw [] p1 h25 n0 SZ25 ) hZ (hw _ (List.mem_of_getElem? (i := 8) rfl)) (hw _ (List.mem_of_getElem? (i := 7) rfl)) (by decide) (by decide)) (g := (mkF m 206 #[.val (.int p1), .val (.int p2), .val (.int p3), .val (.ref b4), .val (.ref b15), .val (.int mm), .val (.int p1), .val (.int (0 : Int32)), .unset, .unset] [(.int p1)])) rfl (by rw [hml]; rfl) (argsL := [(.int p1)]) (rest := []) (lenOf pd_1 rfl) rfl (by show 2 * 0 + _ ≤ _; exact Nat.le_of_eq rfl) (hb hby at_206) (fun _ _ => ⟨rfl, e174, (by decide : 2 + 0 ≤ _), (by decide : 10 + 0 ≤ _)⟩)
    dsimp only [Pt.U, Pt.locs, Pt.cells, Pt.slots] at X175 l175 y175 z175 st175 hQ175
    subst l175 y175 z175
    obtain ⟨rfl, N175q, e175⟩ := hQ175
    have N175 := Fr.app N174 N175q
    obtain ⟨_, _, ⟨T176, L176, k176, n176⟩, -, X176, ⟨Lc176, hQ176, l176, y176, z176⟩, st176⟩ := Jvm.LawKit.callS X175 hx (y := (⟨"com/example/liana/liana/rdf/TurtleGrammar", "isNameStart", "(I)Z"⟩ : MethodName)) hown (mvT hZ (hw _ (List.mem_of_getElem? (i := 9) rfl))) (mvT hZ (hw _ (List.mem_of_getElem? (i := 10) rfl))) (mvT hZ (hw _ (List.mem_of_getElem? (i := 7) rfl))) (mvT hZ (hw _ (List.mem_of_getElem? (i := 11) rfl))) (by decide) (backOf (W := 0) (rm3 l Z a0 hw [] p1 h25 n0 SZ25 ) hZ (hw _ (List.mem_of_getElem? (i := 11) rfl)) (hw _ (List.mem_of_getElem? (i := 7) rfl)) (by decide) (by decide)) (g := (mkF m 213 #[.val (.int p1), .val (.int p2), .val (.int p3), .val (.ref b4), .val (.ref b15), .val (.int mm), .val (.int p1), .val (.int (0 : Int32)), .val (.int (own_ch1 p1)), .unset] [(.int p1)])) rfl (by rw [hml]; rfl) (argsL := [(.int p1)]) (rest := []) (lenOf pd_1 rfl) rfl (by show 2 * 0 + _ ≤ _; exact Nat.le_of_eq rfl) (hb hby at_213) (fun _ _ => ⟨rfl, e175, (by decide : 2 + 0 ≤ _), (by decide : 10 + 0 ≤ _)⟩)
    dsimp only [Pt.U, Pt.locs, Pt.cells, Pt.slots] at X176 l176 y176 z176 st176 hQ176
    subst l176 y176 z176
    obtain ⟨rfl, N176q, e176⟩ := hQ176
    have N176 := Fr.app N175 N176q
    obtain ⟨fs, hr, hrun, hended, hW, hsame⟩ := X176.leave (v := some (.int (1 : Int32))) (fun h => by rw [Bd.returns] at h; cases h)
    refine ⟨_, _, pre_104 _ ?_, hrun, hended, _, _, rfl, ?_, ⟨_, rfl⟩, hW, hsame.mono (by decide) (by decide)⟩
    · show Steps p.tables e below (T25.setTop (mkF m 122 #[.val (.int p1), .val (.int p2), .val (.int p3), .val (.ref b4), .val (.ref b15), .val (.int mm), .val (.int p1), .unset, .unset, .unset] [])) _
      refine XS.iload X25.here hx rfl (hb hby at_122) rfl ?_
      show Steps p.tables e below (T25.setTop (mkF m 124 #[.val (.int p1), .val (.int p2), .val (.int p3), .val (.ref b4), .val (.ref b15), .val (.int mm), .val (.int p1), .unset, .unset, .unset] [(.int p1)])) _
      refine XS.aloadN X25.here hx rfl (hb hby at_124) rfl rfl ?_
      show Steps p.tables e below (T25.setTop (mkF m 125 #[.val (.int p1), .val (.int p2), .val (.int p3), .val (.ref b4), .val (.ref b15), .val (.int mm), .val (.int p1), .unset, .unset, .unset] [(.ref b4), (.int p1)])) _
      refine XS.iconst X25.here hx rfl (hb hby at_125) ?_
      show Steps p.tables e below (T25.setTop (mkF m 126 #[.val (.int p1), .val (.int p2), .val (.int p3), .val (.ref b4), .val (.ref b15), .val (.int mm), .val (.int p1), .unset, .unset, .unset] [(.int (0 : Int32)), (.ref b4), (.int p1)])) _
      refine X25.iaload hx (j := (0 : Int32)) (v := (.int (45 : Int32))) (by rw [e25]; exact Aru160.1) (State.isArrayOf_alike hZ.alike Aru160.2.1) Aru160.2.2 hinu160 hatu160 (g := (mkF m 126 #[.val (.int p1), .val (.int p2), .val (.int p3), .val (.ref b4), .val (.ref b15), .val (.int mm), .val (.int p1), .unset, .unset, .unset] [(.int (0 : Int32)), (.ref b4), (.int p1)])) rfl rfl (hb hby at_126) _ ?_
      show Steps p.tables e below (T25.setTop (mkF m 127 #[.val (.int p1), .val (.int p2), .val (.int p3), .val (.ref b4), .val (.ref b15), .val (.int mm), .val (.int p1), .unset, .unset, .unset] [(.int (45 : Int32)), (.int p1)])) _
      refine XS.aload X25.here hx rfl (hb hby at_127) rfl rfl ?_
      show Steps p.tables e below (T25.setTop (mkF m 129 #[.val (.int p1), .val (.int p2), .val (.int p3), .val (.ref b4), .val (.ref b15), .val (.int mm), .val (.int p1), .unset, .unset, .unset] [(.ref b15), (.int (45 : Int32)), (.int p1)])) _
      refine XS.iconst X25.here hx rfl (hb hby at_129) ?_
      show Steps p.tables e below (T25.setTop (mkF m 130 #[.val (.int p1), .val (.int p2), .val (.int p3), .val (.ref b4), .val (.ref b15), .val (.int mm), .val (.int p1), .unset, .unset, .unset] [(.int (0 : Int32)), (.ref b15), (.int (45 : Int32)), (.int p1)])) _
      refine X25.iaload hx (j := (0 : Int32)) (v := (.int (45 : Int32))) (by rw [e25]; exact Aru161.1) (State.isArrayOf_alike hZ.alike Aru161.2.1) Aru161.2.2 hinu161 hatu161 (g := (mkF m 130 #[.val (.int p1), .val (.int p2), .val (.int p3), .val (.ref b4), .val (.ref b15), .val (.int mm), .val (.int p1), .unset, .unset, .unset] [(.int (0 : Int32)), (.ref b15), (.int (45 : Int32)), (.int p1)])) rfl rfl (hb hby at_130) _ ?_
      show Steps p.tables e below (T25.setTop (mkF m 131 #[.val (.int p1), .val (.int p2), .val (.int p3), .val (.ref b4), .val (.ref b15), .val (.int mm), .val (.int p1), .unset, .unset, .unset] [(.int (45 : Int32)), (.int (45 : Int32)), (.int p1)])) _
      refine st162 _ ?_
      show Steps p.tables e below (T162.setTop (mkF m 134 #[.val (.int p1), .val (.int p2), .val (.int p3), .val (.ref b4), .val (.ref b15), .val (.int mm), .val (.int p1), .unset, .unset, .unset] [(.int (own_in p1 (45 : Int32) (45 : Int32)))])) _
      refine XS.ifNo X162.here hx rfl (hb hby at_134) rfl ((if0 _ _).trans (teq (k0 : (own_in p1 (45 : Int32) (45 : Int32)) = (0 : Int32))).2) ?_
      show Steps p.tables e below (T162.setTop (mkF m 137 #[.val (.int p1), .val (.int p2), .val (.int p3), .val (.ref b4), .val (.ref b15), .val (.int mm), .val (.int p1), .unset, .unset, .unset] [])) _
      refine XS.iload X162.here hx rfl (hb hby at_137) rfl ?_
      show Steps p.tables e below (T162.setTop (mkF m 139 #[.val (.int p1), .val (.int p2), .val (.int p3), .val (.ref b4), .val (.ref b15), .val (.int mm), .val (.int p1), .unset, .unset, .unset] [(.int p1)])) _
      refine XS.aloadN X162.here hx rfl (hb hby at_139) rfl rfl ?_
      show Steps p.tables e below (T162.setTop (mkF m 140 #[.val (.int p1), .val (.int p2), .val (.int p3), .val (.ref b4), .val (.ref b15), .val (.int mm), .val (.int p1), .unset, .unset, .unset] [(.ref b4), (.int p1)])) _
      refine XS.iconst X162.here hx rfl (hb hby at_140) ?_
      show Steps p.tables e below (T162.setTop (mkF m 141 #[.val (.int p1), .val (.int p2), .val (.int p3), .val (.ref b4), .val (.ref b15), .val (.int mm), .val (.int p1), .unset, .unset, .unset] [(.int (1 : Int32)), (.ref b4), (.int p1)])) _
      refine X162.iaload hx (j := (1 : Int32)) (v := (.int (48 : Int32))) (by rw [e162]; exact Aru163.1) (State.isArrayOf_alike hZ.alike Aru163.2.1) Aru163.2.2 hinu163 hatu163 (g := (mkF m 141 #[.val (.int p1), .val (.int p2), .val (.int p3), .val (.ref b4), .val (.ref b15), .val (.int mm), .val (.int p1), .unset, .unset, .unset] [(.int (1 : Int32)), (.ref b4), (.int p1)])) rfl rfl (hb hby at_141) _ ?_
      show Steps p.tables e below (T162.setTop (mkF m 142 #[.val (.int p1), .val (.int p2), .val (.int p3), .val (.ref b4), .val (.ref b15), .val (.int mm), .val (.int p1), .unset, .unset, .unset] [(.int (48 : Int32)), (.int p1)])) _
      refine XS.aload X162.here hx rfl (hb hby at_142) rfl rfl ?_
      show Steps p.tables e below (T162.setTop (mkF m 144 #[.val (.int p1), .val (.int p2), .val (.int p3), .val (.ref b4), .val (.ref b15), .val (.int mm), .val (.int p1), .unset, .unset, .unset] [(.ref b15), (.int (48 : Int32)), (.int p1)])) _
      refine XS.iconst X162.here hx rfl (hb hby at_144) ?_
      show Steps p.tables e below (T162.setTop (mkF m 145 #[.val (.int p1), .val (.int p2), .val (.int p3), .val (.ref b4), .val (.ref b15), .val (.int mm), .val (.int p1), .unset, .unset, .unset] [(.int (1 : Int32)), (.ref b15), (.int (48 : Int32)), (.int p1)])) _
      refine X162.iaload hx (j := (1 : Int32)) (v := (.int (57 : Int32))) (by rw [e162]; exact Aru164.1) (State.isArrayOf_alike hZ.alike Aru164.2.1) Aru164.2.2 hinu164 hatu164 (g := (mkF m 145 #[.val (.int p1), .val (.int p2), .val (.int p3), .val (.ref b4), .val (.ref b15), .val (.int mm), .val (.int p1), .unset, .unset, .unset] [(.int (1 : Int32)), (.ref b15), (.int (48 : Int32)), (.int p1)])) rfl rfl (hb hby at_145) _ ?_
      show Steps p.tables e below (T162.setTop (mkF m 146 #[.val (.int p1), .val (.int p2), .val (.int p3), .val (.ref b4), .val (.ref b15), .val (.int mm), .val (.int p1), .unset, .unset, .unset] [(.int (57 : Int32)), (.int (48 : Int32)), (.int p1)])) _
      refine st165 _ ?_
      show Steps p.tables e below (T165.setTop (mkF m 149 #[.val (.int p1), .val (.int p2), .val (.int p3), .val (.ref b4), .val (.ref b15), .val (.int mm), .val (.int p1), .unset, .unset, .unset] [(.int (own_in p1 (48 : Int32) (57 : Int32)))])) _
      refine XS.ifNo X165.here hx rfl (hb hby at_149) rfl ((if0 _ _).trans (teq (k1 : (own_in p1 (48 : Int32) (57 : Int32)) = (0 : Int32))).2) ?_
      show Steps p.tables e below (T165.setTop (mkF m 152 #[.val (.int p1), .val (.int p2), .val (.int p3), .val (.ref b4), .val (.ref b15), .val (.int mm), .val (.int p1), .unset, .unset, .unset] [])) _
      refine XS.iload X165.here hx rfl (hb hby at_152) rfl ?_
      show Steps p.tables e below (T165.setTop (mkF m 154 #[.val (.int p1), .val (.int p2), .val (.int p3), .val (.ref b4), .val (.ref b15), .val (.int mm), .val (.int p1), .unset, .unset, .unset] [(.int p1)])) _
      refine XS.aloadN X165.here hx rfl (hb hby at_154) rfl rfl ?_
      show Steps p.tables e below (T165.setTop (mkF m 155 #[.val (.int p1), .val (.int p2), .val (.int p3), .val (.ref b4), .val (.ref b15), .val (.int mm), .val (.int p1), .unset, .unset, .unset] [(.ref b4), (.int p1)])) _
      refine XS.iconst X165.here hx rfl (hb hby at_155) ?_
      show Steps p.tables e below (T165.setTop (mkF m 156 #[.val (.int p1), .val (.int p2), .val (.int p3), .val (.ref b4), .val (.ref b15), .val (.int mm), .val (.int p1), .unset, .unset, .unset] [(.int (2 : Int32)), (.ref b4), (.int p1)])) _
      refine X165.iaload hx (j := (2 : Int32)) (v := (.int (183 : Int32))) (by rw [e165]; exact Aru166.1) (State.isArrayOf_alike hZ.alike Aru166.2.1) Aru166.2.2 hinu166 hatu166 (g := (mkF m 156 #[.val (.int p1), .val (.int p2), .val (.int p3), .val (.ref b4), .val (.ref b15), .val (.int mm), .val (.int p1), .unset, .unset, .unset] [(.int (2 : Int32)), (.ref b4), (.int p1)])) rfl rfl (hb hby at_156) _ ?_
      show Steps p.tables e below (T165.setTop (mkF m 157 #[.val (.int p1), .val (.int p2), .val (.int p3), .val (.ref b4), .val (.ref b15), .val (.int mm), .val (.int p1), .unset, .unset, .unset] [(.int (183 : Int32)), (.int p1)])) _
      refine XS.aload X165.here hx rfl (hb hby at_157) rfl rfl ?_
      show Steps p.tables e below (T165.setTop (mkF m 159 #[.val (.int p1), .val (.int p2), .val (.int p3), .val (.ref b4), .val (.ref b15), .val (.int mm), .val (.int p1), .unset, .unset, .unset] [(.ref b15), (.int (183 : Int32)), (.int p1)])) _
      refine XS.iconst X165.here hx rfl (hb hby at_159) ?_
      show Steps p.tables e below (T165.setTop (mkF m 160 #[.val (.int p1), .val (.int p2), .val (.int p3), .val (.ref b4), .val (.ref b15), .val (.int mm), .val (.int p1), .unset, .unset, .unset] [(.int (2 : Int32)), (.ref b15), (.int (183 : Int32)), (.int p1)])) _
      refine X165.iaload hx (j := (2 : Int32)) (v := (.int (183 : Int32))) (by rw [e165]; exact Aru167.1) (State.isArrayOf_alike hZ.alike Aru167.2.1) Aru167.2.2 hinu167 hatu167 (g := (mkF m 160 #[.val (.int p1), .val (.int p2), .val (.int p3), .val (.ref b4), .val (.ref b15), .val (.int mm), .val (.int p1), .unset, .unset, .unset] [(.int (2 : Int32)), (.ref b15), (.int (183 : Int32)), (.int p1)])) rfl rfl (hb hby at_160) _ ?_
      show Steps p.tables e below (T165.setTop (mkF m 161 #[.val (.int p1), .val (.int p2), .val (.int p3), .val (.ref b4), .val (.ref b15), .val (.int mm), .val (.int p1), .unset, .unset, .unset] [(.int (183 : Int32)), (.int (183 : Int32)), (.int p1)])) _
      refine st168 _ ?_
      show Steps p.tables e below (T168.setTop (mkF m 164 #[.val (.int p1), .val (.int p2), .val (.int p3), .val (.ref b4), .val (.ref b15), .val (.int mm), .val (.int p1), .unset, .unset, .unset] [(.int (own_in p1 (183 : Int32) (183 : Int32)))])) _
      refine XS.ifNo X168.here hx rfl (hb hby at_164) rfl ((if0 _ _).trans (teq (k2 : (own_in p1 (183 : Int32) (183 : Int32)) = (0 : Int32))).2) ?_
      show Steps p.tables e below (T168.setTop (mkF m 167 #[.val (.int p1), .val (.int p2), .val (.int p3), .val (.ref b4), .val (.ref b15), .val (.int mm), .val (.int p1), .unset, .unset, .unset] [])) _
      refine XS.iload X168.here hx rfl (hb hby at_167) rfl ?_
      show Steps p.tables e below (T168.setTop (mkF m 169 #[.val (.int p1), .val (.int p2), .val (.int p3), .val (.ref b4), .val (.ref b15), .val (.int mm), .val (.int p1), .unset, .unset, .unset] [(.int p1)])) _
      refine XS.aloadN X168.here hx rfl (hb hby at_169) rfl rfl ?_
      show Steps p.tables e below (T168.setTop (mkF m 170 #[.val (.int p1), .val (.int p2), .val (.int p3), .val (.ref b4), .val (.ref b15), .val (.int mm), .val (.int p1), .unset, .unset, .unset] [(.ref b4), (.int p1)])) _
      refine XS.iconst X168.here hx rfl (hb hby at_170) ?_
      show Steps p.tables e below (T168.setTop (mkF m 171 #[.val (.int p1), .val (.int p2), .val (.int p3), .val (.ref b4), .val (.ref b15), .val (.int mm), .val (.int p1), .unset, .unset, .unset] [(.int (3 : Int32)), (.ref b4), (.int p1)])) _
      refine X168.iaload hx (j := (3 : Int32)) (v := (.int (768 : Int32))) (by rw [e168]; exact Aru169.1) (State.isArrayOf_alike hZ.alike Aru169.2.1) Aru169.2.2 hinu169 hatu169 (g := (mkF m 171 #[.val (.int p1), .val (.int p2), .val (.int p3), .val (.ref b4), .val (.ref b15), .val (.int mm), .val (.int p1), .unset, .unset, .unset] [(.int (3 : Int32)), (.ref b4), (.int p1)])) rfl rfl (hb hby at_171) _ ?_
      show Steps p.tables e below (T168.setTop (mkF m 172 #[.val (.int p1), .val (.int p2), .val (.int p3), .val (.ref b4), .val (.ref b15), .val (.int mm), .val (.int p1), .unset, .unset, .unset] [(.int (768 : Int32)), (.int p1)])) _
      refine XS.aload X168.here hx rfl (hb hby at_172) rfl rfl ?_
      show Steps p.tables e below (T168.setTop (mkF m 174 #[.val (.int p1), .val (.int p2), .val (.int p3), .val (.ref b4), .val (.ref b15), .val (.int mm), .val (.int p1), .unset, .unset, .unset] [(.ref b15), (.int (768 : Int32)), (.int p1)])) _
      refine XS.iconst X168.here hx rfl (hb hby at_174) ?_
      show Steps p.tables e below (T168.setTop (mkF m 175 #[.val (.int p1), .val (.int p2), .val (.int p3), .val (.ref b4), .val (.ref b15), .val (.int mm), .val (.int p1), .unset, .unset, .unset] [(.int (3 : Int32)), (.ref b15), (.int (768 : Int32)), (.int p1)])) _
      refine X168.iaload hx (j := (3 : Int32)) (v := (.int (879 : Int32))) (by rw [e168]; exact Aru170.1) (State.isArrayOf_alike hZ.alike Aru170.2.1) Aru170.2.2 hinu170 hatu170 (g := (mkF m 175 #[.val (.int p1), .val (.int p2), .val (.int p3), .val (.ref b4), .val (.ref b15), .val (.int mm), .val (.int p1), .unset, .unset, .unset] [(.int (3 : Int32)), (.ref b15), (.int (768 : Int32)), (.int p1)])) rfl rfl (hb hby at_175) _ ?_
      show Steps p.tables e below (T168.setTop (mkF m 176 #[.val (.int p1), .val (.int p2), .val (.int p3), .val (.ref b4), .val (.ref b15), .val (.int mm), .val (.int p1), .unset, .unset, .unset] [(.int (879 : Int32)), (.int (768 : Int32)), (.int p1)])) _
      refine st171 _ ?_
      show Steps p.tables e below (T171.setTop (mkF m 179 #[.val (.int p1), .val (.int p2), .val (.int p3), .val (.ref b4), .val (.ref b15), .val (.int mm), .val (.int p1), .unset, .unset, .unset] [(.int (own_in p1 (768 : Int32) (879 : Int32)))])) _
      refine XS.ifNo X171.here hx rfl (hb hby at_179) rfl ((if0 _ _).trans (teq (k3 : (own_in p1 (768 : Int32) (879 : Int32)) = (0 : Int32))).2) ?_
      show Steps p.tables e below (T171.setTop (mkF m 182 #[.val (.int p1), .val (.int p2), .val (.int p3), .val (.ref b4), .val (.ref b15), .val (.int mm), .val (.int p1), .unset, .unset, .unset] [])) _
      refine XS.iload X171.here hx rfl (hb hby at_182) rfl ?_
      show Steps p.tables e below (T171.setTop (mkF m 184 #[.val (.int p1), .val (.int p2), .val (.int p3), .val (.ref b4), .val (.ref b15), .val (.int mm), .val (.int p1), .unset, .unset, .unset] [(.int p1)])) _
      refine XS.aloadN X171.here hx rfl (hb hby at_184) rfl rfl ?_
      show Steps p.tables e below (T171.setTop (mkF m 185 #[.val (.int p1), .val (.int p2), .val (.int p3), .val (.ref b4), .val (.ref b15), .val (.int mm), .val (.int p1), .unset, .unset, .unset] [(.ref b4), (.int p1)])) _
      refine XS.iconst X171.here hx rfl (hb hby at_185) ?_
      show Steps p.tables e below (T171.setTop (mkF m 186 #[.val (.int p1), .val (.int p2), .val (.int p3), .val (.ref b4), .val (.ref b15), .val (.int mm), .val (.int p1), .unset, .unset, .unset] [(.int (4 : Int32)), (.ref b4), (.int p1)])) _
      refine X171.iaload hx (j := (4 : Int32)) (v := (.int (8255 : Int32))) (by rw [e171]; exact Aru172.1) (State.isArrayOf_alike hZ.alike Aru172.2.1) Aru172.2.2 hinu172 hatu172 (g := (mkF m 186 #[.val (.int p1), .val (.int p2), .val (.int p3), .val (.ref b4), .val (.ref b15), .val (.int mm), .val (.int p1), .unset, .unset, .unset] [(.int (4 : Int32)), (.ref b4), (.int p1)])) rfl rfl (hb hby at_186) _ ?_
      show Steps p.tables e below (T171.setTop (mkF m 187 #[.val (.int p1), .val (.int p2), .val (.int p3), .val (.ref b4), .val (.ref b15), .val (.int mm), .val (.int p1), .unset, .unset, .unset] [(.int (8255 : Int32)), (.int p1)])) _
      refine XS.aload X171.here hx rfl (hb hby at_187) rfl rfl ?_
      show Steps p.tables e below (T171.setTop (mkF m 189 #[.val (.int p1), .val (.int p2), .val (.int p3), .val (.ref b4), .val (.ref b15), .val (.int mm), .val (.int p1), .unset, .unset, .unset] [(.ref b15), (.int (8255 : Int32)), (.int p1)])) _
      refine XS.iconst X171.here hx rfl (hb hby at_189) ?_
      show Steps p.tables e below (T171.setTop (mkF m 190 #[.val (.int p1), .val (.int p2), .val (.int p3), .val (.ref b4), .val (.ref b15), .val (.int mm), .val (.int p1), .unset, .unset, .unset] [(.int (4 : Int32)), (.ref b15), (.int (8255 : Int32)), (.int p1)])) _
      refine X171.iaload hx (j := (4 : Int32)) (v := (.int (8256 : Int32))) (by rw [e171]; exact Aru173.1) (State.isArrayOf_alike hZ.alike Aru173.2.1) Aru173.2.2 hinu173 hatu173 (g := (mkF m 190 #[.val (.int p1), .val (.int p2), .val (.int p3), .val (.ref b4), .val (.ref b15), .val (.int mm), .val (.int p1), .unset, .unset, .unset] [(.int (4 : Int32)), (.ref b15), (.int (8255 : Int32)), (.int p1)])) rfl rfl (hb hby at_190) _ ?_
      show Steps p.tables e below (T171.setTop (mkF m 191 #[.val (.int p1), .val (.int p2), .val (.int p3), .val (.ref b4), .val (.ref b15), .val (.int mm), .val (.int p1), .unset, .unset, .unset] [(.int (8256 : Int32)), (.int (8255 : Int32)), (.int p1)])) _
      refine st174 _ ?_
      show Steps p.tables e below (T174.setTop (mkF m 194 #[.val (.int p1), .val (.int p2), .val (.int p3), .val (.ref b4), .val (.ref b15), .val (.int mm), .val (.int p1), .unset, .unset, .unset] [(.int (own_in p1 (8255 : Int32) (8256 : Int32)))])) _
      refine XS.ifYes X174.here hx rfl (pc0 := 194) (pc' := 201) rfl (hb hby at_194) rfl ((if0 _ _).trans (teq (k4 : (own_in p1 (8255 : Int32) (8256 : Int32)) = (0 : Int32))).1) (by decide) (by decide) ?_
      show Steps p.tables e below (T174.setTop (mkF m 201 #[.val (.int p1), .val (.int p2), .val (.int p3), .val (.ref b4), .val (.ref b15), .val (.int mm), .val (.int p1), .unset, .unset, .unset] [])) _
      refine XS.iconst X174.here hx rfl (hb hby at_201) ?_
      show Steps p.tables e below (T174.setTop (mkF m 202 #[.val (.int p1), .val (.int p2), .val (.int p3), .val (.ref b4), .val (.ref b15), .val (.int mm), .val (.int p1), .unset, .unset, .unset] [(.int (0 : Int32))])) _
      refine XS.istore X174.here hx rfl (hb hby at_202) rfl (l' := #[.val (.int p1), .val (.int p2), .val (.int p3), .val (.ref b4), .val (.ref b15), .val (.int mm), .val (.int p1), .val (.int (0 : Int32)), .unset, .unset]) rfl ?_
      show Steps p.tables e below (T174.setTop (mkF m 204 #[.val (.int p1), .val (.int p2), .val (.int p3), .val (.ref b4), .val (.ref b15), .val (.int mm), .val (.int p1), .val (.int (0 : Int32)), .unset, .unset] [])) _
      refine XS.iload X174.here hx rfl (hb hby at_204) rfl ?_
      show Steps p.tables e below (T174.setTop (mkF m 206 #[.val (.int p1), .val (.int p2), .val (.int p3), .val (.ref b4), .val (.ref b15), .val (.int mm), .val (.int p1), .val (.int (0 : Int32)), .unset, .unset] [(.int p1)])) _
      refine st175 _ ?_
      show Steps p.tables e below (T175.setTop (mkF m 209 #[.val (.int p1), .val (.int p2), .val (.int p3), .val (.ref b4), .val (.ref b15), .val (.int mm), .val (.int p1), .val (.int (0 : Int32)), .unset, .unset] [(.int (own_ch1 p1))])) _
      refine XS.istore X175.here hx rfl (hb hby at_209) rfl (l' := #[.val (.int p1), .val (.int p2), .val (.int p3), .val (.ref b4), .val (.ref b15), .val (.int mm), .val (.int p1), .val (.int (0 : Int32)), .val (.int (own_ch1 p1)), .unset]) rfl ?_
      show Steps p.tables e below (T175.setTop (mkF m 211 #[.val (.int p1), .val (.int p2), .val (.int p3), .val (.ref b4), .val (.ref b15), .val (.int mm), .val (.int p1), .val (.int (0 : Int32)), .val (.int (own_ch1 p1)), .unset] [])) _
      refine XS.iload X175.here hx rfl (hb hby at_211) rfl ?_
      show Steps p.tables e below (T175.setTop (mkF m 213 #[.val (.int p1), .val (.int p2), .val (.int p3), .val (.ref b4), .val (.ref b15), .val (.int mm), .val (.int p1), .val (.int (0 : Int32)), .val (.int (own_ch1 p1)), .unset] [(.int p1)])) _
      refine st176 _ ?_
      show Steps p.tables e below (T176.setTop (mkF m 216 #[.val (.int p1), .val (.int p2), .val (.int p3), .val (.ref b4), .val (.ref b15), .val (.int mm), .val (.int p1), .val (.int (0 : Int32)), .val (.int (own_ch1 p1)), .unset] [(.int (own_st1 p1))])) _
      refine XS.istore X176.here hx rfl (hb hby at_216) rfl (l' := #[.val (.int p1), .val (.int p2), .val (.int p3), .val (.ref b4), .val (.ref b15), .val (.int mm), .val (.int p1), .val (.int (0 : Int32)), .val (.int (own_ch1 p1)), .val (.int (own_st1 p1))]) rfl ?_
      show Steps p.tables e below (T176.setTop (mkF m 218 #[.val (.int p1), .val (.int p2), .val (.int p3), .val (.ref b4), .val (.ref b15), .val (.int mm), .val (.int p1), .val (.int (0 : Int32)), .val (.int (own_ch1 p1)), .val (.int (own_st1 p1))] [])) _
      refine XS.iload X176.here hx rfl (hb hby at_218) rfl ?_
      show Steps p.tables e below (T176.setTop (mkF m 220 #[.val (.int p1), .val (.int p2), .val (.int p3), .val (.ref b4), .val (.ref b15), .val (.int mm), .val (.int p1), .val (.int (0 : Int32)), .val (.int (own_ch1 p1)), .val (.int (own_st1 p1))] [(.int (own_ch1 p1))])) _
      refine XS.iload X176.here hx rfl (hb hby at_220) rfl ?_
      show Steps p.tables e below (T176.setTop (mkF m 222 #[.val (.int p1), .val (.int p2), .val (.int p3), .val (.ref b4), .val (.ref b15), .val (.int mm), .val (.int p1), .val (.int (0 : Int32)), .val (.int (own_ch1 p1)), .val (.int (own_st1 p1))] [(.int (0 : Int32)), (.int (own_ch1 p1))])) _
      refine XS.icmpNo X176.here hx rfl (hb hby at_222) rfl (teq (c1 : (own_ch1 p1) = (0 : Int32))).2 ?_
      show Steps p.tables e below (T176.setTop (mkF m 225 #[.val (.int p1), .val (.int p2), .val (.int p3), .val (.ref b4), .val (.ref b15), .val (.int mm), .val (.int p1), .val (.int (0 : Int32)), .val (.int (own_ch1 p1)), .val (.int (own_st1 p1))] [])) _
      refine XS.iload X176.here hx rfl (hb hby at_225) rfl ?_
      show Steps p.tables e below (T176.setTop (mkF m 227 #[.val (.int p1), .val (.int p2), .val (.int p3), .val (.ref b4), .val (.ref b15), .val (.int mm), .val (.int p1), .val (.int (0 : Int32)), .val (.int (own_ch1 p1)), .val (.int (own_st1 p1))] [(.int (own_ch1 p1))])) _
      refine XS.ifYes X176.here hx rfl (pc0 := 227) (pc' := 235) rfl (hb hby at_227) rfl ((if0 _ _).trans (teq (c1 : (own_ch1 p1) = (0 : Int32))).1) (by decide) (by decide) ?_
      show Steps p.tables e below (T176.setTop (mkF m 235 #[.val (.int p1), .val (.int p2), .val (.int p3), .val (.ref b4), .val (.ref b15), .val (.int mm), .val (.int p1), .val (.int (0 : Int32)), .val (.int (own_ch1 p1)), .val (.int (own_st1 p1))] [])) _
      refine XS.iconst X176.here hx rfl (hb hby at_235) ?_
      show Steps p.tables e below (T176.setTop (mkF m 236 #[.val (.int p1), .val (.int p2), .val (.int p3), .val (.ref b4), .val (.ref b15), .val (.int mm), .val (.int p1), .val (.int (0 : Int32)), .val (.int (own_ch1 p1)), .val (.int (own_st1 p1))] [(.int (1 : Int32))])) _
      refine XS.goto X176.here hx rfl (pc0 := 236) (pc' := 240) rfl (hb hby at_236) (by decide) (by decide) ?_
      show Steps p.tables e below (T176.setTop (mkF m 240 #[.val (.int p1), .val (.int p2), .val (.int p3), .val (.ref b4), .val (.ref b15), .val (.int mm), .val (.int p1), .val (.int (0 : Int32)), .val (.int (own_ch1 p1)), .val (.int (own_st1 p1))] [(.int (1 : Int32))])) _
      exact retN X176 hx (t := .boolean) Bd.returns (by simp) (hb hby at_240) hr
    · show QF n0 _ T176.heap _
      rw [e176]
      exact ⟨rfl, N176⟩

set_option maxRecDepth 65536 in
set_option maxHeartbeats 40000000 in
theorem comes_1 {Post : Tables → Env → Array Value → State → Outcome → State → Prop} (hpost : ∀ tb e args s v u, (limb_1_1.after args s (.returned v) u = true ∧ limb_1_2.after args s (.returned v) u = true ∧ True) → FrameEnd s (.returned v) u (Jvm.fieldLocs frame_1_writes args s ++ Jvm.arrayLocs frame_1_arrays args s ++ Jvm.staticLocs frame_1_statics s) 16 128 → Post tb e args s (.returned v) u) :
    ArmFor flags0 classFile x code maxLocals ret World_1 tables_1 room_1 Calls_1 rest_1 Pre_1 Post := by
  intro l hfl _ _ p e ha hc hk s m args below hf hA hF happ hP
  obtain ⟨hcalls, hrest, hpre⟩ := hP
  obtain ⟨-, -, -, hnamed, -, -, -, hat⟩ := (Spec.applies_iff hf).mp happ
  obtain ⟨hg, hn⟩ := and_e (Cond.before_iff.mp (show (Jvm.Cond.and given_1 narrow_1).before args s = true from hpre))
  obtain ⟨hg0, hg⟩ := and_e hg
  obtain ⟨gA0, hg⟩ := and_e hg
  obtain ⟨gA1, hg⟩ := and_e hg
  have gA2 := hg
  obtain ⟨w0, w1, w2, rfl⟩ : ∃ w0 w1 w2 : Value, args = #[w0, w1, w2] := by
    have hs : args.size = 3 := by simpa [Cond.value, given_1] using hg0
    obtain ⟨L⟩ := args
    match L, hs with
    | [w0, w1, w2], _ => exact ⟨w0, w1, w2, rfl⟩
  have hw := fun d (hd : d ∈ tables_1) => atoms_spec (ws := Jvm.Cond.code x code maxLocals ret :: tables_1) hat d (List.mem_cons_of_mem _ hd)
  obtain ⟨i0, ei0⟩ := is_v gA0
  obtain rfl : w0 = (.int i0) := Option.some.inj ei0
  obtain ⟨i1, ei1⟩ := is_v gA1
  obtain rfl : w1 = (.int i1) := Option.some.inj ei1
  obtain ⟨i2, ei2⟩ := is_v gA2
  obtain rfl : w2 = (.int i2) := Option.some.inj ei2
  obtain ⟨n, o, h1, h2, h3, _, L, rfl, ⟨rfl, N⟩, hq⟩ := rm0 l s _ hw tables_1 i0 i1 i2 s.heap s.heap.size (Nat.le_refl _) p e ha hc hk s m _ below hf ((Spec.applies_iff_loose hf).mp happ).1 ⟨rfl, State.Warmed39.refl s, rfl⟩ trivial
  refine ⟨n, _, h1, h2, h3, hpost _ _ _ _ _ _ ⟨Cond.after_iff.mpr rfl, Cond.after_iff.mpr (eq_i res_at (Term.int_eval (1)) rfl), trivial⟩ ⟨hq.1, hq.2.1, (hq.2.2.sift fun y hy => Or.inr (N y hy)).mono (by decide) (by decide)⟩⟩
theorem main_1_1 : Claimed_1_1 := comes_1 fun _ _ _ _ _ _ h hF => ⟨h.1, hF⟩
theorem main_1_2 : Claimed_1_2 := comes_1 fun _ _ _ _ _ _ h hF => ⟨h.2.1, hF⟩
end Jvm.Pilot.@@N@@
namespace Jvm.Pilot.@@N@@
open Jvm Jvm.ClassFile Sem Op Lib Jvm.Free Jvm.Stand Jvm.Pilot.@@N@@.Jvm.D
/-! MADE BY PROGRAM (witnessworld.py) out of the Statement's table words and the real class files: 9 classes; the members and pool entries that the words name. The judged class is class 1, her method 2. -/
namespace start1
open Jvm.ClassFile
def u (s : String) : CpInfo := .utf8 (stringToUtf16 s)
/-- a pool by its gaps: so many unusable entries, then the entry; so many at the end -/
def gap : Nat → List CpInfo → List CpInfo
  | 0, r => r
  | n + 1, r => .unusable :: gap n r
def poolList (es : List (Nat × CpInfo)) (last : Nat) : List CpInfo := es.foldr (fun e r => gap e.1 (e.2 :: r)) (gap last [])
def pool (es : List (Nat × CpInfo)) (last : Nat) : Array CpInfo := ⟨poolList es last⟩
def fileOf (pool : Array CpInfo) (this : Nat) (attrs : Array Attribute := #[]) (ms : Array MethodInfo := #[]) (fl : Nat := 33) (sup : Nat := 0) (ifs : Array Nat := #[]) (fds : Array FieldInfo := #[]) : ClassFile where
  minorVersion := 0
  majorVersion := 65
  constantPool := pool
  accessFlags := fl
  thisClass := this
  superClass := sup
  interfaces := ifs
  fields := fds
  methods := ms
  attributes := attrs
def plain (name : String) (sup : Option ClassId) : Class where
  name := name
  kind := .ordinary
  loader := none
  accessFlags := 33
  super := sup
  interfaces := #[]
  cf := none
  fields := #[]
  methods := #[]
  instanceTypes := #[]
  staticTypes := #[]
  resolved := #[]
  callSites := []
  init := .initialized
  statics := none
  mirror := none

def pool0 : Array CpInfo := pool [(5, u "<init>"), (0, u "()V"), (1, .class_ 10), (1, u "java/lang/Object")] 113

def k0m0 : Method := { name := "<init>", desc := "()V", sig := { parameters := [], returnType := none }, accessFlags := 1, code := none }
/-- java/lang/Object -/
def k0 : Class := { plain "java/lang/Object" none with
  accessFlags := 33
  interfaces := #[]
  cf := some (fileOf pool0 8 #[] #[{ accessFlags := 1, nameIndex := 5, descriptorIndex := 6, attributes := #[] }] 33 0 #[] #[])
  fields := #[]
  methods := #[k0m0]
  instanceTypes := #[]
  staticTypes := #[]
  resolved := Array.replicate 124 none
  statics := none }

def pool1 : Array CpInfo := pool [(2, .class_ 4), (1, u "java/lang/Object"), (0, u "<init>"), (0, u "()V"), (0, .methodref 8 9), (0, .class_ 10), (0, .nameAndType 11 12), (0, u "com/example/liana/liana/rdf/TurtleGrammarIsNameCharacterPinLaw"), (0, u "within"), (0, u "(III)Z"), (0, .methodref 14 15), (0, .class_ 16), (0, .nameAndType 17 18), (0, u "com/example/liana/liana/rdf/TurtleGrammar"), (0, u "isNameCharacter"), (0, u "(I)Z"), (0, .methodref 14 20), (0, .nameAndType 21 18), (0, u "isNameStart"), (3, u "law")] 4

def k1m0 : Method := { name := "<init>", desc := "()V", sig := { parameters := [], returnType := none }, accessFlags := 2, code := none }
def k1c1 : Code := { maxStack := 6, maxLocals := 5, code := method_2_code, exceptionTable := #[], attributes := #[] }
def k1m1 : Method := { name := "within", desc := "(III)Z", sig := { parameters := [.int, .int, .int], returnType := some .boolean }, accessFlags := 10, code := some k1c1 }
def k1c2 : Code := { maxStack := 4, maxLocals := 10, code := code, exceptionTable := #[], attributes := #[] }
def k1m2 : Method := { name := "law", desc := "(III)Z", sig := { parameters := [.int, .int, .int], returnType := some .boolean }, accessFlags := 9, code := some k1c2 }
/-- com/example/liana/liana/rdf/TurtleGrammarIsNameCharacterPinLaw -/
def k1 : Class := { plain "com/example/liana/liana/rdf/TurtleGrammarIsNameCharacterPinLaw" (some 0) with
  accessFlags := 49
  interfaces := #[]
  cf := some (fileOf pool1 8 #[] #[{ accessFlags := 2, nameIndex := 5, descriptorIndex := 6, attributes := #[] }, { accessFlags := 10, nameIndex := 11, descriptorIndex := 12, attributes := #[] }, { accessFlags := 9, nameIndex := 25, descriptorIndex := 12, attributes := #[] }] 49 2 #[] #[])
  fields := #[]
  methods := #[k1m0, k1m1, k1m2]
  instanceTypes := #[]
  staticTypes := #[]
  resolved := Array.replicate 30 none
  statics := none }

def pool2 : Array CpInfo := pool [(2, .class_ 4), (1, u "java/lang/Object"), (0, u "<init>"), (0, u "()V"), (0, .integer 55295), (0, .integer 63744), (0, .integer 64975), (0, .integer 65008), (0, .integer 65533), (0, .integer 65536), (0, .integer 983039), (11, .class_ 27), (1, u "com/example/liana/liana/rdf/TurtleGrammar"), (0, u "isNameStart"), (0, u "(I)Z"), (16, u "isNameCharacter"), (12, u "BARE_FORMS"), (0, u "Ljava/util/Map;"), (44, u "NUMBER"), (0, u "Ljava/util/regex/Pattern;"), (63, u "LOCAL_ESCAPES"), (0, u "Ljava/lang/String;")] 32

def k2m0 : Method := { name := "<init>", desc := "()V", sig := { parameters := [], returnType := none }, accessFlags := 2, code := none }
def k2c1 : Code := { maxStack := 2, maxLocals := 1, code := prog_87_method_2_code, exceptionTable := #[], attributes := #[] }
def k2m1 : Method := { name := "isNameStart", desc := "(I)Z", sig := { parameters := [.int], returnType := some .boolean }, accessFlags := 9, code := some k2c1 }
def k2c2 : Code := { maxStack := 2, maxLocals := 1, code := prog_87_method_3_code, exceptionTable := #[], attributes := #[] }
def k2m2 : Method := { name := "isNameCharacter", desc := "(I)Z", sig := { parameters := [.int], returnType := some .boolean }, accessFlags := 9, code := some k2c2 }
/-- com/example/liana/liana/rdf/TurtleGrammar -/
def k2 : Class := { plain "com/example/liana/liana/rdf/TurtleGrammar" (some 0) with
  accessFlags := 33
  interfaces := #[]
  cf := some (fileOf pool2 25 #[] #[{ accessFlags := 2, nameIndex := 5, descriptorIndex := 6, attributes := #[] }, { accessFlags := 9, nameIndex := 28, descriptorIndex := 29, attributes := #[] }, { accessFlags := 9, nameIndex := 46, descriptorIndex := 29, attributes := #[] }] 33 2 #[] #[{ accessFlags := 26, nameIndex := 170, descriptorIndex := 171, attributes := #[] }, { accessFlags := 26, nameIndex := 59, descriptorIndex := 60, attributes := #[] }, { accessFlags := 26, nameIndex := 105, descriptorIndex := 106, attributes := #[] }])
  fields := #[{ name := "LOCAL_ESCAPES", type := (.object "java/lang/String"), accessFlags := 26, slot := 0, constantValue := 0 }, { name := "BARE_FORMS", type := (.object "java/util/Map"), accessFlags := 26, slot := 1, constantValue := 0 }, { name := "NUMBER", type := (.object "java/util/regex/Pattern"), accessFlags := 26, slot := 2, constantValue := 0 }]
  methods := #[k2m0, k2m1, k2m2]
  instanceTypes := #[]
  staticTypes := #[(.object "java/lang/String"), (.object "java/util/Map"), (.object "java/util/regex/Pattern")]
  resolved := Array.replicate 204 none
  statics := none }

def pool3 : Array CpInfo := pool [(1, u "java/lang/Cloneable"), (0, .class_ 1), (0, u "java/lang/Object"), (0, .class_ 3)] 3

/-- java/lang/Cloneable -/
def k3 : Class := { plain "java/lang/Cloneable" (some 0) with
  accessFlags := 1537
  interfaces := #[]
  cf := some (fileOf pool3 2 #[] #[] 1537 4 #[] #[])
  fields := #[]
  methods := #[]
  instanceTypes := #[]
  staticTypes := #[]
  resolved := Array.replicate 8 none
  statics := none }

def pool4 : Array CpInfo := pool [(1, u "java/io/Serializable"), (0, .class_ 1), (0, u "java/lang/Object"), (0, .class_ 3)] 3

/-- java/io/Serializable -/
def k4 : Class := { plain "java/io/Serializable" (some 0) with
  accessFlags := 1537
  interfaces := #[]
  cf := some (fileOf pool4 2 #[] #[] 1537 4 #[] #[])
  fields := #[]
  methods := #[]
  instanceTypes := #[]
  staticTypes := #[]
  resolved := Array.replicate 8 none
  statics := none }

/-- the primitive byte -/
def k5 : Class := { plain "byte" none with kind := .primitive 'B', accessFlags := 0x411 }
/-- [B -/
def k6 : Class := { plain "[B" (some 0) with kind := .array 5 .byte, interfaces := #[3, 4], accessFlags := 1041 }

/-- the primitive int -/
def k7 : Class := { plain "int" none with kind := .primitive 'I', accessFlags := 0x411 }
/-- [I -/
def k8 : Class := { plain "[I" (some 0) with kind := .array 7 .int, interfaces := #[3, 4], accessFlags := 1041 }

def heap : Heap := #[]
def classes : Array Class := #[k0, k1, k2, k3, k4, k5, k6, k7, k8]
def interned : List (Array UInt16 × Addr) := []
def slotsUsed : Nat := 0
def theMethod : MethodId := ⟨1, 2⟩
def args0 : Array Value := #[.int 5, .int 3, .int 2]
def aboutOver (below : List Frame) : State where
  vm := { classes := classes, interned := interned.toArray }
  heap := heap
  slotsUsed := slotsUsed
  threads := #[{ frames := .invoking theMethod args0 :: below }]
def below0 : List Frame := [.native { method := ⟨0, 0⟩, args := #[] }]
def about1 : State := aboutOver below0
def p0 : Program := .bare "" "" ""
def e0 : Env := launch0.env 0 0 0
theorem w_frames : about1.frames = Frame.invoking theMethod args0 :: below0 := rfl
set_option maxRecDepth 65536 in
theorem w_args : argsFit about1.vm theMethod args0 = true := by decide +kernel
set_option maxRecDepth 65536 in
theorem w_heap : heapFits about1 = true := by decide +kernel
set_option maxRecDepth 65536 in
theorem w_runnable : about1.curStatus? = some .runnable := by decide +kernel
set_option maxRecDepth 65536 in
theorem w_alone : about1.alone = true := by decide +kernel
set_option maxRecDepth 65536 in
theorem w_named : about1.methodNamed? x = some theMethod := by decide +kernel
set_option maxRecDepth 65536 in
theorem w_hears : about1.hears theMethod below0 = true := by decide +kernel
set_option maxRecDepth 65536 in
theorem w_ripe : about1.ripe theMethod args0 below0 = true := by decide +kernel
theorem w_running : about1.status = .running := rfl
set_option maxRecDepth 65536 in
theorem w_room : about1.hasRoom e0.platform room_1 = true :=
  launch0.hasRoom_least _ room_1 (by decide +kernel) (by decide +kernel) (by decide +kernel) (by decide +kernel) (by decide +kernel) (by decide +kernel)
theorem allAtoms_all (ts : List Jvm.Cond) (a : Array Jvm.Value) (st : Jvm.State) : (allAtoms ts).before a st = ts.all (fun c => c.before a st) := by
  induction ts with
  | nil => rfl
  | cons c t ih =>
    show (Jvm.Cond.and c (allAtoms t)).before a st = _
    rw [Jvm.Cond.before_and, ih, List.all_cons]
def words1 : List Jvm.Cond := Jvm.Cond.code x code maxLocals ret :: tables_1
/-- a 'code' word, met by the world's own term for the bytes: nothing is compared byte by byte -/
theorem code_word {y : MethodName} {bytes : ByteArray} {mx : Nat} {rt : Option FieldType} {a : Array Value} {s : State} {m : MethodId} {meth : Method} {c : Code} (h1 : s.methodNamed? y = some m) (h2 : s.vm.method? m = some meth) (h3 : meth.code = some c) (h4 : c.code = bytes)
    (h5 : (c.maxLocals == mx && c.exceptionTable.isEmpty && decide (c.maxStack ≤ mostOperands) && decide (meth.sig.returnType = rt) && !meth.locks && decide (parseMethodDescriptor y.desc = some meth.sig)) = true) : (Jvm.Cond.code y bytes mx rt).before a s = true := by
  simp only [Bool.and_eq_true, beq_iff_eq, Bool.not_eq_true', decide_eq_true_eq] at h5
  obtain ⟨⟨⟨⟨⟨g1, g2⟩, g3⟩, g4⟩, g5⟩, g6⟩ := h5
  simp [Cond.before, Cond.holds, Cond.value, h1, h2, h3, h4, g1, g2, g3, g4, g5, g6]
def isCode : Jvm.Cond → Bool
  | .code _ _ _ _ => true
  | _ => false
theorem all_split {L : List Jvm.Cond} {P : Jvm.Cond → Bool} (h1 : L.all (fun c => isCode c || P c) = true) (h2 : ∀ c ∈ L.filter isCode, P c = true) : L.all P = true := by
  refine List.all_eq_true.mpr fun c hc => ?_
  have h := List.all_eq_true.mp h1 c hc
  rcases Bool.eq_false_or_eq_true (isCode c) with hi | hi
  · exact h2 c (List.mem_filter.mpr ⟨hc, hi⟩)
  · simpa [hi] using h
set_option maxRecDepth 65536 in
theorem w_c0 : (Jvm.Cond.code x code maxLocals ret).before args0 about1 = true := code_word (m := ⟨1, 2⟩) (meth := k1m2) (c := k1c2) (by decide +kernel) rfl rfl rfl (by decide +kernel)
set_option maxRecDepth 65536 in
theorem w_c1 : (Jvm.Cond.code ({ cls := "com/example/liana/liana/rdf/TurtleGrammarIsNameCharacterPinLaw", name := "within", desc := "(III)Z" } : Jvm.MethodName) method_2_code (5 : Nat) (Option.some Jvm.ClassFile.FieldType.boolean)).before args0 about1 = true := code_word (m := ⟨1, 1⟩) (meth := k1m1) (c := k1c1) (by decide +kernel) rfl rfl rfl (by decide +kernel)
set_option maxRecDepth 65536 in
theorem w_c2 : (Jvm.Cond.code ({ cls := "com/example/liana/liana/rdf/TurtleGrammar", name := "isNameCharacter", desc := "(I)Z" } : Jvm.MethodName) prog_87_method_3_code (1 : Nat) (Option.some Jvm.ClassFile.FieldType.boolean)).before args0 about1 = true := code_word (m := ⟨2, 2⟩) (meth := k2m2) (c := k2c2) (by decide +kernel) rfl rfl rfl (by decide +kernel)
set_option maxRecDepth 65536 in
theorem w_c3 : (Jvm.Cond.code ({ cls := "com/example/liana/liana/rdf/TurtleGrammar", name := "isNameStart", desc := "(I)Z" } : Jvm.MethodName) prog_87_method_2_code (1 : Nat) (Option.some Jvm.ClassFile.FieldType.boolean)).before args0 about1 = true := code_word (m := ⟨2, 1⟩) (meth := k2m1) (c := k2c1) (by decide +kernel) rfl rfl rfl (by decide +kernel)
def codes1 : List Jvm.Cond := [Jvm.Cond.code x code maxLocals ret, Jvm.Cond.code ({ cls := "com/example/liana/liana/rdf/TurtleGrammarIsNameCharacterPinLaw", name := "within", desc := "(III)Z" } : Jvm.MethodName) method_2_code (5 : Nat) (Option.some Jvm.ClassFile.FieldType.boolean), Jvm.Cond.code ({ cls := "com/example/liana/liana/rdf/TurtleGrammar", name := "isNameCharacter", desc := "(I)Z" } : Jvm.MethodName) prog_87_method_3_code (1 : Nat) (Option.some Jvm.ClassFile.FieldType.boolean), Jvm.Cond.code ({ cls := "com/example/liana/liana/rdf/TurtleGrammar", name := "isNameStart", desc := "(I)Z" } : Jvm.MethodName) prog_87_method_2_code (1 : Nat) (Option.some Jvm.ClassFile.FieldType.boolean)]
set_option maxRecDepth 65536 in
theorem codes_eq : words1.filter isCode = codes1 := rfl
theorem w_codes : ∀ c ∈ words1.filter isCode, c.before args0 about1 = true := by
  rw [codes_eq]
  intro c hc
  simp only [codes1, List.mem_cons, List.not_mem_nil, or_false] at hc
  rcases hc with rfl | rfl | rfl | rfl
  · exact w_c0
  · exact w_c1
  · exact w_c2
  · exact w_c3
set_option maxRecDepth 65536 in
theorem w_t1 : words1.all (fun c => isCode c || c.before args0 about1) = true := by decide +kernel
theorem w_tables : (allAtoms (Jvm.Cond.code x code maxLocals ret :: tables_1)).before args0 about1 = true := by
  rw [allAtoms_all]
  show words1.all (fun c => c.before args0 about1) = true
  refine all_split ?_ w_codes
  rw [w_t1]
set_option maxRecDepth 65536 in
theorem w_case : (Jvm.Cond.and given_1 narrow_1).before args0 about1 = true := by decide +kernel
theorem w_applies : (headSpec (Jvm.Cond.code x code maxLocals ret :: tables_1) room_1).applies x e0.platform about1 = true :=
  (Spec.applies_iff w_frames).mpr ⟨w_running, w_runnable, w_alone, w_named, w_hears, w_ripe, w_room, w_tables⟩
theorem atStart : AtStart classFile x code maxLocals ret World_1 tables_1 room_1 Calls_1 rest_1 Pre_1 launch0 p0 e0 about1 theMethod args0 below0 :=
  ⟨lists_1, trivial, launch0.admits_env _ _ _, launch0.least_env, fairChoices_fair.cas, fairChoices_fair.clock, w_frames, w_args, w_heap, w_applies, trivial, trivial, w_case⟩
end start1
theorem witness_1 : WitnessClaimed_1 := ⟨start1.p0, start1.e0, start1.about1, start1.theMethod, start1.args0, start1.below0, start1.atStart⟩
end Jvm.Pilot.@@N@@
