import JvmDerived
import JvmDerived.Pilot.@@N@@Statement
import JvmDerived.Pilot.@@N@@Code
set_option linter.unusedVariables false
set_option linter.unusedSimpArgs false
namespace Jvm.RoadKit
open Sem ClassFile Op Lib Jvm.Stand Jvm.Free Jvm.LawKit
section New
variable {p : Program} {l : Launch} {e : Env} {R : Room} {s : State} {m : MethodId} {args : Array Value} {below : List Frame} {meth : Method} {c : Code} {T : State} {locs : List Loc} {cells slots : Nat}
theorem retI (X : Stand p l e R s m args below meth c T locs cells slots) (hx : p.tables.exec = Jvm.exec) {pc : Nat} {Ls : Array Slot} {z : Int32} {rest : List Value} (hret : meth.sig.returnType = some .int) (hd : decode c.code pc = .ok (.ireturn, 1)) {fs : List Frame}
    (hl : ∀ (f : JFrame) (acts : List Action), f.method = m → f.locked = none → f.entered = [] → (doReturn e (T.setTop f) acts (some (.int z))).1 = T.setFrames fs) : Steps p.tables e below (T.setTop (mkF m pc Ls (.int z :: rest))) (T.setFrames fs) := by
  have hm' : T.vm.method? m = some meth := X.method'
  have hn : narrow .int (.int z) = .int z := rfl
  show Steps p.tables e below (T.setTop { method := m, pc := pc, locals := Ls, stack := _ :: rest, locked := none }) _
  jvm_step X.here [X.here.top, hx, hd, hm', hret, hn]
  first | (intro acts; rw [hl _ acts rfl rfl rfl]) | rw [hl _ _ rfl rfl rfl]
  exact Steps.refl _
end New
end Jvm.RoadKit
namespace Jvm.Pilot.@@N@@
open Jvm Jvm.ClassFile Sem Op Lib Jvm.Free Jvm.Stand Jvm.LawKit Jvm.RoadKit Bundle Jvm.Pilot.@@N@@.Jvm.D
/-- what a body that writes nothing leaves -/
def QN (w : Option Value) (h0 : Heap) (n0 : Nat) (v : Option Value) (h : Heap) (L : List Loc) : Prop := v = w ∧ Fr n0 L ∧ h = h0
theorem own_ltI {a b : Int32} (h : a.toInt < b.toInt) : a < b := Int32.lt_iff_toInt_lt.mpr h
theorem own_geI {a b : Int32} (h : b.toInt ≤ a.toInt) : ¬ a < b := fun q => by have := Int32.lt_iff_toInt_lt.mp q; omega
theorem own_eqI {a b : Int32} (h : a.toInt = b.toInt) : a = b := Int32.toInt_inj.mp h
theorem own_neI {a b : Int32} (h : a.toInt ≠ b.toInt) : ¬ a = b := fun q => h (congrArg _ q)
theorem own_ltL {a b : Int64} (h : a.toInt < b.toInt) : a < b := Int64.lt_iff_toInt_lt.mpr h
theorem own_geL {a b : Int64} (h : b.toInt ≤ a.toInt) : ¬ a < b := fun q => by have := Int64.lt_iff_toInt_lt.mp q; omega
theorem own_eqL {a b : Int64} (h : a.toInt = b.toInt) : a = b := Int64.toInt_inj.mp h
theorem own_neL {a b : Int64} (h : a.toInt ≠ b.toInt) : ¬ a = b := fun q => h (congrArg _ q)
theorem own_irrI (a : Int32) : ¬ a < a := own_geI (by omega)
theorem own_irrL (a : Int64) : ¬ a < a := own_geL (by omega)
theorem own_irem (x y : Int32) : x - (x / y) * y = x % y := by
  apply Int32.toInt_inj.mp
  have h1 := Int32.le_toInt (x % y)
  have h2 := Int32.toInt_lt (x % y)
  rw [Int32.toInt_sub, Int32.toInt_mul, Int32.toInt_div, Int.bmod_mul_bmod, Int.sub_bmod_bmod, Int.mul_comm (x.toInt.tdiv y.toInt), ← Int.tmod_def, ← Int32.toInt_mod]
  exact Int.bmod_eq_of_le_mul_two (by omega) (by omega)
theorem own_fld {args : Array Value} {s : State} {t : Term} {n : Int32} (h : (Cond.eq t (.int n)).value args s none s [] = some true) : t.eval args s none [] s = some (.int n) := by
  obtain ⟨x, y, h1, h2, k1, k2⟩ := cmp_v (Or.inl h)
  have h3 : y = .int n := (Option.some.inj h2).symm
  subst h3
  obtain ⟨z, rfl⟩ := k2
  have h4 := gotT (Cond.eq_ints h1 h2) h
  rw [h1, h4]
theorem own_fldL {args : Array Value} {s : State} {t : Term} {n : Int64} (h : (Cond.eq t (.long n)).value args s none s [] = some true) : t.eval args s none [] s = some (.long n) := by
  obtain ⟨x, y, h1, h2, k1, k2⟩ := cmp_v (Or.inl h)
  have h3 : y = .long n := (Option.some.inj h2).symm
  subst h3
  obtain ⟨z, rfl⟩ := k2
  have h4 := gotT (eq_L h1 h2) h
  rw [h1, h4]
theorem own_ne {args : Array Value} {s : State} {t u : Term} {a b : Addr} {C n d : String} {i j : Int32} (ht : t.eval args s none [] s = some (.ref a)) (hu : u.eval args s none [] s = some (.ref b)) (h1 : (Cond.eq (.field t C n d) (.int i)).value args s none s [] = some true) (h2 : (Cond.eq (.field u C n d) (.int j)).value args s none s [] = some true) (hij : i ≠ j) : ¬ a = b := fun q => by
  subst q
  have e1 := own_fld h1
  have e2 := own_fld h2
  rw [fld_at ht] at e1
  rw [fld_at hu, e1] at e2
  exact hij (Value.int.inj (Option.some.inj e2))

def own_exp (x : Int64) (a b c d e f o : Addr) : Addr := if x = 1 then a else if x = 2 then b else if x = 3 then c else if x = 4 then d else if x = 5 then e else if x = 7 then f else o
theorem own_exp_o {x : Int64} {a b c d e f o : Addr} (h1 : ¬ x = 1) (h2 : ¬ x = 2) (h3 : ¬ x = 3) (h4 : ¬ x = 4) (h5 : ¬ x = 5) (h7 : ¬ x = 7) : own_exp x a b c d e f o = o := by
  unfold own_exp; rw [if_neg h1, if_neg h2, if_neg h3, if_neg h4, if_neg h5, if_neg h7]
theorem own_len {args : Array Value} {s : State} {t : Term} {a : Addr} {cl : Cell} {ty : FieldType} (ev : t.eval args s none [] s = some (.ref a)) (Ar : Arr s s.heap a cl ty) (h : (Term.length t).eval args s none [] s = some (.int 8)) : cl.slots.size = 8 := by
  have ha : s.arrayAt? a = some cl := IntBox.arrayAt_of Ar.1 Ar.2.1 Ar.2.2
  have hs : cl.slots.size < 2 ^ 31 ∧ cl.slots.size.toInt32 = 8 := by simpa [Term.eval, ev, ha] using h
  have h1 := len_toInt hs.1
  rw [hs.2, show (8 : Int32).toInt = 8 from rfl] at h1
  omega
theorem own_elem {args : Array Value} {s : State} {t u : Term} {a b : Addr} {cl : Cell} {j : Int32} {k : Nat} (ev : t.eval args s none [] s = some (.ref a)) (hc : s.heap[a]? = some cl) (evu : u.eval args s none [] s = some (.ref b)) (h : (Cond.eq (.elem t (.int j)) u).value args s none s [] = some true) (hj : j.toNatClampNeg = k) : cl.slots[k]? = some (.ref b) := by
  obtain ⟨x, y, h1, h2, k1, k2⟩ := cmp_v (Or.inl h)
  rw [evu] at h2
  obtain rfl := Option.some.inj h2
  have h3 := gotT (eq_R h1 evu k2.2 rfl) h
  rw [h3] at h1
  have h4 := (elem_in h1 ev rfl hc).2
  rw [hj] at h4
  exact h4
theorem d1_0 : decode prog_35_method_4_code 0 = .ok (.lload_n 0, 1) := by decide +kernel
theorem d1_1 : decode prog_35_method_4_code 1 = .ok (.lconst 0, 1) := by decide +kernel
theorem d1_2 : decode prog_35_method_4_code 2 = .ok (.lcmp, 1) := by decide +kernel
theorem d1_3 : decode prog_35_method_4_code 3 = .ok (.ifCond .lt 22, 3) := by decide +kernel
theorem d1_25 : decode prog_35_method_4_code 25 = .ok (.getstatic 22, 3) := by decide +kernel
theorem d1_28 : decode prog_35_method_4_code 28 = .ok (.areturn, 1) := by decide +kernel
theorem pn_1 : plainName "com/example/corbeille/corbeille/lobster/MessageType" = true := by first | (simp [plainName, overriddenIn]; done) | decide +kernel
theorem ef_1 (m : MethodId) (x0 : Int64) : entryFrame m #[(.long x0)] 2 = mkF m 0 #[.val (.long x0), .second] [] := by first | (simp [entryFrame, mkF, argsToLocals, Value.category]; done) | rfl
set_option maxRecDepth 65536 in
set_option maxHeartbeats 40000000 in
theorem rm1_t (l : Launch) (Z : State) (a0 : Array Value) (hw : ∀ d ∈ tables_1, d.before a0 Z = true) (ws : List Jvm.Cond) (q1 : Int64) (w_OTHER : Addr) (h0 : Heap) (n0 : Nat) (Z0 : n0 ≤ h0.size) (hc3 : q1 < (0 : Int64)) (S_OTHER : Sta Z h0 "com/example/corbeille/corbeille/lobster/MessageType" "OTHER" "Lcom/example/corbeille/corbeille/lobster/MessageType;" (.ref w_OTHER)) :
    MetFree l (⟨"com/example/corbeille/corbeille/lobster/MessageType", "of", "(J)Lcom/example/corbeille/corbeille/lobster/MessageType;"⟩ : MethodName) (head1 (Jvm.Cond.code (⟨"com/example/corbeille/corbeille/lobster/MessageType", "of", "(J)Lcom/example/corbeille/corbeille/lobster/MessageType;"⟩ : MethodName) prog_35_method_4_code 2 (some (.object "com/example/corbeille/corbeille/lobster/MessageType")) :: ws) ({ frames := 0, cells := 0, slots := 0, locals := 0 } : Room)) (fun a U => a = #[(.long q1)] ∧ Z.Warmed39 U.vm ∧ U.heap = h0) (fun _ _ _ _ _ => True) (fun _ U o U' => ∃ v L, o = .returned v ∧ QN (some (.ref w_OTHER)) h0 n0 v U'.heap L ∧ FrameEnd U o U' L ({ frames := 0, cells := 0, slots := 0, locals := 0 } : Room).cells ({ frames := 0, cells := 0, slots := 0, locals := 0 } : Room).slots) := by
  refine MetFree.of_bodySF (plainFor_of_name pn_1) hisR ?_
  intro p e s m args below meth c s₁ Bd hml0 hP hK
  obtain ⟨rfl, hZ, hh⟩ := hP
  have hx := Bd.exec
  have hby := Bd.bytes
  have hml : c.maxLocals = 2 := hml0
  have hown : s.vm.findClass "com/example/corbeille/corbeille/lobster/MessageType" = some m.cls := findClass_of_methodNamed Bd.named
  have hnm := (name_of_methodNamed Bd.named Bd.method).1
  have X0 : Stand p l e ({ frames := 0, cells := 0, slots := 0, locals := 0 } : Room) s m #[(.long q1)] below meth c s₁ [] 0 0 := Stand.of_body Bd
  have e0 : s₁.heap = h0 := by rw [← hh, Bd.state]; rfl
  have N0 := Fr.nil n0
  have pre0 : ∀ t, Steps p.tables e below (s₁.setTop (mkF m 0 #[.val (.long q1), .second] [])) t → Steps p.tables e below (s₁.setTop (entryFrame m #[(.long q1)] 2)) t := fun t k => castTop (ef_1 m q1) k
  obtain ⟨T2, X2, e2, st2⟩ := getS2 X0 hx hZ hown (host := "") (Or.inl (hw _ (List.mem_of_getElem? (i := 15) rfl))) Via.refl e0 S_OTHER (g := (mkF m 25 #[.val (.long q1), .second] [])) rfl (hb hby d1_25)
  obtain ⟨fs, hr, hrun, hended, hW, hsame⟩ := X2.leave (v := some (.ref w_OTHER)) (fun h => by rw [Bd.returns] at h; cases h)
  refine ⟨_, _, pre0 _ ?_, hrun, hended, _, _, rfl, ?_, ⟨_, rfl⟩, hW, hsame.mono (by decide) (by decide)⟩
  · show Steps p.tables e below (s₁.setTop (mkF m 0 #[.val (.long q1), .second] [])) _
    refine XS.lloadN X0.here hx rfl (hb hby d1_0) rfl ?_
    show Steps p.tables e below (s₁.setTop (mkF m 1 #[.val (.long q1), .second] [(.long q1)])) _
    refine XS.lconst X0.here hx rfl (hb hby d1_1) ?_
    show Steps p.tables e below (s₁.setTop (mkF m 2 #[.val (.long q1), .second] [(.long (0 : Int64)), (.long q1)])) _
    refine XS.lcmp X0.here hx rfl (hb hby d1_2) rfl ?_
    show Steps p.tables e below (s₁.setTop (mkF m 3 #[.val (.long q1), .second] [(.int (lcmpW q1 (0 : Int64)))])) _
    refine XS.ifYes X0.here hx rfl (pc0 := 3) (pc' := 25) rfl (hb hby d1_3) rfl ((if0 _ _).trans (tlt ((lw_lt _ _).mpr hc3)).1) (by decide) (by decide) ?_
    show Steps p.tables e below (s₁.setTop (mkF m 25 #[.val (.long q1), .second] [])) _
    refine st2 _ ?_
    show Steps p.tables e below (T2.setTop (mkF m 28 #[.val (.long q1), .second] [(.ref w_OTHER)])) _
    jvm_step X2.here [X2.here.top, hx, (hb hby d1_28), X2.method', Bd.returns, Value.isRef, FieldType.isReference]
    first | (intro acts; rw [hr _ acts rfl rfl rfl]) | rw [hr _ _ rfl rfl rfl]
    exact Steps.refl _
  · exact ⟨rfl, N0, e2⟩
theorem d1_6 : decode prog_35_method_4_code 6 = .ok (.lload_n 0, 1) := by decide +kernel
theorem d1_7 : decode prog_35_method_4_code 7 = .ok (.getstatic 48, 3) := by decide +kernel
theorem d1_10 : decode prog_35_method_4_code 10 = .ok (.arraylength, 1) := by decide +kernel
theorem d1_11 : decode prog_35_method_4_code 11 = .ok (.i2l, 1) := by decide +kernel
theorem d1_12 : decode prog_35_method_4_code 12 = .ok (.lcmp, 1) := by decide +kernel
theorem d1_13 : decode prog_35_method_4_code 13 = .ok (.ifCond .ge 12, 3) := by decide +kernel
set_option maxRecDepth 65536 in
set_option maxHeartbeats 40000000 in
theorem rm1_ft (l : Launch) (Z : State) (a0 : Array Value) (hw : ∀ d ∈ tables_1, d.before a0 Z = true) (ws : List Jvm.Cond) (q1 : Int64) (w_BY_NUMBER : Addr) (cl_w_BY_NUMBER : Cell) (z_w_BY_NUMBER : Int32) (w_OTHER : Addr) (h0 : Heap) (n0 : Nat) (Z0 : n0 ≤ h0.size) (hc3 : ¬ (q1 < (0 : Int64))) (S_BY_NUMBER : Sta Z h0 "com/example/corbeille/corbeille/lobster/MessageType" "BY_NUMBER" "[Lcom/example/corbeille/corbeille/lobster/MessageType;" (.ref w_BY_NUMBER)) (Ar_w_BY_NUMBER : Arr Z h0 w_BY_NUMBER cl_w_BY_NUMBER (.object "com/example/corbeille/corbeille/lobster/MessageType")) (Sz_w_BY_NUMBER : cl_w_BY_NUMBER.slots.size = z_w_BY_NUMBER.toNatClampNeg) (Nn_w_BY_NUMBER : ¬ z_w_BY_NUMBER < 0) (hc13 : ¬ (q1 < (z_w_BY_NUMBER.toInt64))) (S_OTHER : Sta Z h0 "com/example/corbeille/corbeille/lobster/MessageType" "OTHER" "Lcom/example/corbeille/corbeille/lobster/MessageType;" (.ref w_OTHER)) :
    MetFree l (⟨"com/example/corbeille/corbeille/lobster/MessageType", "of", "(J)Lcom/example/corbeille/corbeille/lobster/MessageType;"⟩ : MethodName) (head1 (Jvm.Cond.code (⟨"com/example/corbeille/corbeille/lobster/MessageType", "of", "(J)Lcom/example/corbeille/corbeille/lobster/MessageType;"⟩ : MethodName) prog_35_method_4_code 2 (some (.object "com/example/corbeille/corbeille/lobster/MessageType")) :: ws) ({ frames := 0, cells := 0, slots := 0, locals := 0 } : Room)) (fun a U => a = #[(.long q1)] ∧ Z.Warmed39 U.vm ∧ U.heap = h0) (fun _ _ _ _ _ => True) (fun _ U o U' => ∃ v L, o = .returned v ∧ QN (some (.ref w_OTHER)) h0 n0 v U'.heap L ∧ FrameEnd U o U' L ({ frames := 0, cells := 0, slots := 0, locals := 0 } : Room).cells ({ frames := 0, cells := 0, slots := 0, locals := 0 } : Room).slots) := by
  refine MetFree.of_bodySF (plainFor_of_name pn_1) hisR ?_
  intro p e s m args below meth c s₁ Bd hml0 hP hK
  obtain ⟨rfl, hZ, hh⟩ := hP
  have hx := Bd.exec
  have hby := Bd.bytes
  have hml : c.maxLocals = 2 := hml0
  have hown : s.vm.findClass "com/example/corbeille/corbeille/lobster/MessageType" = some m.cls := findClass_of_methodNamed Bd.named
  have hnm := (name_of_methodNamed Bd.named Bd.method).1
  have X0 : Stand p l e ({ frames := 0, cells := 0, slots := 0, locals := 0 } : Room) s m #[(.long q1)] below meth c s₁ [] 0 0 := Stand.of_body Bd
  have e0 : s₁.heap = h0 := by rw [← hh, Bd.state]; rfl
  have N0 := Fr.nil n0
  have pre0 : ∀ t, Steps p.tables e below (s₁.setTop (mkF m 0 #[.val (.long q1), .second] [])) t → Steps p.tables e below (s₁.setTop (entryFrame m #[(.long q1)] 2)) t := fun t k => castTop (ef_1 m q1) k
  obtain ⟨T2, X2, e2, st2⟩ := getS2 X0 hx hZ hown (host := "") (Or.inl (hw _ (List.mem_of_getElem? (i := 5) rfl))) Via.refl e0 S_BY_NUMBER (g := (mkF m 7 #[.val (.long q1), .second] [(.long q1)])) rfl (hb hby d1_7)
  obtain ⟨T3, X3, e3, st3⟩ := getS2 X2 hx hZ hown (host := "") (Or.inl (hw _ (List.mem_of_getElem? (i := 15) rfl))) Via.refl e2 S_OTHER (g := (mkF m 25 #[.val (.long q1), .second] [])) rfl (hb hby d1_25)
  obtain ⟨fs, hr, hrun, hended, hW, hsame⟩ := X3.leave (v := some (.ref w_OTHER)) (fun h => by rw [Bd.returns] at h; cases h)
  refine ⟨_, _, pre0 _ ?_, hrun, hended, _, _, rfl, ?_, ⟨_, rfl⟩, hW, hsame.mono (by decide) (by decide)⟩
  · show Steps p.tables e below (s₁.setTop (mkF m 0 #[.val (.long q1), .second] [])) _
    refine XS.lloadN X0.here hx rfl (hb hby d1_0) rfl ?_
    show Steps p.tables e below (s₁.setTop (mkF m 1 #[.val (.long q1), .second] [(.long q1)])) _
    refine XS.lconst X0.here hx rfl (hb hby d1_1) ?_
    show Steps p.tables e below (s₁.setTop (mkF m 2 #[.val (.long q1), .second] [(.long (0 : Int64)), (.long q1)])) _
    refine XS.lcmp X0.here hx rfl (hb hby d1_2) rfl ?_
    show Steps p.tables e below (s₁.setTop (mkF m 3 #[.val (.long q1), .second] [(.int (lcmpW q1 (0 : Int64)))])) _
    refine XS.ifNo X0.here hx rfl (hb hby d1_3) rfl ((if0 _ _).trans (flt (mt (lw_lt _ _).mp hc3)).1) ?_
    show Steps p.tables e below (s₁.setTop (mkF m 6 #[.val (.long q1), .second] [])) _
    refine XS.lloadN X0.here hx rfl (hb hby d1_6) rfl ?_
    show Steps p.tables e below (s₁.setTop (mkF m 7 #[.val (.long q1), .second] [(.long q1)])) _
    refine st2 _ ?_
    show Steps p.tables e below (T2.setTop (mkF m 10 #[.val (.long q1), .second] [(.ref w_BY_NUMBER), (.long q1)])) _
    refine X2.arraylength hx (by rw [e2]; exact Ar_w_BY_NUMBER.1) (State.isArrayOf_alike hZ.alike Ar_w_BY_NUMBER.2.1) (g := (mkF m 10 #[.val (.long q1), .second] [(.ref w_BY_NUMBER), (.long q1)])) rfl rfl (hb hby d1_10) _ ?_
    rw [len_of Sz_w_BY_NUMBER Nn_w_BY_NUMBER]
    show Steps p.tables e below (T2.setTop (mkF m 11 #[.val (.long q1), .second] [(.int z_w_BY_NUMBER), (.long q1)])) _
    refine XS.i2l X2.here hx rfl (hb hby d1_11) rfl ?_
    show Steps p.tables e below (T2.setTop (mkF m 12 #[.val (.long q1), .second] [(.long (z_w_BY_NUMBER.toInt64)), (.long q1)])) _
    refine XS.lcmp X2.here hx rfl (hb hby d1_12) rfl ?_
    show Steps p.tables e below (T2.setTop (mkF m 13 #[.val (.long q1), .second] [(.int (lcmpW q1 (z_w_BY_NUMBER.toInt64)))])) _
    refine XS.ifYes X2.here hx rfl (pc0 := 13) (pc' := 25) rfl (hb hby d1_13) rfl ((if0 _ _).trans (flt (mt (lw_lt _ _).mp hc13)).2.1) (by decide) (by decide) ?_
    show Steps p.tables e below (T2.setTop (mkF m 25 #[.val (.long q1), .second] [])) _
    refine st3 _ ?_
    show Steps p.tables e below (T3.setTop (mkF m 28 #[.val (.long q1), .second] [(.ref w_OTHER)])) _
    jvm_step X3.here [X3.here.top, hx, (hb hby d1_28), X3.method', Bd.returns, Value.isRef, FieldType.isReference]
    first | (intro acts; rw [hr _ acts rfl rfl rfl]) | rw [hr _ _ rfl rfl rfl]
    exact Steps.refl _
  · exact ⟨rfl, N0, e3⟩
theorem d1_16 : decode prog_35_method_4_code 16 = .ok (.getstatic 48, 3) := by decide +kernel
theorem d1_19 : decode prog_35_method_4_code 19 = .ok (.lload_n 0, 1) := by decide +kernel
theorem d1_20 : decode prog_35_method_4_code 20 = .ok (.l2i, 1) := by decide +kernel
theorem d1_21 : decode prog_35_method_4_code 21 = .ok (.aaload, 1) := by decide +kernel
theorem d1_22 : decode prog_35_method_4_code 22 = .ok (.goto 6, 3) := by decide +kernel
set_option maxRecDepth 65536 in
set_option maxHeartbeats 40000000 in
theorem rm1_ff (l : Launch) (Z : State) (a0 : Array Value) (hw : ∀ d ∈ tables_1, d.before a0 Z = true) (ws : List Jvm.Cond) (q1 : Int64) (w_BY_NUMBER : Addr) (cl_w_BY_NUMBER : Cell) (z_w_BY_NUMBER : Int32) (w4 : Addr) (h0 : Heap) (n0 : Nat) (Z0 : n0 ≤ h0.size) (hc3 : ¬ (q1 < (0 : Int64))) (S_BY_NUMBER : Sta Z h0 "com/example/corbeille/corbeille/lobster/MessageType" "BY_NUMBER" "[Lcom/example/corbeille/corbeille/lobster/MessageType;" (.ref w_BY_NUMBER)) (Ar_w_BY_NUMBER : Arr Z h0 w_BY_NUMBER cl_w_BY_NUMBER (.object "com/example/corbeille/corbeille/lobster/MessageType")) (Sz_w_BY_NUMBER : cl_w_BY_NUMBER.slots.size = z_w_BY_NUMBER.toNatClampNeg) (Nn_w_BY_NUMBER : ¬ z_w_BY_NUMBER < 0) (hc13 : q1 < (z_w_BY_NUMBER.toInt64)) (hin21 : ¬ ((q1.toInt32) < 0 ∨ cl_w_BY_NUMBER.slots.size ≤ ((q1.toInt32)).toNatClampNeg)) (hat21 : cl_w_BY_NUMBER.slots[((q1.toInt32)).toNatClampNeg]? = some (.ref w4)) :
    MetFree l (⟨"com/example/corbeille/corbeille/lobster/MessageType", "of", "(J)Lcom/example/corbeille/corbeille/lobster/MessageType;"⟩ : MethodName) (head1 (Jvm.Cond.code (⟨"com/example/corbeille/corbeille/lobster/MessageType", "of", "(J)Lcom/example/corbeille/corbeille/lobster/MessageType;"⟩ : MethodName) prog_35_method_4_code 2 (some (.object "com/example/corbeille/corbeille/lobster/MessageType")) :: ws) ({ frames := 0, cells := 0, slots := 0, locals := 0 } : Room)) (fun a U => a = #[(.long q1)] ∧ Z.Warmed39 U.vm ∧ U.heap = h0) (fun _ _ _ _ _ => True) (fun _ U o U' => ∃ v L, o = .returned v ∧ QN (some (.ref w4)) h0 n0 v U'.heap L ∧ FrameEnd U o U' L ({ frames := 0, cells := 0, slots := 0, locals := 0 } : Room).cells ({ frames := 0, cells := 0, slots := 0, locals := 0 } : Room).slots) := by
  refine MetFree.of_bodySF (plainFor_of_name pn_1) hisR ?_
  intro p e s m args below meth c s₁ Bd hml0 hP hK
  obtain ⟨rfl, hZ, hh⟩ := hP
  have hx := Bd.exec
  have hby := Bd.bytes
  have hml : c.maxLocals = 2 := hml0
  have hown : s.vm.findClass "com/example/corbeille/corbeille/lobster/MessageType" = some m.cls := findClass_of_methodNamed Bd.named
  have hnm := (name_of_methodNamed Bd.named Bd.method).1
  have X0 : Stand p l e ({ frames := 0, cells := 0, slots := 0, locals := 0 } : Room) s m #[(.long q1)] below meth c s₁ [] 0 0 := Stand.of_body Bd
  have e0 : s₁.heap = h0 := by rw [← hh, Bd.state]; rfl
  have N0 := Fr.nil n0
  have pre0 : ∀ t, Steps p.tables e below (s₁.setTop (mkF m 0 #[.val (.long q1), .second] [])) t → Steps p.tables e below (s₁.setTop (entryFrame m #[(.long q1)] 2)) t := fun t k => castTop (ef_1 m q1) k
  obtain ⟨T2, X2, e2, st2⟩ := getS2 X0 hx hZ hown (host := "") (Or.inl (hw _ (List.mem_of_getElem? (i := 5) rfl))) Via.refl e0 S_BY_NUMBER (g := (mkF m 7 #[.val (.long q1), .second] [(.long q1)])) rfl (hb hby d1_7)
  obtain ⟨T3, X3, e3, st3⟩ := getS2 X2 hx hZ hown (host := "") (Or.inl (hw _ (List.mem_of_getElem? (i := 5) rfl))) Via.refl e2 S_BY_NUMBER (g := (mkF m 16 #[.val (.long q1), .second] [])) rfl (hb hby d1_16)
  obtain ⟨fs, hr, hrun, hended, hW, hsame⟩ := X3.leave (v := some (.ref w4)) (fun h => by rw [Bd.returns] at h; cases h)
  refine ⟨_, _, pre0 _ ?_, hrun, hended, _, _, rfl, ?_, ⟨_, rfl⟩, hW, hsame.mono (by decide) (by decide)⟩
  · show Steps p.tables e below (s₁.setTop (mkF m 0 #[.val (.long q1), .second] [])) _
    refine XS.lloadN X0.here hx rfl (hb hby d1_0) rfl ?_
    show Steps p.tables e below (s₁.setTop (mkF m 1 #[.val (.long q1), .second] [(.long q1)])) _
    refine XS.lconst X0.here hx rfl (hb hby d1_1) ?_
    show Steps p.tables e below (s₁.setTop (mkF m 2 #[.val (.long q1), .second] [(.long (0 : Int64)), (.long q1)])) _
    refine XS.lcmp X0.here hx rfl (hb hby d1_2) rfl ?_
    show Steps p.tables e below (s₁.setTop (mkF m 3 #[.val (.long q1), .second] [(.int (lcmpW q1 (0 : Int64)))])) _
    refine XS.ifNo X0.here hx rfl (hb hby d1_3) rfl ((if0 _ _).trans (flt (mt (lw_lt _ _).mp hc3)).1) ?_
    show Steps p.tables e below (s₁.setTop (mkF m 6 #[.val (.long q1), .second] [])) _
    refine XS.lloadN X0.here hx rfl (hb hby d1_6) rfl ?_
    show Steps p.tables e below (s₁.setTop (mkF m 7 #[.val (.long q1), .second] [(.long q1)])) _
    refine st2 _ ?_
    show Steps p.tables e below (T2.setTop (mkF m 10 #[.val (.long q1), .second] [(.ref w_BY_NUMBER), (.long q1)])) _
    refine X2.arraylength hx (by rw [e2]; exact Ar_w_BY_NUMBER.1) (State.isArrayOf_alike hZ.alike Ar_w_BY_NUMBER.2.1) (g := (mkF m 10 #[.val (.long q1), .second] [(.ref w_BY_NUMBER), (.long q1)])) rfl rfl (hb hby d1_10) _ ?_
    rw [len_of Sz_w_BY_NUMBER Nn_w_BY_NUMBER]
    show Steps p.tables e below (T2.setTop (mkF m 11 #[.val (.long q1), .second] [(.int z_w_BY_NUMBER), (.long q1)])) _
    refine XS.i2l X2.here hx rfl (hb hby d1_11) rfl ?_
    show Steps p.tables e below (T2.setTop (mkF m 12 #[.val (.long q1), .second] [(.long (z_w_BY_NUMBER.toInt64)), (.long q1)])) _
    refine XS.lcmp X2.here hx rfl (hb hby d1_12) rfl ?_
    show Steps p.tables e below (T2.setTop (mkF m 13 #[.val (.long q1), .second] [(.int (lcmpW q1 (z_w_BY_NUMBER.toInt64)))])) _
    refine XS.ifNo X2.here hx rfl (hb hby d1_13) rfl ((if0 _ _).trans (tlt ((lw_lt _ _).mpr hc13)).2.1) ?_
    show Steps p.tables e below (T2.setTop (mkF m 16 #[.val (.long q1), .second] [])) _
    refine st3 _ ?_
    show Steps p.tables e below (T3.setTop (mkF m 19 #[.val (.long q1), .second] [(.ref w_BY_NUMBER)])) _
    refine XS.lloadN X3.here hx rfl (hb hby d1_19) rfl ?_
    show Steps p.tables e below (T3.setTop (mkF m 20 #[.val (.long q1), .second] [(.long q1), (.ref w_BY_NUMBER)])) _
    refine XS.l2i X3.here hx rfl (hb hby d1_20) rfl ?_
    show Steps p.tables e below (T3.setTop (mkF m 21 #[.val (.long q1), .second] [(.int (q1.toInt32)), (.ref w_BY_NUMBER)])) _
    refine X3.aaload hx (j := (q1.toInt32)) (v := (.ref w4)) (by rw [e3]; exact Ar_w_BY_NUMBER.1) (State.isArrayOf_alike hZ.alike Ar_w_BY_NUMBER.2.1) rfl Ar_w_BY_NUMBER.2.2 hin21 hat21 (g := (mkF m 21 #[.val (.long q1), .second] [(.int (q1.toInt32)), (.ref w_BY_NUMBER)])) rfl rfl (hb hby d1_21) _ ?_
    show Steps p.tables e below (T3.setTop (mkF m 22 #[.val (.long q1), .second] [(.ref w4)])) _
    refine XS.goto X3.here hx rfl (pc0 := 22) (pc' := 28) rfl (hb hby d1_22) (by decide) (by decide) ?_
    show Steps p.tables e below (T3.setTop (mkF m 28 #[.val (.long q1), .second] [(.ref w4)])) _
    jvm_step X3.here [X3.here.top, hx, (hb hby d1_28), X3.method', Bd.returns, Value.isRef, FieldType.isReference]
    first | (intro acts; rw [hr _ acts rfl rfl rfl]) | rw [hr _ _ rfl rfl rfl]
    exact Steps.refl _
  · exact ⟨rfl, N0, e3⟩
theorem d2_0 : decode method_3_code 0 = .ok (.lload_n 0, 1) := by decide +kernel
theorem d2_1 : decode method_3_code 1 = .ok (.lconst 1, 1) := by decide +kernel
theorem d2_2 : decode method_3_code 2 = .ok (.lcmp, 1) := by decide +kernel
theorem d2_3 : decode method_3_code 3 = .ok (.ifCond .ne 7, 3) := by decide +kernel
theorem d2_6 : decode method_3_code 6 = .ok (.getstatic 22, 3) := by decide +kernel
theorem d2_9 : decode method_3_code 9 = .ok (.areturn, 1) := by decide +kernel
theorem pn_2 : plainName "com/example/corbeille/corbeille/lobster/MessageTypeOfPinLaw" = true := by first | (simp [plainName, overriddenIn]; done) | decide +kernel
theorem ef_2 (m : MethodId) (x0 : Int64) : entryFrame m #[(.long x0)] 2 = mkF m 0 #[.val (.long x0), .second] [] := by first | (simp [entryFrame, mkF, argsToLocals, Value.category]; done) | rfl
set_option maxRecDepth 65536 in
set_option maxHeartbeats 40000000 in
theorem rm2_f (l : Launch) (Z : State) (a0 : Array Value) (hw : ∀ d ∈ tables_1, d.before a0 Z = true) (ws : List Jvm.Cond) (q1 : Int64) (w_NEW_ORDER : Addr) (h0 : Heap) (n0 : Nat) (Z0 : n0 ≤ h0.size) (hc3 : q1 = (1 : Int64)) (S_NEW_ORDER : Sta Z h0 "com/example/corbeille/corbeille/lobster/MessageType" "NEW_ORDER" "Lcom/example/corbeille/corbeille/lobster/MessageType;" (.ref w_NEW_ORDER)) :
    MetFree l (⟨"com/example/corbeille/corbeille/lobster/MessageTypeOfPinLaw", "expected", "(J)Lcom/example/corbeille/corbeille/lobster/MessageType;"⟩ : MethodName) (head1 (Jvm.Cond.code (⟨"com/example/corbeille/corbeille/lobster/MessageTypeOfPinLaw", "expected", "(J)Lcom/example/corbeille/corbeille/lobster/MessageType;"⟩ : MethodName) method_3_code 2 (some (.object "com/example/corbeille/corbeille/lobster/MessageType")) :: ws) ({ frames := 0, cells := 0, slots := 0, locals := 0 } : Room)) (fun a U => a = #[(.long q1)] ∧ Z.Warmed39 U.vm ∧ U.heap = h0) (fun _ _ _ _ _ => True) (fun _ U o U' => ∃ v L, o = .returned v ∧ QN (some (.ref w_NEW_ORDER)) h0 n0 v U'.heap L ∧ FrameEnd U o U' L ({ frames := 0, cells := 0, slots := 0, locals := 0 } : Room).cells ({ frames := 0, cells := 0, slots := 0, locals := 0 } : Room).slots) := by
  refine MetFree.of_bodySF (plainFor_of_name pn_2) hisR ?_
  intro p e s m args below meth c s₁ Bd hml0 hP hK
  obtain ⟨rfl, hZ, hh⟩ := hP
  have hx := Bd.exec
  have hby := Bd.bytes
  have hml : c.maxLocals = 2 := hml0
  have hown : s.vm.findClass "com/example/corbeille/corbeille/lobster/MessageTypeOfPinLaw" = some m.cls := findClass_of_methodNamed Bd.named
  have hnm := (name_of_methodNamed Bd.named Bd.method).1
  have X0 : Stand p l e ({ frames := 0, cells := 0, slots := 0, locals := 0 } : Room) s m #[(.long q1)] below meth c s₁ [] 0 0 := Stand.of_body Bd
  have e0 : s₁.heap = h0 := by rw [← hh, Bd.state]; rfl
  have N0 := Fr.nil n0
  have pre0 : ∀ t, Steps p.tables e below (s₁.setTop (mkF m 0 #[.val (.long q1), .second] [])) t → Steps p.tables e below (s₁.setTop (entryFrame m #[(.long q1)] 2)) t := fun t k => castTop (ef_2 m q1) k
  obtain ⟨T2, X2, e2, st2⟩ := getS2 X0 hx hZ hown (host := "") (Or.inl (hw _ (List.mem_of_getElem? (i := 25) rfl))) Via.refl e0 S_NEW_ORDER (g := (mkF m 6 #[.val (.long q1), .second] [])) rfl (hb hby d2_6)
  obtain ⟨fs, hr, hrun, hended, hW, hsame⟩ := X2.leave (v := some (.ref w_NEW_ORDER)) (fun h => by rw [Bd.returns] at h; cases h)
  refine ⟨_, _, pre0 _ ?_, hrun, hended, _, _, rfl, ?_, ⟨_, rfl⟩, hW, hsame.mono (by decide) (by decide)⟩
  · show Steps p.tables e below (s₁.setTop (mkF m 0 #[.val (.long q1), .second] [])) _
    refine XS.lloadN X0.here hx rfl (hb hby d2_0) rfl ?_
    show Steps p.tables e below (s₁.setTop (mkF m 1 #[.val (.long q1), .second] [(.long q1)])) _
    refine XS.lconst X0.here hx rfl (hb hby d2_1) ?_
    show Steps p.tables e below (s₁.setTop (mkF m 2 #[.val (.long q1), .second] [(.long (1 : Int64)), (.long q1)])) _
    refine XS.lcmp X0.here hx rfl (hb hby d2_2) rfl ?_
    show Steps p.tables e below (s₁.setTop (mkF m 3 #[.val (.long q1), .second] [(.int (lcmpW q1 (1 : Int64)))])) _
    refine XS.ifNo X0.here hx rfl (hb hby d2_3) rfl ((if0 _ _).trans (teq ((lw_eq _ _).mpr hc3)).2) ?_
    show Steps p.tables e below (s₁.setTop (mkF m 6 #[.val (.long q1), .second] [])) _
    refine st2 _ ?_
    show Steps p.tables e below (T2.setTop (mkF m 9 #[.val (.long q1), .second] [(.ref w_NEW_ORDER)])) _
    jvm_step X2.here [X2.here.top, hx, (hb hby d2_9), X2.method', Bd.returns, Value.isRef, FieldType.isReference]
    first | (intro acts; rw [hr _ acts rfl rfl rfl]) | rw [hr _ _ rfl rfl rfl]
    exact Steps.refl _
  · exact ⟨rfl, N0, e2⟩
theorem d2_10 : decode method_3_code 10 = .ok (.lload_n 0, 1) := by decide +kernel
theorem d2_11 : decode method_3_code 11 = .ok (.ldc2_w 26, 3) := by decide +kernel
theorem d2_14 : decode method_3_code 14 = .ok (.lcmp, 1) := by decide +kernel
theorem d2_15 : decode method_3_code 15 = .ok (.ifCond .ne 7, 3) := by decide +kernel
theorem d2_18 : decode method_3_code 18 = .ok (.getstatic 28, 3) := by decide +kernel
theorem d2_21 : decode method_3_code 21 = .ok (.areturn, 1) := by decide +kernel
set_option maxRecDepth 65536 in
set_option maxHeartbeats 40000000 in
theorem rm2_tf (l : Launch) (Z : State) (a0 : Array Value) (hw : ∀ d ∈ tables_1, d.before a0 Z = true) (ws : List Jvm.Cond) (q1 : Int64) (w_PARTIAL_CANCEL : Addr) (h0 : Heap) (n0 : Nat) (Z0 : n0 ≤ h0.size) (hc3 : ¬ (q1 = (1 : Int64))) (hc15 : q1 = (2 : Int64)) (S_PARTIAL_CANCEL : Sta Z h0 "com/example/corbeille/corbeille/lobster/MessageType" "PARTIAL_CANCEL" "Lcom/example/corbeille/corbeille/lobster/MessageType;" (.ref w_PARTIAL_CANCEL)) :
    MetFree l (⟨"com/example/corbeille/corbeille/lobster/MessageTypeOfPinLaw", "expected", "(J)Lcom/example/corbeille/corbeille/lobster/MessageType;"⟩ : MethodName) (head1 (Jvm.Cond.code (⟨"com/example/corbeille/corbeille/lobster/MessageTypeOfPinLaw", "expected", "(J)Lcom/example/corbeille/corbeille/lobster/MessageType;"⟩ : MethodName) method_3_code 2 (some (.object "com/example/corbeille/corbeille/lobster/MessageType")) :: ws) ({ frames := 0, cells := 0, slots := 0, locals := 0 } : Room)) (fun a U => a = #[(.long q1)] ∧ Z.Warmed39 U.vm ∧ U.heap = h0) (fun _ _ _ _ _ => True) (fun _ U o U' => ∃ v L, o = .returned v ∧ QN (some (.ref w_PARTIAL_CANCEL)) h0 n0 v U'.heap L ∧ FrameEnd U o U' L ({ frames := 0, cells := 0, slots := 0, locals := 0 } : Room).cells ({ frames := 0, cells := 0, slots := 0, locals := 0 } : Room).slots) := by
  refine MetFree.of_bodySF (plainFor_of_name pn_2) hisR ?_
  intro p e s m args below meth c s₁ Bd hml0 hP hK
  obtain ⟨rfl, hZ, hh⟩ := hP
  have hx := Bd.exec
  have hby := Bd.bytes
  have hml : c.maxLocals = 2 := hml0
  have hown : s.vm.findClass "com/example/corbeille/corbeille/lobster/MessageTypeOfPinLaw" = some m.cls := findClass_of_methodNamed Bd.named
  have hnm := (name_of_methodNamed Bd.named Bd.method).1
  have X0 : Stand p l e ({ frames := 0, cells := 0, slots := 0, locals := 0 } : Room) s m #[(.long q1)] below meth c s₁ [] 0 0 := Stand.of_body Bd
  have e0 : s₁.heap = h0 := by rw [← hh, Bd.state]; rfl
  have N0 := Fr.nil n0
  have pre0 : ∀ t, Steps p.tables e below (s₁.setTop (mkF m 0 #[.val (.long q1), .second] [])) t → Steps p.tables e below (s₁.setTop (entryFrame m #[(.long q1)] 2)) t := fun t k => castTop (ef_2 m q1) k
  obtain ⟨T2, X2, e2, st2⟩ := getS2 X0 hx hZ hown (host := "") (Or.inl (hw _ (List.mem_of_getElem? (i := 23) rfl))) Via.refl e0 S_PARTIAL_CANCEL (g := (mkF m 18 #[.val (.long q1), .second] [])) rfl (hb hby d2_18)
  obtain ⟨fs, hr, hrun, hended, hW, hsame⟩ := X2.leave (v := some (.ref w_PARTIAL_CANCEL)) (fun h => by rw [Bd.returns] at h; cases h)
  refine ⟨_, _, pre0 _ ?_, hrun, hended, _, _, rfl, ?_, ⟨_, rfl⟩, hW, hsame.mono (by decide) (by decide)⟩
  · show Steps p.tables e below (s₁.setTop (mkF m 0 #[.val (.long q1), .second] [])) _
    refine XS.lloadN X0.here hx rfl (hb hby d2_0) rfl ?_
    show Steps p.tables e below (s₁.setTop (mkF m 1 #[.val (.long q1), .second] [(.long q1)])) _
    refine XS.lconst X0.here hx rfl (hb hby d2_1) ?_
    show Steps p.tables e below (s₁.setTop (mkF m 2 #[.val (.long q1), .second] [(.long (1 : Int64)), (.long q1)])) _
    refine XS.lcmp X0.here hx rfl (hb hby d2_2) rfl ?_
    show Steps p.tables e below (s₁.setTop (mkF m 3 #[.val (.long q1), .second] [(.int (lcmpW q1 (1 : Int64)))])) _
    refine XS.ifYes X0.here hx rfl (pc0 := 3) (pc' := 10) rfl (hb hby d2_3) rfl ((if0 _ _).trans (feq (mt (lw_eq _ _).mp hc3)).2) (by decide) (by decide) ?_
    show Steps p.tables e below (s₁.setTop (mkF m 10 #[.val (.long q1), .second] [])) _
    refine XS.lloadN X0.here hx rfl (hb hby d2_10) rfl ?_
    show Steps p.tables e below (s₁.setTop (mkF m 11 #[.val (.long q1), .second] [(.long q1)])) _
    refine X0.ldc2J hx hown (mvT hZ (hw _ (List.mem_of_getElem? (i := 12) rfl))) (g := (mkF m 11 #[.val (.long q1), .second] [(.long q1)])) rfl (hb hby d2_11) ?_
    show Steps p.tables e below (s₁.setTop (mkF m 14 #[.val (.long q1), .second] [(.long (2 : Int64)), (.long q1)])) _
    refine XS.lcmp X0.here hx rfl (hb hby d2_14) rfl ?_
    show Steps p.tables e below (s₁.setTop (mkF m 15 #[.val (.long q1), .second] [(.int (lcmpW q1 (2 : Int64)))])) _
    refine XS.ifNo X0.here hx rfl (hb hby d2_15) rfl ((if0 _ _).trans (teq ((lw_eq _ _).mpr hc15)).2) ?_
    show Steps p.tables e below (s₁.setTop (mkF m 18 #[.val (.long q1), .second] [])) _
    refine st2 _ ?_
    show Steps p.tables e below (T2.setTop (mkF m 21 #[.val (.long q1), .second] [(.ref w_PARTIAL_CANCEL)])) _
    jvm_step X2.here [X2.here.top, hx, (hb hby d2_21), X2.method', Bd.returns, Value.isRef, FieldType.isReference]
    first | (intro acts; rw [hr _ acts rfl rfl rfl]) | rw [hr _ _ rfl rfl rfl]
    exact Steps.refl _
  · exact ⟨rfl, N0, e2⟩
theorem d2_22 : decode method_3_code 22 = .ok (.lload_n 0, 1) := by decide +kernel
theorem d2_23 : decode method_3_code 23 = .ok (.ldc2_w 31, 3) := by decide +kernel
theorem d2_26 : decode method_3_code 26 = .ok (.lcmp, 1) := by decide +kernel
theorem d2_27 : decode method_3_code 27 = .ok (.ifCond .ne 7, 3) := by decide +kernel
theorem d2_30 : decode method_3_code 30 = .ok (.getstatic 33, 3) := by decide +kernel
theorem d2_33 : decode method_3_code 33 = .ok (.areturn, 1) := by decide +kernel
set_option maxRecDepth 65536 in
set_option maxHeartbeats 40000000 in
theorem rm2_ttf (l : Launch) (Z : State) (a0 : Array Value) (hw : ∀ d ∈ tables_1, d.before a0 Z = true) (ws : List Jvm.Cond) (q1 : Int64) (w_DELETION : Addr) (h0 : Heap) (n0 : Nat) (Z0 : n0 ≤ h0.size) (hc3 : ¬ (q1 = (1 : Int64))) (hc15 : ¬ (q1 = (2 : Int64))) (hc27 : q1 = (3 : Int64)) (S_DELETION : Sta Z h0 "com/example/corbeille/corbeille/lobster/MessageType" "DELETION" "Lcom/example/corbeille/corbeille/lobster/MessageType;" (.ref w_DELETION)) :
    MetFree l (⟨"com/example/corbeille/corbeille/lobster/MessageTypeOfPinLaw", "expected", "(J)Lcom/example/corbeille/corbeille/lobster/MessageType;"⟩ : MethodName) (head1 (Jvm.Cond.code (⟨"com/example/corbeille/corbeille/lobster/MessageTypeOfPinLaw", "expected", "(J)Lcom/example/corbeille/corbeille/lobster/MessageType;"⟩ : MethodName) method_3_code 2 (some (.object "com/example/corbeille/corbeille/lobster/MessageType")) :: ws) ({ frames := 0, cells := 0, slots := 0, locals := 0 } : Room)) (fun a U => a = #[(.long q1)] ∧ Z.Warmed39 U.vm ∧ U.heap = h0) (fun _ _ _ _ _ => True) (fun _ U o U' => ∃ v L, o = .returned v ∧ QN (some (.ref w_DELETION)) h0 n0 v U'.heap L ∧ FrameEnd U o U' L ({ frames := 0, cells := 0, slots := 0, locals := 0 } : Room).cells ({ frames := 0, cells := 0, slots := 0, locals := 0 } : Room).slots) := by
  refine MetFree.of_bodySF (plainFor_of_name pn_2) hisR ?_
  intro p e s m args below meth c s₁ Bd hml0 hP hK
  obtain ⟨rfl, hZ, hh⟩ := hP
  have hx := Bd.exec
  have hby := Bd.bytes
  have hml : c.maxLocals = 2 := hml0
  have hown : s.vm.findClass "com/example/corbeille/corbeille/lobster/MessageTypeOfPinLaw" = some m.cls := findClass_of_methodNamed Bd.named
  have hnm := (name_of_methodNamed Bd.named Bd.method).1
  have X0 : Stand p l e ({ frames := 0, cells := 0, slots := 0, locals := 0 } : Room) s m #[(.long q1)] below meth c s₁ [] 0 0 := Stand.of_body Bd
  have e0 : s₁.heap = h0 := by rw [← hh, Bd.state]; rfl
  have N0 := Fr.nil n0
  have pre0 : ∀ t, Steps p.tables e below (s₁.setTop (mkF m 0 #[.val (.long q1), .second] [])) t → Steps p.tables e below (s₁.setTop (entryFrame m #[(.long q1)] 2)) t := fun t k => castTop (ef_2 m q1) k
  obtain ⟨T2, X2, e2, st2⟩ := getS2 X0 hx hZ hown (host := "") (Or.inl (hw _ (List.mem_of_getElem? (i := 14) rfl))) Via.refl e0 S_DELETION (g := (mkF m 30 #[.val (.long q1), .second] [])) rfl (hb hby d2_30)
  obtain ⟨fs, hr, hrun, hended, hW, hsame⟩ := X2.leave (v := some (.ref w_DELETION)) (fun h => by rw [Bd.returns] at h; cases h)
  refine ⟨_, _, pre0 _ ?_, hrun, hended, _, _, rfl, ?_, ⟨_, rfl⟩, hW, hsame.mono (by decide) (by decide)⟩
  · show Steps p.tables e below (s₁.setTop (mkF m 0 #[.val (.long q1), .second] [])) _
    refine XS.lloadN X0.here hx rfl (hb hby d2_0) rfl ?_
    show Steps p.tables e below (s₁.setTop (mkF m 1 #[.val (.long q1), .second] [(.long q1)])) _
    refine XS.lconst X0.here hx rfl (hb hby d2_1) ?_
    show Steps p.tables e below (s₁.setTop (mkF m 2 #[.val (.long q1), .second] [(.long (1 : Int64)), (.long q1)])) _
    refine XS.lcmp X0.here hx rfl (hb hby d2_2) rfl ?_
    show Steps p.tables e below (s₁.setTop (mkF m 3 #[.val (.long q1), .second] [(.int (lcmpW q1 (1 : Int64)))])) _
    refine XS.ifYes X0.here hx rfl (pc0 := 3) (pc' := 10) rfl (hb hby d2_3) rfl ((if0 _ _).trans (feq (mt (lw_eq _ _).mp hc3)).2) (by decide) (by decide) ?_
    show Steps p.tables e below (s₁.setTop (mkF m 10 #[.val (.long q1), .second] [])) _
    refine XS.lloadN X0.here hx rfl (hb hby d2_10) rfl ?_
    show Steps p.tables e below (s₁.setTop (mkF m 11 #[.val (.long q1), .second] [(.long q1)])) _
    refine X0.ldc2J hx hown (mvT hZ (hw _ (List.mem_of_getElem? (i := 12) rfl))) (g := (mkF m 11 #[.val (.long q1), .second] [(.long q1)])) rfl (hb hby d2_11) ?_
    show Steps p.tables e below (s₁.setTop (mkF m 14 #[.val (.long q1), .second] [(.long (2 : Int64)), (.long q1)])) _
    refine XS.lcmp X0.here hx rfl (hb hby d2_14) rfl ?_
    show Steps p.tables e below (s₁.setTop (mkF m 15 #[.val (.long q1), .second] [(.int (lcmpW q1 (2 : Int64)))])) _
    refine XS.ifYes X0.here hx rfl (pc0 := 15) (pc' := 22) rfl (hb hby d2_15) rfl ((if0 _ _).trans (feq (mt (lw_eq _ _).mp hc15)).2) (by decide) (by decide) ?_
    show Steps p.tables e below (s₁.setTop (mkF m 22 #[.val (.long q1), .second] [])) _
    refine XS.lloadN X0.here hx rfl (hb hby d2_22) rfl ?_
    show Steps p.tables e below (s₁.setTop (mkF m 23 #[.val (.long q1), .second] [(.long q1)])) _
    refine X0.ldc2J hx hown (mvT hZ (hw _ (List.mem_of_getElem? (i := 13) rfl))) (g := (mkF m 23 #[.val (.long q1), .second] [(.long q1)])) rfl (hb hby d2_23) ?_
    show Steps p.tables e below (s₁.setTop (mkF m 26 #[.val (.long q1), .second] [(.long (3 : Int64)), (.long q1)])) _
    refine XS.lcmp X0.here hx rfl (hb hby d2_26) rfl ?_
    show Steps p.tables e below (s₁.setTop (mkF m 27 #[.val (.long q1), .second] [(.int (lcmpW q1 (3 : Int64)))])) _
    refine XS.ifNo X0.here hx rfl (hb hby d2_27) rfl ((if0 _ _).trans (teq ((lw_eq _ _).mpr hc27)).2) ?_
    show Steps p.tables e below (s₁.setTop (mkF m 30 #[.val (.long q1), .second] [])) _
    refine st2 _ ?_
    show Steps p.tables e below (T2.setTop (mkF m 33 #[.val (.long q1), .second] [(.ref w_DELETION)])) _
    jvm_step X2.here [X2.here.top, hx, (hb hby d2_33), X2.method', Bd.returns, Value.isRef, FieldType.isReference]
    first | (intro acts; rw [hr _ acts rfl rfl rfl]) | rw [hr _ _ rfl rfl rfl]
    exact Steps.refl _
  · exact ⟨rfl, N0, e2⟩
theorem d2_34 : decode method_3_code 34 = .ok (.lload_n 0, 1) := by decide +kernel
theorem d2_35 : decode method_3_code 35 = .ok (.ldc2_w 36, 3) := by decide +kernel
theorem d2_38 : decode method_3_code 38 = .ok (.lcmp, 1) := by decide +kernel
theorem d2_39 : decode method_3_code 39 = .ok (.ifCond .ne 7, 3) := by decide +kernel
theorem d2_42 : decode method_3_code 42 = .ok (.getstatic 38, 3) := by decide +kernel
theorem d2_45 : decode method_3_code 45 = .ok (.areturn, 1) := by decide +kernel
set_option maxRecDepth 65536 in
set_option maxHeartbeats 40000000 in
theorem rm2_tttf (l : Launch) (Z : State) (a0 : Array Value) (hw : ∀ d ∈ tables_1, d.before a0 Z = true) (ws : List Jvm.Cond) (q1 : Int64) (w_VISIBLE_EXECUTION : Addr) (h0 : Heap) (n0 : Nat) (Z0 : n0 ≤ h0.size) (hc3 : ¬ (q1 = (1 : Int64))) (hc15 : ¬ (q1 = (2 : Int64))) (hc27 : ¬ (q1 = (3 : Int64))) (hc39 : q1 = (4 : Int64)) (S_VISIBLE_EXECUTION : Sta Z h0 "com/example/corbeille/corbeille/lobster/MessageType" "VISIBLE_EXECUTION" "Lcom/example/corbeille/corbeille/lobster/MessageType;" (.ref w_VISIBLE_EXECUTION)) :
    MetFree l (⟨"com/example/corbeille/corbeille/lobster/MessageTypeOfPinLaw", "expected", "(J)Lcom/example/corbeille/corbeille/lobster/MessageType;"⟩ : MethodName) (head1 (Jvm.Cond.code (⟨"com/example/corbeille/corbeille/lobster/MessageTypeOfPinLaw", "expected", "(J)Lcom/example/corbeille/corbeille/lobster/MessageType;"⟩ : MethodName) method_3_code 2 (some (.object "com/example/corbeille/corbeille/lobster/MessageType")) :: ws) ({ frames := 0, cells := 0, slots := 0, locals := 0 } : Room)) (fun a U => a = #[(.long q1)] ∧ Z.Warmed39 U.vm ∧ U.heap = h0) (fun _ _ _ _ _ => True) (fun _ U o U' => ∃ v L, o = .returned v ∧ QN (some (.ref w_VISIBLE_EXECUTION)) h0 n0 v U'.heap L ∧ FrameEnd U o U' L ({ frames := 0, cells := 0, slots := 0, locals := 0 } : Room).cells ({ frames := 0, cells := 0, slots := 0, locals := 0 } : Room).slots) := by
  refine MetFree.of_bodySF (plainFor_of_name pn_2) hisR ?_
  intro p e s m args below meth c s₁ Bd hml0 hP hK
  obtain ⟨rfl, hZ, hh⟩ := hP
  have hx := Bd.exec
  have hby := Bd.bytes
  have hml : c.maxLocals = 2 := hml0
  have hown : s.vm.findClass "com/example/corbeille/corbeille/lobster/MessageTypeOfPinLaw" = some m.cls := findClass_of_methodNamed Bd.named
  have hnm := (name_of_methodNamed Bd.named Bd.method).1
  have X0 : Stand p l e ({ frames := 0, cells := 0, slots := 0, locals := 0 } : Room) s m #[(.long q1)] below meth c s₁ [] 0 0 := Stand.of_body Bd
  have e0 : s₁.heap = h0 := by rw [← hh, Bd.state]; rfl
  have N0 := Fr.nil n0
  have pre0 : ∀ t, Steps p.tables e below (s₁.setTop (mkF m 0 #[.val (.long q1), .second] [])) t → Steps p.tables e below (s₁.setTop (entryFrame m #[(.long q1)] 2)) t := fun t k => castTop (ef_2 m q1) k
  obtain ⟨T2, X2, e2, st2⟩ := getS2 X0 hx hZ hown (host := "") (Or.inl (hw _ (List.mem_of_getElem? (i := 29) rfl))) Via.refl e0 S_VISIBLE_EXECUTION (g := (mkF m 42 #[.val (.long q1), .second] [])) rfl (hb hby d2_42)
  obtain ⟨fs, hr, hrun, hended, hW, hsame⟩ := X2.leave (v := some (.ref w_VISIBLE_EXECUTION)) (fun h => by rw [Bd.returns] at h; cases h)
  refine ⟨_, _, pre0 _ ?_, hrun, hended, _, _, rfl, ?_, ⟨_, rfl⟩, hW, hsame.mono (by decide) (by decide)⟩
  · show Steps p.tables e below (s₁.setTop (mkF m 0 #[.val (.long q1), .second] [])) _
    refine XS.lloadN X0.here hx rfl (hb hby d2_0) rfl ?_
    show Steps p.tables e below (s₁.setTop (mkF m 1 #[.val (.long q1), .second] [(.long q1)])) _
    refine XS.lconst X0.here hx rfl (hb hby d2_1) ?_
    show Steps p.tables e below (s₁.setTop (mkF m 2 #[.val (.long q1), .second] [(.long (1 : Int64)), (.long q1)])) _
    refine XS.lcmp X0.here hx rfl (hb hby d2_2) rfl ?_
    show Steps p.tables e below (s₁.setTop (mkF m 3 #[.val (.long q1), .second] [(.int (lcmpW q1 (1 : Int64)))])) _
    refine XS.ifYes X0.here hx rfl (pc0 := 3) (pc' := 10) rfl (hb hby d2_3) rfl ((if0 _ _).trans (feq (mt (lw_eq _ _).mp hc3)).2) (by decide) (by decide) ?_
    show Steps p.tables e below (s₁.setTop (mkF m 10 #[.val (.long q1), .second] [])) _
    refine XS.lloadN X0.here hx rfl (hb hby d2_10) rfl ?_
    show Steps p.tables e below (s₁.setTop (mkF m 11 #[.val (.long q1), .second] [(.long q1)])) _
    refine X0.ldc2J hx hown (mvT hZ (hw _ (List.mem_of_getElem? (i := 12) rfl))) (g := (mkF m 11 #[.val (.long q1), .second] [(.long q1)])) rfl (hb hby d2_11) ?_
    show Steps p.tables e below (s₁.setTop (mkF m 14 #[.val (.long q1), .second] [(.long (2 : Int64)), (.long q1)])) _
    refine XS.lcmp X0.here hx rfl (hb hby d2_14) rfl ?_
    show Steps p.tables e below (s₁.setTop (mkF m 15 #[.val (.long q1), .second] [(.int (lcmpW q1 (2 : Int64)))])) _
    refine XS.ifYes X0.here hx rfl (pc0 := 15) (pc' := 22) rfl (hb hby d2_15) rfl ((if0 _ _).trans (feq (mt (lw_eq _ _).mp hc15)).2) (by decide) (by decide) ?_
    show Steps p.tables e below (s₁.setTop (mkF m 22 #[.val (.long q1), .second] [])) _
    refine XS.lloadN X0.here hx rfl (hb hby d2_22) rfl ?_
    show Steps p.tables e below (s₁.setTop (mkF m 23 #[.val (.long q1), .second] [(.long q1)])) _
    refine X0.ldc2J hx hown (mvT hZ (hw _ (List.mem_of_getElem? (i := 13) rfl))) (g := (mkF m 23 #[.val (.long q1), .second] [(.long q1)])) rfl (hb hby d2_23) ?_
    show Steps p.tables e below (s₁.setTop (mkF m 26 #[.val (.long q1), .second] [(.long (3 : Int64)), (.long q1)])) _
    refine XS.lcmp X0.here hx rfl (hb hby d2_26) rfl ?_
    show Steps p.tables e below (s₁.setTop (mkF m 27 #[.val (.long q1), .second] [(.int (lcmpW q1 (3 : Int64)))])) _
    refine XS.ifYes X0.here hx rfl (pc0 := 27) (pc' := 34) rfl (hb hby d2_27) rfl ((if0 _ _).trans (feq (mt (lw_eq _ _).mp hc27)).2) (by decide) (by decide) ?_
    show Steps p.tables e below (s₁.setTop (mkF m 34 #[.val (.long q1), .second] [])) _
    refine XS.lloadN X0.here hx rfl (hb hby d2_34) rfl ?_
    show Steps p.tables e below (s₁.setTop (mkF m 35 #[.val (.long q1), .second] [(.long q1)])) _
    refine X0.ldc2J hx hown (mvT hZ (hw _ (List.mem_of_getElem? (i := 17) rfl))) (g := (mkF m 35 #[.val (.long q1), .second] [(.long q1)])) rfl (hb hby d2_35) ?_
    show Steps p.tables e below (s₁.setTop (mkF m 38 #[.val (.long q1), .second] [(.long (4 : Int64)), (.long q1)])) _
    refine XS.lcmp X0.here hx rfl (hb hby d2_38) rfl ?_
    show Steps p.tables e below (s₁.setTop (mkF m 39 #[.val (.long q1), .second] [(.int (lcmpW q1 (4 : Int64)))])) _
    refine XS.ifNo X0.here hx rfl (hb hby d2_39) rfl ((if0 _ _).trans (teq ((lw_eq _ _).mpr hc39)).2) ?_
    show Steps p.tables e below (s₁.setTop (mkF m 42 #[.val (.long q1), .second] [])) _
    refine st2 _ ?_
    show Steps p.tables e below (T2.setTop (mkF m 45 #[.val (.long q1), .second] [(.ref w_VISIBLE_EXECUTION)])) _
    jvm_step X2.here [X2.here.top, hx, (hb hby d2_45), X2.method', Bd.returns, Value.isRef, FieldType.isReference]
    first | (intro acts; rw [hr _ acts rfl rfl rfl]) | rw [hr _ _ rfl rfl rfl]
    exact Steps.refl _
  · exact ⟨rfl, N0, e2⟩
theorem d2_46 : decode method_3_code 46 = .ok (.lload_n 0, 1) := by decide +kernel
theorem d2_47 : decode method_3_code 47 = .ok (.ldc2_w 41, 3) := by decide +kernel
theorem d2_50 : decode method_3_code 50 = .ok (.lcmp, 1) := by decide +kernel
theorem d2_51 : decode method_3_code 51 = .ok (.ifCond .ne 7, 3) := by decide +kernel
theorem d2_54 : decode method_3_code 54 = .ok (.getstatic 43, 3) := by decide +kernel
theorem d2_57 : decode method_3_code 57 = .ok (.areturn, 1) := by decide +kernel
set_option maxRecDepth 65536 in
set_option maxHeartbeats 40000000 in
theorem rm2_ttttf (l : Launch) (Z : State) (a0 : Array Value) (hw : ∀ d ∈ tables_1, d.before a0 Z = true) (ws : List Jvm.Cond) (q1 : Int64) (w_HIDDEN_EXECUTION : Addr) (h0 : Heap) (n0 : Nat) (Z0 : n0 ≤ h0.size) (hc3 : ¬ (q1 = (1 : Int64))) (hc15 : ¬ (q1 = (2 : Int64))) (hc27 : ¬ (q1 = (3 : Int64))) (hc39 : ¬ (q1 = (4 : Int64))) (hc51 : q1 = (5 : Int64)) (S_HIDDEN_EXECUTION : Sta Z h0 "com/example/corbeille/corbeille/lobster/MessageType" "HIDDEN_EXECUTION" "Lcom/example/corbeille/corbeille/lobster/MessageType;" (.ref w_HIDDEN_EXECUTION)) :
    MetFree l (⟨"com/example/corbeille/corbeille/lobster/MessageTypeOfPinLaw", "expected", "(J)Lcom/example/corbeille/corbeille/lobster/MessageType;"⟩ : MethodName) (head1 (Jvm.Cond.code (⟨"com/example/corbeille/corbeille/lobster/MessageTypeOfPinLaw", "expected", "(J)Lcom/example/corbeille/corbeille/lobster/MessageType;"⟩ : MethodName) method_3_code 2 (some (.object "com/example/corbeille/corbeille/lobster/MessageType")) :: ws) ({ frames := 0, cells := 0, slots := 0, locals := 0 } : Room)) (fun a U => a = #[(.long q1)] ∧ Z.Warmed39 U.vm ∧ U.heap = h0) (fun _ _ _ _ _ => True) (fun _ U o U' => ∃ v L, o = .returned v ∧ QN (some (.ref w_HIDDEN_EXECUTION)) h0 n0 v U'.heap L ∧ FrameEnd U o U' L ({ frames := 0, cells := 0, slots := 0, locals := 0 } : Room).cells ({ frames := 0, cells := 0, slots := 0, locals := 0 } : Room).slots) := by
  refine MetFree.of_bodySF (plainFor_of_name pn_2) hisR ?_
  intro p e s m args below meth c s₁ Bd hml0 hP hK
  obtain ⟨rfl, hZ, hh⟩ := hP
  have hx := Bd.exec
  have hby := Bd.bytes
  have hml : c.maxLocals = 2 := hml0
  have hown : s.vm.findClass "com/example/corbeille/corbeille/lobster/MessageTypeOfPinLaw" = some m.cls := findClass_of_methodNamed Bd.named
  have hnm := (name_of_methodNamed Bd.named Bd.method).1
  have X0 : Stand p l e ({ frames := 0, cells := 0, slots := 0, locals := 0 } : Room) s m #[(.long q1)] below meth c s₁ [] 0 0 := Stand.of_body Bd
  have e0 : s₁.heap = h0 := by rw [← hh, Bd.state]; rfl
  have N0 := Fr.nil n0
  have pre0 : ∀ t, Steps p.tables e below (s₁.setTop (mkF m 0 #[.val (.long q1), .second] [])) t → Steps p.tables e below (s₁.setTop (entryFrame m #[(.long q1)] 2)) t := fun t k => castTop (ef_2 m q1) k
  obtain ⟨T2, X2, e2, st2⟩ := getS2 X0 hx hZ hown (host := "") (Or.inl (hw _ (List.mem_of_getElem? (i := 31) rfl))) Via.refl e0 S_HIDDEN_EXECUTION (g := (mkF m 54 #[.val (.long q1), .second] [])) rfl (hb hby d2_54)
  obtain ⟨fs, hr, hrun, hended, hW, hsame⟩ := X2.leave (v := some (.ref w_HIDDEN_EXECUTION)) (fun h => by rw [Bd.returns] at h; cases h)
  refine ⟨_, _, pre0 _ ?_, hrun, hended, _, _, rfl, ?_, ⟨_, rfl⟩, hW, hsame.mono (by decide) (by decide)⟩
  · show Steps p.tables e below (s₁.setTop (mkF m 0 #[.val (.long q1), .second] [])) _
    refine XS.lloadN X0.here hx rfl (hb hby d2_0) rfl ?_
    show Steps p.tables e below (s₁.setTop (mkF m 1 #[.val (.long q1), .second] [(.long q1)])) _
    refine XS.lconst X0.here hx rfl (hb hby d2_1) ?_
    show Steps p.tables e below (s₁.setTop (mkF m 2 #[.val (.long q1), .second] [(.long (1 : Int64)), (.long q1)])) _
    refine XS.lcmp X0.here hx rfl (hb hby d2_2) rfl ?_
    show Steps p.tables e below (s₁.setTop (mkF m 3 #[.val (.long q1), .second] [(.int (lcmpW q1 (1 : Int64)))])) _
    refine XS.ifYes X0.here hx rfl (pc0 := 3) (pc' := 10) rfl (hb hby d2_3) rfl ((if0 _ _).trans (feq (mt (lw_eq _ _).mp hc3)).2) (by decide) (by decide) ?_
    show Steps p.tables e below (s₁.setTop (mkF m 10 #[.val (.long q1), .second] [])) _
    refine XS.lloadN X0.here hx rfl (hb hby d2_10) rfl ?_
    show Steps p.tables e below (s₁.setTop (mkF m 11 #[.val (.long q1), .second] [(.long q1)])) _
    refine X0.ldc2J hx hown (mvT hZ (hw _ (List.mem_of_getElem? (i := 12) rfl))) (g := (mkF m 11 #[.val (.long q1), .second] [(.long q1)])) rfl (hb hby d2_11) ?_
    show Steps p.tables e below (s₁.setTop (mkF m 14 #[.val (.long q1), .second] [(.long (2 : Int64)), (.long q1)])) _
    refine XS.lcmp X0.here hx rfl (hb hby d2_14) rfl ?_
    show Steps p.tables e below (s₁.setTop (mkF m 15 #[.val (.long q1), .second] [(.int (lcmpW q1 (2 : Int64)))])) _
    refine XS.ifYes X0.here hx rfl (pc0 := 15) (pc' := 22) rfl (hb hby d2_15) rfl ((if0 _ _).trans (feq (mt (lw_eq _ _).mp hc15)).2) (by decide) (by decide) ?_
    show Steps p.tables e below (s₁.setTop (mkF m 22 #[.val (.long q1), .second] [])) _
    refine XS.lloadN X0.here hx rfl (hb hby d2_22) rfl ?_
    show Steps p.tables e below (s₁.setTop (mkF m 23 #[.val (.long q1), .second] [(.long q1)])) _
    refine X0.ldc2J hx hown (mvT hZ (hw _ (List.mem_of_getElem? (i := 13) rfl))) (g := (mkF m 23 #[.val (.long q1), .second] [(.long q1)])) rfl (hb hby d2_23) ?_
    show Steps p.tables e below (s₁.setTop (mkF m 26 #[.val (.long q1), .second] [(.long (3 : Int64)), (.long q1)])) _
    refine XS.lcmp X0.here hx rfl (hb hby d2_26) rfl ?_
    show Steps p.tables e below (s₁.setTop (mkF m 27 #[.val (.long q1), .second] [(.int (lcmpW q1 (3 : Int64)))])) _
    refine XS.ifYes X0.here hx rfl (pc0 := 27) (pc' := 34) rfl (hb hby d2_27) rfl ((if0 _ _).trans (feq (mt (lw_eq _ _).mp hc27)).2) (by decide) (by decide) ?_
    show Steps p.tables e below (s₁.setTop (mkF m 34 #[.val (.long q1), .second] [])) _
    refine XS.lloadN X0.here hx rfl (hb hby d2_34) rfl ?_
    show Steps p.tables e below (s₁.setTop (mkF m 35 #[.val (.long q1), .second] [(.long q1)])) _
    refine X0.ldc2J hx hown (mvT hZ (hw _ (List.mem_of_getElem? (i := 17) rfl))) (g := (mkF m 35 #[.val (.long q1), .second] [(.long q1)])) rfl (hb hby d2_35) ?_
    show Steps p.tables e below (s₁.setTop (mkF m 38 #[.val (.long q1), .second] [(.long (4 : Int64)), (.long q1)])) _
    refine XS.lcmp X0.here hx rfl (hb hby d2_38) rfl ?_
    show Steps p.tables e below (s₁.setTop (mkF m 39 #[.val (.long q1), .second] [(.int (lcmpW q1 (4 : Int64)))])) _
    refine XS.ifYes X0.here hx rfl (pc0 := 39) (pc' := 46) rfl (hb hby d2_39) rfl ((if0 _ _).trans (feq (mt (lw_eq _ _).mp hc39)).2) (by decide) (by decide) ?_
    show Steps p.tables e below (s₁.setTop (mkF m 46 #[.val (.long q1), .second] [])) _
    refine XS.lloadN X0.here hx rfl (hb hby d2_46) rfl ?_
    show Steps p.tables e below (s₁.setTop (mkF m 47 #[.val (.long q1), .second] [(.long q1)])) _
    refine X0.ldc2J hx hown (mvT hZ (hw _ (List.mem_of_getElem? (i := 18) rfl))) (g := (mkF m 47 #[.val (.long q1), .second] [(.long q1)])) rfl (hb hby d2_47) ?_
    show Steps p.tables e below (s₁.setTop (mkF m 50 #[.val (.long q1), .second] [(.long (5 : Int64)), (.long q1)])) _
    refine XS.lcmp X0.here hx rfl (hb hby d2_50) rfl ?_
    show Steps p.tables e below (s₁.setTop (mkF m 51 #[.val (.long q1), .second] [(.int (lcmpW q1 (5 : Int64)))])) _
    refine XS.ifNo X0.here hx rfl (hb hby d2_51) rfl ((if0 _ _).trans (teq ((lw_eq _ _).mpr hc51)).2) ?_
    show Steps p.tables e below (s₁.setTop (mkF m 54 #[.val (.long q1), .second] [])) _
    refine st2 _ ?_
    show Steps p.tables e below (T2.setTop (mkF m 57 #[.val (.long q1), .second] [(.ref w_HIDDEN_EXECUTION)])) _
    jvm_step X2.here [X2.here.top, hx, (hb hby d2_57), X2.method', Bd.returns, Value.isRef, FieldType.isReference]
    first | (intro acts; rw [hr _ acts rfl rfl rfl]) | rw [hr _ _ rfl rfl rfl]
    exact Steps.refl _
  · exact ⟨rfl, N0, e2⟩
theorem d2_58 : decode method_3_code 58 = .ok (.lload_n 0, 1) := by decide +kernel
theorem d2_59 : decode method_3_code 59 = .ok (.ldc2_w 46, 3) := by decide +kernel
theorem d2_62 : decode method_3_code 62 = .ok (.lcmp, 1) := by decide +kernel
theorem d2_63 : decode method_3_code 63 = .ok (.ifCond .ne 7, 3) := by decide +kernel
theorem d2_66 : decode method_3_code 66 = .ok (.getstatic 48, 3) := by decide +kernel
theorem d2_69 : decode method_3_code 69 = .ok (.areturn, 1) := by decide +kernel
set_option maxRecDepth 65536 in
set_option maxHeartbeats 40000000 in
theorem rm2_tttttf (l : Launch) (Z : State) (a0 : Array Value) (hw : ∀ d ∈ tables_1, d.before a0 Z = true) (ws : List Jvm.Cond) (q1 : Int64) (w_HALT : Addr) (h0 : Heap) (n0 : Nat) (Z0 : n0 ≤ h0.size) (hc3 : ¬ (q1 = (1 : Int64))) (hc15 : ¬ (q1 = (2 : Int64))) (hc27 : ¬ (q1 = (3 : Int64))) (hc39 : ¬ (q1 = (4 : Int64))) (hc51 : ¬ (q1 = (5 : Int64))) (hc63 : q1 = (7 : Int64)) (S_HALT : Sta Z h0 "com/example/corbeille/corbeille/lobster/MessageType" "HALT" "Lcom/example/corbeille/corbeille/lobster/MessageType;" (.ref w_HALT)) :
    MetFree l (⟨"com/example/corbeille/corbeille/lobster/MessageTypeOfPinLaw", "expected", "(J)Lcom/example/corbeille/corbeille/lobster/MessageType;"⟩ : MethodName) (head1 (Jvm.Cond.code (⟨"com/example/corbeille/corbeille/lobster/MessageTypeOfPinLaw", "expected", "(J)Lcom/example/corbeille/corbeille/lobster/MessageType;"⟩ : MethodName) method_3_code 2 (some (.object "com/example/corbeille/corbeille/lobster/MessageType")) :: ws) ({ frames := 0, cells := 0, slots := 0, locals := 0 } : Room)) (fun a U => a = #[(.long q1)] ∧ Z.Warmed39 U.vm ∧ U.heap = h0) (fun _ _ _ _ _ => True) (fun _ U o U' => ∃ v L, o = .returned v ∧ QN (some (.ref w_HALT)) h0 n0 v U'.heap L ∧ FrameEnd U o U' L ({ frames := 0, cells := 0, slots := 0, locals := 0 } : Room).cells ({ frames := 0, cells := 0, slots := 0, locals := 0 } : Room).slots) := by
  refine MetFree.of_bodySF (plainFor_of_name pn_2) hisR ?_
  intro p e s m args below meth c s₁ Bd hml0 hP hK
  obtain ⟨rfl, hZ, hh⟩ := hP
  have hx := Bd.exec
  have hby := Bd.bytes
  have hml : c.maxLocals = 2 := hml0
  have hown : s.vm.findClass "com/example/corbeille/corbeille/lobster/MessageTypeOfPinLaw" = some m.cls := findClass_of_methodNamed Bd.named
  have hnm := (name_of_methodNamed Bd.named Bd.method).1
  have X0 : Stand p l e ({ frames := 0, cells := 0, slots := 0, locals := 0 } : Room) s m #[(.long q1)] below meth c s₁ [] 0 0 := Stand.of_body Bd
  have e0 : s₁.heap = h0 := by rw [← hh, Bd.state]; rfl
  have N0 := Fr.nil n0
  have pre0 : ∀ t, Steps p.tables e below (s₁.setTop (mkF m 0 #[.val (.long q1), .second] [])) t → Steps p.tables e below (s₁.setTop (entryFrame m #[(.long q1)] 2)) t := fun t k => castTop (ef_2 m q1) k
  obtain ⟨T2, X2, e2, st2⟩ := getS2 X0 hx hZ hown (host := "") (Or.inl (hw _ (List.mem_of_getElem? (i := 27) rfl))) Via.refl e0 S_HALT (g := (mkF m 66 #[.val (.long q1), .second] [])) rfl (hb hby d2_66)
  obtain ⟨fs, hr, hrun, hended, hW, hsame⟩ := X2.leave (v := some (.ref w_HALT)) (fun h => by rw [Bd.returns] at h; cases h)
  refine ⟨_, _, pre0 _ ?_, hrun, hended, _, _, rfl, ?_, ⟨_, rfl⟩, hW, hsame.mono (by decide) (by decide)⟩
  · show Steps p.tables e below (s₁.setTop (mkF m 0 #[.val (.long q1), .second] [])) _
    refine XS.lloadN X0.here hx rfl (hb hby d2_0) rfl ?_
    show Steps p.tables e below (s₁.setTop (mkF m 1 #[.val (.long q1), .second] [(.long q1)])) _
    refine XS.lconst X0.here hx rfl (hb hby d2_1) ?_
    show Steps p.tables e below (s₁.setTop (mkF m 2 #[.val (.long q1), .second] [(.long (1 : Int64)), (.long q1)])) _
    refine XS.lcmp X0.here hx rfl (hb hby d2_2) rfl ?_
    show Steps p.tables e below (s₁.setTop (mkF m 3 #[.val (.long q1), .second] [(.int (lcmpW q1 (1 : Int64)))])) _
    refine XS.ifYes X0.here hx rfl (pc0 := 3) (pc' := 10) rfl (hb hby d2_3) rfl ((if0 _ _).trans (feq (mt (lw_eq _ _).mp hc3)).2) (by decide) (by decide) ?_
    show Steps p.tables e below (s₁.setTop (mkF m 10 #[.val (.long q1), .second] [])) _
    refine XS.lloadN X0.here hx rfl (hb hby d2_10) rfl ?_
    show Steps p.tables e below (s₁.setTop (mkF m 11 #[.val (.long q1), .second] [(.long q1)])) _
    refine X0.ldc2J hx hown (mvT hZ (hw _ (List.mem_of_getElem? (i := 12) rfl))) (g := (mkF m 11 #[.val (.long q1), .second] [(.long q1)])) rfl (hb hby d2_11) ?_
    show Steps p.tables e below (s₁.setTop (mkF m 14 #[.val (.long q1), .second] [(.long (2 : Int64)), (.long q1)])) _
    refine XS.lcmp X0.here hx rfl (hb hby d2_14) rfl ?_
    show Steps p.tables e below (s₁.setTop (mkF m 15 #[.val (.long q1), .second] [(.int (lcmpW q1 (2 : Int64)))])) _
    refine XS.ifYes X0.here hx rfl (pc0 := 15) (pc' := 22) rfl (hb hby d2_15) rfl ((if0 _ _).trans (feq (mt (lw_eq _ _).mp hc15)).2) (by decide) (by decide) ?_
    show Steps p.tables e below (s₁.setTop (mkF m 22 #[.val (.long q1), .second] [])) _
    refine XS.lloadN X0.here hx rfl (hb hby d2_22) rfl ?_
    show Steps p.tables e below (s₁.setTop (mkF m 23 #[.val (.long q1), .second] [(.long q1)])) _
    refine X0.ldc2J hx hown (mvT hZ (hw _ (List.mem_of_getElem? (i := 13) rfl))) (g := (mkF m 23 #[.val (.long q1), .second] [(.long q1)])) rfl (hb hby d2_23) ?_
    show Steps p.tables e below (s₁.setTop (mkF m 26 #[.val (.long q1), .second] [(.long (3 : Int64)), (.long q1)])) _
    refine XS.lcmp X0.here hx rfl (hb hby d2_26) rfl ?_
    show Steps p.tables e below (s₁.setTop (mkF m 27 #[.val (.long q1), .second] [(.int (lcmpW q1 (3 : Int64)))])) _
    refine XS.ifYes X0.here hx rfl (pc0 := 27) (pc' := 34) rfl (hb hby d2_27) rfl ((if0 _ _).trans (feq (mt (lw_eq _ _).mp hc27)).2) (by decide) (by decide) ?_
    show Steps p.tables e below (s₁.setTop (mkF m 34 #[.val (.long q1), .second] [])) _
    refine XS.lloadN X0.here hx rfl (hb hby d2_34) rfl ?_
    show Steps p.tables e below (s₁.setTop (mkF m 35 #[.val (.long q1), .second] [(.long q1)])) _
    refine X0.ldc2J hx hown (mvT hZ (hw _ (List.mem_of_getElem? (i := 17) rfl))) (g := (mkF m 35 #[.val (.long q1), .second] [(.long q1)])) rfl (hb hby d2_35) ?_
    show Steps p.tables e below (s₁.setTop (mkF m 38 #[.val (.long q1), .second] [(.long (4 : Int64)), (.long q1)])) _
    refine XS.lcmp X0.here hx rfl (hb hby d2_38) rfl ?_
    show Steps p.tables e below (s₁.setTop (mkF m 39 #[.val (.long q1), .second] [(.int (lcmpW q1 (4 : Int64)))])) _
    refine XS.ifYes X0.here hx rfl (pc0 := 39) (pc' := 46) rfl (hb hby d2_39) rfl ((if0 _ _).trans (feq (mt (lw_eq _ _).mp hc39)).2) (by decide) (by decide) ?_
    show Steps p.tables e below (s₁.setTop (mkF m 46 #[.val (.long q1), .second] [])) _
    refine XS.lloadN X0.here hx rfl (hb hby d2_46) rfl ?_
    show Steps p.tables e below (s₁.setTop (mkF m 47 #[.val (.long q1), .second] [(.long q1)])) _
    refine X0.ldc2J hx hown (mvT hZ (hw _ (List.mem_of_getElem? (i := 18) rfl))) (g := (mkF m 47 #[.val (.long q1), .second] [(.long q1)])) rfl (hb hby d2_47) ?_
    show Steps p.tables e below (s₁.setTop (mkF m 50 #[.val (.long q1), .second] [(.long (5 : Int64)), (.long q1)])) _
    refine XS.lcmp X0.here hx rfl (hb hby d2_50) rfl ?_
    show Steps p.tables e below (s₁.setTop (mkF m 51 #[.val (.long q1), .second] [(.int (lcmpW q1 (5 : Int64)))])) _
    refine XS.ifYes X0.here hx rfl (pc0 := 51) (pc' := 58) rfl (hb hby d2_51) rfl ((if0 _ _).trans (feq (mt (lw_eq _ _).mp hc51)).2) (by decide) (by decide) ?_
    show Steps p.tables e below (s₁.setTop (mkF m 58 #[.val (.long q1), .second] [])) _
    refine XS.lloadN X0.here hx rfl (hb hby d2_58) rfl ?_
    show Steps p.tables e below (s₁.setTop (mkF m 59 #[.val (.long q1), .second] [(.long q1)])) _
    refine X0.ldc2J hx hown (mvT hZ (hw _ (List.mem_of_getElem? (i := 19) rfl))) (g := (mkF m 59 #[.val (.long q1), .second] [(.long q1)])) rfl (hb hby d2_59) ?_
    show Steps p.tables e below (s₁.setTop (mkF m 62 #[.val (.long q1), .second] [(.long (7 : Int64)), (.long q1)])) _
    refine XS.lcmp X0.here hx rfl (hb hby d2_62) rfl ?_
    show Steps p.tables e below (s₁.setTop (mkF m 63 #[.val (.long q1), .second] [(.int (lcmpW q1 (7 : Int64)))])) _
    refine XS.ifNo X0.here hx rfl (hb hby d2_63) rfl ((if0 _ _).trans (teq ((lw_eq _ _).mpr hc63)).2) ?_
    show Steps p.tables e below (s₁.setTop (mkF m 66 #[.val (.long q1), .second] [])) _
    refine st2 _ ?_
    show Steps p.tables e below (T2.setTop (mkF m 69 #[.val (.long q1), .second] [(.ref w_HALT)])) _
    jvm_step X2.here [X2.here.top, hx, (hb hby d2_69), X2.method', Bd.returns, Value.isRef, FieldType.isReference]
    first | (intro acts; rw [hr _ acts rfl rfl rfl]) | rw [hr _ _ rfl rfl rfl]
    exact Steps.refl _
  · exact ⟨rfl, N0, e2⟩
theorem d2_70 : decode method_3_code 70 = .ok (.getstatic 51, 3) := by decide +kernel
theorem d2_73 : decode method_3_code 73 = .ok (.areturn, 1) := by decide +kernel
set_option maxRecDepth 65536 in
set_option maxHeartbeats 40000000 in
theorem rm2_tttttt (l : Launch) (Z : State) (a0 : Array Value) (hw : ∀ d ∈ tables_1, d.before a0 Z = true) (ws : List Jvm.Cond) (q1 : Int64) (w_OTHER : Addr) (h0 : Heap) (n0 : Nat) (Z0 : n0 ≤ h0.size) (hc3 : ¬ (q1 = (1 : Int64))) (hc15 : ¬ (q1 = (2 : Int64))) (hc27 : ¬ (q1 = (3 : Int64))) (hc39 : ¬ (q1 = (4 : Int64))) (hc51 : ¬ (q1 = (5 : Int64))) (hc63 : ¬ (q1 = (7 : Int64))) (S_OTHER : Sta Z h0 "com/example/corbeille/corbeille/lobster/MessageType" "OTHER" "Lcom/example/corbeille/corbeille/lobster/MessageType;" (.ref w_OTHER)) :
    MetFree l (⟨"com/example/corbeille/corbeille/lobster/MessageTypeOfPinLaw", "expected", "(J)Lcom/example/corbeille/corbeille/lobster/MessageType;"⟩ : MethodName) (head1 (Jvm.Cond.code (⟨"com/example/corbeille/corbeille/lobster/MessageTypeOfPinLaw", "expected", "(J)Lcom/example/corbeille/corbeille/lobster/MessageType;"⟩ : MethodName) method_3_code 2 (some (.object "com/example/corbeille/corbeille/lobster/MessageType")) :: ws) ({ frames := 0, cells := 0, slots := 0, locals := 0 } : Room)) (fun a U => a = #[(.long q1)] ∧ Z.Warmed39 U.vm ∧ U.heap = h0) (fun _ _ _ _ _ => True) (fun _ U o U' => ∃ v L, o = .returned v ∧ QN (some (.ref w_OTHER)) h0 n0 v U'.heap L ∧ FrameEnd U o U' L ({ frames := 0, cells := 0, slots := 0, locals := 0 } : Room).cells ({ frames := 0, cells := 0, slots := 0, locals := 0 } : Room).slots) := by
  refine MetFree.of_bodySF (plainFor_of_name pn_2) hisR ?_
  intro p e s m args below meth c s₁ Bd hml0 hP hK
  obtain ⟨rfl, hZ, hh⟩ := hP
  have hx := Bd.exec
  have hby := Bd.bytes
  have hml : c.maxLocals = 2 := hml0
  have hown : s.vm.findClass "com/example/corbeille/corbeille/lobster/MessageTypeOfPinLaw" = some m.cls := findClass_of_methodNamed Bd.named
  have hnm := (name_of_methodNamed Bd.named Bd.method).1
  have X0 : Stand p l e ({ frames := 0, cells := 0, slots := 0, locals := 0 } : Room) s m #[(.long q1)] below meth c s₁ [] 0 0 := Stand.of_body Bd
  have e0 : s₁.heap = h0 := by rw [← hh, Bd.state]; rfl
  have N0 := Fr.nil n0
  have pre0 : ∀ t, Steps p.tables e below (s₁.setTop (mkF m 0 #[.val (.long q1), .second] [])) t → Steps p.tables e below (s₁.setTop (entryFrame m #[(.long q1)] 2)) t := fun t k => castTop (ef_2 m q1) k
  obtain ⟨T2, X2, e2, st2⟩ := getS2 X0 hx hZ hown (host := "") (Or.inl (hw _ (List.mem_of_getElem? (i := 20) rfl))) Via.refl e0 S_OTHER (g := (mkF m 70 #[.val (.long q1), .second] [])) rfl (hb hby d2_70)
  obtain ⟨fs, hr, hrun, hended, hW, hsame⟩ := X2.leave (v := some (.ref w_OTHER)) (fun h => by rw [Bd.returns] at h; cases h)
  refine ⟨_, _, pre0 _ ?_, hrun, hended, _, _, rfl, ?_, ⟨_, rfl⟩, hW, hsame.mono (by decide) (by decide)⟩
  · show Steps p.tables e below (s₁.setTop (mkF m 0 #[.val (.long q1), .second] [])) _
    refine XS.lloadN X0.here hx rfl (hb hby d2_0) rfl ?_
    show Steps p.tables e below (s₁.setTop (mkF m 1 #[.val (.long q1), .second] [(.long q1)])) _
    refine XS.lconst X0.here hx rfl (hb hby d2_1) ?_
    show Steps p.tables e below (s₁.setTop (mkF m 2 #[.val (.long q1), .second] [(.long (1 : Int64)), (.long q1)])) _
    refine XS.lcmp X0.here hx rfl (hb hby d2_2) rfl ?_
    show Steps p.tables e below (s₁.setTop (mkF m 3 #[.val (.long q1), .second] [(.int (lcmpW q1 (1 : Int64)))])) _
    refine XS.ifYes X0.here hx rfl (pc0 := 3) (pc' := 10) rfl (hb hby d2_3) rfl ((if0 _ _).trans (feq (mt (lw_eq _ _).mp hc3)).2) (by decide) (by decide) ?_
    show Steps p.tables e below (s₁.setTop (mkF m 10 #[.val (.long q1), .second] [])) _
    refine XS.lloadN X0.here hx rfl (hb hby d2_10) rfl ?_
    show Steps p.tables e below (s₁.setTop (mkF m 11 #[.val (.long q1), .second] [(.long q1)])) _
    refine X0.ldc2J hx hown (mvT hZ (hw _ (List.mem_of_getElem? (i := 12) rfl))) (g := (mkF m 11 #[.val (.long q1), .second] [(.long q1)])) rfl (hb hby d2_11) ?_
    show Steps p.tables e below (s₁.setTop (mkF m 14 #[.val (.long q1), .second] [(.long (2 : Int64)), (.long q1)])) _
    refine XS.lcmp X0.here hx rfl (hb hby d2_14) rfl ?_
    show Steps p.tables e below (s₁.setTop (mkF m 15 #[.val (.long q1), .second] [(.int (lcmpW q1 (2 : Int64)))])) _
    refine XS.ifYes X0.here hx rfl (pc0 := 15) (pc' := 22) rfl (hb hby d2_15) rfl ((if0 _ _).trans (feq (mt (lw_eq _ _).mp hc15)).2) (by decide) (by decide) ?_
    show Steps p.tables e below (s₁.setTop (mkF m 22 #[.val (.long q1), .second] [])) _
    refine XS.lloadN X0.here hx rfl (hb hby d2_22) rfl ?_
    show Steps p.tables e below (s₁.setTop (mkF m 23 #[.val (.long q1), .second] [(.long q1)])) _
    refine X0.ldc2J hx hown (mvT hZ (hw _ (List.mem_of_getElem? (i := 13) rfl))) (g := (mkF m 23 #[.val (.long q1), .second] [(.long q1)])) rfl (hb hby d2_23) ?_
    show Steps p.tables e below (s₁.setTop (mkF m 26 #[.val (.long q1), .second] [(.long (3 : Int64)), (.long q1)])) _
    refine XS.lcmp X0.here hx rfl (hb hby d2_26) rfl ?_
    show Steps p.tables e below (s₁.setTop (mkF m 27 #[.val (.long q1), .second] [(.int (lcmpW q1 (3 : Int64)))])) _
    refine XS.ifYes X0.here hx rfl (pc0 := 27) (pc' := 34) rfl (hb hby d2_27) rfl ((if0 _ _).trans (feq (mt (lw_eq _ _).mp hc27)).2) (by decide) (by decide) ?_
    show Steps p.tables e below (s₁.setTop (mkF m 34 #[.val (.long q1), .second] [])) _
    refine XS.lloadN X0.here hx rfl (hb hby d2_34) rfl ?_
    show Steps p.tables e below (s₁.setTop (mkF m 35 #[.val (.long q1), .second] [(.long q1)])) _
    refine X0.ldc2J hx hown (mvT hZ (hw _ (List.mem_of_getElem? (i := 17) rfl))) (g := (mkF m 35 #[.val (.long q1), .second] [(.long q1)])) rfl (hb hby d2_35) ?_
    show Steps p.tables e below (s₁.setTop (mkF m 38 #[.val (.long q1), .second] [(.long (4 : Int64)), (.long q1)])) _
    refine XS.lcmp X0.here hx rfl (hb hby d2_38) rfl ?_
    show Steps p.tables e below (s₁.setTop (mkF m 39 #[.val (.long q1), .second] [(.int (lcmpW q1 (4 : Int64)))])) _
    refine XS.ifYes X0.here hx rfl (pc0 := 39) (pc' := 46) rfl (hb hby d2_39) rfl ((if0 _ _).trans (feq (mt (lw_eq _ _).mp hc39)).2) (by decide) (by decide) ?_
    show Steps p.tables e below (s₁.setTop (mkF m 46 #[.val (.long q1), .second] [])) _
    refine XS.lloadN X0.here hx rfl (hb hby d2_46) rfl ?_
    show Steps p.tables e below (s₁.setTop (mkF m 47 #[.val (.long q1), .second] [(.long q1)])) _
    refine X0.ldc2J hx hown (mvT hZ (hw _ (List.mem_of_getElem? (i := 18) rfl))) (g := (mkF m 47 #[.val (.long q1), .second] [(.long q1)])) rfl (hb hby d2_47) ?_
    show Steps p.tables e below (s₁.setTop (mkF m 50 #[.val (.long q1), .second] [(.long (5 : Int64)), (.long q1)])) _
    refine XS.lcmp X0.here hx rfl (hb hby d2_50) rfl ?_
    show Steps p.tables e below (s₁.setTop (mkF m 51 #[.val (.long q1), .second] [(.int (lcmpW q1 (5 : Int64)))])) _
    refine XS.ifYes X0.here hx rfl (pc0 := 51) (pc' := 58) rfl (hb hby d2_51) rfl ((if0 _ _).trans (feq (mt (lw_eq _ _).mp hc51)).2) (by decide) (by decide) ?_
    show Steps p.tables e below (s₁.setTop (mkF m 58 #[.val (.long q1), .second] [])) _
    refine XS.lloadN X0.here hx rfl (hb hby d2_58) rfl ?_
    show Steps p.tables e below (s₁.setTop (mkF m 59 #[.val (.long q1), .second] [(.long q1)])) _
    refine X0.ldc2J hx hown (mvT hZ (hw _ (List.mem_of_getElem? (i := 19) rfl))) (g := (mkF m 59 #[.val (.long q1), .second] [(.long q1)])) rfl (hb hby d2_59) ?_
    show Steps p.tables e below (s₁.setTop (mkF m 62 #[.val (.long q1), .second] [(.long (7 : Int64)), (.long q1)])) _
    refine XS.lcmp X0.here hx rfl (hb hby d2_62) rfl ?_
    show Steps p.tables e below (s₁.setTop (mkF m 63 #[.val (.long q1), .second] [(.int (lcmpW q1 (7 : Int64)))])) _
    refine XS.ifYes X0.here hx rfl (pc0 := 63) (pc' := 70) rfl (hb hby d2_63) rfl ((if0 _ _).trans (feq (mt (lw_eq _ _).mp hc63)).2) (by decide) (by decide) ?_
    show Steps p.tables e below (s₁.setTop (mkF m 70 #[.val (.long q1), .second] [])) _
    refine st2 _ ?_
    show Steps p.tables e below (T2.setTop (mkF m 73 #[.val (.long q1), .second] [(.ref w_OTHER)])) _
    jvm_step X2.here [X2.here.top, hx, (hb hby d2_73), X2.method', Bd.returns, Value.isRef, FieldType.isReference]
    first | (intro acts; rw [hr _ acts rfl rfl rfl]) | rw [hr _ _ rfl rfl rfl]
    exact Steps.refl _
  · exact ⟨rfl, N0, e2⟩
theorem rm2U (l : Launch) (Z : State) (a0 : Array Value) (hw : ∀ d ∈ tables_1, d.before a0 Z = true) (ws : List Jvm.Cond) (q1 : Int64) (w_NEW_ORDER : Addr) (w_PARTIAL_CANCEL : Addr) (w_DELETION : Addr) (w_VISIBLE_EXECUTION : Addr) (w_HIDDEN_EXECUTION : Addr) (w_HALT : Addr) (w_OTHER : Addr) (h0 : Heap) (n0 : Nat) (Z0 : n0 ≤ h0.size) (S_NEW_ORDER : Sta Z h0 "com/example/corbeille/corbeille/lobster/MessageType" "NEW_ORDER" "Lcom/example/corbeille/corbeille/lobster/MessageType;" (.ref w_NEW_ORDER)) (S_PARTIAL_CANCEL : Sta Z h0 "com/example/corbeille/corbeille/lobster/MessageType" "PARTIAL_CANCEL" "Lcom/example/corbeille/corbeille/lobster/MessageType;" (.ref w_PARTIAL_CANCEL)) (S_DELETION : Sta Z h0 "com/example/corbeille/corbeille/lobster/MessageType" "DELETION" "Lcom/example/corbeille/corbeille/lobster/MessageType;" (.ref w_DELETION)) (S_VISIBLE_EXECUTION : Sta Z h0 "com/example/corbeille/corbeille/lobster/MessageType" "VISIBLE_EXECUTION" "Lcom/example/corbeille/corbeille/lobster/MessageType;" (.ref w_VISIBLE_EXECUTION)) (S_HIDDEN_EXECUTION : Sta Z h0 "com/example/corbeille/corbeille/lobster/MessageType" "HIDDEN_EXECUTION" "Lcom/example/corbeille/corbeille/lobster/MessageType;" (.ref w_HIDDEN_EXECUTION)) (S_HALT : Sta Z h0 "com/example/corbeille/corbeille/lobster/MessageType" "HALT" "Lcom/example/corbeille/corbeille/lobster/MessageType;" (.ref w_HALT)) (S_OTHER : Sta Z h0 "com/example/corbeille/corbeille/lobster/MessageType" "OTHER" "Lcom/example/corbeille/corbeille/lobster/MessageType;" (.ref w_OTHER)) :
    MetFree l (⟨"com/example/corbeille/corbeille/lobster/MessageTypeOfPinLaw", "expected", "(J)Lcom/example/corbeille/corbeille/lobster/MessageType;"⟩ : MethodName) (head1 (Jvm.Cond.code (⟨"com/example/corbeille/corbeille/lobster/MessageTypeOfPinLaw", "expected", "(J)Lcom/example/corbeille/corbeille/lobster/MessageType;"⟩ : MethodName) method_3_code 2 (some (.object "com/example/corbeille/corbeille/lobster/MessageType")) :: ws) ({ frames := 0, cells := 0, slots := 0, locals := 0 } : Room)) (fun a U => a = #[(.long q1)] ∧ Z.Warmed39 U.vm ∧ U.heap = h0) (fun _ _ _ _ _ => True) (fun _ U o U' => ∃ v L, o = .returned v ∧ QN (some (.ref (own_exp q1 w_NEW_ORDER w_PARTIAL_CANCEL w_DELETION w_VISIBLE_EXECUTION w_HIDDEN_EXECUTION w_HALT w_OTHER))) h0 n0 v U'.heap L ∧ FrameEnd U o U' L ({ frames := 0, cells := 0, slots := 0, locals := 0 } : Room).cells ({ frames := 0, cells := 0, slots := 0, locals := 0 } : Room).slots) := by
  by_cases k1 : q1 = (1 : Int64)
  · have hv : own_exp q1 w_NEW_ORDER w_PARTIAL_CANCEL w_DELETION w_VISIBLE_EXECUTION w_HIDDEN_EXECUTION w_HALT w_OTHER = w_NEW_ORDER := by subst k1; rfl
    rw [hv]
    exact rm2_f l Z a0 hw ws q1 w_NEW_ORDER h0 n0 Z0 k1 S_NEW_ORDER
  by_cases k2 : q1 = (2 : Int64)
  · have hv : own_exp q1 w_NEW_ORDER w_PARTIAL_CANCEL w_DELETION w_VISIBLE_EXECUTION w_HIDDEN_EXECUTION w_HALT w_OTHER = w_PARTIAL_CANCEL := by subst k2; rfl
    rw [hv]
    exact rm2_tf l Z a0 hw ws q1 w_PARTIAL_CANCEL h0 n0 Z0 k1 k2 S_PARTIAL_CANCEL
  by_cases k3 : q1 = (3 : Int64)
  · have hv : own_exp q1 w_NEW_ORDER w_PARTIAL_CANCEL w_DELETION w_VISIBLE_EXECUTION w_HIDDEN_EXECUTION w_HALT w_OTHER = w_DELETION := by subst k3; rfl
    rw [hv]
    exact rm2_ttf l Z a0 hw ws q1 w_DELETION h0 n0 Z0 k1 k2 k3 S_DELETION
  by_cases k4 : q1 = (4 : Int64)
  · have hv : own_exp q1 w_NEW_ORDER w_PARTIAL_CANCEL w_DELETION w_VISIBLE_EXECUTION w_HIDDEN_EXECUTION w_HALT w_OTHER = w_VISIBLE_EXECUTION := by subst k4; rfl
    rw [hv]
    exact rm2_tttf l Z a0 hw ws q1 w_VISIBLE_EXECUTION h0 n0 Z0 k1 k2 k3 k4 S_VISIBLE_EXECUTION
  by_cases k5 : q1 = (5 : Int64)
  · have hv : own_exp q1 w_NEW_ORDER w_PARTIAL_CANCEL w_DELETION w_VISIBLE_EXECUTION w_HIDDEN_EXECUTION w_HALT w_OTHER = w_HIDDEN_EXECUTION := by subst k5; rfl
    rw [hv]
    exact rm2_ttttf l Z a0 hw ws q1 w_HIDDEN_EXECUTION h0 n0 Z0 k1 k2 k3 k4 k5 S_HIDDEN_EXECUTION
  by_cases k7 : q1 = (7 : Int64)
  · have hv : own_exp q1 w_NEW_ORDER w_PARTIAL_CANCEL w_DELETION w_VISIBLE_EXECUTION w_HIDDEN_EXECUTION w_HALT w_OTHER = w_HALT := by subst k7; rfl
    rw [hv]
    exact rm2_tttttf l Z a0 hw ws q1 w_HALT h0 n0 Z0 k1 k2 k3 k4 k5 k7 S_HALT
  rw [own_exp_o k1 k2 k3 k4 k5 k7]
  exact rm2_tttttt l Z a0 hw ws q1 w_OTHER h0 n0 Z0 k1 k2 k3 k4 k5 k7 S_OTHER
theorem rm1U (l : Launch) (Z : State) (a0 : Array Value) (hw : ∀ d ∈ tables_1, d.before a0 Z = true) (ws : List Jvm.Cond) (q1 : Int64) (w_NEW_ORDER : Addr) (w_PARTIAL_CANCEL : Addr) (w_DELETION : Addr) (w_VISIBLE_EXECUTION : Addr) (w_HIDDEN_EXECUTION : Addr) (w_HALT : Addr) (w_OTHER : Addr) (w_BY_NUMBER : Addr) (cl_w_BY_NUMBER : Cell) (h0 : Heap) (n0 : Nat) (Z0 : n0 ≤ h0.size) (S_NEW_ORDER : Sta Z h0 "com/example/corbeille/corbeille/lobster/MessageType" "NEW_ORDER" "Lcom/example/corbeille/corbeille/lobster/MessageType;" (.ref w_NEW_ORDER)) (S_PARTIAL_CANCEL : Sta Z h0 "com/example/corbeille/corbeille/lobster/MessageType" "PARTIAL_CANCEL" "Lcom/example/corbeille/corbeille/lobster/MessageType;" (.ref w_PARTIAL_CANCEL)) (S_DELETION : Sta Z h0 "com/example/corbeille/corbeille/lobster/MessageType" "DELETION" "Lcom/example/corbeille/corbeille/lobster/MessageType;" (.ref w_DELETION)) (S_VISIBLE_EXECUTION : Sta Z h0 "com/example/corbeille/corbeille/lobster/MessageType" "VISIBLE_EXECUTION" "Lcom/example/corbeille/corbeille/lobster/MessageType;" (.ref w_VISIBLE_EXECUTION)) (S_HIDDEN_EXECUTION : Sta Z h0 "com/example/corbeille/corbeille/lobster/MessageType" "HIDDEN_EXECUTION" "Lcom/example/corbeille/corbeille/lobster/MessageType;" (.ref w_HIDDEN_EXECUTION)) (S_HALT : Sta Z h0 "com/example/corbeille/corbeille/lobster/MessageType" "HALT" "Lcom/example/corbeille/corbeille/lobster/MessageType;" (.ref w_HALT)) (S_OTHER : Sta Z h0 "com/example/corbeille/corbeille/lobster/MessageType" "OTHER" "Lcom/example/corbeille/corbeille/lobster/MessageType;" (.ref w_OTHER)) (S_BY_NUMBER : Sta Z h0 "com/example/corbeille/corbeille/lobster/MessageType" "BY_NUMBER" "[Lcom/example/corbeille/corbeille/lobster/MessageType;" (.ref w_BY_NUMBER)) (Ar_w_BY_NUMBER : Arr Z h0 w_BY_NUMBER cl_w_BY_NUMBER (.object "com/example/corbeille/corbeille/lobster/MessageType")) (Sz : cl_w_BY_NUMBER.slots.size = 8) (el0 : cl_w_BY_NUMBER.slots[0]? = some (.ref w_OTHER)) (el1 : cl_w_BY_NUMBER.slots[1]? = some (.ref w_NEW_ORDER)) (el2 : cl_w_BY_NUMBER.slots[2]? = some (.ref w_PARTIAL_CANCEL)) (el3 : cl_w_BY_NUMBER.slots[3]? = some (.ref w_DELETION)) (el4 : cl_w_BY_NUMBER.slots[4]? = some (.ref w_VISIBLE_EXECUTION)) (el5 : cl_w_BY_NUMBER.slots[5]? = some (.ref w_HIDDEN_EXECUTION)) (el6 : cl_w_BY_NUMBER.slots[6]? = some (.ref w_OTHER)) (el7 : cl_w_BY_NUMBER.slots[7]? = some (.ref w_HALT)) :
    MetFree l (⟨"com/example/corbeille/corbeille/lobster/MessageType", "of", "(J)Lcom/example/corbeille/corbeille/lobster/MessageType;"⟩ : MethodName) (head1 (Jvm.Cond.code (⟨"com/example/corbeille/corbeille/lobster/MessageType", "of", "(J)Lcom/example/corbeille/corbeille/lobster/MessageType;"⟩ : MethodName) prog_35_method_4_code 2 (some (.object "com/example/corbeille/corbeille/lobster/MessageType")) :: ws) ({ frames := 0, cells := 0, slots := 0, locals := 0 } : Room)) (fun a U => a = #[(.long q1)] ∧ Z.Warmed39 U.vm ∧ U.heap = h0) (fun _ _ _ _ _ => True) (fun _ U o U' => ∃ v L, o = .returned v ∧ QN (some (.ref (own_exp q1 w_NEW_ORDER w_PARTIAL_CANCEL w_DELETION w_VISIBLE_EXECUTION w_HIDDEN_EXECUTION w_HALT w_OTHER))) h0 n0 v U'.heap L ∧ FrameEnd U o U' L ({ frames := 0, cells := 0, slots := 0, locals := 0 } : Room).cells ({ frames := 0, cells := 0, slots := 0, locals := 0 } : Room).slots) := by
  have l8 : ((8 : Int32).toInt64) = (8 : Int64) := by decide
  by_cases kn : q1 < (0 : Int64)
  · have hi := Int64.lt_iff_toInt_lt.mp kn
    rw [show (0 : Int64).toInt = 0 from rfl] at hi
    have hv : own_exp q1 w_NEW_ORDER w_PARTIAL_CANCEL w_DELETION w_VISIBLE_EXECUTION w_HIDDEN_EXECUTION w_HALT w_OTHER = w_OTHER := own_exp_o (own_neL (by rw [show (1 : Int64).toInt = 1 from rfl]; omega)) (own_neL (by rw [show (2 : Int64).toInt = 2 from rfl]; omega)) (own_neL (by rw [show (3 : Int64).toInt = 3 from rfl]; omega)) (own_neL (by rw [show (4 : Int64).toInt = 4 from rfl]; omega)) (own_neL (by rw [show (5 : Int64).toInt = 5 from rfl]; omega)) (own_neL (by rw [show (7 : Int64).toInt = 7 from rfl]; omega))
    rw [hv]
    exact rm1_t l Z a0 hw ws q1 w_OTHER h0 n0 Z0 kn S_OTHER
  have hp : 0 ≤ q1.toInt := by have := mt Int64.lt_iff_toInt_lt.mpr kn; rw [show (0 : Int64).toInt = 0 from rfl] at this; omega
  by_cases kb : q1 < (8 : Int64)
  · have hi := Int64.lt_iff_toInt_lt.mp kb
    rw [show (8 : Int64).toInt = 8 from rfl] at hi
    by_cases k0 : q1.toInt = 0
    · obtain rfl : q1 = (0 : Int64) := own_eqL (by rw [k0]; rfl)
      have hv : own_exp (0 : Int64) w_NEW_ORDER w_PARTIAL_CANCEL w_DELETION w_VISIBLE_EXECUTION w_HIDDEN_EXECUTION w_HALT w_OTHER = w_OTHER := rfl
      rw [hv]
      have hz : ((0 : Int64).toInt32).toNatClampNeg = 0 := by decide
      exact rm1_ff l Z a0 hw ws (0 : Int64) w_BY_NUMBER cl_w_BY_NUMBER (8 : Int32) w_OTHER h0 n0 Z0 kn S_BY_NUMBER Ar_w_BY_NUMBER Sz (by decide) (by rw [l8]; exact kb) (by rw [hz, Sz]; decide) (by rw [hz]; exact el0)
    by_cases k1 : q1.toInt = 1
    · obtain rfl : q1 = (1 : Int64) := own_eqL (by rw [k1]; rfl)
      have hv : own_exp (1 : Int64) w_NEW_ORDER w_PARTIAL_CANCEL w_DELETION w_VISIBLE_EXECUTION w_HIDDEN_EXECUTION w_HALT w_OTHER = w_NEW_ORDER := rfl
      rw [hv]
      have hz : ((1 : Int64).toInt32).toNatClampNeg = 1 := by decide
      exact rm1_ff l Z a0 hw ws (1 : Int64) w_BY_NUMBER cl_w_BY_NUMBER (8 : Int32) w_NEW_ORDER h0 n0 Z0 kn S_BY_NUMBER Ar_w_BY_NUMBER Sz (by decide) (by rw [l8]; exact kb) (by rw [hz, Sz]; decide) (by rw [hz]; exact el1)
    by_cases k2 : q1.toInt = 2
    · obtain rfl : q1 = (2 : Int64) := own_eqL (by rw [k2]; rfl)
      have hv : own_exp (2 : Int64) w_NEW_ORDER w_PARTIAL_CANCEL w_DELETION w_VISIBLE_EXECUTION w_HIDDEN_EXECUTION w_HALT w_OTHER = w_PARTIAL_CANCEL := rfl
      rw [hv]
      have hz : ((2 : Int64).toInt32).toNatClampNeg = 2 := by decide
      exact rm1_ff l Z a0 hw ws (2 : Int64) w_BY_NUMBER cl_w_BY_NUMBER (8 : Int32) w_PARTIAL_CANCEL h0 n0 Z0 kn S_BY_NUMBER Ar_w_BY_NUMBER Sz (by decide) (by rw [l8]; exact kb) (by rw [hz, Sz]; decide) (by rw [hz]; exact el2)
    by_cases k3 : q1.toInt = 3
    · obtain rfl : q1 = (3 : Int64) := own_eqL (by rw [k3]; rfl)
      have hv : own_exp (3 : Int64) w_NEW_ORDER w_PARTIAL_CANCEL w_DELETION w_VISIBLE_EXECUTION w_HIDDEN_EXECUTION w_HALT w_OTHER = w_DELETION := rfl
      rw [hv]
      have hz : ((3 : Int64).toInt32).toNatClampNeg = 3 := by decide
      exact rm1_ff l Z a0 hw ws (3 : Int64) w_BY_NUMBER cl_w_BY_NUMBER (8 : Int32) w_DELETION h0 n0 Z0 kn S_BY_NUMBER Ar_w_BY_NUMBER Sz (by decide) (by rw [l8]; exact kb) (by rw [hz, Sz]; decide) (by rw [hz]; exact el3)
    by_cases k4 : q1.toInt = 4
    · obtain rfl : q1 = (4 : Int64) := own_eqL (by rw [k4]; rfl)
      have hv : own_exp (4 : Int64) w_NEW_ORDER w_PARTIAL_CANCEL w_DELETION w_VISIBLE_EXECUTION w_HIDDEN_EXECUTION w_HALT w_OTHER = w_VISIBLE_EXECUTION := rfl
      rw [hv]
      have hz : ((4 : Int64).toInt32).toNatClampNeg = 4 := by decide
      exact rm1_ff l Z a0 hw ws (4 : Int64) w_BY_NUMBER cl_w_BY_NUMBER (8 : Int32) w_VISIBLE_EXECUTION h0 n0 Z0 kn S_BY_NUMBER Ar_w_BY_NUMBER Sz (by decide) (by rw [l8]; exact kb) (by rw [hz, Sz]; decide) (by rw [hz]; exact el4)
    by_cases k5 : q1.toInt = 5
    · obtain rfl : q1 = (5 : Int64) := own_eqL (by rw [k5]; rfl)
      have hv : own_exp (5 : Int64) w_NEW_ORDER w_PARTIAL_CANCEL w_DELETION w_VISIBLE_EXECUTION w_HIDDEN_EXECUTION w_HALT w_OTHER = w_HIDDEN_EXECUTION := rfl
      rw [hv]
      have hz : ((5 : Int64).toInt32).toNatClampNeg = 5 := by decide
      exact rm1_ff l Z a0 hw ws (5 : Int64) w_BY_NUMBER cl_w_BY_NUMBER (8 : Int32) w_HIDDEN_EXECUTION h0 n0 Z0 kn S_BY_NUMBER Ar_w_BY_NUMBER Sz (by decide) (by rw [l8]; exact kb) (by rw [hz, Sz]; decide) (by rw [hz]; exact el5)
    by_cases k6 : q1.toInt = 6
    · obtain rfl : q1 = (6 : Int64) := own_eqL (by rw [k6]; rfl)
      have hv : own_exp (6 : Int64) w_NEW_ORDER w_PARTIAL_CANCEL w_DELETION w_VISIBLE_EXECUTION w_HIDDEN_EXECUTION w_HALT w_OTHER = w_OTHER := rfl
      rw [hv]
      have hz : ((6 : Int64).toInt32).toNatClampNeg = 6 := by decide
      exact rm1_ff l Z a0 hw ws (6 : Int64) w_BY_NUMBER cl_w_BY_NUMBER (8 : Int32) w_OTHER h0 n0 Z0 kn S_BY_NUMBER Ar_w_BY_NUMBER Sz (by decide) (by rw [l8]; exact kb) (by rw [hz, Sz]; decide) (by rw [hz]; exact el6)
    by_cases k7 : q1.toInt = 7
    · obtain rfl : q1 = (7 : Int64) := own_eqL (by rw [k7]; rfl)
      have hv : own_exp (7 : Int64) w_NEW_ORDER w_PARTIAL_CANCEL w_DELETION w_VISIBLE_EXECUTION w_HIDDEN_EXECUTION w_HALT w_OTHER = w_HALT := rfl
      rw [hv]
      have hz : ((7 : Int64).toInt32).toNatClampNeg = 7 := by decide
      exact rm1_ff l Z a0 hw ws (7 : Int64) w_BY_NUMBER cl_w_BY_NUMBER (8 : Int32) w_HALT h0 n0 Z0 kn S_BY_NUMBER Ar_w_BY_NUMBER Sz (by decide) (by rw [l8]; exact kb) (by rw [hz, Sz]; decide) (by rw [hz]; exact el7)
    · exfalso; omega
  · have hi := mt Int64.lt_iff_toInt_lt.mpr kb
    rw [show (8 : Int64).toInt = 8 from rfl] at hi
    have hv : own_exp q1 w_NEW_ORDER w_PARTIAL_CANCEL w_DELETION w_VISIBLE_EXECUTION w_HIDDEN_EXECUTION w_HALT w_OTHER = w_OTHER := own_exp_o (own_neL (by rw [show (1 : Int64).toInt = 1 from rfl]; omega)) (own_neL (by rw [show (2 : Int64).toInt = 2 from rfl]; omega)) (own_neL (by rw [show (3 : Int64).toInt = 3 from rfl]; omega)) (own_neL (by rw [show (4 : Int64).toInt = 4 from rfl]; omega)) (own_neL (by rw [show (5 : Int64).toInt = 5 from rfl]; omega)) (own_neL (by rw [show (7 : Int64).toInt = 7 from rfl]; omega))
    rw [hv]
    exact rm1_ft l Z a0 hw ws q1 w_BY_NUMBER cl_w_BY_NUMBER (8 : Int32) w_OTHER h0 n0 Z0 kn S_BY_NUMBER Ar_w_BY_NUMBER Sz (by decide) (by rw [l8]; exact kb) S_OTHER
theorem pd_0 : parseMethodDescriptor "(J)Lcom/example/corbeille/corbeille/lobster/MessageType;" = some ⟨[.long], some (.object "com/example/corbeille/corbeille/lobster/MessageType")⟩ := by decide +kernel
theorem pn_0 : plainName "com/example/corbeille/corbeille/lobster/MessageTypeOfPinLaw" = true := by first | (simp [plainName, overriddenIn]; done) | decide +kernel
theorem ef_0 (m : MethodId) (x0 : Int64) (x1 : Int32) : entryFrame m #[(.long x0), (.int x1)] maxLocals = mkF m 0 #[.val (.long x0), .second, .val (.int x1), .unset, .unset, .unset] [] := by first | (simp [entryFrame, mkF, argsToLocals, Value.category, maxLocals]; done) | rfl
set_option maxRecDepth 65536 in
set_option maxHeartbeats 40000000 in
theorem rm0_0 (l : Launch) (Z : State) (a0 : Array Value) (hw : ∀ d ∈ tables_1, d.before a0 Z = true) (ws : List Jvm.Cond) (q1 : Int64) (p2 : Int32) (k : Int32) (w_NEW_ORDER : Addr) (w_PARTIAL_CANCEL : Addr) (w_DELETION : Addr) (w_VISIBLE_EXECUTION : Addr) (w_HIDDEN_EXECUTION : Addr) (w_HALT : Addr) (w_OTHER : Addr) (w_BY_NUMBER : Addr) (cl_w_BY_NUMBER : Cell) (h0 : Heap) (n0 : Nat) (Z0 : n0 ≤ h0.size) (hn_k : (p2 &&& (3 : Int32)) = k) (hc5 : k = (0 : Int32)) (S_NEW_ORDER : Sta Z h0 "com/example/corbeille/corbeille/lobster/MessageType" "NEW_ORDER" "Lcom/example/corbeille/corbeille/lobster/MessageType;" (.ref w_NEW_ORDER)) (S_PARTIAL_CANCEL : Sta Z h0 "com/example/corbeille/corbeille/lobster/MessageType" "PARTIAL_CANCEL" "Lcom/example/corbeille/corbeille/lobster/MessageType;" (.ref w_PARTIAL_CANCEL)) (S_DELETION : Sta Z h0 "com/example/corbeille/corbeille/lobster/MessageType" "DELETION" "Lcom/example/corbeille/corbeille/lobster/MessageType;" (.ref w_DELETION)) (S_VISIBLE_EXECUTION : Sta Z h0 "com/example/corbeille/corbeille/lobster/MessageType" "VISIBLE_EXECUTION" "Lcom/example/corbeille/corbeille/lobster/MessageType;" (.ref w_VISIBLE_EXECUTION)) (S_HIDDEN_EXECUTION : Sta Z h0 "com/example/corbeille/corbeille/lobster/MessageType" "HIDDEN_EXECUTION" "Lcom/example/corbeille/corbeille/lobster/MessageType;" (.ref w_HIDDEN_EXECUTION)) (S_HALT : Sta Z h0 "com/example/corbeille/corbeille/lobster/MessageType" "HALT" "Lcom/example/corbeille/corbeille/lobster/MessageType;" (.ref w_HALT)) (S_OTHER : Sta Z h0 "com/example/corbeille/corbeille/lobster/MessageType" "OTHER" "Lcom/example/corbeille/corbeille/lobster/MessageType;" (.ref w_OTHER)) (S_BY_NUMBER : Sta Z h0 "com/example/corbeille/corbeille/lobster/MessageType" "BY_NUMBER" "[Lcom/example/corbeille/corbeille/lobster/MessageType;" (.ref w_BY_NUMBER)) (Ar_w_BY_NUMBER : Arr Z h0 w_BY_NUMBER cl_w_BY_NUMBER (.object "com/example/corbeille/corbeille/lobster/MessageType")) (Sz_c3 : cl_w_BY_NUMBER.slots.size = 8) (el0_c3 : cl_w_BY_NUMBER.slots[0]? = some (.ref w_OTHER)) (el1_c3 : cl_w_BY_NUMBER.slots[1]? = some (.ref w_NEW_ORDER)) (el2_c3 : cl_w_BY_NUMBER.slots[2]? = some (.ref w_PARTIAL_CANCEL)) (el3_c3 : cl_w_BY_NUMBER.slots[3]? = some (.ref w_DELETION)) (el4_c3 : cl_w_BY_NUMBER.slots[4]? = some (.ref w_VISIBLE_EXECUTION)) (el5_c3 : cl_w_BY_NUMBER.slots[5]? = some (.ref w_HIDDEN_EXECUTION)) (el6_c3 : cl_w_BY_NUMBER.slots[6]? = some (.ref w_OTHER)) (el7_c3 : cl_w_BY_NUMBER.slots[7]? = some (.ref w_HALT)) :
    MetFree l x (head1 (Jvm.Cond.code x code maxLocals ret :: ws) room_1) (fun a U => a = #[(.long q1), (.int p2)] ∧ Z.Warmed39 U.vm ∧ U.heap = h0) (fun _ _ _ _ _ => True) (fun _ U o U' => ∃ v L, o = .returned v ∧ QN (some (.int (1 : Int32))) h0 n0 v U'.heap L ∧ FrameEnd U o U' L room_1.cells room_1.slots) := by
  refine MetFree.of_bodySF (plainFor_of_name pn_0) hisR ?_
  intro p e s m args below meth c s₁ Bd hml0 hP hK
  obtain ⟨rfl, hZ, hh⟩ := hP
  have hx := Bd.exec
  have hby := Bd.bytes
  have hml : c.maxLocals = 6 := hml0
  have hown : s.vm.findClass "com/example/corbeille/corbeille/lobster/MessageTypeOfPinLaw" = some m.cls := findClass_of_methodNamed Bd.named
  have hnm := (name_of_methodNamed Bd.named Bd.method).1
  have X0 : Stand p l e room_1 s m #[(.long q1), (.int p2)] below meth c s₁ [] 0 0 := Stand.of_body Bd
  have e0 : s₁.heap = h0 := by rw [← hh, Bd.state]; rfl
  have N0 := Fr.nil n0
  have pre0 : ∀ t, Steps p.tables e below (s₁.setTop (mkF m 0 #[.val (.long q1), .second, .val (.int p2), .unset, .unset, .unset] [])) t → Steps p.tables e below (s₁.setTop (entryFrame m #[(.long q1), (.int p2)] maxLocals)) t := fun t k => castTop (ef_0 m q1 p2) k
  obtain ⟨_, _, ⟨T3, L3, k3, n3⟩, -, X3, ⟨Lc3, hQ3, l3, y3, z3⟩, st3⟩ := Jvm.LawKit.callS X0 hx (y := (⟨"com/example/corbeille/corbeille/lobster/MessageType", "of", "(J)Lcom/example/corbeille/corbeille/lobster/MessageType;"⟩ : MethodName)) hown (mvT hZ (hw _ (List.mem_of_getElem? (i := 1) rfl))) (mvT hZ (hw _ (List.mem_of_getElem? (i := 2) rfl))) (mvT hZ (hw _ (List.mem_of_getElem? (i := 3) rfl))) (mvT hZ (hw _ (List.mem_of_getElem? (i := 4) rfl))) (by decide) (backOf (W := 0) (rm1U l Z a0 hw [] q1 w_NEW_ORDER w_PARTIAL_CANCEL w_DELETION w_VISIBLE_EXECUTION w_HIDDEN_EXECUTION w_HALT w_OTHER w_BY_NUMBER cl_w_BY_NUMBER h0 n0 Z0 S_NEW_ORDER S_PARTIAL_CANCEL S_DELETION S_VISIBLE_EXECUTION S_HIDDEN_EXECUTION S_HALT S_OTHER S_BY_NUMBER Ar_w_BY_NUMBER Sz_c3 el0_c3 el1_c3 el2_c3 el3_c3 el4_c3 el5_c3 el6_c3 el7_c3) hZ (hw _ (List.mem_of_getElem? (i := 4) rfl)) (hw _ (List.mem_of_getElem? (i := 3) rfl)) (by decide) (by decide)) (g := (mkF m 61 #[.val (.long q1), .second, .val (.int p2), .val (.int k), .val (.long q1), .second] [(.long q1)])) rfl (by rw [hml]; rfl) (argsL := [(.long q1)]) (rest := []) (lenOf pd_0 rfl) rfl (by show 2 * 0 + _ ≤ _; exact Nat.le_of_eq rfl) (hb hby at_61) (fun _ _ => ⟨rfl, e0, (by decide : 0 + 0 ≤ _), (by decide : 0 + 0 ≤ _)⟩)
  dsimp only [Pt.U, Pt.locs, Pt.cells, Pt.slots] at X3 l3 y3 z3 st3 hQ3
  subst l3 y3 z3
  obtain ⟨rfl, N3q, e3⟩ := hQ3
  have N3 := Fr.app N0 N3q
  obtain ⟨_, _, ⟨T4, L4, k4, n4⟩, -, X4, ⟨Lc4, hQ4, l4, y4, z4⟩, st4⟩ := Jvm.LawKit.callS X3 hx (y := (⟨"com/example/corbeille/corbeille/lobster/MessageTypeOfPinLaw", "expected", "(J)Lcom/example/corbeille/corbeille/lobster/MessageType;"⟩ : MethodName)) hown (mvT hZ (hw _ (List.mem_of_getElem? (i := 8) rfl))) (mvT hZ (hw _ (List.mem_of_getElem? (i := 9) rfl))) (mvT hZ (hw _ (List.mem_of_getElem? (i := 10) rfl))) (mvT hZ (hw _ (List.mem_of_getElem? (i := 11) rfl))) (by decide) (backOf (W := 1) (rm2U l Z a0 hw [] q1 w_NEW_ORDER w_PARTIAL_CANCEL w_DELETION w_VISIBLE_EXECUTION w_HIDDEN_EXECUTION w_HALT w_OTHER h0 n0 Z0 S_NEW_ORDER S_PARTIAL_CANCEL S_DELETION S_VISIBLE_EXECUTION S_HIDDEN_EXECUTION S_HALT S_OTHER) hZ (hw _ (List.mem_of_getElem? (i := 11) rfl)) (hw _ (List.mem_of_getElem? (i := 10) rfl)) (by decide) (by decide)) (g := (mkF m 66 #[.val (.long q1), .second, .val (.int p2), .val (.int k), .val (.long q1), .second] [(.long q1), (.ref (own_exp q1 w_NEW_ORDER w_PARTIAL_CANCEL w_DELETION w_VISIBLE_EXECUTION w_HIDDEN_EXECUTION w_HALT w_OTHER))])) rfl (by rw [hml]; rfl) (argsL := [(.long q1)]) (rest := [(.ref (own_exp q1 w_NEW_ORDER w_PARTIAL_CANCEL w_DELETION w_VISIBLE_EXECUTION w_HIDDEN_EXECUTION w_HALT w_OTHER))]) (lenOf pd_0 rfl) rfl (by show 2 * 0 + _ ≤ _; exact Nat.le_of_eq rfl) (hb hby at_66) (fun _ _ => ⟨rfl, e3, (by decide : 0 + 0 ≤ _), (by decide : 0 + 0 ≤ _)⟩)
  dsimp only [Pt.U, Pt.locs, Pt.cells, Pt.slots] at X4 l4 y4 z4 st4 hQ4
  subst l4 y4 z4
  obtain ⟨rfl, N4q, e4⟩ := hQ4
  have N4 := Fr.app N3 N4q
  obtain ⟨fs, hr, hrun, hended, hW, hsame⟩ := X4.leave (v := some (.int (1 : Int32))) (fun h => by rw [Bd.returns] at h; cases h)
  refine ⟨_, _, pre0 _ ?_, hrun, hended, _, _, rfl, ?_, ⟨_, rfl⟩, hW, hsame.mono (by decide) (by decide)⟩
  · show Steps p.tables e below (s₁.setTop (mkF m 0 #[.val (.long q1), .second, .val (.int p2), .unset, .unset, .unset] [])) _
    refine XS.iloadN X0.here hx rfl (hb hby at_0) rfl ?_
    show Steps p.tables e below (s₁.setTop (mkF m 1 #[.val (.long q1), .second, .val (.int p2), .unset, .unset, .unset] [(.int p2)])) _
    refine XS.iconst X0.here hx rfl (hb hby at_1) ?_
    show Steps p.tables e below (s₁.setTop (mkF m 2 #[.val (.long q1), .second, .val (.int p2), .unset, .unset, .unset] [(.int (3 : Int32)), (.int p2)])) _
    refine XS.iand X0.here hx rfl (hb hby at_2) rfl ?_
    rw [hn_k]
    show Steps p.tables e below (s₁.setTop (mkF m 3 #[.val (.long q1), .second, .val (.int p2), .unset, .unset, .unset] [(.int k)])) _
    refine XS.istoreN X0.here hx rfl (hb hby at_3) rfl (l' := #[.val (.long q1), .second, .val (.int p2), .val (.int k), .unset, .unset]) rfl ?_
    show Steps p.tables e below (s₁.setTop (mkF m 4 #[.val (.long q1), .second, .val (.int p2), .val (.int k), .unset, .unset] [])) _
    refine XS.iloadN X0.here hx rfl (hb hby at_4) rfl ?_
    show Steps p.tables e below (s₁.setTop (mkF m 5 #[.val (.long q1), .second, .val (.int p2), .val (.int k), .unset, .unset] [(.int k)])) _
    refine XS.ifNo X0.here hx rfl (hb hby at_5) rfl ((if0 _ _).trans (teq hc5).2) ?_
    show Steps p.tables e below (s₁.setTop (mkF m 8 #[.val (.long q1), .second, .val (.int p2), .val (.int k), .unset, .unset] [])) _
    refine XS.lloadN X0.here hx rfl (hb hby at_8) rfl ?_
    show Steps p.tables e below (s₁.setTop (mkF m 9 #[.val (.long q1), .second, .val (.int p2), .val (.int k), .unset, .unset] [(.long q1)])) _
    refine XS.lstore X0.here hx rfl (hb hby at_9) rfl (l' := #[.val (.long q1), .second, .val (.int p2), .val (.int k), .val (.long q1), .second]) rfl ?_
    show Steps p.tables e below (s₁.setTop (mkF m 11 #[.val (.long q1), .second, .val (.int p2), .val (.int k), .val (.long q1), .second] [])) _
    refine XS.goto X0.here hx rfl (pc0 := 11) (pc' := 59) rfl (hb hby at_11) (by decide) (by decide) ?_
    show Steps p.tables e below (s₁.setTop (mkF m 59 #[.val (.long q1), .second, .val (.int p2), .val (.int k), .val (.long q1), .second] [])) _
    refine XS.lload X0.here hx rfl (hb hby at_59) rfl ?_
    show Steps p.tables e below (s₁.setTop (mkF m 61 #[.val (.long q1), .second, .val (.int p2), .val (.int k), .val (.long q1), .second] [(.long q1)])) _
    refine st3 _ ?_
    show Steps p.tables e below (T3.setTop (mkF m 64 #[.val (.long q1), .second, .val (.int p2), .val (.int k), .val (.long q1), .second] [(.ref (own_exp q1 w_NEW_ORDER w_PARTIAL_CANCEL w_DELETION w_VISIBLE_EXECUTION w_HIDDEN_EXECUTION w_HALT w_OTHER))])) _
    refine XS.lload X3.here hx rfl (hb hby at_64) rfl ?_
    show Steps p.tables e below (T3.setTop (mkF m 66 #[.val (.long q1), .second, .val (.int p2), .val (.int k), .val (.long q1), .second] [(.long q1), (.ref (own_exp q1 w_NEW_ORDER w_PARTIAL_CANCEL w_DELETION w_VISIBLE_EXECUTION w_HIDDEN_EXECUTION w_HALT w_OTHER))])) _
    refine st4 _ ?_
    show Steps p.tables e below (T4.setTop (mkF m 69 #[.val (.long q1), .second, .val (.int p2), .val (.int k), .val (.long q1), .second] [(.ref (own_exp q1 w_NEW_ORDER w_PARTIAL_CANCEL w_DELETION w_VISIBLE_EXECUTION w_HIDDEN_EXECUTION w_HALT w_OTHER)), (.ref (own_exp q1 w_NEW_ORDER w_PARTIAL_CANCEL w_DELETION w_VISIBLE_EXECUTION w_HIDDEN_EXECUTION w_HALT w_OTHER))])) _
    refine Jvm.RoadKit.acmp (g := (mkF m 69 #[.val (.long q1), .second, .val (.int p2), .val (.int k), .val (.long q1), .second] [(.ref (own_exp q1 w_NEW_ORDER w_PARTIAL_CANCEL w_DELETION w_VISIBLE_EXECUTION w_HIDDEN_EXECUTION w_HALT w_OTHER)), (.ref (own_exp q1 w_NEW_ORDER w_PARTIAL_CANCEL w_DELETION w_VISIBLE_EXECUTION w_HIDDEN_EXECUTION w_HALT w_OTHER))])) X4 hx rfl rfl rfl (pc0 := 69) (pc' := 72) (same := true) rfl (hb hby at_69) rfl (decide_eq_true rfl) (by decide) (by decide) ?_
    show Steps p.tables e below (T4.setTop (mkF m 72 #[.val (.long q1), .second, .val (.int p2), .val (.int k), .val (.long q1), .second] [])) _
    refine XS.iconst X4.here hx rfl (hb hby at_72) ?_
    show Steps p.tables e below (T4.setTop (mkF m 73 #[.val (.long q1), .second, .val (.int p2), .val (.int k), .val (.long q1), .second] [(.int (1 : Int32))])) _
    refine XS.goto X4.here hx rfl (pc0 := 73) (pc' := 77) rfl (hb hby at_73) (by decide) (by decide) ?_
    show Steps p.tables e below (T4.setTop (mkF m 77 #[.val (.long q1), .second, .val (.int p2), .val (.int k), .val (.long q1), .second] [(.int (1 : Int32))])) _
    exact retN X4 hx (t := .boolean) Bd.returns (by simp) (hb hby at_77) hr
  · exact ⟨rfl, N4, e4⟩
set_option maxRecDepth 65536 in
set_option maxHeartbeats 40000000 in
theorem rm0_1 (l : Launch) (Z : State) (a0 : Array Value) (hw : ∀ d ∈ tables_1, d.before a0 Z = true) (ws : List Jvm.Cond) (q1 : Int64) (p2 : Int32) (k : Int32) (w_NEW_ORDER : Addr) (w_PARTIAL_CANCEL : Addr) (w_DELETION : Addr) (w_VISIBLE_EXECUTION : Addr) (w_HIDDEN_EXECUTION : Addr) (w_HALT : Addr) (w_OTHER : Addr) (w_BY_NUMBER : Addr) (cl_w_BY_NUMBER : Cell) (h0 : Heap) (n0 : Nat) (Z0 : n0 ≤ h0.size) (hn_k : (p2 &&& (3 : Int32)) = k) (hc5 : ¬ (k = (0 : Int32))) (hc16 : k = (1 : Int32)) (S_NEW_ORDER : Sta Z h0 "com/example/corbeille/corbeille/lobster/MessageType" "NEW_ORDER" "Lcom/example/corbeille/corbeille/lobster/MessageType;" (.ref w_NEW_ORDER)) (S_PARTIAL_CANCEL : Sta Z h0 "com/example/corbeille/corbeille/lobster/MessageType" "PARTIAL_CANCEL" "Lcom/example/corbeille/corbeille/lobster/MessageType;" (.ref w_PARTIAL_CANCEL)) (S_DELETION : Sta Z h0 "com/example/corbeille/corbeille/lobster/MessageType" "DELETION" "Lcom/example/corbeille/corbeille/lobster/MessageType;" (.ref w_DELETION)) (S_VISIBLE_EXECUTION : Sta Z h0 "com/example/corbeille/corbeille/lobster/MessageType" "VISIBLE_EXECUTION" "Lcom/example/corbeille/corbeille/lobster/MessageType;" (.ref w_VISIBLE_EXECUTION)) (S_HIDDEN_EXECUTION : Sta Z h0 "com/example/corbeille/corbeille/lobster/MessageType" "HIDDEN_EXECUTION" "Lcom/example/corbeille/corbeille/lobster/MessageType;" (.ref w_HIDDEN_EXECUTION)) (S_HALT : Sta Z h0 "com/example/corbeille/corbeille/lobster/MessageType" "HALT" "Lcom/example/corbeille/corbeille/lobster/MessageType;" (.ref w_HALT)) (S_OTHER : Sta Z h0 "com/example/corbeille/corbeille/lobster/MessageType" "OTHER" "Lcom/example/corbeille/corbeille/lobster/MessageType;" (.ref w_OTHER)) (S_BY_NUMBER : Sta Z h0 "com/example/corbeille/corbeille/lobster/MessageType" "BY_NUMBER" "[Lcom/example/corbeille/corbeille/lobster/MessageType;" (.ref w_BY_NUMBER)) (Ar_w_BY_NUMBER : Arr Z h0 w_BY_NUMBER cl_w_BY_NUMBER (.object "com/example/corbeille/corbeille/lobster/MessageType")) (Sz_c3 : cl_w_BY_NUMBER.slots.size = 8) (el0_c3 : cl_w_BY_NUMBER.slots[0]? = some (.ref w_OTHER)) (el1_c3 : cl_w_BY_NUMBER.slots[1]? = some (.ref w_NEW_ORDER)) (el2_c3 : cl_w_BY_NUMBER.slots[2]? = some (.ref w_PARTIAL_CANCEL)) (el3_c3 : cl_w_BY_NUMBER.slots[3]? = some (.ref w_DELETION)) (el4_c3 : cl_w_BY_NUMBER.slots[4]? = some (.ref w_VISIBLE_EXECUTION)) (el5_c3 : cl_w_BY_NUMBER.slots[5]? = some (.ref w_HIDDEN_EXECUTION)) (el6_c3 : cl_w_BY_NUMBER.slots[6]? = some (.ref w_OTHER)) (el7_c3 : cl_w_BY_NUMBER.slots[7]? = some (.ref w_HALT)) :
    MetFree l x (head1 (Jvm.Cond.code x code maxLocals ret :: ws) room_1) (fun a U => a = #[(.long q1), (.int p2)] ∧ Z.Warmed39 U.vm ∧ U.heap = h0) (fun _ _ _ _ _ => True) (fun _ U o U' => ∃ v L, o = .returned v ∧ QN (some (.int (1 : Int32))) h0 n0 v U'.heap L ∧ FrameEnd U o U' L room_1.cells room_1.slots) := by
  refine MetFree.of_bodySF (plainFor_of_name pn_0) hisR ?_
  intro p e s m args below meth c s₁ Bd hml0 hP hK
  obtain ⟨rfl, hZ, hh⟩ := hP
  have hx := Bd.exec
  have hby := Bd.bytes
  have hml : c.maxLocals = 6 := hml0
  have hown : s.vm.findClass "com/example/corbeille/corbeille/lobster/MessageTypeOfPinLaw" = some m.cls := findClass_of_methodNamed Bd.named
  have hnm := (name_of_methodNamed Bd.named Bd.method).1
  have X0 : Stand p l e room_1 s m #[(.long q1), (.int p2)] below meth c s₁ [] 0 0 := Stand.of_body Bd
  have e0 : s₁.heap = h0 := by rw [← hh, Bd.state]; rfl
  have N0 := Fr.nil n0
  have pre0 : ∀ t, Steps p.tables e below (s₁.setTop (mkF m 0 #[.val (.long q1), .second, .val (.int p2), .unset, .unset, .unset] [])) t → Steps p.tables e below (s₁.setTop (entryFrame m #[(.long q1), (.int p2)] maxLocals)) t := fun t k => castTop (ef_0 m q1 p2) k
  obtain ⟨_, _, ⟨T3, L3, k3, n3⟩, -, X3, ⟨Lc3, hQ3, l3, y3, z3⟩, st3⟩ := Jvm.LawKit.callS X0 hx (y := (⟨"com/example/corbeille/corbeille/lobster/MessageType", "of", "(J)Lcom/example/corbeille/corbeille/lobster/MessageType;"⟩ : MethodName)) hown (mvT hZ (hw _ (List.mem_of_getElem? (i := 1) rfl))) (mvT hZ (hw _ (List.mem_of_getElem? (i := 2) rfl))) (mvT hZ (hw _ (List.mem_of_getElem? (i := 3) rfl))) (mvT hZ (hw _ (List.mem_of_getElem? (i := 4) rfl))) (by decide) (backOf (W := 0) (rm1U l Z a0 hw [] (q1 % (12 : Int64)) w_NEW_ORDER w_PARTIAL_CANCEL w_DELETION w_VISIBLE_EXECUTION w_HIDDEN_EXECUTION w_HALT w_OTHER w_BY_NUMBER cl_w_BY_NUMBER h0 n0 Z0 S_NEW_ORDER S_PARTIAL_CANCEL S_DELETION S_VISIBLE_EXECUTION S_HIDDEN_EXECUTION S_HALT S_OTHER S_BY_NUMBER Ar_w_BY_NUMBER Sz_c3 el0_c3 el1_c3 el2_c3 el3_c3 el4_c3 el5_c3 el6_c3 el7_c3) hZ (hw _ (List.mem_of_getElem? (i := 4) rfl)) (hw _ (List.mem_of_getElem? (i := 3) rfl)) (by decide) (by decide)) (g := (mkF m 61 #[.val (.long q1), .second, .val (.int p2), .val (.int k), .val (.long (q1 % (12 : Int64))), .second] [(.long (q1 % (12 : Int64)))])) rfl (by rw [hml]; rfl) (argsL := [(.long (q1 % (12 : Int64)))]) (rest := []) (lenOf pd_0 rfl) rfl (by show 2 * 0 + _ ≤ _; exact Nat.le_of_eq rfl) (hb hby at_61) (fun _ _ => ⟨rfl, e0, (by decide : 0 + 0 ≤ _), (by decide : 0 + 0 ≤ _)⟩)
  dsimp only [Pt.U, Pt.locs, Pt.cells, Pt.slots] at X3 l3 y3 z3 st3 hQ3
  subst l3 y3 z3
  obtain ⟨rfl, N3q, e3⟩ := hQ3
  have N3 := Fr.app N0 N3q
  obtain ⟨_, _, ⟨T4, L4, k4, n4⟩, -, X4, ⟨Lc4, hQ4, l4, y4, z4⟩, st4⟩ := Jvm.LawKit.callS X3 hx (y := (⟨"com/example/corbeille/corbeille/lobster/MessageTypeOfPinLaw", "expected", "(J)Lcom/example/corbeille/corbeille/lobster/MessageType;"⟩ : MethodName)) hown (mvT hZ (hw _ (List.mem_of_getElem? (i := 8) rfl))) (mvT hZ (hw _ (List.mem_of_getElem? (i := 9) rfl))) (mvT hZ (hw _ (List.mem_of_getElem? (i := 10) rfl))) (mvT hZ (hw _ (List.mem_of_getElem? (i := 11) rfl))) (by decide) (backOf (W := 1) (rm2U l Z a0 hw [] (q1 % (12 : Int64)) w_NEW_ORDER w_PARTIAL_CANCEL w_DELETION w_VISIBLE_EXECUTION w_HIDDEN_EXECUTION w_HALT w_OTHER h0 n0 Z0 S_NEW_ORDER S_PARTIAL_CANCEL S_DELETION S_VISIBLE_EXECUTION S_HIDDEN_EXECUTION S_HALT S_OTHER) hZ (hw _ (List.mem_of_getElem? (i := 11) rfl)) (hw _ (List.mem_of_getElem? (i := 10) rfl)) (by decide) (by decide)) (g := (mkF m 66 #[.val (.long q1), .second, .val (.int p2), .val (.int k), .val (.long (q1 % (12 : Int64))), .second] [(.long (q1 % (12 : Int64))), (.ref (own_exp (q1 % (12 : Int64)) w_NEW_ORDER w_PARTIAL_CANCEL w_DELETION w_VISIBLE_EXECUTION w_HIDDEN_EXECUTION w_HALT w_OTHER))])) rfl (by rw [hml]; rfl) (argsL := [(.long (q1 % (12 : Int64)))]) (rest := [(.ref (own_exp (q1 % (12 : Int64)) w_NEW_ORDER w_PARTIAL_CANCEL w_DELETION w_VISIBLE_EXECUTION w_HIDDEN_EXECUTION w_HALT w_OTHER))]) (lenOf pd_0 rfl) rfl (by show 2 * 0 + _ ≤ _; exact Nat.le_of_eq rfl) (hb hby at_66) (fun _ _ => ⟨rfl, e3, (by decide : 0 + 0 ≤ _), (by decide : 0 + 0 ≤ _)⟩)
  dsimp only [Pt.U, Pt.locs, Pt.cells, Pt.slots] at X4 l4 y4 z4 st4 hQ4
  subst l4 y4 z4
  obtain ⟨rfl, N4q, e4⟩ := hQ4
  have N4 := Fr.app N3 N4q
  obtain ⟨fs, hr, hrun, hended, hW, hsame⟩ := X4.leave (v := some (.int (1 : Int32))) (fun h => by rw [Bd.returns] at h; cases h)
  refine ⟨_, _, pre0 _ ?_, hrun, hended, _, _, rfl, ?_, ⟨_, rfl⟩, hW, hsame.mono (by decide) (by decide)⟩
  · show Steps p.tables e below (s₁.setTop (mkF m 0 #[.val (.long q1), .second, .val (.int p2), .unset, .unset, .unset] [])) _
    refine XS.iloadN X0.here hx rfl (hb hby at_0) rfl ?_
    show Steps p.tables e below (s₁.setTop (mkF m 1 #[.val (.long q1), .second, .val (.int p2), .unset, .unset, .unset] [(.int p2)])) _
    refine XS.iconst X0.here hx rfl (hb hby at_1) ?_
    show Steps p.tables e below (s₁.setTop (mkF m 2 #[.val (.long q1), .second, .val (.int p2), .unset, .unset, .unset] [(.int (3 : Int32)), (.int p2)])) _
    refine XS.iand X0.here hx rfl (hb hby at_2) rfl ?_
    rw [hn_k]
    show Steps p.tables e below (s₁.setTop (mkF m 3 #[.val (.long q1), .second, .val (.int p2), .unset, .unset, .unset] [(.int k)])) _
    refine XS.istoreN X0.here hx rfl (hb hby at_3) rfl (l' := #[.val (.long q1), .second, .val (.int p2), .val (.int k), .unset, .unset]) rfl ?_
    show Steps p.tables e below (s₁.setTop (mkF m 4 #[.val (.long q1), .second, .val (.int p2), .val (.int k), .unset, .unset] [])) _
    refine XS.iloadN X0.here hx rfl (hb hby at_4) rfl ?_
    show Steps p.tables e below (s₁.setTop (mkF m 5 #[.val (.long q1), .second, .val (.int p2), .val (.int k), .unset, .unset] [(.int k)])) _
    refine XS.ifYes X0.here hx rfl (pc0 := 5) (pc' := 14) rfl (hb hby at_5) rfl ((if0 _ _).trans (feq hc5).2) (by decide) (by decide) ?_
    show Steps p.tables e below (s₁.setTop (mkF m 14 #[.val (.long q1), .second, .val (.int p2), .val (.int k), .unset, .unset] [])) _
    refine XS.iloadN X0.here hx rfl (hb hby at_14) rfl ?_
    show Steps p.tables e below (s₁.setTop (mkF m 15 #[.val (.long q1), .second, .val (.int p2), .val (.int k), .unset, .unset] [(.int k)])) _
    refine XS.iconst X0.here hx rfl (hb hby at_15) ?_
    show Steps p.tables e below (s₁.setTop (mkF m 16 #[.val (.long q1), .second, .val (.int p2), .val (.int k), .unset, .unset] [(.int (1 : Int32)), (.int k)])) _
    refine XS.icmpNo X0.here hx rfl (hb hby at_16) rfl (teq hc16).2 ?_
    show Steps p.tables e below (s₁.setTop (mkF m 19 #[.val (.long q1), .second, .val (.int p2), .val (.int k), .unset, .unset] [])) _
    refine XS.lloadN X0.here hx rfl (hb hby at_19) rfl ?_
    show Steps p.tables e below (s₁.setTop (mkF m 20 #[.val (.long q1), .second, .val (.int p2), .val (.int k), .unset, .unset] [(.long q1)])) _
    refine X0.ldc2J hx hown (mvT hZ (hw _ (List.mem_of_getElem? (i := 0) rfl))) (g := (mkF m 20 #[.val (.long q1), .second, .val (.int p2), .val (.int k), .unset, .unset] [(.long q1)])) rfl (hb hby at_20) ?_
    show Steps p.tables e below (s₁.setTop (mkF m 23 #[.val (.long q1), .second, .val (.int p2), .val (.int k), .unset, .unset] [(.long (12 : Int64)), (.long q1)])) _
    refine XS.lrem X0.here hx rfl (hb hby at_23) rfl (by decide) ?_
    rw [lrem_mod]
    show Steps p.tables e below (s₁.setTop (mkF m 24 #[.val (.long q1), .second, .val (.int p2), .val (.int k), .unset, .unset] [(.long (q1 % (12 : Int64)))])) _
    refine XS.lstore X0.here hx rfl (hb hby at_24) rfl (l' := #[.val (.long q1), .second, .val (.int p2), .val (.int k), .val (.long (q1 % (12 : Int64))), .second]) rfl ?_
    show Steps p.tables e below (s₁.setTop (mkF m 26 #[.val (.long q1), .second, .val (.int p2), .val (.int k), .val (.long (q1 % (12 : Int64))), .second] [])) _
    refine XS.goto X0.here hx rfl (pc0 := 26) (pc' := 59) rfl (hb hby at_26) (by decide) (by decide) ?_
    show Steps p.tables e below (s₁.setTop (mkF m 59 #[.val (.long q1), .second, .val (.int p2), .val (.int k), .val (.long (q1 % (12 : Int64))), .second] [])) _
    refine XS.lload X0.here hx rfl (hb hby at_59) rfl ?_
    show Steps p.tables e below (s₁.setTop (mkF m 61 #[.val (.long q1), .second, .val (.int p2), .val (.int k), .val (.long (q1 % (12 : Int64))), .second] [(.long (q1 % (12 : Int64)))])) _
    refine st3 _ ?_
    show Steps p.tables e below (T3.setTop (mkF m 64 #[.val (.long q1), .second, .val (.int p2), .val (.int k), .val (.long (q1 % (12 : Int64))), .second] [(.ref (own_exp (q1 % (12 : Int64)) w_NEW_ORDER w_PARTIAL_CANCEL w_DELETION w_VISIBLE_EXECUTION w_HIDDEN_EXECUTION w_HALT w_OTHER))])) _
    refine XS.lload X3.here hx rfl (hb hby at_64) rfl ?_
    show Steps p.tables e below (T3.setTop (mkF m 66 #[.val (.long q1), .second, .val (.int p2), .val (.int k), .val (.long (q1 % (12 : Int64))), .second] [(.long (q1 % (12 : Int64))), (.ref (own_exp (q1 % (12 : Int64)) w_NEW_ORDER w_PARTIAL_CANCEL w_DELETION w_VISIBLE_EXECUTION w_HIDDEN_EXECUTION w_HALT w_OTHER))])) _
    refine st4 _ ?_
    show Steps p.tables e below (T4.setTop (mkF m 69 #[.val (.long q1), .second, .val (.int p2), .val (.int k), .val (.long (q1 % (12 : Int64))), .second] [(.ref (own_exp (q1 % (12 : Int64)) w_NEW_ORDER w_PARTIAL_CANCEL w_DELETION w_VISIBLE_EXECUTION w_HIDDEN_EXECUTION w_HALT w_OTHER)), (.ref (own_exp (q1 % (12 : Int64)) w_NEW_ORDER w_PARTIAL_CANCEL w_DELETION w_VISIBLE_EXECUTION w_HIDDEN_EXECUTION w_HALT w_OTHER))])) _
    refine Jvm.RoadKit.acmp (g := (mkF m 69 #[.val (.long q1), .second, .val (.int p2), .val (.int k), .val (.long (q1 % (12 : Int64))), .second] [(.ref (own_exp (q1 % (12 : Int64)) w_NEW_ORDER w_PARTIAL_CANCEL w_DELETION w_VISIBLE_EXECUTION w_HIDDEN_EXECUTION w_HALT w_OTHER)), (.ref (own_exp (q1 % (12 : Int64)) w_NEW_ORDER w_PARTIAL_CANCEL w_DELETION w_VISIBLE_EXECUTION w_HIDDEN_EXECUTION w_HALT w_OTHER))])) X4 hx rfl rfl rfl (pc0 := 69) (pc' := 72) (same := true) rfl (hb hby at_69) rfl (decide_eq_true rfl) (by decide) (by decide) ?_
    show Steps p.tables e below (T4.setTop (mkF m 72 #[.val (.long q1), .second, .val (.int p2), .val (.int k), .val (.long (q1 % (12 : Int64))), .second] [])) _
    refine XS.iconst X4.here hx rfl (hb hby at_72) ?_
    show Steps p.tables e below (T4.setTop (mkF m 73 #[.val (.long q1), .second, .val (.int p2), .val (.int k), .val (.long (q1 % (12 : Int64))), .second] [(.int (1 : Int32))])) _
    refine XS.goto X4.here hx rfl (pc0 := 73) (pc' := 77) rfl (hb hby at_73) (by decide) (by decide) ?_
    show Steps p.tables e below (T4.setTop (mkF m 77 #[.val (.long q1), .second, .val (.int p2), .val (.int k), .val (.long (q1 % (12 : Int64))), .second] [(.int (1 : Int32))])) _
    exact retN X4 hx (t := .boolean) Bd.returns (by simp) (hb hby at_77) hr
  · exact ⟨rfl, N4, e4⟩
set_option maxRecDepth 65536 in
set_option maxHeartbeats 40000000 in
theorem rm0_2 (l : Launch) (Z : State) (a0 : Array Value) (hw : ∀ d ∈ tables_1, d.before a0 Z = true) (ws : List Jvm.Cond) (q1 : Int64) (p2 : Int32) (k : Int32) (w_NEW_ORDER : Addr) (w_PARTIAL_CANCEL : Addr) (w_DELETION : Addr) (w_VISIBLE_EXECUTION : Addr) (w_HIDDEN_EXECUTION : Addr) (w_HALT : Addr) (w_OTHER : Addr) (w_BY_NUMBER : Addr) (cl_w_BY_NUMBER : Cell) (h0 : Heap) (n0 : Nat) (Z0 : n0 ≤ h0.size) (hn_k : (p2 &&& (3 : Int32)) = k) (hc5 : ¬ (k = (0 : Int32))) (hc16 : ¬ (k = (1 : Int32))) (hc31 : k = (2 : Int32)) (S_NEW_ORDER : Sta Z h0 "com/example/corbeille/corbeille/lobster/MessageType" "NEW_ORDER" "Lcom/example/corbeille/corbeille/lobster/MessageType;" (.ref w_NEW_ORDER)) (S_PARTIAL_CANCEL : Sta Z h0 "com/example/corbeille/corbeille/lobster/MessageType" "PARTIAL_CANCEL" "Lcom/example/corbeille/corbeille/lobster/MessageType;" (.ref w_PARTIAL_CANCEL)) (S_DELETION : Sta Z h0 "com/example/corbeille/corbeille/lobster/MessageType" "DELETION" "Lcom/example/corbeille/corbeille/lobster/MessageType;" (.ref w_DELETION)) (S_VISIBLE_EXECUTION : Sta Z h0 "com/example/corbeille/corbeille/lobster/MessageType" "VISIBLE_EXECUTION" "Lcom/example/corbeille/corbeille/lobster/MessageType;" (.ref w_VISIBLE_EXECUTION)) (S_HIDDEN_EXECUTION : Sta Z h0 "com/example/corbeille/corbeille/lobster/MessageType" "HIDDEN_EXECUTION" "Lcom/example/corbeille/corbeille/lobster/MessageType;" (.ref w_HIDDEN_EXECUTION)) (S_HALT : Sta Z h0 "com/example/corbeille/corbeille/lobster/MessageType" "HALT" "Lcom/example/corbeille/corbeille/lobster/MessageType;" (.ref w_HALT)) (S_OTHER : Sta Z h0 "com/example/corbeille/corbeille/lobster/MessageType" "OTHER" "Lcom/example/corbeille/corbeille/lobster/MessageType;" (.ref w_OTHER)) (S_BY_NUMBER : Sta Z h0 "com/example/corbeille/corbeille/lobster/MessageType" "BY_NUMBER" "[Lcom/example/corbeille/corbeille/lobster/MessageType;" (.ref w_BY_NUMBER)) (Ar_w_BY_NUMBER : Arr Z h0 w_BY_NUMBER cl_w_BY_NUMBER (.object "com/example/corbeille/corbeille/lobster/MessageType")) (Sz_c3 : cl_w_BY_NUMBER.slots.size = 8) (el0_c3 : cl_w_BY_NUMBER.slots[0]? = some (.ref w_OTHER)) (el1_c3 : cl_w_BY_NUMBER.slots[1]? = some (.ref w_NEW_ORDER)) (el2_c3 : cl_w_BY_NUMBER.slots[2]? = some (.ref w_PARTIAL_CANCEL)) (el3_c3 : cl_w_BY_NUMBER.slots[3]? = some (.ref w_DELETION)) (el4_c3 : cl_w_BY_NUMBER.slots[4]? = some (.ref w_VISIBLE_EXECUTION)) (el5_c3 : cl_w_BY_NUMBER.slots[5]? = some (.ref w_HIDDEN_EXECUTION)) (el6_c3 : cl_w_BY_NUMBER.slots[6]? = some (.ref w_OTHER)) (el7_c3 : cl_w_BY_NUMBER.slots[7]? = some (.ref w_HALT)) :
    MetFree l x (head1 (Jvm.Cond.code x code maxLocals ret :: ws) room_1) (fun a U => a = #[(.long q1), (.int p2)] ∧ Z.Warmed39 U.vm ∧ U.heap = h0) (fun _ _ _ _ _ => True) (fun _ U o U' => ∃ v L, o = .returned v ∧ QN (some (.int (1 : Int32))) h0 n0 v U'.heap L ∧ FrameEnd U o U' L room_1.cells room_1.slots) := by
  refine MetFree.of_bodySF (plainFor_of_name pn_0) hisR ?_
  intro p e s m args below meth c s₁ Bd hml0 hP hK
  obtain ⟨rfl, hZ, hh⟩ := hP
  have hx := Bd.exec
  have hby := Bd.bytes
  have hml : c.maxLocals = 6 := hml0
  have hown : s.vm.findClass "com/example/corbeille/corbeille/lobster/MessageTypeOfPinLaw" = some m.cls := findClass_of_methodNamed Bd.named
  have hnm := (name_of_methodNamed Bd.named Bd.method).1
  have X0 : Stand p l e room_1 s m #[(.long q1), (.int p2)] below meth c s₁ [] 0 0 := Stand.of_body Bd
  have e0 : s₁.heap = h0 := by rw [← hh, Bd.state]; rfl
  have N0 := Fr.nil n0
  have pre0 : ∀ t, Steps p.tables e below (s₁.setTop (mkF m 0 #[.val (.long q1), .second, .val (.int p2), .unset, .unset, .unset] [])) t → Steps p.tables e below (s₁.setTop (entryFrame m #[(.long q1), (.int p2)] maxLocals)) t := fun t k => castTop (ef_0 m q1 p2) k
  obtain ⟨_, _, ⟨T3, L3, k3, n3⟩, -, X3, ⟨Lc3, hQ3, l3, y3, z3⟩, st3⟩ := Jvm.LawKit.callS X0 hx (y := (⟨"com/example/corbeille/corbeille/lobster/MessageType", "of", "(J)Lcom/example/corbeille/corbeille/lobster/MessageType;"⟩ : MethodName)) hown (mvT hZ (hw _ (List.mem_of_getElem? (i := 1) rfl))) (mvT hZ (hw _ (List.mem_of_getElem? (i := 2) rfl))) (mvT hZ (hw _ (List.mem_of_getElem? (i := 3) rfl))) (mvT hZ (hw _ (List.mem_of_getElem? (i := 4) rfl))) (by decide) (backOf (W := 0) (rm1U l Z a0 hw [] ((q1 % (12 : Int64)) + (((p2 >>> ((2 : Int32) &&& 31)).toInt64) <<< ((32 : Int32) &&& 0x3f).toInt64)) w_NEW_ORDER w_PARTIAL_CANCEL w_DELETION w_VISIBLE_EXECUTION w_HIDDEN_EXECUTION w_HALT w_OTHER w_BY_NUMBER cl_w_BY_NUMBER h0 n0 Z0 S_NEW_ORDER S_PARTIAL_CANCEL S_DELETION S_VISIBLE_EXECUTION S_HIDDEN_EXECUTION S_HALT S_OTHER S_BY_NUMBER Ar_w_BY_NUMBER Sz_c3 el0_c3 el1_c3 el2_c3 el3_c3 el4_c3 el5_c3 el6_c3 el7_c3) hZ (hw _ (List.mem_of_getElem? (i := 4) rfl)) (hw _ (List.mem_of_getElem? (i := 3) rfl)) (by decide) (by decide)) (g := (mkF m 61 #[.val (.long q1), .second, .val (.int p2), .val (.int k), .val (.long ((q1 % (12 : Int64)) + (((p2 >>> ((2 : Int32) &&& 31)).toInt64) <<< ((32 : Int32) &&& 0x3f).toInt64))), .second] [(.long ((q1 % (12 : Int64)) + (((p2 >>> ((2 : Int32) &&& 31)).toInt64) <<< ((32 : Int32) &&& 0x3f).toInt64)))])) rfl (by rw [hml]; rfl) (argsL := [(.long ((q1 % (12 : Int64)) + (((p2 >>> ((2 : Int32) &&& 31)).toInt64) <<< ((32 : Int32) &&& 0x3f).toInt64)))]) (rest := []) (lenOf pd_0 rfl) rfl (by show 2 * 0 + _ ≤ _; exact Nat.le_of_eq rfl) (hb hby at_61) (fun _ _ => ⟨rfl, e0, (by decide : 0 + 0 ≤ _), (by decide : 0 + 0 ≤ _)⟩)
  dsimp only [Pt.U, Pt.locs, Pt.cells, Pt.slots] at X3 l3 y3 z3 st3 hQ3
  subst l3 y3 z3
  obtain ⟨rfl, N3q, e3⟩ := hQ3
  have N3 := Fr.app N0 N3q
  obtain ⟨_, _, ⟨T4, L4, k4, n4⟩, -, X4, ⟨Lc4, hQ4, l4, y4, z4⟩, st4⟩ := Jvm.LawKit.callS X3 hx (y := (⟨"com/example/corbeille/corbeille/lobster/MessageTypeOfPinLaw", "expected", "(J)Lcom/example/corbeille/corbeille/lobster/MessageType;"⟩ : MethodName)) hown (mvT hZ (hw _ (List.mem_of_getElem? (i := 8) rfl))) (mvT hZ (hw _ (List.mem_of_getElem? (i := 9) rfl))) (mvT hZ (hw _ (List.mem_of_getElem? (i := 10) rfl))) (mvT hZ (hw _ (List.mem_of_getElem? (i := 11) rfl))) (by decide) (backOf (W := 1) (rm2U l Z a0 hw [] ((q1 % (12 : Int64)) + (((p2 >>> ((2 : Int32) &&& 31)).toInt64) <<< ((32 : Int32) &&& 0x3f).toInt64)) w_NEW_ORDER w_PARTIAL_CANCEL w_DELETION w_VISIBLE_EXECUTION w_HIDDEN_EXECUTION w_HALT w_OTHER h0 n0 Z0 S_NEW_ORDER S_PARTIAL_CANCEL S_DELETION S_VISIBLE_EXECUTION S_HIDDEN_EXECUTION S_HALT S_OTHER) hZ (hw _ (List.mem_of_getElem? (i := 11) rfl)) (hw _ (List.mem_of_getElem? (i := 10) rfl)) (by decide) (by decide)) (g := (mkF m 66 #[.val (.long q1), .second, .val (.int p2), .val (.int k), .val (.long ((q1 % (12 : Int64)) + (((p2 >>> ((2 : Int32) &&& 31)).toInt64) <<< ((32 : Int32) &&& 0x3f).toInt64))), .second] [(.long ((q1 % (12 : Int64)) + (((p2 >>> ((2 : Int32) &&& 31)).toInt64) <<< ((32 : Int32) &&& 0x3f).toInt64))), (.ref (own_exp ((q1 % (12 : Int64)) + (((p2 >>> ((2 : Int32) &&& 31)).toInt64) <<< ((32 : Int32) &&& 0x3f).toInt64)) w_NEW_ORDER w_PARTIAL_CANCEL w_DELETION w_VISIBLE_EXECUTION w_HIDDEN_EXECUTION w_HALT w_OTHER))])) rfl (by rw [hml]; rfl) (argsL := [(.long ((q1 % (12 : Int64)) + (((p2 >>> ((2 : Int32) &&& 31)).toInt64) <<< ((32 : Int32) &&& 0x3f).toInt64)))]) (rest := [(.ref (own_exp ((q1 % (12 : Int64)) + (((p2 >>> ((2 : Int32) &&& 31)).toInt64) <<< ((32 : Int32) &&& 0x3f).toInt64)) w_NEW_ORDER w_PARTIAL_CANCEL w_DELETION w_VISIBLE_EXECUTION w_HIDDEN_EXECUTION w_HALT w_OTHER))]) (lenOf pd_0 rfl) rfl (by show 2 * 0 + _ ≤ _; exact Nat.le_of_eq rfl) (hb hby at_66) (fun _ _ => ⟨rfl, e3, (by decide : 0 + 0 ≤ _), (by decide : 0 + 0 ≤ _)⟩)
  dsimp only [Pt.U, Pt.locs, Pt.cells, Pt.slots] at X4 l4 y4 z4 st4 hQ4
  subst l4 y4 z4
  obtain ⟨rfl, N4q, e4⟩ := hQ4
  have N4 := Fr.app N3 N4q
  obtain ⟨fs, hr, hrun, hended, hW, hsame⟩ := X4.leave (v := some (.int (1 : Int32))) (fun h => by rw [Bd.returns] at h; cases h)
  refine ⟨_, _, pre0 _ ?_, hrun, hended, _, _, rfl, ?_, ⟨_, rfl⟩, hW, hsame.mono (by decide) (by decide)⟩
  · show Steps p.tables e below (s₁.setTop (mkF m 0 #[.val (.long q1), .second, .val (.int p2), .unset, .unset, .unset] [])) _
    refine XS.iloadN X0.here hx rfl (hb hby at_0) rfl ?_
    show Steps p.tables e below (s₁.setTop (mkF m 1 #[.val (.long q1), .second, .val (.int p2), .unset, .unset, .unset] [(.int p2)])) _
    refine XS.iconst X0.here hx rfl (hb hby at_1) ?_
    show Steps p.tables e below (s₁.setTop (mkF m 2 #[.val (.long q1), .second, .val (.int p2), .unset, .unset, .unset] [(.int (3 : Int32)), (.int p2)])) _
    refine XS.iand X0.here hx rfl (hb hby at_2) rfl ?_
    rw [hn_k]
    show Steps p.tables e below (s₁.setTop (mkF m 3 #[.val (.long q1), .second, .val (.int p2), .unset, .unset, .unset] [(.int k)])) _
    refine XS.istoreN X0.here hx rfl (hb hby at_3) rfl (l' := #[.val (.long q1), .second, .val (.int p2), .val (.int k), .unset, .unset]) rfl ?_
    show Steps p.tables e below (s₁.setTop (mkF m 4 #[.val (.long q1), .second, .val (.int p2), .val (.int k), .unset, .unset] [])) _
    refine XS.iloadN X0.here hx rfl (hb hby at_4) rfl ?_
    show Steps p.tables e below (s₁.setTop (mkF m 5 #[.val (.long q1), .second, .val (.int p2), .val (.int k), .unset, .unset] [(.int k)])) _
    refine XS.ifYes X0.here hx rfl (pc0 := 5) (pc' := 14) rfl (hb hby at_5) rfl ((if0 _ _).trans (feq hc5).2) (by decide) (by decide) ?_
    show Steps p.tables e below (s₁.setTop (mkF m 14 #[.val (.long q1), .second, .val (.int p2), .val (.int k), .unset, .unset] [])) _
    refine XS.iloadN X0.here hx rfl (hb hby at_14) rfl ?_
    show Steps p.tables e below (s₁.setTop (mkF m 15 #[.val (.long q1), .second, .val (.int p2), .val (.int k), .unset, .unset] [(.int k)])) _
    refine XS.iconst X0.here hx rfl (hb hby at_15) ?_
    show Steps p.tables e below (s₁.setTop (mkF m 16 #[.val (.long q1), .second, .val (.int p2), .val (.int k), .unset, .unset] [(.int (1 : Int32)), (.int k)])) _
    refine XS.icmpYes X0.here hx rfl (pc0 := 16) (pc' := 29) rfl (hb hby at_16) rfl (feq hc16).2 (by decide) (by decide) ?_
    show Steps p.tables e below (s₁.setTop (mkF m 29 #[.val (.long q1), .second, .val (.int p2), .val (.int k), .unset, .unset] [])) _
    refine XS.iloadN X0.here hx rfl (hb hby at_29) rfl ?_
    show Steps p.tables e below (s₁.setTop (mkF m 30 #[.val (.long q1), .second, .val (.int p2), .val (.int k), .unset, .unset] [(.int k)])) _
    refine XS.iconst X0.here hx rfl (hb hby at_30) ?_
    show Steps p.tables e below (s₁.setTop (mkF m 31 #[.val (.long q1), .second, .val (.int p2), .val (.int k), .unset, .unset] [(.int (2 : Int32)), (.int k)])) _
    refine XS.icmpNo X0.here hx rfl (hb hby at_31) rfl (teq hc31).2 ?_
    show Steps p.tables e below (s₁.setTop (mkF m 34 #[.val (.long q1), .second, .val (.int p2), .val (.int k), .unset, .unset] [])) _
    refine XS.lloadN X0.here hx rfl (hb hby at_34) rfl ?_
    show Steps p.tables e below (s₁.setTop (mkF m 35 #[.val (.long q1), .second, .val (.int p2), .val (.int k), .unset, .unset] [(.long q1)])) _
    refine X0.ldc2J hx hown (mvT hZ (hw _ (List.mem_of_getElem? (i := 0) rfl))) (g := (mkF m 35 #[.val (.long q1), .second, .val (.int p2), .val (.int k), .unset, .unset] [(.long q1)])) rfl (hb hby at_35) ?_
    show Steps p.tables e below (s₁.setTop (mkF m 38 #[.val (.long q1), .second, .val (.int p2), .val (.int k), .unset, .unset] [(.long (12 : Int64)), (.long q1)])) _
    refine XS.lrem X0.here hx rfl (hb hby at_38) rfl (by decide) ?_
    rw [lrem_mod]
    show Steps p.tables e below (s₁.setTop (mkF m 39 #[.val (.long q1), .second, .val (.int p2), .val (.int k), .unset, .unset] [(.long (q1 % (12 : Int64)))])) _
    refine XS.iloadN X0.here hx rfl (hb hby at_39) rfl ?_
    show Steps p.tables e below (s₁.setTop (mkF m 40 #[.val (.long q1), .second, .val (.int p2), .val (.int k), .unset, .unset] [(.int p2), (.long (q1 % (12 : Int64)))])) _
    refine XS.iconst X0.here hx rfl (hb hby at_40) ?_
    show Steps p.tables e below (s₁.setTop (mkF m 41 #[.val (.long q1), .second, .val (.int p2), .val (.int k), .unset, .unset] [(.int (2 : Int32)), (.int p2), (.long (q1 % (12 : Int64)))])) _
    refine XS.ishr X0.here hx rfl (hb hby at_41) rfl ?_
    show Steps p.tables e below (s₁.setTop (mkF m 42 #[.val (.long q1), .second, .val (.int p2), .val (.int k), .unset, .unset] [(.int (p2 >>> ((2 : Int32) &&& 31))), (.long (q1 % (12 : Int64)))])) _
    refine XS.i2l X0.here hx rfl (hb hby at_42) rfl ?_
    show Steps p.tables e below (s₁.setTop (mkF m 43 #[.val (.long q1), .second, .val (.int p2), .val (.int k), .unset, .unset] [(.long ((p2 >>> ((2 : Int32) &&& 31)).toInt64)), (.long (q1 % (12 : Int64)))])) _
    refine XS.bipush X0.here hx rfl (hb hby at_43) ?_
    show Steps p.tables e below (s₁.setTop (mkF m 45 #[.val (.long q1), .second, .val (.int p2), .val (.int k), .unset, .unset] [(.int (32 : Int32)), (.long ((p2 >>> ((2 : Int32) &&& 31)).toInt64)), (.long (q1 % (12 : Int64)))])) _
    refine XS.lshl X0.here hx rfl (hb hby at_45) rfl ?_
    show Steps p.tables e below (s₁.setTop (mkF m 46 #[.val (.long q1), .second, .val (.int p2), .val (.int k), .unset, .unset] [(.long (((p2 >>> ((2 : Int32) &&& 31)).toInt64) <<< ((32 : Int32) &&& 0x3f).toInt64)), (.long (q1 % (12 : Int64)))])) _
    refine XS.ladd X0.here hx rfl (hb hby at_46) rfl ?_
    show Steps p.tables e below (s₁.setTop (mkF m 47 #[.val (.long q1), .second, .val (.int p2), .val (.int k), .unset, .unset] [(.long ((q1 % (12 : Int64)) + (((p2 >>> ((2 : Int32) &&& 31)).toInt64) <<< ((32 : Int32) &&& 0x3f).toInt64)))])) _
    refine XS.lstore X0.here hx rfl (hb hby at_47) rfl (l' := #[.val (.long q1), .second, .val (.int p2), .val (.int k), .val (.long ((q1 % (12 : Int64)) + (((p2 >>> ((2 : Int32) &&& 31)).toInt64) <<< ((32 : Int32) &&& 0x3f).toInt64))), .second]) rfl ?_
    show Steps p.tables e below (s₁.setTop (mkF m 49 #[.val (.long q1), .second, .val (.int p2), .val (.int k), .val (.long ((q1 % (12 : Int64)) + (((p2 >>> ((2 : Int32) &&& 31)).toInt64) <<< ((32 : Int32) &&& 0x3f).toInt64))), .second] [])) _
    refine XS.goto X0.here hx rfl (pc0 := 49) (pc' := 59) rfl (hb hby at_49) (by decide) (by decide) ?_
    show Steps p.tables e below (s₁.setTop (mkF m 59 #[.val (.long q1), .second, .val (.int p2), .val (.int k), .val (.long ((q1 % (12 : Int64)) + (((p2 >>> ((2 : Int32) &&& 31)).toInt64) <<< ((32 : Int32) &&& 0x3f).toInt64))), .second] [])) _
    refine XS.lload X0.here hx rfl (hb hby at_59) rfl ?_
    show Steps p.tables e below (s₁.setTop (mkF m 61 #[.val (.long q1), .second, .val (.int p2), .val (.int k), .val (.long ((q1 % (12 : Int64)) + (((p2 >>> ((2 : Int32) &&& 31)).toInt64) <<< ((32 : Int32) &&& 0x3f).toInt64))), .second] [(.long ((q1 % (12 : Int64)) + (((p2 >>> ((2 : Int32) &&& 31)).toInt64) <<< ((32 : Int32) &&& 0x3f).toInt64)))])) _
    refine st3 _ ?_
    show Steps p.tables e below (T3.setTop (mkF m 64 #[.val (.long q1), .second, .val (.int p2), .val (.int k), .val (.long ((q1 % (12 : Int64)) + (((p2 >>> ((2 : Int32) &&& 31)).toInt64) <<< ((32 : Int32) &&& 0x3f).toInt64))), .second] [(.ref (own_exp ((q1 % (12 : Int64)) + (((p2 >>> ((2 : Int32) &&& 31)).toInt64) <<< ((32 : Int32) &&& 0x3f).toInt64)) w_NEW_ORDER w_PARTIAL_CANCEL w_DELETION w_VISIBLE_EXECUTION w_HIDDEN_EXECUTION w_HALT w_OTHER))])) _
    refine XS.lload X3.here hx rfl (hb hby at_64) rfl ?_
    show Steps p.tables e below (T3.setTop (mkF m 66 #[.val (.long q1), .second, .val (.int p2), .val (.int k), .val (.long ((q1 % (12 : Int64)) + (((p2 >>> ((2 : Int32) &&& 31)).toInt64) <<< ((32 : Int32) &&& 0x3f).toInt64))), .second] [(.long ((q1 % (12 : Int64)) + (((p2 >>> ((2 : Int32) &&& 31)).toInt64) <<< ((32 : Int32) &&& 0x3f).toInt64))), (.ref (own_exp ((q1 % (12 : Int64)) + (((p2 >>> ((2 : Int32) &&& 31)).toInt64) <<< ((32 : Int32) &&& 0x3f).toInt64)) w_NEW_ORDER w_PARTIAL_CANCEL w_DELETION w_VISIBLE_EXECUTION w_HIDDEN_EXECUTION w_HALT w_OTHER))])) _
    refine st4 _ ?_
    show Steps p.tables e below (T4.setTop (mkF m 69 #[.val (.long q1), .second, .val (.int p2), .val (.int k), .val (.long ((q1 % (12 : Int64)) + (((p2 >>> ((2 : Int32) &&& 31)).toInt64) <<< ((32 : Int32) &&& 0x3f).toInt64))), .second] [(.ref (own_exp ((q1 % (12 : Int64)) + (((p2 >>> ((2 : Int32) &&& 31)).toInt64) <<< ((32 : Int32) &&& 0x3f).toInt64)) w_NEW_ORDER w_PARTIAL_CANCEL w_DELETION w_VISIBLE_EXECUTION w_HIDDEN_EXECUTION w_HALT w_OTHER)), (.ref (own_exp ((q1 % (12 : Int64)) + (((p2 >>> ((2 : Int32) &&& 31)).toInt64) <<< ((32 : Int32) &&& 0x3f).toInt64)) w_NEW_ORDER w_PARTIAL_CANCEL w_DELETION w_VISIBLE_EXECUTION w_HIDDEN_EXECUTION w_HALT w_OTHER))])) _
    refine Jvm.RoadKit.acmp (g := (mkF m 69 #[.val (.long q1), .second, .val (.int p2), .val (.int k), .val (.long ((q1 % (12 : Int64)) + (((p2 >>> ((2 : Int32) &&& 31)).toInt64) <<< ((32 : Int32) &&& 0x3f).toInt64))), .second] [(.ref (own_exp ((q1 % (12 : Int64)) + (((p2 >>> ((2 : Int32) &&& 31)).toInt64) <<< ((32 : Int32) &&& 0x3f).toInt64)) w_NEW_ORDER w_PARTIAL_CANCEL w_DELETION w_VISIBLE_EXECUTION w_HIDDEN_EXECUTION w_HALT w_OTHER)), (.ref (own_exp ((q1 % (12 : Int64)) + (((p2 >>> ((2 : Int32) &&& 31)).toInt64) <<< ((32 : Int32) &&& 0x3f).toInt64)) w_NEW_ORDER w_PARTIAL_CANCEL w_DELETION w_VISIBLE_EXECUTION w_HIDDEN_EXECUTION w_HALT w_OTHER))])) X4 hx rfl rfl rfl (pc0 := 69) (pc' := 72) (same := true) rfl (hb hby at_69) rfl (decide_eq_true rfl) (by decide) (by decide) ?_
    show Steps p.tables e below (T4.setTop (mkF m 72 #[.val (.long q1), .second, .val (.int p2), .val (.int k), .val (.long ((q1 % (12 : Int64)) + (((p2 >>> ((2 : Int32) &&& 31)).toInt64) <<< ((32 : Int32) &&& 0x3f).toInt64))), .second] [])) _
    refine XS.iconst X4.here hx rfl (hb hby at_72) ?_
    show Steps p.tables e below (T4.setTop (mkF m 73 #[.val (.long q1), .second, .val (.int p2), .val (.int k), .val (.long ((q1 % (12 : Int64)) + (((p2 >>> ((2 : Int32) &&& 31)).toInt64) <<< ((32 : Int32) &&& 0x3f).toInt64))), .second] [(.int (1 : Int32))])) _
    refine XS.goto X4.here hx rfl (pc0 := 73) (pc' := 77) rfl (hb hby at_73) (by decide) (by decide) ?_
    show Steps p.tables e below (T4.setTop (mkF m 77 #[.val (.long q1), .second, .val (.int p2), .val (.int k), .val (.long ((q1 % (12 : Int64)) + (((p2 >>> ((2 : Int32) &&& 31)).toInt64) <<< ((32 : Int32) &&& 0x3f).toInt64))), .second] [(.int (1 : Int32))])) _
    exact retN X4 hx (t := .boolean) Bd.returns (by simp) (hb hby at_77) hr
  · exact ⟨rfl, N4, e4⟩
set_option maxRecDepth 65536 in
set_option maxHeartbeats 40000000 in
theorem rm0_3 (l : Launch) (Z : State) (a0 : Array Value) (hw : ∀ d ∈ tables_1, d.before a0 Z = true) (ws : List Jvm.Cond) (q1 : Int64) (p2 : Int32) (k : Int32) (w_NEW_ORDER : Addr) (w_PARTIAL_CANCEL : Addr) (w_DELETION : Addr) (w_VISIBLE_EXECUTION : Addr) (w_HIDDEN_EXECUTION : Addr) (w_HALT : Addr) (w_OTHER : Addr) (w_BY_NUMBER : Addr) (cl_w_BY_NUMBER : Cell) (h0 : Heap) (n0 : Nat) (Z0 : n0 ≤ h0.size) (hn_k : (p2 &&& (3 : Int32)) = k) (hc5 : ¬ (k = (0 : Int32))) (hc16 : ¬ (k = (1 : Int32))) (hc31 : ¬ (k = (2 : Int32))) (S_NEW_ORDER : Sta Z h0 "com/example/corbeille/corbeille/lobster/MessageType" "NEW_ORDER" "Lcom/example/corbeille/corbeille/lobster/MessageType;" (.ref w_NEW_ORDER)) (S_PARTIAL_CANCEL : Sta Z h0 "com/example/corbeille/corbeille/lobster/MessageType" "PARTIAL_CANCEL" "Lcom/example/corbeille/corbeille/lobster/MessageType;" (.ref w_PARTIAL_CANCEL)) (S_DELETION : Sta Z h0 "com/example/corbeille/corbeille/lobster/MessageType" "DELETION" "Lcom/example/corbeille/corbeille/lobster/MessageType;" (.ref w_DELETION)) (S_VISIBLE_EXECUTION : Sta Z h0 "com/example/corbeille/corbeille/lobster/MessageType" "VISIBLE_EXECUTION" "Lcom/example/corbeille/corbeille/lobster/MessageType;" (.ref w_VISIBLE_EXECUTION)) (S_HIDDEN_EXECUTION : Sta Z h0 "com/example/corbeille/corbeille/lobster/MessageType" "HIDDEN_EXECUTION" "Lcom/example/corbeille/corbeille/lobster/MessageType;" (.ref w_HIDDEN_EXECUTION)) (S_HALT : Sta Z h0 "com/example/corbeille/corbeille/lobster/MessageType" "HALT" "Lcom/example/corbeille/corbeille/lobster/MessageType;" (.ref w_HALT)) (S_OTHER : Sta Z h0 "com/example/corbeille/corbeille/lobster/MessageType" "OTHER" "Lcom/example/corbeille/corbeille/lobster/MessageType;" (.ref w_OTHER)) (S_BY_NUMBER : Sta Z h0 "com/example/corbeille/corbeille/lobster/MessageType" "BY_NUMBER" "[Lcom/example/corbeille/corbeille/lobster/MessageType;" (.ref w_BY_NUMBER)) (Ar_w_BY_NUMBER : Arr Z h0 w_BY_NUMBER cl_w_BY_NUMBER (.object "com/example/corbeille/corbeille/lobster/MessageType")) (Sz_c3 : cl_w_BY_NUMBER.slots.size = 8) (el0_c3 : cl_w_BY_NUMBER.slots[0]? = some (.ref w_OTHER)) (el1_c3 : cl_w_BY_NUMBER.slots[1]? = some (.ref w_NEW_ORDER)) (el2_c3 : cl_w_BY_NUMBER.slots[2]? = some (.ref w_PARTIAL_CANCEL)) (el3_c3 : cl_w_BY_NUMBER.slots[3]? = some (.ref w_DELETION)) (el4_c3 : cl_w_BY_NUMBER.slots[4]? = some (.ref w_VISIBLE_EXECUTION)) (el5_c3 : cl_w_BY_NUMBER.slots[5]? = some (.ref w_HIDDEN_EXECUTION)) (el6_c3 : cl_w_BY_NUMBER.slots[6]? = some (.ref w_OTHER)) (el7_c3 : cl_w_BY_NUMBER.slots[7]? = some (.ref w_HALT)) :
    MetFree l x (head1 (Jvm.Cond.code x code maxLocals ret :: ws) room_1) (fun a U => a = #[(.long q1), (.int p2)] ∧ Z.Warmed39 U.vm ∧ U.heap = h0) (fun _ _ _ _ _ => True) (fun _ U o U' => ∃ v L, o = .returned v ∧ QN (some (.int (1 : Int32))) h0 n0 v U'.heap L ∧ FrameEnd U o U' L room_1.cells room_1.slots) := by
  refine MetFree.of_bodySF (plainFor_of_name pn_0) hisR ?_
  intro p e s m args below meth c s₁ Bd hml0 hP hK
  obtain ⟨rfl, hZ, hh⟩ := hP
  have hx := Bd.exec
  have hby := Bd.bytes
  have hml : c.maxLocals = 6 := hml0
  have hown : s.vm.findClass "com/example/corbeille/corbeille/lobster/MessageTypeOfPinLaw" = some m.cls := findClass_of_methodNamed Bd.named
  have hnm := (name_of_methodNamed Bd.named Bd.method).1
  have X0 : Stand p l e room_1 s m #[(.long q1), (.int p2)] below meth c s₁ [] 0 0 := Stand.of_body Bd
  have e0 : s₁.heap = h0 := by rw [← hh, Bd.state]; rfl
  have N0 := Fr.nil n0
  have pre0 : ∀ t, Steps p.tables e below (s₁.setTop (mkF m 0 #[.val (.long q1), .second, .val (.int p2), .unset, .unset, .unset] [])) t → Steps p.tables e below (s₁.setTop (entryFrame m #[(.long q1), (.int p2)] maxLocals)) t := fun t k => castTop (ef_0 m q1 p2) k
  obtain ⟨_, _, ⟨T3, L3, k3, n3⟩, -, X3, ⟨Lc3, hQ3, l3, y3, z3⟩, st3⟩ := Jvm.LawKit.callS X0 hx (y := (⟨"com/example/corbeille/corbeille/lobster/MessageType", "of", "(J)Lcom/example/corbeille/corbeille/lobster/MessageType;"⟩ : MethodName)) hown (mvT hZ (hw _ (List.mem_of_getElem? (i := 1) rfl))) (mvT hZ (hw _ (List.mem_of_getElem? (i := 2) rfl))) (mvT hZ (hw _ (List.mem_of_getElem? (i := 3) rfl))) (mvT hZ (hw _ (List.mem_of_getElem? (i := 4) rfl))) (by decide) (backOf (W := 0) (rm1U l Z a0 hw [] (q1 &&& (15 : Int64)) w_NEW_ORDER w_PARTIAL_CANCEL w_DELETION w_VISIBLE_EXECUTION w_HIDDEN_EXECUTION w_HALT w_OTHER w_BY_NUMBER cl_w_BY_NUMBER h0 n0 Z0 S_NEW_ORDER S_PARTIAL_CANCEL S_DELETION S_VISIBLE_EXECUTION S_HIDDEN_EXECUTION S_HALT S_OTHER S_BY_NUMBER Ar_w_BY_NUMBER Sz_c3 el0_c3 el1_c3 el2_c3 el3_c3 el4_c3 el5_c3 el6_c3 el7_c3) hZ (hw _ (List.mem_of_getElem? (i := 4) rfl)) (hw _ (List.mem_of_getElem? (i := 3) rfl)) (by decide) (by decide)) (g := (mkF m 61 #[.val (.long q1), .second, .val (.int p2), .val (.int k), .val (.long (q1 &&& (15 : Int64))), .second] [(.long (q1 &&& (15 : Int64)))])) rfl (by rw [hml]; rfl) (argsL := [(.long (q1 &&& (15 : Int64)))]) (rest := []) (lenOf pd_0 rfl) rfl (by show 2 * 0 + _ ≤ _; exact Nat.le_of_eq rfl) (hb hby at_61) (fun _ _ => ⟨rfl, e0, (by decide : 0 + 0 ≤ _), (by decide : 0 + 0 ≤ _)⟩)
  dsimp only [Pt.U, Pt.locs, Pt.cells, Pt.slots] at X3 l3 y3 z3 st3 hQ3
  subst l3 y3 z3
  obtain ⟨rfl, N3q, e3⟩ := hQ3
  have N3 := Fr.app N0 N3q
  obtain ⟨_, _, ⟨T4, L4, k4, n4⟩, -, X4, ⟨Lc4, hQ4, l4, y4, z4⟩, st4⟩ := Jvm.LawKit.callS X3 hx (y := (⟨"com/example/corbeille/corbeille/lobster/MessageTypeOfPinLaw", "expected", "(J)Lcom/example/corbeille/corbeille/lobster/MessageType;"⟩ : MethodName)) hown (mvT hZ (hw _ (List.mem_of_getElem? (i := 8) rfl))) (mvT hZ (hw _ (List.mem_of_getElem? (i := 9) rfl))) (mvT hZ (hw _ (List.mem_of_getElem? (i := 10) rfl))) (mvT hZ (hw _ (List.mem_of_getElem? (i := 11) rfl))) (by decide) (backOf (W := 1) (rm2U l Z a0 hw [] (q1 &&& (15 : Int64)) w_NEW_ORDER w_PARTIAL_CANCEL w_DELETION w_VISIBLE_EXECUTION w_HIDDEN_EXECUTION w_HALT w_OTHER h0 n0 Z0 S_NEW_ORDER S_PARTIAL_CANCEL S_DELETION S_VISIBLE_EXECUTION S_HIDDEN_EXECUTION S_HALT S_OTHER) hZ (hw _ (List.mem_of_getElem? (i := 11) rfl)) (hw _ (List.mem_of_getElem? (i := 10) rfl)) (by decide) (by decide)) (g := (mkF m 66 #[.val (.long q1), .second, .val (.int p2), .val (.int k), .val (.long (q1 &&& (15 : Int64))), .second] [(.long (q1 &&& (15 : Int64))), (.ref (own_exp (q1 &&& (15 : Int64)) w_NEW_ORDER w_PARTIAL_CANCEL w_DELETION w_VISIBLE_EXECUTION w_HIDDEN_EXECUTION w_HALT w_OTHER))])) rfl (by rw [hml]; rfl) (argsL := [(.long (q1 &&& (15 : Int64)))]) (rest := [(.ref (own_exp (q1 &&& (15 : Int64)) w_NEW_ORDER w_PARTIAL_CANCEL w_DELETION w_VISIBLE_EXECUTION w_HIDDEN_EXECUTION w_HALT w_OTHER))]) (lenOf pd_0 rfl) rfl (by show 2 * 0 + _ ≤ _; exact Nat.le_of_eq rfl) (hb hby at_66) (fun _ _ => ⟨rfl, e3, (by decide : 0 + 0 ≤ _), (by decide : 0 + 0 ≤ _)⟩)
  dsimp only [Pt.U, Pt.locs, Pt.cells, Pt.slots] at X4 l4 y4 z4 st4 hQ4
  subst l4 y4 z4
  obtain ⟨rfl, N4q, e4⟩ := hQ4
  have N4 := Fr.app N3 N4q
  obtain ⟨fs, hr, hrun, hended, hW, hsame⟩ := X4.leave (v := some (.int (1 : Int32))) (fun h => by rw [Bd.returns] at h; cases h)
  refine ⟨_, _, pre0 _ ?_, hrun, hended, _, _, rfl, ?_, ⟨_, rfl⟩, hW, hsame.mono (by decide) (by decide)⟩
  · show Steps p.tables e below (s₁.setTop (mkF m 0 #[.val (.long q1), .second, .val (.int p2), .unset, .unset, .unset] [])) _
    refine XS.iloadN X0.here hx rfl (hb hby at_0) rfl ?_
    show Steps p.tables e below (s₁.setTop (mkF m 1 #[.val (.long q1), .second, .val (.int p2), .unset, .unset, .unset] [(.int p2)])) _
    refine XS.iconst X0.here hx rfl (hb hby at_1) ?_
    show Steps p.tables e below (s₁.setTop (mkF m 2 #[.val (.long q1), .second, .val (.int p2), .unset, .unset, .unset] [(.int (3 : Int32)), (.int p2)])) _
    refine XS.iand X0.here hx rfl (hb hby at_2) rfl ?_
    rw [hn_k]
    show Steps p.tables e below (s₁.setTop (mkF m 3 #[.val (.long q1), .second, .val (.int p2), .unset, .unset, .unset] [(.int k)])) _
    refine XS.istoreN X0.here hx rfl (hb hby at_3) rfl (l' := #[.val (.long q1), .second, .val (.int p2), .val (.int k), .unset, .unset]) rfl ?_
    show Steps p.tables e below (s₁.setTop (mkF m 4 #[.val (.long q1), .second, .val (.int p2), .val (.int k), .unset, .unset] [])) _
    refine XS.iloadN X0.here hx rfl (hb hby at_4) rfl ?_
    show Steps p.tables e below (s₁.setTop (mkF m 5 #[.val (.long q1), .second, .val (.int p2), .val (.int k), .unset, .unset] [(.int k)])) _
    refine XS.ifYes X0.here hx rfl (pc0 := 5) (pc' := 14) rfl (hb hby at_5) rfl ((if0 _ _).trans (feq hc5).2) (by decide) (by decide) ?_
    show Steps p.tables e below (s₁.setTop (mkF m 14 #[.val (.long q1), .second, .val (.int p2), .val (.int k), .unset, .unset] [])) _
    refine XS.iloadN X0.here hx rfl (hb hby at_14) rfl ?_
    show Steps p.tables e below (s₁.setTop (mkF m 15 #[.val (.long q1), .second, .val (.int p2), .val (.int k), .unset, .unset] [(.int k)])) _
    refine XS.iconst X0.here hx rfl (hb hby at_15) ?_
    show Steps p.tables e below (s₁.setTop (mkF m 16 #[.val (.long q1), .second, .val (.int p2), .val (.int k), .unset, .unset] [(.int (1 : Int32)), (.int k)])) _
    refine XS.icmpYes X0.here hx rfl (pc0 := 16) (pc' := 29) rfl (hb hby at_16) rfl (feq hc16).2 (by decide) (by decide) ?_
    show Steps p.tables e below (s₁.setTop (mkF m 29 #[.val (.long q1), .second, .val (.int p2), .val (.int k), .unset, .unset] [])) _
    refine XS.iloadN X0.here hx rfl (hb hby at_29) rfl ?_
    show Steps p.tables e below (s₁.setTop (mkF m 30 #[.val (.long q1), .second, .val (.int p2), .val (.int k), .unset, .unset] [(.int k)])) _
    refine XS.iconst X0.here hx rfl (hb hby at_30) ?_
    show Steps p.tables e below (s₁.setTop (mkF m 31 #[.val (.long q1), .second, .val (.int p2), .val (.int k), .unset, .unset] [(.int (2 : Int32)), (.int k)])) _
    refine XS.icmpYes X0.here hx rfl (pc0 := 31) (pc' := 52) rfl (hb hby at_31) rfl (feq hc31).2 (by decide) (by decide) ?_
    show Steps p.tables e below (s₁.setTop (mkF m 52 #[.val (.long q1), .second, .val (.int p2), .val (.int k), .unset, .unset] [])) _
    refine XS.lloadN X0.here hx rfl (hb hby at_52) rfl ?_
    show Steps p.tables e below (s₁.setTop (mkF m 53 #[.val (.long q1), .second, .val (.int p2), .val (.int k), .unset, .unset] [(.long q1)])) _
    refine X0.ldc2J hx hown (mvT hZ (hw _ (List.mem_of_getElem? (i := 21) rfl))) (g := (mkF m 53 #[.val (.long q1), .second, .val (.int p2), .val (.int k), .unset, .unset] [(.long q1)])) rfl (hb hby at_53) ?_
    show Steps p.tables e below (s₁.setTop (mkF m 56 #[.val (.long q1), .second, .val (.int p2), .val (.int k), .unset, .unset] [(.long (15 : Int64)), (.long q1)])) _
    refine XS.land X0.here hx rfl (hb hby at_56) rfl ?_
    show Steps p.tables e below (s₁.setTop (mkF m 57 #[.val (.long q1), .second, .val (.int p2), .val (.int k), .unset, .unset] [(.long (q1 &&& (15 : Int64)))])) _
    refine XS.lstore X0.here hx rfl (hb hby at_57) rfl (l' := #[.val (.long q1), .second, .val (.int p2), .val (.int k), .val (.long (q1 &&& (15 : Int64))), .second]) rfl ?_
    show Steps p.tables e below (s₁.setTop (mkF m 59 #[.val (.long q1), .second, .val (.int p2), .val (.int k), .val (.long (q1 &&& (15 : Int64))), .second] [])) _
    refine XS.lload X0.here hx rfl (hb hby at_59) rfl ?_
    show Steps p.tables e below (s₁.setTop (mkF m 61 #[.val (.long q1), .second, .val (.int p2), .val (.int k), .val (.long (q1 &&& (15 : Int64))), .second] [(.long (q1 &&& (15 : Int64)))])) _
    refine st3 _ ?_
    show Steps p.tables e below (T3.setTop (mkF m 64 #[.val (.long q1), .second, .val (.int p2), .val (.int k), .val (.long (q1 &&& (15 : Int64))), .second] [(.ref (own_exp (q1 &&& (15 : Int64)) w_NEW_ORDER w_PARTIAL_CANCEL w_DELETION w_VISIBLE_EXECUTION w_HIDDEN_EXECUTION w_HALT w_OTHER))])) _
    refine XS.lload X3.here hx rfl (hb hby at_64) rfl ?_
    show Steps p.tables e below (T3.setTop (mkF m 66 #[.val (.long q1), .second, .val (.int p2), .val (.int k), .val (.long (q1 &&& (15 : Int64))), .second] [(.long (q1 &&& (15 : Int64))), (.ref (own_exp (q1 &&& (15 : Int64)) w_NEW_ORDER w_PARTIAL_CANCEL w_DELETION w_VISIBLE_EXECUTION w_HIDDEN_EXECUTION w_HALT w_OTHER))])) _
    refine st4 _ ?_
    show Steps p.tables e below (T4.setTop (mkF m 69 #[.val (.long q1), .second, .val (.int p2), .val (.int k), .val (.long (q1 &&& (15 : Int64))), .second] [(.ref (own_exp (q1 &&& (15 : Int64)) w_NEW_ORDER w_PARTIAL_CANCEL w_DELETION w_VISIBLE_EXECUTION w_HIDDEN_EXECUTION w_HALT w_OTHER)), (.ref (own_exp (q1 &&& (15 : Int64)) w_NEW_ORDER w_PARTIAL_CANCEL w_DELETION w_VISIBLE_EXECUTION w_HIDDEN_EXECUTION w_HALT w_OTHER))])) _
    refine Jvm.RoadKit.acmp (g := (mkF m 69 #[.val (.long q1), .second, .val (.int p2), .val (.int k), .val (.long (q1 &&& (15 : Int64))), .second] [(.ref (own_exp (q1 &&& (15 : Int64)) w_NEW_ORDER w_PARTIAL_CANCEL w_DELETION w_VISIBLE_EXECUTION w_HIDDEN_EXECUTION w_HALT w_OTHER)), (.ref (own_exp (q1 &&& (15 : Int64)) w_NEW_ORDER w_PARTIAL_CANCEL w_DELETION w_VISIBLE_EXECUTION w_HIDDEN_EXECUTION w_HALT w_OTHER))])) X4 hx rfl rfl rfl (pc0 := 69) (pc' := 72) (same := true) rfl (hb hby at_69) rfl (decide_eq_true rfl) (by decide) (by decide) ?_
    show Steps p.tables e below (T4.setTop (mkF m 72 #[.val (.long q1), .second, .val (.int p2), .val (.int k), .val (.long (q1 &&& (15 : Int64))), .second] [])) _
    refine XS.iconst X4.here hx rfl (hb hby at_72) ?_
    show Steps p.tables e below (T4.setTop (mkF m 73 #[.val (.long q1), .second, .val (.int p2), .val (.int k), .val (.long (q1 &&& (15 : Int64))), .second] [(.int (1 : Int32))])) _
    refine XS.goto X4.here hx rfl (pc0 := 73) (pc' := 77) rfl (hb hby at_73) (by decide) (by decide) ?_
    show Steps p.tables e below (T4.setTop (mkF m 77 #[.val (.long q1), .second, .val (.int p2), .val (.int k), .val (.long (q1 &&& (15 : Int64))), .second] [(.int (1 : Int32))])) _
    exact retN X4 hx (t := .boolean) Bd.returns (by simp) (hb hby at_77) hr
  · exact ⟨rfl, N4, e4⟩
theorem rmAll (l : Launch) (Z : State) (a0 : Array Value) (hw : ∀ d ∈ tables_1, d.before a0 Z = true) (ws : List Jvm.Cond) (q1 : Int64) (p2 : Int32) (w_NEW_ORDER : Addr) (w_PARTIAL_CANCEL : Addr) (w_DELETION : Addr) (w_VISIBLE_EXECUTION : Addr) (w_HIDDEN_EXECUTION : Addr) (w_HALT : Addr) (w_OTHER : Addr) (w_BY_NUMBER : Addr) (cl_w_BY_NUMBER : Cell) (h0 : Heap) (n0 : Nat) (Z0 : n0 ≤ h0.size) (S_NEW_ORDER : Sta Z h0 "com/example/corbeille/corbeille/lobster/MessageType" "NEW_ORDER" "Lcom/example/corbeille/corbeille/lobster/MessageType;" (.ref w_NEW_ORDER)) (S_PARTIAL_CANCEL : Sta Z h0 "com/example/corbeille/corbeille/lobster/MessageType" "PARTIAL_CANCEL" "Lcom/example/corbeille/corbeille/lobster/MessageType;" (.ref w_PARTIAL_CANCEL)) (S_DELETION : Sta Z h0 "com/example/corbeille/corbeille/lobster/MessageType" "DELETION" "Lcom/example/corbeille/corbeille/lobster/MessageType;" (.ref w_DELETION)) (S_VISIBLE_EXECUTION : Sta Z h0 "com/example/corbeille/corbeille/lobster/MessageType" "VISIBLE_EXECUTION" "Lcom/example/corbeille/corbeille/lobster/MessageType;" (.ref w_VISIBLE_EXECUTION)) (S_HIDDEN_EXECUTION : Sta Z h0 "com/example/corbeille/corbeille/lobster/MessageType" "HIDDEN_EXECUTION" "Lcom/example/corbeille/corbeille/lobster/MessageType;" (.ref w_HIDDEN_EXECUTION)) (S_HALT : Sta Z h0 "com/example/corbeille/corbeille/lobster/MessageType" "HALT" "Lcom/example/corbeille/corbeille/lobster/MessageType;" (.ref w_HALT)) (S_OTHER : Sta Z h0 "com/example/corbeille/corbeille/lobster/MessageType" "OTHER" "Lcom/example/corbeille/corbeille/lobster/MessageType;" (.ref w_OTHER)) (S_BY_NUMBER : Sta Z h0 "com/example/corbeille/corbeille/lobster/MessageType" "BY_NUMBER" "[Lcom/example/corbeille/corbeille/lobster/MessageType;" (.ref w_BY_NUMBER)) (Ar_w_BY_NUMBER : Arr Z h0 w_BY_NUMBER cl_w_BY_NUMBER (.object "com/example/corbeille/corbeille/lobster/MessageType")) (Sz : cl_w_BY_NUMBER.slots.size = 8) (el0 : cl_w_BY_NUMBER.slots[0]? = some (.ref w_OTHER)) (el1 : cl_w_BY_NUMBER.slots[1]? = some (.ref w_NEW_ORDER)) (el2 : cl_w_BY_NUMBER.slots[2]? = some (.ref w_PARTIAL_CANCEL)) (el3 : cl_w_BY_NUMBER.slots[3]? = some (.ref w_DELETION)) (el4 : cl_w_BY_NUMBER.slots[4]? = some (.ref w_VISIBLE_EXECUTION)) (el5 : cl_w_BY_NUMBER.slots[5]? = some (.ref w_HIDDEN_EXECUTION)) (el6 : cl_w_BY_NUMBER.slots[6]? = some (.ref w_OTHER)) (el7 : cl_w_BY_NUMBER.slots[7]? = some (.ref w_HALT)) :
    MetFree l x (head1 (Jvm.Cond.code x code maxLocals ret :: ws) room_1) (fun a U => a = #[(.long q1), (.int p2)] ∧ Z.Warmed39 U.vm ∧ U.heap = h0) (fun _ _ _ _ _ => True) (fun _ U o U' => ∃ v L, o = .returned v ∧ QN (some (.int (1 : Int32))) h0 n0 v U'.heap L ∧ FrameEnd U o U' L room_1.cells room_1.slots) := by
  by_cases k0 : (p2 &&& (3 : Int32)) = (0 : Int32)
  · exact rm0_0 l Z a0 hw ws q1 p2 _ w_NEW_ORDER w_PARTIAL_CANCEL w_DELETION w_VISIBLE_EXECUTION w_HIDDEN_EXECUTION w_HALT w_OTHER w_BY_NUMBER cl_w_BY_NUMBER h0 n0 Z0 rfl k0 S_NEW_ORDER S_PARTIAL_CANCEL S_DELETION S_VISIBLE_EXECUTION S_HIDDEN_EXECUTION S_HALT S_OTHER S_BY_NUMBER Ar_w_BY_NUMBER Sz el0 el1 el2 el3 el4 el5 el6 el7
  by_cases k1 : (p2 &&& (3 : Int32)) = (1 : Int32)
  · exact rm0_1 l Z a0 hw ws q1 p2 _ w_NEW_ORDER w_PARTIAL_CANCEL w_DELETION w_VISIBLE_EXECUTION w_HIDDEN_EXECUTION w_HALT w_OTHER w_BY_NUMBER cl_w_BY_NUMBER h0 n0 Z0 rfl k0 k1 S_NEW_ORDER S_PARTIAL_CANCEL S_DELETION S_VISIBLE_EXECUTION S_HIDDEN_EXECUTION S_HALT S_OTHER S_BY_NUMBER Ar_w_BY_NUMBER Sz el0 el1 el2 el3 el4 el5 el6 el7
  by_cases k2 : (p2 &&& (3 : Int32)) = (2 : Int32)
  · exact rm0_2 l Z a0 hw ws q1 p2 _ w_NEW_ORDER w_PARTIAL_CANCEL w_DELETION w_VISIBLE_EXECUTION w_HIDDEN_EXECUTION w_HALT w_OTHER w_BY_NUMBER cl_w_BY_NUMBER h0 n0 Z0 rfl k0 k1 k2 S_NEW_ORDER S_PARTIAL_CANCEL S_DELETION S_VISIBLE_EXECUTION S_HIDDEN_EXECUTION S_HALT S_OTHER S_BY_NUMBER Ar_w_BY_NUMBER Sz el0 el1 el2 el3 el4 el5 el6 el7
  · exact rm0_3 l Z a0 hw ws q1 p2 _ w_NEW_ORDER w_PARTIAL_CANCEL w_DELETION w_VISIBLE_EXECUTION w_HIDDEN_EXECUTION w_HALT w_OTHER w_BY_NUMBER cl_w_BY_NUMBER h0 n0 Z0 rfl k0 k1 k2 S_NEW_ORDER S_PARTIAL_CANCEL S_DELETION S_VISIBLE_EXECUTION S_HIDDEN_EXECUTION S_HALT S_OTHER S_BY_NUMBER Ar_w_BY_NUMBER Sz el0 el1 el2 el3 el4 el5 el6 el7
set_option maxRecDepth 65536 in
set_option maxHeartbeats 40000000 in
theorem comes_1 {Post : Tables → Env → Array Value → State → Outcome → State → Prop} (hpost : ∀ tb e args s v u, (limb_1_1.after args s (.returned v) u = true ∧ limb_1_2.after args s (.returned v) u = true ∧ True) → FrameEnd s (.returned v) u (Jvm.fieldLocs frame_1_writes args s ++ Jvm.arrayLocs frame_1_arrays args s ++ Jvm.staticLocs frame_1_statics s) 0 0 → Post tb e args s (.returned v) u) :
    ArmFor flags0 classFile x code maxLocals ret World_1 tables_1 room_1 Calls_1 rest_1 Pre_1 Post := by
  intro l hfl _ _ p e ha hc hk s m args below hf hA hF happ hP
  obtain ⟨hcalls, hrest, hpre⟩ := hP
  obtain ⟨-, -, -, hnamed, -, -, -, hat⟩ := (Spec.applies_iff hf).mp happ
  obtain ⟨hg, hn⟩ := and_e (Cond.before_iff.mp (show (Jvm.Cond.and given_1 narrow_1).before args s = true from hpre))
  obtain ⟨hg0, hg⟩ := and_e hg
  obtain ⟨gA0, hg⟩ := and_e hg
  have gA1 := hg
  obtain ⟨w0, w1, rfl⟩ : ∃ w0 w1 : Value, args = #[w0, w1] := by
    have hs : args.size = 2 := by simpa [Cond.value, given_1] using hg0
    obtain ⟨L⟩ := args
    match L, hs with
    | [w0, w1], _ => exact ⟨w0, w1, rfl⟩
  have hw := fun d (hd : d ∈ tables_1) => atoms_spec (ws := Jvm.Cond.code x code maxLocals ret :: tables_1) hat d (List.mem_cons_of_mem _ hd)
  obtain ⟨i0, ei0⟩ := isL_v gA0
  obtain rfl : w0 = (.long i0) := Option.some.inj ei0
  obtain ⟨i1, ei1⟩ := is_v gA1
  obtain rfl : w1 = (.int i1) := Option.some.inj ei1
  obtain ⟨nr0, nr0'⟩ := and_e hn
  obtain ⟨nr1, nr1'⟩ := and_e nr0'
  obtain ⟨nr2, nr2'⟩ := and_e nr1'
  obtain ⟨nr3, nr3'⟩ := and_e nr2'
  obtain ⟨nr4, nr4'⟩ := and_e nr3'
  obtain ⟨nr5, nr5'⟩ := and_e nr4'
  obtain ⟨nr6, nr6'⟩ := and_e nr5'
  obtain ⟨nr7, nr7'⟩ := and_e nr6'
  obtain ⟨nr8, nr8'⟩ := and_e nr7'
  obtain ⟨nr9, nr9'⟩ := and_e nr8'
  obtain ⟨nr10, nr10'⟩ := and_e nr9'
  obtain ⟨nr11, nr11'⟩ := and_e nr10'
  obtain ⟨nr12, nr12'⟩ := and_e nr11'
  obtain ⟨nr13, nr13'⟩ := and_e nr12'
  obtain ⟨nr14, nr14'⟩ := and_e nr13'
  obtain ⟨nr15, nr15'⟩ := and_e nr14'
  obtain ⟨w_DELETION, ev_DELETION⟩ := exa_v nr2
  have E_w_DELETION := Exa.start ev_DELETION nr2
  have S_DELETION := Sta.start ev_DELETION (Or.inr ⟨(hw _ (List.mem_of_getElem? (i := 3) rfl)), (hw _ (List.mem_of_getElem? (i := 7) rfl))⟩)
  obtain ⟨w_OTHER, ev_OTHER⟩ := exa_v nr4
  have E_w_OTHER := Exa.start ev_OTHER nr4
  have S_OTHER := Sta.start ev_OTHER (Or.inr ⟨(hw _ (List.mem_of_getElem? (i := 3) rfl)), (hw _ (List.mem_of_getElem? (i := 16) rfl))⟩)
  obtain ⟨w_PARTIAL_CANCEL, ev_PARTIAL_CANCEL⟩ := exa_v nr5
  have E_w_PARTIAL_CANCEL := Exa.start ev_PARTIAL_CANCEL nr5
  have S_PARTIAL_CANCEL := Sta.start ev_PARTIAL_CANCEL (Or.inr ⟨(hw _ (List.mem_of_getElem? (i := 3) rfl)), (hw _ (List.mem_of_getElem? (i := 22) rfl))⟩)
  obtain ⟨w_NEW_ORDER, ev_NEW_ORDER⟩ := exa_v nr7
  have E_w_NEW_ORDER := Exa.start ev_NEW_ORDER nr7
  have S_NEW_ORDER := Sta.start ev_NEW_ORDER (Or.inr ⟨(hw _ (List.mem_of_getElem? (i := 3) rfl)), (hw _ (List.mem_of_getElem? (i := 24) rfl))⟩)
  obtain ⟨w_HALT, ev_HALT⟩ := exa_v nr9
  have E_w_HALT := Exa.start ev_HALT nr9
  have S_HALT := Sta.start ev_HALT (Or.inr ⟨(hw _ (List.mem_of_getElem? (i := 3) rfl)), (hw _ (List.mem_of_getElem? (i := 26) rfl))⟩)
  obtain ⟨w_VISIBLE_EXECUTION, ev_VISIBLE_EXECUTION⟩ := exa_v nr11
  have E_w_VISIBLE_EXECUTION := Exa.start ev_VISIBLE_EXECUTION nr11
  have S_VISIBLE_EXECUTION := Sta.start ev_VISIBLE_EXECUTION (Or.inr ⟨(hw _ (List.mem_of_getElem? (i := 3) rfl)), (hw _ (List.mem_of_getElem? (i := 28) rfl))⟩)
  obtain ⟨w_HIDDEN_EXECUTION, ev_HIDDEN_EXECUTION⟩ := exa_v nr15
  have E_w_HIDDEN_EXECUTION := Exa.start ev_HIDDEN_EXECUTION nr15
  have S_HIDDEN_EXECUTION := Sta.start ev_HIDDEN_EXECUTION (Or.inr ⟨(hw _ (List.mem_of_getElem? (i := 3) rfl)), (hw _ (List.mem_of_getElem? (i := 30) rfl))⟩)
  obtain ⟨w_BY_NUMBER, ev_BY_NUMBER⟩ := arr_v nr0
  have S_BY_NUMBER := Sta.start ev_BY_NUMBER (Or.inr ⟨(hw _ (List.mem_of_getElem? (i := 3) rfl)), (hw _ (List.mem_of_getElem? (i := 6) rfl))⟩)
  obtain ⟨cl, Ar⟩ := Arr.start ev_BY_NUMBER nr0
  have Sz : cl.slots.size = 8 := own_len ev_BY_NUMBER Ar (own_fld nr1)
  have el0 : cl.slots[0]? = some (.ref w_OTHER) := own_elem ev_BY_NUMBER Ar.1 ev_OTHER nr13 (by decide)
  have el1 : cl.slots[1]? = some (.ref w_NEW_ORDER) := own_elem ev_BY_NUMBER Ar.1 ev_NEW_ORDER nr8 (by decide)
  have el2 : cl.slots[2]? = some (.ref w_PARTIAL_CANCEL) := own_elem ev_BY_NUMBER Ar.1 ev_PARTIAL_CANCEL nr6 (by decide)
  have el3 : cl.slots[3]? = some (.ref w_DELETION) := own_elem ev_BY_NUMBER Ar.1 ev_DELETION nr3 (by decide)
  have el4 : cl.slots[4]? = some (.ref w_VISIBLE_EXECUTION) := own_elem ev_BY_NUMBER Ar.1 ev_VISIBLE_EXECUTION nr12 (by decide)
  have el5 : cl.slots[5]? = some (.ref w_HIDDEN_EXECUTION) := own_elem ev_BY_NUMBER Ar.1 ev_HIDDEN_EXECUTION nr15' (by decide)
  have el6 : cl.slots[6]? = some (.ref w_OTHER) := own_elem ev_BY_NUMBER Ar.1 ev_OTHER nr14 (by decide)
  have el7 : cl.slots[7]? = some (.ref w_HALT) := own_elem ev_BY_NUMBER Ar.1 ev_HALT nr10 (by decide)
  obtain ⟨n, o, h1, h2, h3, _, L, rfl, ⟨rfl, N, -⟩, hq⟩ := rmAll l s _ hw tables_1 i0 i1 w_NEW_ORDER w_PARTIAL_CANCEL w_DELETION w_VISIBLE_EXECUTION w_HIDDEN_EXECUTION w_HALT w_OTHER w_BY_NUMBER cl s.heap s.heap.size (Nat.le_refl _) S_NEW_ORDER S_PARTIAL_CANCEL S_DELETION S_VISIBLE_EXECUTION S_HIDDEN_EXECUTION S_HALT S_OTHER S_BY_NUMBER Ar Sz el0 el1 el2 el3 el4 el5 el6 el7 p e ha hc hk s m _ below hf ((Spec.applies_iff_loose hf).mp happ).1 ⟨rfl, State.Warmed39.refl s, rfl⟩ trivial
  refine ⟨n, _, h1, h2, h3, hpost _ _ _ _ _ _ ⟨Cond.after_iff.mpr rfl, Cond.after_iff.mpr (eq_i res_at (Term.int_eval (1)) rfl), trivial⟩ ⟨hq.1, hq.2.1, (hq.2.2.sift fun y hy => Or.inr (N y hy)).mono (by decide) (by decide)⟩⟩
theorem main_1_1 : Claimed_1_1 := comes_1 fun _ _ _ _ _ _ h hF => ⟨h.1, hF⟩
theorem main_1_2 : Claimed_1_2 := comes_1 fun _ _ _ _ _ _ h hF => ⟨h.2.1, hF⟩
end Jvm.Pilot.@@N@@
namespace Jvm.Pilot.@@N@@
open Jvm Jvm.ClassFile Sem Op Lib Jvm.Free Jvm.Stand Jvm.Pilot.@@N@@.Jvm.D
/-! MADE BY PROGRAM (witnessworld.py) out of the Statement's table words and the real class files: 13 classes; the members and pool entries that the words name. The judged class is class 1, her method 1. -/
namespace start1
open Jvm.ClassFile
def u (s : String) : CpInfo := .utf8 (stringToUtf16 s)
/-- a pool by its gaps: so many unusable entries, then the entry; so many at the end -/
def gap : Nat → List CpInfo → List CpInfo
  | 0, r => r
  | n + 1, r => .unusable :: gap n r
def poolList (es : List (Nat × CpInfo)) (last : Nat) : List CpInfo := es.foldr (fun e r => gap e.1 (e.2 :: r)) (gap last [])
def pool (es : List (Nat × CpInfo)) (last : Nat) : Array CpInfo := ⟨poolList es last⟩
def fileOf (pool : Array CpInfo) (this : Nat) (attrs : Array Attribute := #[]) (ms : Array MethodInfo := #[]) (fl : Nat := 33) (sup : Nat := 0) (ifs : Array Nat := #[]) (fds : Array FieldInfo := #[]) : ClassFile where
  minorVersion := 0
  majorVersion := 65
  constantPool := pool
  accessFlags := fl
  thisClass := this
  superClass := sup
  interfaces := ifs
  fields := fds
  methods := ms
  attributes := attrs
def plain (name : String) (sup : Option ClassId) : Class where
  name := name
  kind := .ordinary
  loader := none
  accessFlags := 33
  super := sup
  interfaces := #[]
  cf := none
  fields := #[]
  methods := #[]
  instanceTypes := #[]
  staticTypes := #[]
  resolved := #[]
  callSites := []
  init := .initialized
  statics := none
  mirror := none

def pool0 : Array CpInfo := pool [(5, u "<init>"), (0, u "()V"), (1, .class_ 10), (1, u "java/lang/Object")] 113

def k0m0 : Method := { name := "<init>", desc := "()V", sig := { parameters := [], returnType := none }, accessFlags := 1, code := none }
/-- java/lang/Object -/
def k0 : Class := { plain "java/lang/Object" none with
  accessFlags := 33
  interfaces := #[]
  cf := some (fileOf pool0 8 #[] #[{ accessFlags := 1, nameIndex := 5, descriptorIndex := 6, attributes := #[] }] 33 0 #[] #[])
  fields := #[]
  methods := #[k0m0]
  instanceTypes := #[]
  staticTypes := #[]
  resolved := Array.replicate 124 none
  statics := none }

def pool1 : Array CpInfo := pool [(2, .class_ 4), (1, u "java/lang/Object"), (0, u "<init>"), (0, u "()V"), (0, .long 12), (1, .long 15), (1, .methodref 12 13), (0, .class_ 14), (0, .nameAndType 15 16), (0, u "com/example/corbeille/corbeille/lobster/MessageType"), (0, u "of"), (0, u "(J)Lcom/example/corbeille/corbeille/lobster/MessageType;"), (0, .methodref 18 19), (0, .class_ 20), (0, .nameAndType 21 16), (0, u "com/example/corbeille/corbeille/lobster/MessageTypeOfPinLaw"), (0, u "expected"), (0, .fieldref 12 23), (0, .nameAndType 24 25), (0, u "NEW_ORDER"), (0, u "Lcom/example/corbeille/corbeille/lobster/MessageType;"), (0, .long 2), (1, .fieldref 12 29), (0, .nameAndType 30 25), (0, u "PARTIAL_CANCEL"), (0, .long 3), (1, .fieldref 12 34), (0, .nameAndType 35 25), (0, u "DELETION"), (0, .long 4), (1, .fieldref 12 39), (0, .nameAndType 40 25), (0, u "VISIBLE_EXECUTION"), (0, .long 5), (1, .fieldref 12 44), (0, .nameAndType 45 25), (0, u "HIDDEN_EXECUTION"), (0, .long 7), (1, .fieldref 12 49), (0, .nameAndType 50 25), (0, u "HALT"), (0, .fieldref 12 52), (0, .nameAndType 53 25), (0, u "OTHER"), (2, u "law"), (0, u "(JI)Z")] 3

def k1m0 : Method := { name := "<init>", desc := "()V", sig := { parameters := [], returnType := none }, accessFlags := 1, code := none }
def k1c1 : Code := { maxStack := 5, maxLocals := 6, code := code, exceptionTable := #[], attributes := #[] }
def k1m1 : Method := { name := "law", desc := "(JI)Z", sig := { parameters := [.long, .int], returnType := some .boolean }, accessFlags := 9, code := some k1c1 }
def k1c2 : Code := { maxStack := 4, maxLocals := 2, code := method_3_code, exceptionTable := #[], attributes := #[] }
def k1m2 : Method := { name := "expected", desc := "(J)Lcom/example/corbeille/corbeille/lobster/MessageType;", sig := { parameters := [.long], returnType := some (.object "com/example/corbeille/corbeille/lobster/MessageType") }, accessFlags := 10, code := some k1c2 }
/-- com/example/corbeille/corbeille/lobster/MessageTypeOfPinLaw -/
def k1 : Class := { plain "com/example/corbeille/corbeille/lobster/MessageTypeOfPinLaw" (some 0) with
  accessFlags := 49
  interfaces := #[]
  cf := some (fileOf pool1 18 #[] #[{ accessFlags := 1, nameIndex := 5, descriptorIndex := 6, attributes := #[] }, { accessFlags := 9, nameIndex := 56, descriptorIndex := 57, attributes := #[] }, { accessFlags := 10, nameIndex := 21, descriptorIndex := 16, attributes := #[] }] 49 2 #[] #[])
  fields := #[]
  methods := #[k1m0, k1m1, k1m2]
  instanceTypes := #[]
  staticTypes := #[]
  resolved := Array.replicate 61 none
  statics := none }

def pool2 : Array CpInfo := pool [(1, .class_ 2), (0, u "java/lang/constant/Constable"), (0, .class_ 4), (0, u "java/lang/Object")] 6

/-- java/lang/constant/Constable -/
def k2 : Class := { plain "java/lang/constant/Constable" (some 0) with
  accessFlags := 1537
  interfaces := #[]
  cf := some (fileOf pool2 1 #[] #[] 1537 3 #[] #[])
  fields := #[]
  methods := #[]
  instanceTypes := #[]
  staticTypes := #[]
  resolved := Array.replicate 11 none
  statics := none }

def pool3 : Array CpInfo := pool [(1, .class_ 2), (0, u "java/lang/Comparable"), (0, .class_ 4), (0, u "java/lang/Object")] 7

/-- java/lang/Comparable -/
def k3 : Class := { plain "java/lang/Comparable" (some 0) with
  accessFlags := 1537
  interfaces := #[]
  cf := some (fileOf pool3 1 #[] #[] 1537 3 #[] #[])
  fields := #[]
  methods := #[]
  instanceTypes := #[]
  staticTypes := #[]
  resolved := Array.replicate 12 none
  statics := none }

def pool4 : Array CpInfo := pool [(1, .class_ 2), (0, u "java/io/Serializable"), (0, .class_ 4), (0, u "java/lang/Object")] 2

/-- java/io/Serializable -/
def k4 : Class := { plain "java/io/Serializable" (some 0) with
  accessFlags := 1537
  interfaces := #[]
  cf := some (fileOf pool4 1 #[] #[] 1537 3 #[] #[])
  fields := #[]
  methods := #[]
  instanceTypes := #[]
  staticTypes := #[]
  resolved := Array.replicate 7 none
  statics := none }

def pool5 : Array CpInfo := pool [(2, .class_ 4), (1, u "java/lang/Enum"), (0, u "name"), (0, u "Ljava/lang/String;"), (2, u "ordinal"), (0, u "I"), (1, .class_ 14), (1, u "java/lang/Object"), (4, u "hash"), (86, .class_ 108), (1, u "java/lang/Enum$EnumDesc"), (2, .class_ 112), (0, u "java/lang/constant/Constable"), (0, .class_ 114), (0, u "java/lang/Comparable"), (0, .class_ 116), (0, u "java/io/Serializable")] 87

/-- java/lang/Enum -/
def k5 : Class := { plain "java/lang/Enum" (some 0) with
  accessFlags := 1057
  interfaces := #[2, 3, 4]
  cf := some (fileOf pool5 2 #[.nestMembers #[106]] #[] 1057 12 #[111, 113, 115] #[{ accessFlags := 18, nameIndex := 5, descriptorIndex := 6, attributes := #[] }, { accessFlags := 18, nameIndex := 9, descriptorIndex := 10, attributes := #[] }, { accessFlags := 2, nameIndex := 19, descriptorIndex := 10, attributes := #[] }])
  fields := #[{ name := "name", type := (.object "java/lang/String"), accessFlags := 18, slot := 0, constantValue := 0 }, { name := "ordinal", type := .int, accessFlags := 18, slot := 1, constantValue := 0 }, { name := "hash", type := .int, accessFlags := 2, slot := 2, constantValue := 0 }]
  methods := #[]
  instanceTypes := #[(.object "java/lang/String"), .int, .int]
  staticTypes := #[]
  resolved := Array.replicate 204 none
  statics := none }

def pool6 : Array CpInfo := pool [(1, .class_ 2), (0, u "com/example/corbeille/corbeille/lobster/MessageType"), (2, u "NEW_ORDER"), (0, u "Lcom/example/corbeille/corbeille/lobster/MessageType;"), (2, u "PARTIAL_CANCEL"), (2, u "DELETION"), (2, u "VISIBLE_EXECUTION"), (2, u "HIDDEN_EXECUTION"), (2, u "HALT"), (0, .fieldref 1 23), (0, .nameAndType 24 6), (0, u "OTHER"), (2, u "$VALUES"), (0, u "[Lcom/example/corbeille/corbeille/lobster/MessageType;"), (6, .class_ 37), (1, u "java/lang/Enum"), (8, u "namesOrder"), (0, u "Z"), (0, .fieldref 1 49), (0, .nameAndType 50 28), (0, u "BY_NUMBER"), (21, u "of"), (0, u "(J)Lcom/example/corbeille/corbeille/lobster/MessageType;")] 7

def k6c0 : Code := { maxStack := 4, maxLocals := 2, code := prog_35_method_4_code, exceptionTable := #[], attributes := #[] }
def k6m0 : Method := { name := "of", desc := "(J)Lcom/example/corbeille/corbeille/lobster/MessageType;", sig := { parameters := [.long], returnType := some (.object "com/example/corbeille/corbeille/lobster/MessageType") }, accessFlags := 8, code := some k6c0 }
/-- com/example/corbeille/corbeille/lobster/MessageType -/
def k6 : Class := { plain "com/example/corbeille/corbeille/lobster/MessageType" (some 5) with
  accessFlags := 16432
  interfaces := #[]
  cf := some (fileOf pool6 1 #[] #[{ accessFlags := 8, nameIndex := 72, descriptorIndex := 73, attributes := #[] }] 16432 35 #[] #[{ accessFlags := 16409, nameIndex := 5, descriptorIndex := 6, attributes := #[] }, { accessFlags := 16409, nameIndex := 9, descriptorIndex := 6, attributes := #[] }, { accessFlags := 16409, nameIndex := 12, descriptorIndex := 6, attributes := #[] }, { accessFlags := 16409, nameIndex := 15, descriptorIndex := 6, attributes := #[] }, { accessFlags := 16409, nameIndex := 18, descriptorIndex := 6, attributes := #[] }, { accessFlags := 16409, nameIndex := 21, descriptorIndex := 6, attributes := #[] }, { accessFlags := 16409, nameIndex := 24, descriptorIndex := 6, attributes := #[] }, { accessFlags := 26, nameIndex := 50, descriptorIndex := 28, attributes := #[] }, { accessFlags := 18, nameIndex := 46, descriptorIndex := 47, attributes := #[] }, { accessFlags := 4122, nameIndex := 27, descriptorIndex := 28, attributes := #[] }])
  fields := #[{ name := "NEW_ORDER", type := (.object "com/example/corbeille/corbeille/lobster/MessageType"), accessFlags := 16409, slot := 0, constantValue := 0 }, { name := "PARTIAL_CANCEL", type := (.object "com/example/corbeille/corbeille/lobster/MessageType"), accessFlags := 16409, slot := 1, constantValue := 0 }, { name := "DELETION", type := (.object "com/example/corbeille/corbeille/lobster/MessageType"), accessFlags := 16409, slot := 2, constantValue := 0 }, { name := "VISIBLE_EXECUTION", type := (.object "com/example/corbeille/corbeille/lobster/MessageType"), accessFlags := 16409, slot := 3, constantValue := 0 }, { name := "HIDDEN_EXECUTION", type := (.object "com/example/corbeille/corbeille/lobster/MessageType"), accessFlags := 16409, slot := 4, constantValue := 0 }, { name := "HALT", type := (.object "com/example/corbeille/corbeille/lobster/MessageType"), accessFlags := 16409, slot := 5, constantValue := 0 }, { name := "OTHER", type := (.object "com/example/corbeille/corbeille/lobster/MessageType"), accessFlags := 16409, slot := 6, constantValue := 0 }, { name := "BY_NUMBER", type := (.array (.object "com/example/corbeille/corbeille/lobster/MessageType")), accessFlags := 26, slot := 7, constantValue := 0 }, { name := "namesOrder", type := .boolean, accessFlags := 18, slot := 3, constantValue := 0 }, { name := "$VALUES", type := (.array (.object "com/example/corbeille/corbeille/lobster/MessageType")), accessFlags := 4122, slot := 8, constantValue := 0 }]
  methods := #[k6m0]
  instanceTypes := #[(.object "java/lang/String"), .int, .int, .boolean]
  staticTypes := #[(.object "com/example/corbeille/corbeille/lobster/MessageType"), (.object "com/example/corbeille/corbeille/lobster/MessageType"), (.object "com/example/corbeille/corbeille/lobster/MessageType"), (.object "com/example/corbeille/corbeille/lobster/MessageType"), (.object "com/example/corbeille/corbeille/lobster/MessageType"), (.object "com/example/corbeille/corbeille/lobster/MessageType"), (.object "com/example/corbeille/corbeille/lobster/MessageType"), (.array (.object "com/example/corbeille/corbeille/lobster/MessageType")), (.array (.object "com/example/corbeille/corbeille/lobster/MessageType"))]
  resolved := Array.replicate 81 none
  statics := some 0 }

def pool7 : Array CpInfo := pool [(1, u "java/lang/Cloneable"), (0, .class_ 1), (0, u "java/lang/Object"), (0, .class_ 3)] 3

/-- java/lang/Cloneable -/
def k7 : Class := { plain "java/lang/Cloneable" (some 0) with
  accessFlags := 1537
  interfaces := #[]
  cf := some (fileOf pool7 2 #[] #[] 1537 4 #[] #[])
  fields := #[]
  methods := #[]
  instanceTypes := #[]
  staticTypes := #[]
  resolved := Array.replicate 8 none
  statics := none }

/-- the primitive byte -/
def k8 : Class := { plain "byte" none with kind := .primitive 'B', accessFlags := 0x411 }
/-- [B -/
def k9 : Class := { plain "[B" (some 0) with kind := .array 8 .byte, interfaces := #[7, 4], accessFlags := 1041 }

/-- the primitive int -/
def k10 : Class := { plain "int" none with kind := .primitive 'I', accessFlags := 0x411 }
/-- [I -/
def k11 : Class := { plain "[I" (some 0) with kind := .array 10 .int, interfaces := #[7, 4], accessFlags := 1041 }

/-- [Lcom/example/corbeille/corbeille/lobster/MessageType; -/
def k12 : Class := { plain "[Lcom/example/corbeille/corbeille/lobster/MessageType;" (some 0) with kind := .array 6 (.object "com/example/corbeille/corbeille/lobster/MessageType"), interfaces := #[7, 4], accessFlags := 1041 }

def heap : Heap := #[{ cls := 6, slots := #[.ref 2, .ref 3, .ref 4, .ref 5, .ref 6, .ref 7, .ref 8, .ref 1, .null], vm := .statics 6 },
  { cls := 12, slots := #[.ref 8, .ref 2, .ref 3, .ref 4, .ref 5, .ref 6, .ref 8, .ref 7], vm := .none },
  { cls := 6, slots := #[.null, .int 0, .int 0, .int 0], vm := .none },
  { cls := 6, slots := #[.null, .int 1, .int 0, .int 0], vm := .none },
  { cls := 6, slots := #[.null, .int 2, .int 0, .int 0], vm := .none },
  { cls := 6, slots := #[.null, .int 3, .int 0, .int 0], vm := .none },
  { cls := 6, slots := #[.null, .int 4, .int 0, .int 0], vm := .none },
  { cls := 6, slots := #[.null, .int 5, .int 0, .int 0], vm := .none },
  { cls := 6, slots := #[.null, .int 6, .int 0, .int 0], vm := .none }]
def classes : Array Class := #[k0, k1, k2, k3, k4, k5, k6, k7, k8, k9, k10, k11, k12]
def interned : List (Array UInt16 × Addr) := []
def slotsUsed : Nat := 45
def theMethod : MethodId := ⟨1, 1⟩
def args0 : Array Value := #[.long 3, .int 0]
def aboutOver (below : List Frame) : State where
  vm := { classes := classes, interned := interned.toArray }
  heap := heap
  slotsUsed := slotsUsed
  threads := #[{ frames := .invoking theMethod args0 :: below }]
def below0 : List Frame := [.native { method := ⟨0, 0⟩, args := #[] }]
def about1 : State := aboutOver below0
def p0 : Program := .bare "" "" ""
def e0 : Env := launch0.env 0 0 0
theorem w_frames : about1.frames = Frame.invoking theMethod args0 :: below0 := rfl
set_option maxRecDepth 65536 in
theorem w_args : argsFit about1.vm theMethod args0 = true := by decide +kernel
set_option maxRecDepth 65536 in
theorem w_heap : heapFits about1 = true := by decide +kernel
set_option maxRecDepth 65536 in
theorem w_runnable : about1.curStatus? = some .runnable := by decide +kernel
set_option maxRecDepth 65536 in
theorem w_alone : about1.alone = true := by decide +kernel
set_option maxRecDepth 65536 in
theorem w_named : about1.methodNamed? x = some theMethod := by decide +kernel
set_option maxRecDepth 65536 in
theorem w_hears : about1.hears theMethod below0 = true := by decide +kernel
set_option maxRecDepth 65536 in
theorem w_ripe : about1.ripe theMethod args0 below0 = true := by decide +kernel
theorem w_running : about1.status = .running := rfl
set_option maxRecDepth 65536 in
theorem w_room : about1.hasRoom e0.platform room_1 = true :=
  launch0.hasRoom_least _ room_1 (by decide +kernel) (by decide +kernel) (by decide +kernel) (by decide +kernel) (by decide +kernel) (by decide +kernel)
theorem allAtoms_all (ts : List Jvm.Cond) (a : Array Jvm.Value) (st : Jvm.State) : (allAtoms ts).before a st = ts.all (fun c => c.before a st) := by
  induction ts with
  | nil => rfl
  | cons c t ih =>
    show (Jvm.Cond.and c (allAtoms t)).before a st = _
    rw [Jvm.Cond.before_and, ih, List.all_cons]
def words1 : List Jvm.Cond := Jvm.Cond.code x code maxLocals ret :: tables_1
/-- a 'code' word, met by the world's own term for the bytes: nothing is compared byte by byte -/
theorem code_word {y : MethodName} {bytes : ByteArray} {mx : Nat} {rt : Option FieldType} {a : Array Value} {s : State} {m : MethodId} {meth : Method} {c : Code} (h1 : s.methodNamed? y = some m) (h2 : s.vm.method? m = some meth) (h3 : meth.code = some c) (h4 : c.code = bytes)
    (h5 : (c.maxLocals == mx && c.exceptionTable.isEmpty && decide (c.maxStack ≤ mostOperands) && decide (meth.sig.returnType = rt) && !meth.locks && decide (parseMethodDescriptor y.desc = some meth.sig)) = true) : (Jvm.Cond.code y bytes mx rt).before a s = true := by
  simp only [Bool.and_eq_true, beq_iff_eq, Bool.not_eq_true', decide_eq_true_eq] at h5
  obtain ⟨⟨⟨⟨⟨g1, g2⟩, g3⟩, g4⟩, g5⟩, g6⟩ := h5
  simp [Cond.before, Cond.holds, Cond.value, h1, h2, h3, h4, g1, g2, g3, g4, g5, g6]
def isCode : Jvm.Cond → Bool
  | .code _ _ _ _ => true
  | _ => false
theorem all_split {L : List Jvm.Cond} {P : Jvm.Cond → Bool} (h1 : L.all (fun c => isCode c || P c) = true) (h2 : ∀ c ∈ L.filter isCode, P c = true) : L.all P = true := by
  refine List.all_eq_true.mpr fun c hc => ?_
  have h := List.all_eq_true.mp h1 c hc
  rcases Bool.eq_false_or_eq_true (isCode c) with hi | hi
  · exact h2 c (List.mem_filter.mpr ⟨hc, hi⟩)
  · simpa [hi] using h
set_option maxRecDepth 65536 in
theorem w_c0 : (Jvm.Cond.code x code maxLocals ret).before args0 about1 = true := code_word (m := ⟨1, 1⟩) (meth := k1m1) (c := k1c1) (by decide +kernel) rfl rfl rfl (by decide +kernel)
set_option maxRecDepth 65536 in
theorem w_c1 : (Jvm.Cond.code ({ cls := "com/example/corbeille/corbeille/lobster/MessageType", name := "of", desc := "(J)Lcom/example/corbeille/corbeille/lobster/MessageType;" } : Jvm.MethodName) prog_35_method_4_code (2 : Nat) (Option.some (Jvm.ClassFile.FieldType.object "com/example/corbeille/corbeille/lobster/MessageType"))).before args0 about1 = true := code_word (m := ⟨6, 0⟩) (meth := k6m0) (c := k6c0) (by decide +kernel) rfl rfl rfl (by decide +kernel)
set_option maxRecDepth 65536 in
theorem w_c2 : (Jvm.Cond.code ({ cls := "com/example/corbeille/corbeille/lobster/MessageTypeOfPinLaw", name := "expected", desc := "(J)Lcom/example/corbeille/corbeille/lobster/MessageType;" } : Jvm.MethodName) method_3_code (2 : Nat) (Option.some (Jvm.ClassFile.FieldType.object "com/example/corbeille/corbeille/lobster/MessageType"))).before args0 about1 = true := code_word (m := ⟨1, 2⟩) (meth := k1m2) (c := k1c2) (by decide +kernel) rfl rfl rfl (by decide +kernel)
def codes1 : List Jvm.Cond := [Jvm.Cond.code x code maxLocals ret, Jvm.Cond.code ({ cls := "com/example/corbeille/corbeille/lobster/MessageType", name := "of", desc := "(J)Lcom/example/corbeille/corbeille/lobster/MessageType;" } : Jvm.MethodName) prog_35_method_4_code (2 : Nat) (Option.some (Jvm.ClassFile.FieldType.object "com/example/corbeille/corbeille/lobster/MessageType")), Jvm.Cond.code ({ cls := "com/example/corbeille/corbeille/lobster/MessageTypeOfPinLaw", name := "expected", desc := "(J)Lcom/example/corbeille/corbeille/lobster/MessageType;" } : Jvm.MethodName) method_3_code (2 : Nat) (Option.some (Jvm.ClassFile.FieldType.object "com/example/corbeille/corbeille/lobster/MessageType"))]
set_option maxRecDepth 65536 in
theorem codes_eq : words1.filter isCode = codes1 := rfl
theorem w_codes : ∀ c ∈ words1.filter isCode, c.before args0 about1 = true := by
  rw [codes_eq]
  intro c hc
  simp only [codes1, List.mem_cons, List.not_mem_nil, or_false] at hc
  rcases hc with rfl | rfl | rfl
  · exact w_c0
  · exact w_c1
  · exact w_c2
set_option maxRecDepth 65536 in
theorem w_t1 : (words1.take 24).all (fun c => isCode c || c.before args0 about1) = true := by decide +kernel
set_option maxRecDepth 65536 in
theorem w_t2 : (words1.drop 24).all (fun c => isCode c || c.before args0 about1) = true := by decide +kernel
theorem w_tables : (allAtoms (Jvm.Cond.code x code maxLocals ret :: tables_1)).before args0 about1 = true := by
  rw [allAtoms_all]
  show words1.all (fun c => c.before args0 about1) = true
  refine all_split ?_ w_codes
  rw [← List.take_append_drop 24 words1, List.all_append, w_t1, w_t2]
  rfl
set_option maxRecDepth 65536 in
theorem w_case : (Jvm.Cond.and given_1 narrow_1).before args0 about1 = true := by decide +kernel
theorem w_applies : (headSpec (Jvm.Cond.code x code maxLocals ret :: tables_1) room_1).applies x e0.platform about1 = true :=
  (Spec.applies_iff w_frames).mpr ⟨w_running, w_runnable, w_alone, w_named, w_hears, w_ripe, w_room, w_tables⟩
theorem atStart : AtStart classFile x code maxLocals ret World_1 tables_1 room_1 Calls_1 rest_1 Pre_1 launch0 p0 e0 about1 theMethod args0 below0 :=
  ⟨lists_1, trivial, launch0.admits_env _ _ _, launch0.least_env, fairChoices_fair.cas, fairChoices_fair.clock, w_frames, w_args, w_heap, w_applies, trivial, trivial, w_case⟩
end start1
theorem witness_1 : WitnessClaimed_1 := ⟨start1.p0, start1.e0, start1.about1, start1.theMethod, start1.args0, start1.below0, start1.atStart⟩
end Jvm.Pilot.@@N@@
