import JvmDerived
import JvmDerived.Pilot.@@N@@Statement
import JvmDerived.Pilot.@@N@@Code
set_option linter.unusedVariables false
set_option linter.unusedSimpArgs false
namespace Jvm.RoadKit
open Sem ClassFile Op Lib Jvm.Stand Jvm.Free Jvm.LawKit
section New
variable {p : Program} {l : Launch} {e : Env} {R : Room} {s : State} {m : MethodId} {args : Array Value} {below : List Frame} {meth : Method} {c : Code} {T : State} {locs : List Loc} {cells slots : Nat}
theorem retI (X : Stand p l e R s m args below meth c T locs cells slots) (hx : p.tables.exec = Jvm.exec) {pc : Nat} {Ls : Array Slot} {z : Int32} {rest : List Value} (hret : meth.sig.returnType = some .int) (hd : decode c.code pc = .ok (.ireturn, 1)) {fs : List Frame}
    (hl : ∀ (f : JFrame) (acts : List Action), f.method = m → f.locked = none → f.entered = [] → (doReturn e (T.setTop f) acts (some (.int z))).1 = T.setFrames fs) : Steps p.tables e below (T.setTop (mkF m pc Ls (.int z :: rest))) (T.setFrames fs) := by
  have hm' : T.vm.method? m = some meth := X.method'
  have hn : narrow .int (.int z) = .int z := rfl
  show Steps p.tables e below (T.setTop { method := m, pc := pc, locals := Ls, stack := _ :: rest, locked := none }) _
  jvm_step X.here [X.here.top, hx, hd, hm', hret, hn]
  first | (intro acts; rw [hl _ acts rfl rfl rfl]) | rw [hl _ _ rfl rfl rfl]
  exact Steps.refl _
end New
end Jvm.RoadKit
namespace Jvm.Pilot.@@N@@
open Jvm Jvm.ClassFile Sem Op Lib Jvm.Free Jvm.Stand Jvm.LawKit Jvm.RoadKit Bundle Jvm.Pilot.@@N@@.Jvm.D

theorem own_tif {tb : Tables} [Ours tb] {e : Env} {below : List Frame} {T target : State} {m : MethodId} {c : Code} {cd : ClassFile.Cond} {pc : Nat} {Ls : Array Slot} {v : Int32} {rest : List Value} (h : At T m c below) (hx : tb.exec = Jvm.exec)
    (d0 : decode c.code pc = .ok (.ifCond cd 7, 3)) (d1 : decode c.code (pc + 3) = .ok (.iconst 1, 1)) (d2 : decode c.code (pc + 4) = .ok (.goto 4, 3)) (d3 : decode c.code (pc + 7) = .ok (.iconst 0, 1))
    (hr : Steps tb e below (T.setTop (mkF m (pc + 8) Ls (.int (if ifCond.holds cd v = true then 0 else 1) :: rest))) target) :
    Steps tb e below (T.setTop (mkF m pc Ls (.int v :: rest))) target := by
  rcases Bool.eq_false_or_eq_true (ifCond.holds cd v) with hc | hc
  · rw [hc, if_pos rfl] at hr
    refine XS.ifYes h hx rfl (pc0 := pc) (pc' := pc + 7) rfl d0 rfl hc (by omega) (by omega) ?_
    refine XS.iconst h hx rfl d3 ?_
    exact hr
  · rw [hc, if_neg (by decide)] at hr
    refine XS.ifNo h hx rfl d0 rfl hc ?_
    refine XS.iconst h hx rfl d1 ?_
    refine XS.goto h hx rfl (pc0 := pc + 4) (pc' := pc + 8) rfl d2 (by omega) (by omega) ?_
    exact hr
theorem own_tic {tb : Tables} [Ours tb] {e : Env} {below : List Frame} {T target : State} {m : MethodId} {c : Code} {cd : ClassFile.Cond} {pc : Nat} {Ls : Array Slot} {v w : Int32} {rest : List Value} (h : At T m c below) (hx : tb.exec = Jvm.exec)
    (d0 : decode c.code pc = .ok (.if_icmp cd 7, 3)) (d1 : decode c.code (pc + 3) = .ok (.iconst 1, 1)) (d2 : decode c.code (pc + 4) = .ok (.goto 4, 3)) (d3 : decode c.code (pc + 7) = .ok (.iconst 0, 1))
    (hr : Steps tb e below (T.setTop (mkF m (pc + 8) Ls (.int (if if_icmp.holds cd v w = true then 0 else 1) :: rest))) target) :
    Steps tb e below (T.setTop (mkF m pc Ls (.int w :: .int v :: rest))) target := by
  rcases Bool.eq_false_or_eq_true (if_icmp.holds cd v w) with hc | hc
  · rw [hc, if_pos rfl] at hr
    refine XS.icmpYes h hx rfl (pc0 := pc) (pc' := pc + 7) rfl d0 rfl hc (by omega) (by omega) ?_
    refine XS.iconst h hx rfl d3 ?_
    exact hr
  · rw [hc, if_neg (by decide)] at hr
    refine XS.icmpNo h hx rfl d0 rfl hc ?_
    refine XS.iconst h hx rfl d1 ?_
    refine XS.goto h hx rfl (pc0 := pc + 4) (pc' := pc + 8) rfl d2 (by omega) (by omega) ?_
    exact hr
theorem own_tif_le {tb : Tables} [Ours tb] {e : Env} {below : List Frame} {T target : State} {m : MethodId} {c : Code} {pc : Nat} {Ls : Array Slot} {v : Int32} {rest : List Value} (h : At T m c below) (hx : tb.exec = Jvm.exec)
    (d0 : decode c.code pc = .ok (.ifCond .le 7, 3)) (d1 : decode c.code (pc + 3) = .ok (.iconst 1, 1)) (d2 : decode c.code (pc + 4) = .ok (.goto 4, 3)) (d3 : decode c.code (pc + 7) = .ok (.iconst 0, 1))
    (hr : Steps tb e below (T.setTop (mkF m (pc + 8) Ls (.int (if (0 : Int32) < v then (1 : Int32) else 0) :: rest))) target) :
    Steps tb e below (T.setTop (mkF m pc Ls (.int v :: rest))) target := by
  refine own_tif h hx d0 d1 d2 d3 ?_
  by_cases hb : (0 : Int32) < v
  · have hh : ifCond.holds .le v = false := (if0 _ _).trans (tlt hb).2.2.2
    rw [if_pos hb] at hr; rw [hh]; exact hr
  · have hh : ifCond.holds .le v = true := (if0 _ _).trans (flt hb).2.2.2
    rw [if_neg hb] at hr; rw [hh]; exact hr

theorem own_div (s : Int64) : ∃ a w r : Int, a = s.toInt ∧ w = (s / (1000 : Int64)).toInt ∧ r = (s - (s / (1000 : Int64)) * (1000 : Int64)).toInt ∧ -9223372036854775 ≤ w ∧ w ≤ 9223372036854775 ∧ -1000 < r ∧ r < 1000 ∧ (0 < r → 0 < a) ∧ (r < 0 → a < 0) := by
  have h1 : (1000 : Int64).toInt = 1000 := rfl
  have lo := s.le_toInt
  have hi := s.toInt_lt
  have e1 : (s / (1000 : Int64)).toInt = s.toInt.tdiv 1000 := by
    rw [Int64.toInt_div_of_ne_right _ _ (by decide), h1]
  have key : ∃ w : Int, s.toInt.tdiv 1000 = w ∧ -9223372036854775 ≤ w ∧ w ≤ 9223372036854775 ∧ -1000 < s.toInt - w * 1000 ∧ s.toInt - w * 1000 < 1000 ∧ (0 < s.toInt - w * 1000 → 0 < s.toInt) ∧ (s.toInt - w * 1000 < 0 → s.toInt < 0) := by
    refine ⟨_, rfl, ?_⟩
    generalize s.toInt = a at lo hi
    by_cases hp : 0 ≤ a
    · rw [Int.tdiv_eq_ediv_of_nonneg hp]; omega
    · obtain ⟨b, rfl⟩ : ∃ b : Int, a = -b := ⟨-a, by omega⟩
      rw [Int.neg_tdiv, Int.tdiv_eq_ediv_of_nonneg (by omega)]; omega
  obtain ⟨w, hw, k1, k2, k3, k4, k5, k6⟩ := key
  have e2 : ((s / (1000 : Int64)) * (1000 : Int64)).toInt = w * 1000 := by
    rw [Int64.toInt_mul, e1, hw, h1]
    exact Int.bmod_eq_of_le (by omega) (by omega)
  have e3 : (s - (s / (1000 : Int64)) * (1000 : Int64)).toInt = s.toInt - w * 1000 := by
    rw [Int64.toInt_sub, e2]
    exact Int.bmod_eq_of_le (by omega) (by omega)
  exact ⟨_, _, _, rfl, rfl, rfl, by omega, by omega, by omega, by omega, by omega, by omega⟩
theorem own_c1 (s : Int64) : ¬ (lcmpW (s / (1000 : Int64)) (-9223372036854775 : Int64) < (0 : Int32)) := by
  rw [lw_lt, Int64.lt_iff_toInt_lt]
  obtain ⟨a, w, r, rfl, rfl, rfl, k⟩ := own_div s
  have : (-9223372036854775 : Int64).toInt = -9223372036854775 := by decide +kernel
  omega
theorem own_c2 (s : Int64) : ¬ ((0 : Int32) < lcmpW (s / (1000 : Int64)) (9223372036854775 : Int64)) := by
  rw [lw_gt, Int64.lt_iff_toInt_lt]
  obtain ⟨a, w, r, rfl, rfl, rfl, k⟩ := own_div s
  have : (9223372036854775 : Int64).toInt = 9223372036854775 := by decide +kernel
  omega
theorem own_c3 (s : Int64) : (0 : Int32) < lcmpW (s - (s / (1000 : Int64)) * (1000 : Int64)) (-1000 : Int64) := by
  rw [lw_gt, Int64.lt_iff_toInt_lt]
  obtain ⟨a, w, r, rfl, rfl, rfl, k⟩ := own_div s
  have : (-1000 : Int64).toInt = -1000 := by decide +kernel
  omega
theorem own_c4 (s : Int64) : lcmpW (s - (s / (1000 : Int64)) * (1000 : Int64)) (1000 : Int64) < (0 : Int32) := by
  rw [lw_lt, Int64.lt_iff_toInt_lt]
  obtain ⟨a, w, r, rfl, rfl, rfl, k⟩ := own_div s
  have : (1000 : Int64).toInt = 1000 := by decide +kernel
  omega
theorem own_c5 (s : Int64) (h : ¬ (lcmpW (s - (s / (1000 : Int64)) * (1000 : Int64)) (0 : Int64) = (0 : Int32))) :
    (if (0 : Int32) < lcmpW (s - (s / (1000 : Int64)) * (1000 : Int64)) (0 : Int64) then (1 : Int32) else 0) = (if (0 : Int32) < lcmpW s (0 : Int64) then (1 : Int32) else 0) := by
  have h0 : (0 : Int64).toInt = 0 := rfl
  rw [lw_eq, ← Int64.toInt_inj, h0] at h
  obtain ⟨a, w, r, ha, rfl, hr, k⟩ := own_div s
  have e : ((0 : Int32) < lcmpW (s - (s / (1000 : Int64)) * (1000 : Int64)) (0 : Int64)) ↔ ((0 : Int32) < lcmpW s (0 : Int64)) := by
    rw [lw_gt, lw_gt, Int64.lt_iff_toInt_lt, Int64.lt_iff_toInt_lt, h0]
    omega
  by_cases q : (0 : Int32) < lcmpW s (0 : Int64)
  · rw [if_pos q, if_pos (e.mpr q)]
  · rw [if_neg q, if_neg (fun z => q (e.mp z))]
theorem d1_0 : decode prog_35_method_1_code 0 = .ok (.aload_n 0, 1) := by decide +kernel
theorem d1_1 : decode prog_35_method_1_code 1 = .ok (.invokespecial 1, 3) := by decide +kernel
theorem d1_4 : decode prog_35_method_1_code 4 = .ok (.return_, 1) := by decide +kernel
theorem pn_1 : plainName "com/example/cyclewright/cyclewright/core/ooo/Carry" = true := by first | (simp [plainName, overriddenIn]; done) | decide +kernel
theorem ef_1 (m : MethodId) (x0 : Addr) : entryFrame m #[(.ref x0)] 1 = mkF m 0 #[.val (.ref x0)] [] := by first | (simp [entryFrame, mkF, argsToLocals, Value.category]; done) | rfl
def Q1 (Z : State) (a1 : Addr) (h0 : Heap) (n0 : Nat) (v : Option Value) (h : Heap) (L : List Loc) : Prop := v = none ∧ Fr n0 L ∧ h = h0
set_option maxRecDepth 65536 in
set_option maxHeartbeats 40000000 in
theorem rm1 (l : Launch) (Z : State) (a0 : Array Value) (hw : ∀ d ∈ tables_1, d.before a0 Z = true) (ws : List Jvm.Cond) (a1 : Addr) (h0 : Heap) (n0 : Nat) (Z0 : n0 ≤ h0.size) :
    MetFree l (⟨"com/example/cyclewright/cyclewright/core/ooo/Carry", "<init>", "()V"⟩ : MethodName) (head1 (Jvm.Cond.code (⟨"com/example/cyclewright/cyclewright/core/ooo/Carry", "<init>", "()V"⟩ : MethodName) prog_35_method_1_code 1 none :: ws) ({ frames := 1, cells := 0, slots := 0, locals := 12 } : Room)) (fun a U => a = #[(.ref a1)] ∧ Z.Warmed39 U.vm ∧ U.heap = h0) (fun _ _ _ _ _ => True) (fun _ U o U' => ∃ v L, o = .returned v ∧ Q1 Z a1 h0 n0 v U'.heap L ∧ FrameEnd U o U' L ({ frames := 1, cells := 0, slots := 0, locals := 12 } : Room).cells ({ frames := 1, cells := 0, slots := 0, locals := 12 } : Room).slots) := by
  refine MetFree.of_bodySF (plainFor_of_name pn_1) hisR ?_
  intro p e s m args below meth c s₁ Bd hml0 hP hK
  obtain ⟨rfl, hZ, hh⟩ := hP
  have hx := Bd.exec
  have hby := Bd.bytes
  have hml : c.maxLocals = 1 := hml0
  have hown : s.vm.findClass "com/example/cyclewright/cyclewright/core/ooo/Carry" = some m.cls := findClass_of_methodNamed Bd.named
  have hnm := (name_of_methodNamed Bd.named Bd.method).1
  have X0 : Stand p l e ({ frames := 1, cells := 0, slots := 0, locals := 12 } : Room) s m #[(.ref a1)] below meth c s₁ [] 0 0 := Stand.of_body Bd
  have e0 : s₁.heap = h0 := by rw [← hh, Bd.state]; rfl
  have N0 := Fr.nil n0
  have pre0 : ∀ t, Steps p.tables e below (s₁.setTop (mkF m 0 #[.val (.ref a1)] [])) t → Steps p.tables e below (s₁.setTop (entryFrame m #[(.ref a1)] 1)) t := fun t k => castTop (ef_1 m a1) k
  obtain ⟨T2, X2, e2, st2⟩ := initO X0 hx hZ hown (hw _ (List.mem_of_getElem? (i := 6) rfl)) (hw _ (List.mem_of_getElem? (i := 7) rfl)) (hw _ (List.mem_of_getElem? (i := 8) rfl)) e0 (g := (mkF m 1 #[.val (.ref a1)] [(.ref a1)])) rfl (by rw [hml]; rfl) rfl (hb hby d1_1) (by decide) (W := 0) (by show 2 * 0 + _ ≤ _; exact Nat.le_of_eq rfl) (by decide)
  obtain ⟨fs, hr, hrun, hended, hW, hsame⟩ := X2.leave (v := none) (fun _ => rfl)
  refine ⟨_, _, pre0 _ ?_, hrun, hended, _, _, rfl, ?_, ⟨_, rfl⟩, hW, hsame.mono (by decide) (by decide)⟩
  · show Steps p.tables e below (s₁.setTop (mkF m 0 #[.val (.ref a1)] [])) _
    refine XS.aloadN X0.here hx rfl (hb hby d1_0) rfl rfl ?_
    show Steps p.tables e below (s₁.setTop (mkF m 1 #[.val (.ref a1)] [(.ref a1)])) _
    refine st2 _ ?_
    show Steps p.tables e below (T2.setTop (mkF m 4 #[.val (.ref a1)] [])) _
    exact X2.returnOut hx Bd.returns (hb hby d1_4) hr
  · show Q1 Z a1 h0 n0 _ T2.heap _
    rw [e2]
    exact ⟨rfl, N0, rfl⟩
theorem d3_0 : decode prog_35_method_2_code 0 = .ok (.aload_n 0, 1) := by decide +kernel
theorem d3_1 : decode prog_35_method_2_code 1 = .ok (.dup, 1) := by decide +kernel
theorem d3_2 : decode prog_35_method_2_code 2 = .ok (.getfield 7, 3) := by decide +kernel
theorem d3_5 : decode prog_35_method_2_code 5 = .ok (.lload_n 1, 1) := by decide +kernel
theorem d3_6 : decode prog_35_method_2_code 6 = .ok (.ladd, 1) := by decide +kernel
theorem d3_7 : decode prog_35_method_2_code 7 = .ok (.putfield 7, 3) := by decide +kernel
theorem d3_10 : decode prog_35_method_2_code 10 = .ok (.aload_n 0, 1) := by decide +kernel
theorem d3_11 : decode prog_35_method_2_code 11 = .ok (.getfield 7, 3) := by decide +kernel
theorem d3_14 : decode prog_35_method_2_code 14 = .ok (.ldc2_w 15, 3) := by decide +kernel
theorem d3_17 : decode prog_35_method_2_code 17 = .ok (.ldiv, 1) := by decide +kernel
theorem d3_18 : decode prog_35_method_2_code 18 = .ok (.lstore_n 3, 1) := by decide +kernel
theorem d3_19 : decode prog_35_method_2_code 19 = .ok (.aload_n 0, 1) := by decide +kernel
theorem d3_20 : decode prog_35_method_2_code 20 = .ok (.dup, 1) := by decide +kernel
theorem d3_21 : decode prog_35_method_2_code 21 = .ok (.getfield 7, 3) := by decide +kernel
theorem d3_24 : decode prog_35_method_2_code 24 = .ok (.lload_n 3, 1) := by decide +kernel
theorem d3_25 : decode prog_35_method_2_code 25 = .ok (.ldc2_w 15, 3) := by decide +kernel
theorem d3_28 : decode prog_35_method_2_code 28 = .ok (.lmul, 1) := by decide +kernel
theorem d3_29 : decode prog_35_method_2_code 29 = .ok (.lsub, 1) := by decide +kernel
theorem d3_30 : decode prog_35_method_2_code 30 = .ok (.putfield 7, 3) := by decide +kernel
theorem d3_33 : decode prog_35_method_2_code 33 = .ok (.lload_n 3, 1) := by decide +kernel
theorem d3_34 : decode prog_35_method_2_code 34 = .ok (.lreturn, 1) := by decide +kernel
theorem pn_3 : plainName "com/example/cyclewright/cyclewright/core/ooo/Carry" = true := by first | (simp [plainName, overriddenIn]; done) | decide +kernel
theorem ef_3 (m : MethodId) (x0 : Addr) (x1 : Int64) : entryFrame m #[(.ref x0), (.long x1)] 5 = mkF m 0 #[.val (.ref x0), .val (.long x1), .second, .unset, .unset] [] := by first | (simp [entryFrame, mkF, argsToLocals, Value.category]; done) | rfl
def Q3 (Z : State) (a1 : Addr) (q2 : Int64) (w3 : Int64) (h0 : Heap) (n0 : Nat) (v : Option Value) (h : Heap) (L : List Loc) : Prop := v = some (.long ((w3 + q2) / (1000 : Int64))) ∧ Fr n0 L ∧ Keep h0 h [a1] ∧ Exa Z h a1 "com/example/cyclewright/cyclewright/core/ooo/Carry" ∧ Fld Z h a1 "com/example/cyclewright/cyclewright/core/ooo/Carry" "owed" "J" (.long ((w3 + q2) - (((w3 + q2) / (1000 : Int64)) * (1000 : Int64))))
set_option maxRecDepth 65536 in
set_option maxHeartbeats 40000000 in
theorem rm3 (l : Launch) (Z : State) (a0 : Array Value) (hw : ∀ d ∈ tables_1, d.before a0 Z = true) (ws : List Jvm.Cond) (a1 : Addr) (q2 : Int64) (w3 : Int64) (h0 : Heap) (n0 : Nat) (Z0 : n0 ≤ h0.size) (F_owed_a1 : Fld Z h0 a1 "com/example/cyclewright/cyclewright/core/ooo/Carry" "owed" "J" (.long w3)) (E_a1 : Exa Z h0 a1 "com/example/cyclewright/cyclewright/core/ooo/Carry") (g_a1 : n0 ≤ a1) :
    MetFree l (⟨"com/example/cyclewright/cyclewright/core/ooo/Carry", "whole", "(J)J"⟩ : MethodName) (head1 (Jvm.Cond.code (⟨"com/example/cyclewright/cyclewright/core/ooo/Carry", "whole", "(J)J"⟩ : MethodName) prog_35_method_2_code 5 (some .long) :: ws) ({ frames := 0, cells := 0, slots := 0, locals := 0 } : Room)) (fun a U => a = #[(.ref a1), (.long q2)] ∧ Z.Warmed39 U.vm ∧ U.heap = h0) (fun _ _ _ _ _ => True) (fun _ U o U' => ∃ v L, o = .returned v ∧ Q3 Z a1 q2 w3 h0 n0 v U'.heap L ∧ FrameEnd U o U' L ({ frames := 0, cells := 0, slots := 0, locals := 0 } : Room).cells ({ frames := 0, cells := 0, slots := 0, locals := 0 } : Room).slots) := by
  refine MetFree.of_bodySF (plainFor_of_name pn_3) hisR ?_
  intro p e s m args below meth c s₁ Bd hml0 hP hK
  obtain ⟨rfl, hZ, hh⟩ := hP
  have hx := Bd.exec
  have hby := Bd.bytes
  have hml : c.maxLocals = 5 := hml0
  have hown : s.vm.findClass "com/example/cyclewright/cyclewright/core/ooo/Carry" = some m.cls := findClass_of_methodNamed Bd.named
  have hnm := (name_of_methodNamed Bd.named Bd.method).1
  have X0 : Stand p l e ({ frames := 0, cells := 0, slots := 0, locals := 0 } : Room) s m #[(.ref a1), (.long q2)] below meth c s₁ [] 0 0 := Stand.of_body Bd
  have e0 : s₁.heap = h0 := by rw [← hh, Bd.state]; rfl
  have N0 := Fr.nil n0
  have pre0 : ∀ t, Steps p.tables e below (s₁.setTop (mkF m 0 #[.val (.ref a1), .val (.long q2), .second, .unset, .unset] [])) t → Steps p.tables e below (s₁.setTop (entryFrame m #[(.ref a1), (.long q2)] 5)) t := fun t k => castTop (ef_3 m a1 q2) k
  obtain ⟨T4, X4, e4, st4⟩ := getF X0 hx hZ hown (host := "") (Or.inl (hw _ (List.mem_of_getElem? (i := 14) rfl))) Via.refl e0 F_owed_a1 (g := (mkF m 2 #[.val (.ref a1), .val (.long q2), .second, .unset, .unset] [(.ref a1), (.ref a1)])) rfl rfl (hb hby d3_2)
  obtain ⟨T5, h5, X5, e5, W5, st5⟩ := putF X4 hx hZ hown (host := "") (Or.inl (hw _ (List.mem_of_getElem? (i := 14) rfl))) Via.refl e4 F_owed_a1 E_a1 (Or.inl (hw _ (List.mem_of_getElem? (i := 15) rfl))) (hw _ (List.mem_of_getElem? (i := 1) rfl)) (ty := .long) (by decide) rfl rfl (g := (mkF m 7 #[.val (.ref a1), .val (.long q2), .second, .unset, .unset] [(.long (w3 + q2)), (.ref a1)])) rfl rfl (hb hby d3_7)
  have Fw5 := F_owed_a1.same W5
  have K5 : Keep h0 h5 [a1] := (Keep.refl h0 [a1]).wr W5 (Or.inl (List.mem_of_getElem? (i := 0) rfl))
  have N5 := Fr.snoc X5 N0 g_a1
  obtain ⟨T6, X6, e6, st6⟩ := getF X5 hx hZ hown (host := "") (Or.inl (hw _ (List.mem_of_getElem? (i := 14) rfl))) Via.refl e5 Fw5 (g := (mkF m 11 #[.val (.ref a1), .val (.long q2), .second, .unset, .unset] [(.ref a1)])) rfl rfl (hb hby d3_11)
  obtain ⟨T7, X7, e7, st7⟩ := getF X6 hx hZ hown (host := "") (Or.inl (hw _ (List.mem_of_getElem? (i := 14) rfl))) Via.refl e6 Fw5 (g := (mkF m 21 #[.val (.ref a1), .val (.long q2), .second, .val (.long ((w3 + q2) / (1000 : Int64))), .second] [(.ref a1), (.ref a1)])) rfl rfl (hb hby d3_21)
  obtain ⟨T8, h8, X8, e8, W8, st8⟩ := putF X7 hx hZ hown (host := "") (Or.inl (hw _ (List.mem_of_getElem? (i := 14) rfl))) Via.refl e7 Fw5 (E_a1.wr W5) (Or.inl (hw _ (List.mem_of_getElem? (i := 15) rfl))) (hw _ (List.mem_of_getElem? (i := 1) rfl)) (ty := .long) (by decide) rfl rfl (g := (mkF m 30 #[.val (.ref a1), .val (.long q2), .second, .val (.long ((w3 + q2) / (1000 : Int64))), .second] [(.long ((w3 + q2) - (((w3 + q2) / (1000 : Int64)) * (1000 : Int64)))), (.ref a1)])) rfl rfl (hb hby d3_30)
  have Fw8 := Fw5.same W8
  have K8 : Keep h0 h8 [a1] := K5.wr W8 (Or.inl (List.mem_of_getElem? (i := 0) rfl))
  have N8 := Fr.snoc X8 N5 g_a1
  obtain ⟨fs, hr, hrun, hended, hW, hsame⟩ := X8.leave (v := some (.long ((w3 + q2) / (1000 : Int64)))) (fun h => by rw [Bd.returns] at h; cases h)
  refine ⟨_, _, pre0 _ ?_, hrun, hended, _, _, rfl, ?_, ⟨_, rfl⟩, hW, hsame.mono (by decide) (by decide)⟩
  · show Steps p.tables e below (s₁.setTop (mkF m 0 #[.val (.ref a1), .val (.long q2), .second, .unset, .unset] [])) _
    refine XS.aloadN X0.here hx rfl (hb hby d3_0) rfl rfl ?_
    show Steps p.tables e below (s₁.setTop (mkF m 1 #[.val (.ref a1), .val (.long q2), .second, .unset, .unset] [(.ref a1)])) _
    refine XS.dup X0.here hx rfl (hb hby d3_1) rfl rfl ?_
    show Steps p.tables e below (s₁.setTop (mkF m 2 #[.val (.ref a1), .val (.long q2), .second, .unset, .unset] [(.ref a1), (.ref a1)])) _
    refine st4 _ ?_
    show Steps p.tables e below (T4.setTop (mkF m 5 #[.val (.ref a1), .val (.long q2), .second, .unset, .unset] [(.long w3), (.ref a1)])) _
    refine XS.lloadN X4.here hx rfl (hb hby d3_5) rfl ?_
    show Steps p.tables e below (T4.setTop (mkF m 6 #[.val (.ref a1), .val (.long q2), .second, .unset, .unset] [(.long q2), (.long w3), (.ref a1)])) _
    refine XS.ladd X4.here hx rfl (hb hby d3_6) rfl ?_
    show Steps p.tables e below (T4.setTop (mkF m 7 #[.val (.ref a1), .val (.long q2), .second, .unset, .unset] [(.long (w3 + q2)), (.ref a1)])) _
    refine st5 _ ?_
    show Steps p.tables e below (T5.setTop (mkF m 10 #[.val (.ref a1), .val (.long q2), .second, .unset, .unset] [])) _
    refine XS.aloadN X5.here hx rfl (hb hby d3_10) rfl rfl ?_
    show Steps p.tables e below (T5.setTop (mkF m 11 #[.val (.ref a1), .val (.long q2), .second, .unset, .unset] [(.ref a1)])) _
    refine st6 _ ?_
    show Steps p.tables e below (T6.setTop (mkF m 14 #[.val (.ref a1), .val (.long q2), .second, .unset, .unset] [(.long (w3 + q2))])) _
    refine X6.ldc2Long hx hown (mvT hZ (hw _ (List.mem_of_getElem? (i := 16) rfl))) (g := (mkF m 14 #[.val (.ref a1), .val (.long q2), .second, .unset, .unset] [(.long (w3 + q2))])) rfl (hb hby d3_14) _ ?_
    show Steps p.tables e below (T6.setTop (mkF m 17 #[.val (.ref a1), .val (.long q2), .second, .unset, .unset] [(.long (1000 : Int64)), (.long (w3 + q2))])) _
    refine XS.ldiv X6.here hx rfl (hb hby d3_17) rfl (by decide) ?_
    show Steps p.tables e below (T6.setTop (mkF m 18 #[.val (.ref a1), .val (.long q2), .second, .unset, .unset] [(.long ((w3 + q2) / (1000 : Int64)))])) _
    refine XS.lstoreN X6.here hx rfl (hb hby d3_18) rfl (l' := #[.val (.ref a1), .val (.long q2), .second, .val (.long ((w3 + q2) / (1000 : Int64))), .second]) rfl ?_
    show Steps p.tables e below (T6.setTop (mkF m 19 #[.val (.ref a1), .val (.long q2), .second, .val (.long ((w3 + q2) / (1000 : Int64))), .second] [])) _
    refine XS.aloadN X6.here hx rfl (hb hby d3_19) rfl rfl ?_
    show Steps p.tables e below (T6.setTop (mkF m 20 #[.val (.ref a1), .val (.long q2), .second, .val (.long ((w3 + q2) / (1000 : Int64))), .second] [(.ref a1)])) _
    refine XS.dup X6.here hx rfl (hb hby d3_20) rfl rfl ?_
    show Steps p.tables e below (T6.setTop (mkF m 21 #[.val (.ref a1), .val (.long q2), .second, .val (.long ((w3 + q2) / (1000 : Int64))), .second] [(.ref a1), (.ref a1)])) _
    refine st7 _ ?_
    show Steps p.tables e below (T7.setTop (mkF m 24 #[.val (.ref a1), .val (.long q2), .second, .val (.long ((w3 + q2) / (1000 : Int64))), .second] [(.long (w3 + q2)), (.ref a1)])) _
    refine XS.lloadN X7.here hx rfl (hb hby d3_24) rfl ?_
    show Steps p.tables e below (T7.setTop (mkF m 25 #[.val (.ref a1), .val (.long q2), .second, .val (.long ((w3 + q2) / (1000 : Int64))), .second] [(.long ((w3 + q2) / (1000 : Int64))), (.long (w3 + q2)), (.ref a1)])) _
    refine X7.ldc2Long hx hown (mvT hZ (hw _ (List.mem_of_getElem? (i := 16) rfl))) (g := (mkF m 25 #[.val (.ref a1), .val (.long q2), .second, .val (.long ((w3 + q2) / (1000 : Int64))), .second] [(.long ((w3 + q2) / (1000 : Int64))), (.long (w3 + q2)), (.ref a1)])) rfl (hb hby d3_25) _ ?_
    show Steps p.tables e below (T7.setTop (mkF m 28 #[.val (.ref a1), .val (.long q2), .second, .val (.long ((w3 + q2) / (1000 : Int64))), .second] [(.long (1000 : Int64)), (.long ((w3 + q2) / (1000 : Int64))), (.long (w3 + q2)), (.ref a1)])) _
    refine XS.lmul X7.here hx rfl (hb hby d3_28) rfl ?_
    show Steps p.tables e below (T7.setTop (mkF m 29 #[.val (.ref a1), .val (.long q2), .second, .val (.long ((w3 + q2) / (1000 : Int64))), .second] [(.long (((w3 + q2) / (1000 : Int64)) * (1000 : Int64))), (.long (w3 + q2)), (.ref a1)])) _
    refine XS.lsub X7.here hx rfl (hb hby d3_29) rfl ?_
    show Steps p.tables e below (T7.setTop (mkF m 30 #[.val (.ref a1), .val (.long q2), .second, .val (.long ((w3 + q2) / (1000 : Int64))), .second] [(.long ((w3 + q2) - (((w3 + q2) / (1000 : Int64)) * (1000 : Int64)))), (.ref a1)])) _
    refine st8 _ ?_
    show Steps p.tables e below (T8.setTop (mkF m 33 #[.val (.ref a1), .val (.long q2), .second, .val (.long ((w3 + q2) / (1000 : Int64))), .second] [])) _
    refine XS.lloadN X8.here hx rfl (hb hby d3_33) rfl ?_
    show Steps p.tables e below (T8.setTop (mkF m 34 #[.val (.ref a1), .val (.long q2), .second, .val (.long ((w3 + q2) / (1000 : Int64))), .second] [(.long ((w3 + q2) / (1000 : Int64)))])) _
    jvm_step X8.here [X8.here.top, hx, (hb hby d3_34), X8.method', Bd.returns, narrow]
    first | (intro acts; rw [hr _ acts rfl rfl rfl]) | rw [hr _ _ rfl rfl rfl]
    exact Steps.refl _
  · show Q3 Z a1 q2 w3 h0 n0 _ T8.heap _
    rw [e8]
    exact ⟨rfl, N8, K8, ((E_a1.wr W5).wr W8), Fw8⟩
theorem d4_0 : decode method_2_code 0 = .ok (.lload_n 2, 1) := by decide +kernel
theorem d4_1 : decode method_2_code 1 = .ok (.ldc2_w 9, 3) := by decide +kernel
theorem d4_4 : decode method_2_code 4 = .ok (.lcmp, 1) := by decide +kernel
theorem d4_5 : decode method_2_code 5 = .ok (.ifCond .lt 11, 3) := by decide +kernel
theorem d4_8 : decode method_2_code 8 = .ok (.lload_n 2, 1) := by decide +kernel
theorem d4_9 : decode method_2_code 9 = .ok (.ldc2_w 11, 3) := by decide +kernel
theorem d4_12 : decode method_2_code 12 = .ok (.lcmp, 1) := by decide +kernel
theorem d4_13 : decode method_2_code 13 = .ok (.ifCond .le 5, 3) := by decide +kernel
theorem d4_18 : decode method_2_code 18 = .ok (.lload_n 0, 1) := by decide +kernel
theorem d4_19 : decode method_2_code 19 = .ok (.lload_n 2, 1) := by decide +kernel
theorem d4_20 : decode method_2_code 20 = .ok (.ldc2_w 13, 3) := by decide +kernel
theorem d4_23 : decode method_2_code 23 = .ok (.lmul, 1) := by decide +kernel
theorem d4_24 : decode method_2_code 24 = .ok (.lsub, 1) := by decide +kernel
theorem d4_25 : decode method_2_code 25 = .ok (.lstore 4, 2) := by decide +kernel
theorem d4_27 : decode method_2_code 27 = .ok (.lload 4, 2) := by decide +kernel
theorem d4_29 : decode method_2_code 29 = .ok (.ldc2_w 15, 3) := by decide +kernel
theorem d4_32 : decode method_2_code 32 = .ok (.lcmp, 1) := by decide +kernel
theorem d4_33 : decode method_2_code 33 = .ok (.ifCond .le 12, 3) := by decide +kernel
theorem d4_36 : decode method_2_code 36 = .ok (.lload 4, 2) := by decide +kernel
theorem d4_38 : decode method_2_code 38 = .ok (.ldc2_w 13, 3) := by decide +kernel
theorem d4_41 : decode method_2_code 41 = .ok (.lcmp, 1) := by decide +kernel
theorem d4_42 : decode method_2_code 42 = .ok (.ifCond .lt 5, 3) := by decide +kernel
theorem d4_47 : decode method_2_code 47 = .ok (.lload 4, 2) := by decide +kernel
theorem d4_49 : decode method_2_code 49 = .ok (.lconst 0, 1) := by decide +kernel
theorem d4_50 : decode method_2_code 50 = .ok (.lcmp, 1) := by decide +kernel
theorem d4_51 : decode method_2_code 51 = .ok (.ifCond .ne 5, 3) := by decide +kernel
theorem d4_54 : decode method_2_code 54 = .ok (.iconst 1, 1) := by decide +kernel
theorem d4_55 : decode method_2_code 55 = .ok (.ireturn, 1) := by decide +kernel
theorem pn_4 : plainName "com/example/cyclewright/cyclewright/core/ooo/CarryWholePinLaw" = true := by first | (simp [plainName, overriddenIn]; done) | decide +kernel
theorem ef_4 (m : MethodId) (x0 : Int64) (x1 : Int64) : entryFrame m #[(.long x0), (.long x1)] 6 = mkF m 0 #[.val (.long x0), .second, .val (.long x1), .second, .unset, .unset] [] := by first | (simp [entryFrame, mkF, argsToLocals, Value.category]; done) | rfl
def Q4 (Z : State) (q1 : Int64) (q2 : Int64) (h0 : Heap) (n0 : Nat) (v : Option Value) (h : Heap) (L : List Loc) : Prop := v = some (.int (1 : Int32)) ∧ Fr n0 L ∧ h = h0
set_option maxRecDepth 65536 in
set_option maxHeartbeats 40000000 in
theorem rm4a (l : Launch) (Z : State) (a0 : Array Value) (hw : ∀ d ∈ tables_1, d.before a0 Z = true) (ws : List Jvm.Cond) (q1 : Int64) (q2 : Int64) (h0 : Heap) (n0 : Nat) (Z0 : n0 ≤ h0.size) (hc5 : ¬ ((lcmpW q2 (-9223372036854775 : Int64)) < (0 : Int32))) (hc13 : ¬ ((0 : Int32) < (lcmpW q2 (9223372036854775 : Int64)))) (hc33 : (0 : Int32) < (lcmpW (q1 - (q2 * (1000 : Int64))) (-1000 : Int64))) (hc42 : (lcmpW (q1 - (q2 * (1000 : Int64))) (1000 : Int64)) < (0 : Int32)) (hc51 : (lcmpW (q1 - (q2 * (1000 : Int64))) (0 : Int64)) = (0 : Int32)) :
    MetFree l (⟨"com/example/cyclewright/cyclewright/core/ooo/CarryWholePinLaw", "splits", "(JJ)Z"⟩ : MethodName) (head1 (Jvm.Cond.code (⟨"com/example/cyclewright/cyclewright/core/ooo/CarryWholePinLaw", "splits", "(JJ)Z"⟩ : MethodName) method_2_code 6 (some .boolean) :: ws) ({ frames := 0, cells := 0, slots := 0, locals := 0 } : Room)) (fun a U => a = #[(.long q1), (.long q2)] ∧ Z.Warmed39 U.vm ∧ U.heap = h0) (fun _ _ _ _ _ => True) (fun _ U o U' => ∃ v L, o = .returned v ∧ Q4 Z q1 q2 h0 n0 v U'.heap L ∧ FrameEnd U o U' L ({ frames := 0, cells := 0, slots := 0, locals := 0 } : Room).cells ({ frames := 0, cells := 0, slots := 0, locals := 0 } : Room).slots) := by
  refine MetFree.of_bodySF (plainFor_of_name pn_4) hisR ?_
  intro p e s m args below meth c s₁ Bd hml0 hP hK
  obtain ⟨rfl, hZ, hh⟩ := hP
  have hx := Bd.exec
  have hby := Bd.bytes
  have hml : c.maxLocals = 6 := hml0
  have hown : s.vm.findClass "com/example/cyclewright/cyclewright/core/ooo/CarryWholePinLaw" = some m.cls := findClass_of_methodNamed Bd.named
  have hnm := (name_of_methodNamed Bd.named Bd.method).1
  have X0 : Stand p l e ({ frames := 0, cells := 0, slots := 0, locals := 0 } : Room) s m #[(.long q1), (.long q2)] below meth c s₁ [] 0 0 := Stand.of_body Bd
  have e0 : s₁.heap = h0 := by rw [← hh, Bd.state]; rfl
  have N0 := Fr.nil n0
  have pre0 : ∀ t, Steps p.tables e below (s₁.setTop (mkF m 0 #[.val (.long q1), .second, .val (.long q2), .second, .unset, .unset] [])) t → Steps p.tables e below (s₁.setTop (entryFrame m #[(.long q1), (.long q2)] 6)) t := fun t k => castTop (ef_4 m q1 q2) k

  obtain ⟨fs, hr, hrun, hended, hW, hsame⟩ := X0.leave (v := some (.int (1 : Int32))) (fun h => by rw [Bd.returns] at h; cases h)
  refine ⟨_, _, pre0 _ ?_, hrun, hended, _, _, rfl, ?_, ⟨_, rfl⟩, hW, hsame.mono (by decide) (by decide)⟩
  · show Steps p.tables e below (s₁.setTop (mkF m 0 #[.val (.long q1), .second, .val (.long q2), .second, .unset, .unset] [])) _
    refine XS.lloadN X0.here hx rfl (hb hby d4_0) rfl ?_
    show Steps p.tables e below (s₁.setTop (mkF m 1 #[.val (.long q1), .second, .val (.long q2), .second, .unset, .unset] [(.long q2)])) _
    refine X0.ldc2Long hx hown (mvT hZ (hw _ (List.mem_of_getElem? (i := 21) rfl))) (g := (mkF m 1 #[.val (.long q1), .second, .val (.long q2), .second, .unset, .unset] [(.long q2)])) rfl (hb hby d4_1) _ ?_
    show Steps p.tables e below (s₁.setTop (mkF m 4 #[.val (.long q1), .second, .val (.long q2), .second, .unset, .unset] [(.long (-9223372036854775 : Int64)), (.long q2)])) _
    refine XS.lcmp X0.here hx rfl (hb hby d4_4) rfl ?_
    show Steps p.tables e below (s₁.setTop (mkF m 5 #[.val (.long q1), .second, .val (.long q2), .second, .unset, .unset] [(.int (lcmpW q2 (-9223372036854775 : Int64)))])) _
    refine XS.ifNo X0.here hx rfl (hb hby d4_5) rfl ((if0 _ _).trans (flt hc5).1) ?_
    show Steps p.tables e below (s₁.setTop (mkF m 8 #[.val (.long q1), .second, .val (.long q2), .second, .unset, .unset] [])) _
    refine XS.lloadN X0.here hx rfl (hb hby d4_8) rfl ?_
    show Steps p.tables e below (s₁.setTop (mkF m 9 #[.val (.long q1), .second, .val (.long q2), .second, .unset, .unset] [(.long q2)])) _
    refine X0.ldc2Long hx hown (mvT hZ (hw _ (List.mem_of_getElem? (i := 22) rfl))) (g := (mkF m 9 #[.val (.long q1), .second, .val (.long q2), .second, .unset, .unset] [(.long q2)])) rfl (hb hby d4_9) _ ?_
    show Steps p.tables e below (s₁.setTop (mkF m 12 #[.val (.long q1), .second, .val (.long q2), .second, .unset, .unset] [(.long (9223372036854775 : Int64)), (.long q2)])) _
    refine XS.lcmp X0.here hx rfl (hb hby d4_12) rfl ?_
    show Steps p.tables e below (s₁.setTop (mkF m 13 #[.val (.long q1), .second, .val (.long q2), .second, .unset, .unset] [(.int (lcmpW q2 (9223372036854775 : Int64)))])) _
    refine XS.ifYes X0.here hx rfl (pc0 := 13) (pc' := 18) rfl (hb hby d4_13) rfl ((if0 _ _).trans (flt hc13).2.2.2) (by decide) (by decide) ?_
    show Steps p.tables e below (s₁.setTop (mkF m 18 #[.val (.long q1), .second, .val (.long q2), .second, .unset, .unset] [])) _
    refine XS.lloadN X0.here hx rfl (hb hby d4_18) rfl ?_
    show Steps p.tables e below (s₁.setTop (mkF m 19 #[.val (.long q1), .second, .val (.long q2), .second, .unset, .unset] [(.long q1)])) _
    refine XS.lloadN X0.here hx rfl (hb hby d4_19) rfl ?_
    show Steps p.tables e below (s₁.setTop (mkF m 20 #[.val (.long q1), .second, .val (.long q2), .second, .unset, .unset] [(.long q2), (.long q1)])) _
    refine X0.ldc2Long hx hown (mvT hZ (hw _ (List.mem_of_getElem? (i := 23) rfl))) (g := (mkF m 20 #[.val (.long q1), .second, .val (.long q2), .second, .unset, .unset] [(.long q2), (.long q1)])) rfl (hb hby d4_20) _ ?_
    show Steps p.tables e below (s₁.setTop (mkF m 23 #[.val (.long q1), .second, .val (.long q2), .second, .unset, .unset] [(.long (1000 : Int64)), (.long q2), (.long q1)])) _
    refine XS.lmul X0.here hx rfl (hb hby d4_23) rfl ?_
    show Steps p.tables e below (s₁.setTop (mkF m 24 #[.val (.long q1), .second, .val (.long q2), .second, .unset, .unset] [(.long (q2 * (1000 : Int64))), (.long q1)])) _
    refine XS.lsub X0.here hx rfl (hb hby d4_24) rfl ?_
    show Steps p.tables e below (s₁.setTop (mkF m 25 #[.val (.long q1), .second, .val (.long q2), .second, .unset, .unset] [(.long (q1 - (q2 * (1000 : Int64))))])) _
    refine XS.lstore X0.here hx rfl (hb hby d4_25) rfl (l' := #[.val (.long q1), .second, .val (.long q2), .second, .val (.long (q1 - (q2 * (1000 : Int64)))), .second]) rfl ?_
    show Steps p.tables e below (s₁.setTop (mkF m 27 #[.val (.long q1), .second, .val (.long q2), .second, .val (.long (q1 - (q2 * (1000 : Int64)))), .second] [])) _
    refine XS.lload X0.here hx rfl (hb hby d4_27) rfl ?_
    show Steps p.tables e below (s₁.setTop (mkF m 29 #[.val (.long q1), .second, .val (.long q2), .second, .val (.long (q1 - (q2 * (1000 : Int64)))), .second] [(.long (q1 - (q2 * (1000 : Int64))))])) _
    refine X0.ldc2Long hx hown (mvT hZ (hw _ (List.mem_of_getElem? (i := 24) rfl))) (g := (mkF m 29 #[.val (.long q1), .second, .val (.long q2), .second, .val (.long (q1 - (q2 * (1000 : Int64)))), .second] [(.long (q1 - (q2 * (1000 : Int64))))])) rfl (hb hby d4_29) _ ?_
    show Steps p.tables e below (s₁.setTop (mkF m 32 #[.val (.long q1), .second, .val (.long q2), .second, .val (.long (q1 - (q2 * (1000 : Int64)))), .second] [(.long (-1000 : Int64)), (.long (q1 - (q2 * (1000 : Int64))))])) _
    refine XS.lcmp X0.here hx rfl (hb hby d4_32) rfl ?_
    show Steps p.tables e below (s₁.setTop (mkF m 33 #[.val (.long q1), .second, .val (.long q2), .second, .val (.long (q1 - (q2 * (1000 : Int64)))), .second] [(.int (lcmpW (q1 - (q2 * (1000 : Int64))) (-1000 : Int64)))])) _
    refine XS.ifNo X0.here hx rfl (hb hby d4_33) rfl ((if0 _ _).trans (tlt hc33).2.2.2) ?_
    show Steps p.tables e below (s₁.setTop (mkF m 36 #[.val (.long q1), .second, .val (.long q2), .second, .val (.long (q1 - (q2 * (1000 : Int64)))), .second] [])) _
    refine XS.lload X0.here hx rfl (hb hby d4_36) rfl ?_
    show Steps p.tables e below (s₁.setTop (mkF m 38 #[.val (.long q1), .second, .val (.long q2), .second, .val (.long (q1 - (q2 * (1000 : Int64)))), .second] [(.long (q1 - (q2 * (1000 : Int64))))])) _
    refine X0.ldc2Long hx hown (mvT hZ (hw _ (List.mem_of_getElem? (i := 23) rfl))) (g := (mkF m 38 #[.val (.long q1), .second, .val (.long q2), .second, .val (.long (q1 - (q2 * (1000 : Int64)))), .second] [(.long (q1 - (q2 * (1000 : Int64))))])) rfl (hb hby d4_38) _ ?_
    show Steps p.tables e below (s₁.setTop (mkF m 41 #[.val (.long q1), .second, .val (.long q2), .second, .val (.long (q1 - (q2 * (1000 : Int64)))), .second] [(.long (1000 : Int64)), (.long (q1 - (q2 * (1000 : Int64))))])) _
    refine XS.lcmp X0.here hx rfl (hb hby d4_41) rfl ?_
    show Steps p.tables e below (s₁.setTop (mkF m 42 #[.val (.long q1), .second, .val (.long q2), .second, .val (.long (q1 - (q2 * (1000 : Int64)))), .second] [(.int (lcmpW (q1 - (q2 * (1000 : Int64))) (1000 : Int64)))])) _
    refine XS.ifYes X0.here hx rfl (pc0 := 42) (pc' := 47) rfl (hb hby d4_42) rfl ((if0 _ _).trans (tlt hc42).1) (by decide) (by decide) ?_
    show Steps p.tables e below (s₁.setTop (mkF m 47 #[.val (.long q1), .second, .val (.long q2), .second, .val (.long (q1 - (q2 * (1000 : Int64)))), .second] [])) _
    refine XS.lload X0.here hx rfl (hb hby d4_47) rfl ?_
    show Steps p.tables e below (s₁.setTop (mkF m 49 #[.val (.long q1), .second, .val (.long q2), .second, .val (.long (q1 - (q2 * (1000 : Int64)))), .second] [(.long (q1 - (q2 * (1000 : Int64))))])) _
    refine XS.lconst X0.here hx rfl (hb hby d4_49) ?_
    show Steps p.tables e below (s₁.setTop (mkF m 50 #[.val (.long q1), .second, .val (.long q2), .second, .val (.long (q1 - (q2 * (1000 : Int64)))), .second] [(.long (0 : Int64)), (.long (q1 - (q2 * (1000 : Int64))))])) _
    refine XS.lcmp X0.here hx rfl (hb hby d4_50) rfl ?_
    show Steps p.tables e below (s₁.setTop (mkF m 51 #[.val (.long q1), .second, .val (.long q2), .second, .val (.long (q1 - (q2 * (1000 : Int64)))), .second] [(.int (lcmpW (q1 - (q2 * (1000 : Int64))) (0 : Int64)))])) _
    refine XS.ifNo X0.here hx rfl (hb hby d4_51) rfl ((if0 _ _).trans (teq hc51).2) ?_
    show Steps p.tables e below (s₁.setTop (mkF m 54 #[.val (.long q1), .second, .val (.long q2), .second, .val (.long (q1 - (q2 * (1000 : Int64)))), .second] [])) _
    refine XS.iconst X0.here hx rfl (hb hby d4_54) ?_
    show Steps p.tables e below (s₁.setTop (mkF m 55 #[.val (.long q1), .second, .val (.long q2), .second, .val (.long (q1 - (q2 * (1000 : Int64)))), .second] [(.int (1 : Int32))])) _
    exact retN X0 hx (t := .boolean) Bd.returns (by simp) (hb hby d4_55) hr
  · show Q4 Z q1 q2 h0 n0 _ s₁.heap _
    rw [e0]
    exact ⟨rfl, N0, rfl⟩
theorem d4_56 : decode method_2_code 56 = .ok (.lload 4, 2) := by decide +kernel
theorem d4_58 : decode method_2_code 58 = .ok (.lconst 0, 1) := by decide +kernel
theorem d4_59 : decode method_2_code 59 = .ok (.lcmp, 1) := by decide +kernel
theorem d4_60 : decode method_2_code 60 = .ok (.ifCond .le 7, 3) := by decide +kernel
theorem d4_63 : decode method_2_code 63 = .ok (.iconst 1, 1) := by decide +kernel
theorem d4_64 : decode method_2_code 64 = .ok (.goto 4, 3) := by decide +kernel
theorem d4_67 : decode method_2_code 67 = .ok (.iconst 0, 1) := by decide +kernel
theorem d4_68 : decode method_2_code 68 = .ok (.lload_n 0, 1) := by decide +kernel
theorem d4_69 : decode method_2_code 69 = .ok (.lconst 0, 1) := by decide +kernel
theorem d4_70 : decode method_2_code 70 = .ok (.lcmp, 1) := by decide +kernel
theorem d4_71 : decode method_2_code 71 = .ok (.ifCond .le 7, 3) := by decide +kernel
theorem d4_74 : decode method_2_code 74 = .ok (.iconst 1, 1) := by decide +kernel
theorem d4_75 : decode method_2_code 75 = .ok (.goto 4, 3) := by decide +kernel
theorem d4_78 : decode method_2_code 78 = .ok (.iconst 0, 1) := by decide +kernel
theorem d4_79 : decode method_2_code 79 = .ok (.if_icmp .ne 7, 3) := by decide +kernel
theorem d4_82 : decode method_2_code 82 = .ok (.iconst 1, 1) := by decide +kernel
theorem d4_83 : decode method_2_code 83 = .ok (.goto 4, 3) := by decide +kernel
theorem d4_87 : decode method_2_code 87 = .ok (.ireturn, 1) := by decide +kernel

set_option maxRecDepth 65536 in
set_option maxHeartbeats 40000000 in
theorem rm4b (l : Launch) (Z : State) (a0 : Array Value) (hw : ∀ d ∈ tables_1, d.before a0 Z = true) (ws : List Jvm.Cond) (q1 : Int64) (q2 : Int64) (h0 : Heap) (n0 : Nat) (Z0 : n0 ≤ h0.size) (hc5 : ¬ ((lcmpW q2 (-9223372036854775 : Int64)) < (0 : Int32))) (hc13 : ¬ ((0 : Int32) < (lcmpW q2 (9223372036854775 : Int64)))) (hc33 : (0 : Int32) < (lcmpW (q1 - (q2 * (1000 : Int64))) (-1000 : Int64))) (hc42 : (lcmpW (q1 - (q2 * (1000 : Int64))) (1000 : Int64)) < (0 : Int32)) (hc51 : ¬ ((lcmpW (q1 - (q2 * (1000 : Int64))) (0 : Int64)) = (0 : Int32))) (hc79 : (if (0 : Int32) < (lcmpW (q1 - (q2 * (1000 : Int64))) (0 : Int64)) then (1 : Int32) else 0) = (if (0 : Int32) < (lcmpW q1 (0 : Int64)) then (1 : Int32) else 0)) :
    MetFree l (⟨"com/example/cyclewright/cyclewright/core/ooo/CarryWholePinLaw", "splits", "(JJ)Z"⟩ : MethodName) (head1 (Jvm.Cond.code (⟨"com/example/cyclewright/cyclewright/core/ooo/CarryWholePinLaw", "splits", "(JJ)Z"⟩ : MethodName) method_2_code 6 (some .boolean) :: ws) ({ frames := 0, cells := 0, slots := 0, locals := 0 } : Room)) (fun a U => a = #[(.long q1), (.long q2)] ∧ Z.Warmed39 U.vm ∧ U.heap = h0) (fun _ _ _ _ _ => True) (fun _ U o U' => ∃ v L, o = .returned v ∧ Q4 Z q1 q2 h0 n0 v U'.heap L ∧ FrameEnd U o U' L ({ frames := 0, cells := 0, slots := 0, locals := 0 } : Room).cells ({ frames := 0, cells := 0, slots := 0, locals := 0 } : Room).slots) := by
  refine MetFree.of_bodySF (plainFor_of_name pn_4) hisR ?_
  intro p e s m args below meth c s₁ Bd hml0 hP hK
  obtain ⟨rfl, hZ, hh⟩ := hP
  have hx := Bd.exec
  have hby := Bd.bytes
  have hml : c.maxLocals = 6 := hml0
  have hown : s.vm.findClass "com/example/cyclewright/cyclewright/core/ooo/CarryWholePinLaw" = some m.cls := findClass_of_methodNamed Bd.named
  have hnm := (name_of_methodNamed Bd.named Bd.method).1
  have X0 : Stand p l e ({ frames := 0, cells := 0, slots := 0, locals := 0 } : Room) s m #[(.long q1), (.long q2)] below meth c s₁ [] 0 0 := Stand.of_body Bd
  have e0 : s₁.heap = h0 := by rw [← hh, Bd.state]; rfl
  have N0 := Fr.nil n0
  have pre0 : ∀ t, Steps p.tables e below (s₁.setTop (mkF m 0 #[.val (.long q1), .second, .val (.long q2), .second, .unset, .unset] [])) t → Steps p.tables e below (s₁.setTop (entryFrame m #[(.long q1), (.long q2)] 6)) t := fun t k => castTop (ef_4 m q1 q2) k

  obtain ⟨fs, hr, hrun, hended, hW, hsame⟩ := X0.leave (v := some (.int (1 : Int32))) (fun h => by rw [Bd.returns] at h; cases h)
  refine ⟨_, _, pre0 _ ?_, hrun, hended, _, _, rfl, ?_, ⟨_, rfl⟩, hW, hsame.mono (by decide) (by decide)⟩
  · show Steps p.tables e below (s₁.setTop (mkF m 0 #[.val (.long q1), .second, .val (.long q2), .second, .unset, .unset] [])) _
    refine XS.lloadN X0.here hx rfl (hb hby d4_0) rfl ?_
    show Steps p.tables e below (s₁.setTop (mkF m 1 #[.val (.long q1), .second, .val (.long q2), .second, .unset, .unset] [(.long q2)])) _
    refine X0.ldc2Long hx hown (mvT hZ (hw _ (List.mem_of_getElem? (i := 21) rfl))) (g := (mkF m 1 #[.val (.long q1), .second, .val (.long q2), .second, .unset, .unset] [(.long q2)])) rfl (hb hby d4_1) _ ?_
    show Steps p.tables e below (s₁.setTop (mkF m 4 #[.val (.long q1), .second, .val (.long q2), .second, .unset, .unset] [(.long (-9223372036854775 : Int64)), (.long q2)])) _
    refine XS.lcmp X0.here hx rfl (hb hby d4_4) rfl ?_
    show Steps p.tables e below (s₁.setTop (mkF m 5 #[.val (.long q1), .second, .val (.long q2), .second, .unset, .unset] [(.int (lcmpW q2 (-9223372036854775 : Int64)))])) _
    refine XS.ifNo X0.here hx rfl (hb hby d4_5) rfl ((if0 _ _).trans (flt hc5).1) ?_
    show Steps p.tables e below (s₁.setTop (mkF m 8 #[.val (.long q1), .second, .val (.long q2), .second, .unset, .unset] [])) _
    refine XS.lloadN X0.here hx rfl (hb hby d4_8) rfl ?_
    show Steps p.tables e below (s₁.setTop (mkF m 9 #[.val (.long q1), .second, .val (.long q2), .second, .unset, .unset] [(.long q2)])) _
    refine X0.ldc2Long hx hown (mvT hZ (hw _ (List.mem_of_getElem? (i := 22) rfl))) (g := (mkF m 9 #[.val (.long q1), .second, .val (.long q2), .second, .unset, .unset] [(.long q2)])) rfl (hb hby d4_9) _ ?_
    show Steps p.tables e below (s₁.setTop (mkF m 12 #[.val (.long q1), .second, .val (.long q2), .second, .unset, .unset] [(.long (9223372036854775 : Int64)), (.long q2)])) _
    refine XS.lcmp X0.here hx rfl (hb hby d4_12) rfl ?_
    show Steps p.tables e below (s₁.setTop (mkF m 13 #[.val (.long q1), .second, .val (.long q2), .second, .unset, .unset] [(.int (lcmpW q2 (9223372036854775 : Int64)))])) _
    refine XS.ifYes X0.here hx rfl (pc0 := 13) (pc' := 18) rfl (hb hby d4_13) rfl ((if0 _ _).trans (flt hc13).2.2.2) (by decide) (by decide) ?_
    show Steps p.tables e below (s₁.setTop (mkF m 18 #[.val (.long q1), .second, .val (.long q2), .second, .unset, .unset] [])) _
    refine XS.lloadN X0.here hx rfl (hb hby d4_18) rfl ?_
    show Steps p.tables e below (s₁.setTop (mkF m 19 #[.val (.long q1), .second, .val (.long q2), .second, .unset, .unset] [(.long q1)])) _
    refine XS.lloadN X0.here hx rfl (hb hby d4_19) rfl ?_
    show Steps p.tables e below (s₁.setTop (mkF m 20 #[.val (.long q1), .second, .val (.long q2), .second, .unset, .unset] [(.long q2), (.long q1)])) _
    refine X0.ldc2Long hx hown (mvT hZ (hw _ (List.mem_of_getElem? (i := 23) rfl))) (g := (mkF m 20 #[.val (.long q1), .second, .val (.long q2), .second, .unset, .unset] [(.long q2), (.long q1)])) rfl (hb hby d4_20) _ ?_
    show Steps p.tables e below (s₁.setTop (mkF m 23 #[.val (.long q1), .second, .val (.long q2), .second, .unset, .unset] [(.long (1000 : Int64)), (.long q2), (.long q1)])) _
    refine XS.lmul X0.here hx rfl (hb hby d4_23) rfl ?_
    show Steps p.tables e below (s₁.setTop (mkF m 24 #[.val (.long q1), .second, .val (.long q2), .second, .unset, .unset] [(.long (q2 * (1000 : Int64))), (.long q1)])) _
    refine XS.lsub X0.here hx rfl (hb hby d4_24) rfl ?_
    show Steps p.tables e below (s₁.setTop (mkF m 25 #[.val (.long q1), .second, .val (.long q2), .second, .unset, .unset] [(.long (q1 - (q2 * (1000 : Int64))))])) _
    refine XS.lstore X0.here hx rfl (hb hby d4_25) rfl (l' := #[.val (.long q1), .second, .val (.long q2), .second, .val (.long (q1 - (q2 * (1000 : Int64)))), .second]) rfl ?_
    show Steps p.tables e below (s₁.setTop (mkF m 27 #[.val (.long q1), .second, .val (.long q2), .second, .val (.long (q1 - (q2 * (1000 : Int64)))), .second] [])) _
    refine XS.lload X0.here hx rfl (hb hby d4_27) rfl ?_
    show Steps p.tables e below (s₁.setTop (mkF m 29 #[.val (.long q1), .second, .val (.long q2), .second, .val (.long (q1 - (q2 * (1000 : Int64)))), .second] [(.long (q1 - (q2 * (1000 : Int64))))])) _
    refine X0.ldc2Long hx hown (mvT hZ (hw _ (List.mem_of_getElem? (i := 24) rfl))) (g := (mkF m 29 #[.val (.long q1), .second, .val (.long q2), .second, .val (.long (q1 - (q2 * (1000 : Int64)))), .second] [(.long (q1 - (q2 * (1000 : Int64))))])) rfl (hb hby d4_29) _ ?_
    show Steps p.tables e below (s₁.setTop (mkF m 32 #[.val (.long q1), .second, .val (.long q2), .second, .val (.long (q1 - (q2 * (1000 : Int64)))), .second] [(.long (-1000 : Int64)), (.long (q1 - (q2 * (1000 : Int64))))])) _
    refine XS.lcmp X0.here hx rfl (hb hby d4_32) rfl ?_
    show Steps p.tables e below (s₁.setTop (mkF m 33 #[.val (.long q1), .second, .val (.long q2), .second, .val (.long (q1 - (q2 * (1000 : Int64)))), .second] [(.int (lcmpW (q1 - (q2 * (1000 : Int64))) (-1000 : Int64)))])) _
    refine XS.ifNo X0.here hx rfl (hb hby d4_33) rfl ((if0 _ _).trans (tlt hc33).2.2.2) ?_
    show Steps p.tables e below (s₁.setTop (mkF m 36 #[.val (.long q1), .second, .val (.long q2), .second, .val (.long (q1 - (q2 * (1000 : Int64)))), .second] [])) _
    refine XS.lload X0.here hx rfl (hb hby d4_36) rfl ?_
    show Steps p.tables e below (s₁.setTop (mkF m 38 #[.val (.long q1), .second, .val (.long q2), .second, .val (.long (q1 - (q2 * (1000 : Int64)))), .second] [(.long (q1 - (q2 * (1000 : Int64))))])) _
    refine X0.ldc2Long hx hown (mvT hZ (hw _ (List.mem_of_getElem? (i := 23) rfl))) (g := (mkF m 38 #[.val (.long q1), .second, .val (.long q2), .second, .val (.long (q1 - (q2 * (1000 : Int64)))), .second] [(.long (q1 - (q2 * (1000 : Int64))))])) rfl (hb hby d4_38) _ ?_
    show Steps p.tables e below (s₁.setTop (mkF m 41 #[.val (.long q1), .second, .val (.long q2), .second, .val (.long (q1 - (q2 * (1000 : Int64)))), .second] [(.long (1000 : Int64)), (.long (q1 - (q2 * (1000 : Int64))))])) _
    refine XS.lcmp X0.here hx rfl (hb hby d4_41) rfl ?_
    show Steps p.tables e below (s₁.setTop (mkF m 42 #[.val (.long q1), .second, .val (.long q2), .second, .val (.long (q1 - (q2 * (1000 : Int64)))), .second] [(.int (lcmpW (q1 - (q2 * (1000 : Int64))) (1000 : Int64)))])) _
    refine XS.ifYes X0.here hx rfl (pc0 := 42) (pc' := 47) rfl (hb hby d4_42) rfl ((if0 _ _).trans (tlt hc42).1) (by decide) (by decide) ?_
    show Steps p.tables e below (s₁.setTop (mkF m 47 #[.val (.long q1), .second, .val (.long q2), .second, .val (.long (q1 - (q2 * (1000 : Int64)))), .second] [])) _
    refine XS.lload X0.here hx rfl (hb hby d4_47) rfl ?_
    show Steps p.tables e below (s₁.setTop (mkF m 49 #[.val (.long q1), .second, .val (.long q2), .second, .val (.long (q1 - (q2 * (1000 : Int64)))), .second] [(.long (q1 - (q2 * (1000 : Int64))))])) _
    refine XS.lconst X0.here hx rfl (hb hby d4_49) ?_
    show Steps p.tables e below (s₁.setTop (mkF m 50 #[.val (.long q1), .second, .val (.long q2), .second, .val (.long (q1 - (q2 * (1000 : Int64)))), .second] [(.long (0 : Int64)), (.long (q1 - (q2 * (1000 : Int64))))])) _
    refine XS.lcmp X0.here hx rfl (hb hby d4_50) rfl ?_
    show Steps p.tables e below (s₁.setTop (mkF m 51 #[.val (.long q1), .second, .val (.long q2), .second, .val (.long (q1 - (q2 * (1000 : Int64)))), .second] [(.int (lcmpW (q1 - (q2 * (1000 : Int64))) (0 : Int64)))])) _
    refine XS.ifYes X0.here hx rfl (pc0 := 51) (pc' := 56) rfl (hb hby d4_51) rfl ((if0 _ _).trans (feq hc51).2) (by decide) (by decide) ?_
    show Steps p.tables e below (s₁.setTop (mkF m 56 #[.val (.long q1), .second, .val (.long q2), .second, .val (.long (q1 - (q2 * (1000 : Int64)))), .second] [])) _
    refine XS.lload X0.here hx rfl (hb hby d4_56) rfl ?_
    show Steps p.tables e below (s₁.setTop (mkF m 58 #[.val (.long q1), .second, .val (.long q2), .second, .val (.long (q1 - (q2 * (1000 : Int64)))), .second] [(.long (q1 - (q2 * (1000 : Int64))))])) _
    refine XS.lconst X0.here hx rfl (hb hby d4_58) ?_
    show Steps p.tables e below (s₁.setTop (mkF m 59 #[.val (.long q1), .second, .val (.long q2), .second, .val (.long (q1 - (q2 * (1000 : Int64)))), .second] [(.long (0 : Int64)), (.long (q1 - (q2 * (1000 : Int64))))])) _
    refine XS.lcmp X0.here hx rfl (hb hby d4_59) rfl ?_
    show Steps p.tables e below (s₁.setTop (mkF m 60 #[.val (.long q1), .second, .val (.long q2), .second, .val (.long (q1 - (q2 * (1000 : Int64)))), .second] [(.int (lcmpW (q1 - (q2 * (1000 : Int64))) (0 : Int64)))])) _
    refine own_tif_le X0.here hx (hb hby d4_60) (hb hby d4_63) (hb hby d4_64) (hb hby d4_67) ?_
    show Steps p.tables e below (s₁.setTop (mkF m 68 #[.val (.long q1), .second, .val (.long q2), .second, .val (.long (q1 - (q2 * (1000 : Int64)))), .second] [(.int (if (0 : Int32) < (lcmpW (q1 - (q2 * (1000 : Int64))) (0 : Int64)) then (1 : Int32) else 0))])) _
    refine XS.lloadN X0.here hx rfl (hb hby d4_68) rfl ?_
    show Steps p.tables e below (s₁.setTop (mkF m 69 #[.val (.long q1), .second, .val (.long q2), .second, .val (.long (q1 - (q2 * (1000 : Int64)))), .second] [(.long q1), (.int (if (0 : Int32) < (lcmpW (q1 - (q2 * (1000 : Int64))) (0 : Int64)) then (1 : Int32) else 0))])) _
    refine XS.lconst X0.here hx rfl (hb hby d4_69) ?_
    show Steps p.tables e below (s₁.setTop (mkF m 70 #[.val (.long q1), .second, .val (.long q2), .second, .val (.long (q1 - (q2 * (1000 : Int64)))), .second] [(.long (0 : Int64)), (.long q1), (.int (if (0 : Int32) < (lcmpW (q1 - (q2 * (1000 : Int64))) (0 : Int64)) then (1 : Int32) else 0))])) _
    refine XS.lcmp X0.here hx rfl (hb hby d4_70) rfl ?_
    show Steps p.tables e below (s₁.setTop (mkF m 71 #[.val (.long q1), .second, .val (.long q2), .second, .val (.long (q1 - (q2 * (1000 : Int64)))), .second] [(.int (lcmpW q1 (0 : Int64))), (.int (if (0 : Int32) < (lcmpW (q1 - (q2 * (1000 : Int64))) (0 : Int64)) then (1 : Int32) else 0))])) _
    refine own_tif_le X0.here hx (hb hby d4_71) (hb hby d4_74) (hb hby d4_75) (hb hby d4_78) ?_
    show Steps p.tables e below (s₁.setTop (mkF m 79 #[.val (.long q1), .second, .val (.long q2), .second, .val (.long (q1 - (q2 * (1000 : Int64)))), .second] [(.int (if (0 : Int32) < (lcmpW q1 (0 : Int64)) then (1 : Int32) else 0)), (.int (if (0 : Int32) < (lcmpW (q1 - (q2 * (1000 : Int64))) (0 : Int64)) then (1 : Int32) else 0))])) _
    refine XS.icmpNo X0.here hx rfl (hb hby d4_79) rfl (teq hc79).2 ?_
    show Steps p.tables e below (s₁.setTop (mkF m 82 #[.val (.long q1), .second, .val (.long q2), .second, .val (.long (q1 - (q2 * (1000 : Int64)))), .second] [])) _
    refine XS.iconst X0.here hx rfl (hb hby d4_82) ?_
    show Steps p.tables e below (s₁.setTop (mkF m 83 #[.val (.long q1), .second, .val (.long q2), .second, .val (.long (q1 - (q2 * (1000 : Int64)))), .second] [(.int (1 : Int32))])) _
    refine XS.goto X0.here hx rfl (pc0 := 83) (pc' := 87) rfl (hb hby d4_83) (by decide) (by decide) ?_
    show Steps p.tables e below (s₁.setTop (mkF m 87 #[.val (.long q1), .second, .val (.long q2), .second, .val (.long (q1 - (q2 * (1000 : Int64)))), .second] [(.int (1 : Int32))])) _
    exact retN X0 hx (t := .boolean) Bd.returns (by simp) (hb hby d4_87) hr
  · show Q4 Z q1 q2 h0 n0 _ s₁.heap _
    rw [e0]
    exact ⟨rfl, N0, rfl⟩
set_option maxRecDepth 65536 in
set_option maxHeartbeats 40000000 in
theorem rm4 (l : Launch) (Z : State) (a0 : Array Value) (hw : ∀ d ∈ tables_1, d.before a0 Z = true) (ws : List Jvm.Cond) (q1 : Int64) (q2 : Int64) (h0 : Heap) (n0 : Nat) (Z0 : n0 ≤ h0.size) (hq : q2 = q1 / (1000 : Int64)) :
    MetFree l (⟨"com/example/cyclewright/cyclewright/core/ooo/CarryWholePinLaw", "splits", "(JJ)Z"⟩ : MethodName) (head1 (Jvm.Cond.code (⟨"com/example/cyclewright/cyclewright/core/ooo/CarryWholePinLaw", "splits", "(JJ)Z"⟩ : MethodName) method_2_code 6 (some .boolean) :: ws) ({ frames := 0, cells := 0, slots := 0, locals := 0 } : Room)) (fun a U => a = #[(.long q1), (.long q2)] ∧ Z.Warmed39 U.vm ∧ U.heap = h0) (fun _ _ _ _ _ => True) (fun _ U o U' => ∃ v L, o = .returned v ∧ Q4 Z q1 q2 h0 n0 v U'.heap L ∧ FrameEnd U o U' L ({ frames := 0, cells := 0, slots := 0, locals := 0 } : Room).cells ({ frames := 0, cells := 0, slots := 0, locals := 0 } : Room).slots) := by
  subst hq
  by_cases h51 : lcmpW (q1 - (q1 / (1000 : Int64)) * (1000 : Int64)) (0 : Int64) = (0 : Int32)
  · exact rm4a l Z a0 hw ws q1 _ h0 n0 Z0 (own_c1 q1) (own_c2 q1) (own_c3 q1) (own_c4 q1) h51
  · exact rm4b l Z a0 hw ws q1 _ h0 n0 Z0 (own_c1 q1) (own_c2 q1) (own_c3 q1) (own_c4 q1) h51 (own_c5 q1 h51)
theorem pn_0 : plainName "com/example/cyclewright/cyclewright/core/ooo/CarryWholePinLaw" = true := by first | (simp [plainName, overriddenIn]; done) | decide +kernel
theorem pd_0_0 : parseMethodDescriptor "()V" = some ⟨[], none⟩ := by decide +kernel
theorem pd_0_1 : parseMethodDescriptor "(J)J" = some ⟨[.long], some .long⟩ := by decide +kernel
theorem pd_0_2 : parseMethodDescriptor "(JJ)Z" = some ⟨[.long, .long], some .boolean⟩ := by decide +kernel
theorem ef_0 (m : MethodId) (x0 : Int64) (x1 : Int64) (x2 : Int64) : entryFrame m #[(.long x0), (.long x1), (.long x2)] maxLocals = mkF m 0 #[.val (.long x0), .second, .val (.long x1), .second, .val (.long x2), .second, .unset, .unset, .unset, .unset, .unset, .unset, .unset, .unset, .unset, .unset, .unset, .unset, .unset, .unset, .unset] [] := by first | (simp [entryFrame, mkF, argsToLocals, Value.category, maxLocals]; done) | rfl
def Q0 (Z : State) (q1 : Int64) (q2 : Int64) (q3 : Int64) (h0 : Heap) (n0 : Nat) (v : Option Value) (h : Heap) (L : List Loc) : Prop := v = some (.int (1 : Int32)) ∧ Fr n0 L
set_option maxRecDepth 65536 in
set_option maxHeartbeats 40000000 in
theorem rm0 (l : Launch) (Z : State) (a0 : Array Value) (hw : ∀ d ∈ tables_1, d.before a0 Z = true) (ws : List Jvm.Cond) (q1 : Int64) (q2 : Int64) (q3 : Int64) (h0 : Heap) (n0 : Nat) (Z0 : n0 ≤ h0.size) (hc40 : ¬ ((1 : Int32) = (0 : Int32))) (hc68 : ¬ ((1 : Int32) = (0 : Int32))) :
    MetFree l x (head1 (Jvm.Cond.code x code maxLocals ret :: ws) room_1) (fun a U => a = #[(.long q1), (.long q2), (.long q3)] ∧ Z.Warmed39 U.vm ∧ U.heap = h0) (fun _ _ _ _ _ => True) (fun _ U o U' => ∃ v L, o = .returned v ∧ Q0 Z q1 q2 q3 h0 n0 v U'.heap L ∧ FrameEnd U o U' L room_1.cells room_1.slots) := by
  refine MetFree.of_bodySF (plainFor_of_name pn_0) hisR ?_
  intro p e s m args below meth c s₁ Bd hml0 hP hK
  obtain ⟨rfl, hZ, hh⟩ := hP
  have hx := Bd.exec
  have hby := Bd.bytes
  have hml : c.maxLocals = 21 := hml0
  have hown : s.vm.findClass "com/example/cyclewright/cyclewright/core/ooo/CarryWholePinLaw" = some m.cls := findClass_of_methodNamed Bd.named
  have hnm := (name_of_methodNamed Bd.named Bd.method).1
  have X0 : Stand p l e room_1 s m #[(.long q1), (.long q2), (.long q3)] below meth c s₁ [] 0 0 := Stand.of_body Bd
  have e0 : s₁.heap = h0 := by rw [← hh, Bd.state]; rfl
  have N0 := Fr.nil n0
  have pre0 : ∀ t, Steps p.tables e below (s₁.setTop (mkF m 0 #[.val (.long q1), .second, .val (.long q2), .second, .val (.long q3), .second, .unset, .unset, .unset, .unset, .unset, .unset, .unset, .unset, .unset, .unset, .unset, .unset, .unset, .unset, .unset] [])) t → Steps p.tables e below (s₁.setTop (entryFrame m #[(.long q1), (.long q2), (.long q3)] maxLocals)) t := fun t k => castTop (ef_0 m q1 q2 q3) k
  obtain ⟨T4, h4, X4, e4, E4, A4, D4, -, st4⟩ := newO X0 hx hZ hown (hw _ (List.mem_of_getElem? (i := 0) rfl)) (hw _ (List.mem_of_getElem? (i := 1) rfl)) (hw _ (List.mem_of_getElem? (i := 2) rfl)) e0 (g := (mkF m 0 #[.val (.long q1), .second, .val (.long q2), .second, .val (.long q3), .second, .unset, .unset, .unset, .unset, .unset, .unset, .unset, .unset, .unset, .unset, .unset, .unset, .unset, .unset, .unset] [])) rfl (hb hby at_0) (by decide) (by decide)
  obtain ⟨b4, g4⟩ : ∃ z, z = h0.size := ⟨_, rfl⟩
  rw [← g4] at A4 D4 st4
  have F_owed_b4 : Fld Z h4 b4 "com/example/cyclewright/cyclewright/core/ooo/Carry" "owed" "J" (.long (0 : Int64)) := D4 (Or.inl (hw _ (List.mem_of_getElem? (i := 15) rfl))) (ty := .long) (by decide)
  have E_b4 := A4
  have g_b4 : n0 ≤ b4 := Nat.le_trans Z0 (Nat.le_of_eq g4.symm)
  have sz_b4 : h0.size ≤ b4 := (Nat.le_trans (Keep.refl h0 []).1 (Nat.le_of_eq g4.symm))
  have K4 : Keep h0 h4 [] := (Keep.refl h0 []).ext E4
  obtain ⟨_, _, ⟨T5, L5, k5, n5⟩, -, X5, ⟨Lc5, hQ5, l5, y5, z5⟩, st5⟩ := X4.specialBack hx (y := (⟨"com/example/cyclewright/cyclewright/core/ooo/Carry", "<init>", "()V"⟩ : MethodName)) rfl hown (mvT hZ (hw _ (List.mem_of_getElem? (i := 3) rfl))) (mvT hZ (hw _ (List.mem_of_getElem? (i := 4) rfl))) (mvT hZ (hw _ (List.mem_of_getElem? (i := 5) rfl))) (by decide) (backOf (W := 1) (rm1 l Z a0 hw [] b4  h4 n0 (Nat.le_trans Z0 E4.1)) hZ (hw _ (List.mem_of_getElem? (i := 5) rfl)) (hw _ (List.mem_of_getElem? (i := 2) rfl)) (by decide) (by decide)) (g := (mkF m 4 #[.val (.long q1), .second, .val (.long q2), .second, .val (.long q3), .second, .unset, .unset, .unset, .unset, .unset, .unset, .unset, .unset, .unset, .unset, .unset, .unset, .unset, .unset, .unset] [(.ref b4), (.ref b4)])) rfl (by rw [hml]; rfl) (Steps.refl _) (a := b4) (argsL := []) (rest := [(.ref b4)]) (lenOf pd_0_0 rfl) rfl (by show 2 * 0 + _ ≤ _; exact Nat.le_of_eq rfl) (hb hby at_4) (fun _ _ => ⟨rfl, e4, (by decide : 1 + 0 ≤ _), (by decide : 1 + 0 ≤ _)⟩)
  dsimp only [Pt.U, Pt.locs, Pt.cells, Pt.slots] at X5 l5 y5 z5 st5 hQ5
  subst l5 y5 z5
  obtain ⟨rfl, N5q, e5⟩ := hQ5
  have N5 := Fr.app N0 N5q
  obtain ⟨cq6, kq6, q6a, q6b, q6c⟩ := isOf hZ e5 E_b4
  obtain ⟨_, _, ⟨T6, L6, k6, n6⟩, -, X6, ⟨Lc6, hQ6, l6, y6, z6⟩, st6⟩ := X5.virtualBack hx (y := (⟨"com/example/cyclewright/cyclewright/core/ooo/Carry", "whole", "(J)J"⟩ : MethodName)) (z := (⟨"com/example/cyclewright/cyclewright/core/ooo/Carry", "whole", "(J)J"⟩ : MethodName)) hown (mvT hZ (hw _ (List.mem_of_getElem? (i := 9) rfl))) (mvT hZ (hw _ (List.mem_of_getElem? (i := 10) rfl))) (notFace_of_selects (args := #[]) (mvT hZ (hw _ (List.mem_of_getElem? (i := 12) rfl)))) (mvT hZ (hw _ (List.mem_of_getElem? (i := 12) rfl))) (mvT hZ (hw _ (List.mem_of_getElem? (i := 11) rfl))) (by decide) (backOf (W := 0) (rm3 l Z a0 hw [] b4 q1 (0 : Int64) h4 n0 (Nat.le_trans Z0 E4.1) F_owed_b4 E_b4 g_b4) hZ (hw _ (List.mem_of_getElem? (i := 13) rfl)) (hw _ (List.mem_of_getElem? (i := 2) rfl)) (by decide) (by decide)) q6a q6c (g := (mkF m 12 #[.val (.long q1), .second, .val (.long q2), .second, .val (.long q3), .second, .val (.ref b4), .unset, .unset, .unset, .unset, .unset, .unset, .unset, .unset, .unset, .unset, .unset, .unset, .unset, .unset] [(.long q1), (.ref b4)])) rfl (by rw [hml]; rfl) (Steps.refl _) (argsL := [(.long q1)]) (rest := []) (lenOf pd_0_1 rfl) rfl (by show 2 * 0 + _ ≤ _; exact Nat.le_of_eq rfl) (hb hby at_12) (fun _ _ => ⟨rfl, e5, (by decide : 1 + 0 ≤ _), (by decide : 1 + 0 ≤ _)⟩)
  dsimp only [Pt.U, Pt.locs, Pt.cells, Pt.slots] at X6 l6 y6 z6 st6 hQ6
  subst l6 y6 z6
  obtain ⟨rfl, N6q, Kq6, Ex6, Fo6⟩ := hQ6
  have N6 := Fr.app N5 N6q
  obtain ⟨w1, h_w1⟩ : ∃ z : Int64, z = (((0 : Int64) + q1) / (1000 : Int64)) := ⟨_, rfl⟩
  obtain ⟨cq7, kq7, q7a, q7b, q7c⟩ := isOf hZ rfl Ex6
  obtain ⟨_, _, ⟨T7, L7, k7, n7⟩, -, X7, ⟨Lc7, hQ7, l7, y7, z7⟩, st7⟩ := X6.virtualBack hx (y := (⟨"com/example/cyclewright/cyclewright/core/ooo/Carry", "whole", "(J)J"⟩ : MethodName)) (z := (⟨"com/example/cyclewright/cyclewright/core/ooo/Carry", "whole", "(J)J"⟩ : MethodName)) hown (mvT hZ (hw _ (List.mem_of_getElem? (i := 9) rfl))) (mvT hZ (hw _ (List.mem_of_getElem? (i := 10) rfl))) (notFace_of_selects (args := #[]) (mvT hZ (hw _ (List.mem_of_getElem? (i := 12) rfl)))) (mvT hZ (hw _ (List.mem_of_getElem? (i := 12) rfl))) (mvT hZ (hw _ (List.mem_of_getElem? (i := 11) rfl))) (by decide) (backOf (W := 0) (rm3 l Z a0 hw [] b4 q2 (((0 : Int64) + q1) - ((((0 : Int64) + q1) / (1000 : Int64)) * (1000 : Int64))) T6.heap n0 (Nat.le_trans (Nat.le_trans Z0 E4.1) Kq6.1) Fo6 Ex6 g_b4) hZ (hw _ (List.mem_of_getElem? (i := 13) rfl)) (hw _ (List.mem_of_getElem? (i := 2) rfl)) (by decide) (by decide)) q7a q7c (g := (mkF m 20 #[.val (.long q1), .second, .val (.long q2), .second, .val (.long q3), .second, .val (.ref b4), .val (.long w1), .second, .unset, .unset, .unset, .unset, .unset, .unset, .unset, .unset, .unset, .unset, .unset, .unset] [(.long q2), (.ref b4)])) rfl (by rw [hml]; rfl) (Steps.refl _) (argsL := [(.long q2)]) (rest := []) (lenOf pd_0_1 rfl) rfl (by show 2 * 0 + _ ≤ _; exact Nat.le_of_eq rfl) (hb hby at_20) (fun _ _ => ⟨rfl, rfl, (by decide : 1 + 0 ≤ _), (by decide : 1 + 0 ≤ _)⟩)
  dsimp only [Pt.U, Pt.locs, Pt.cells, Pt.slots] at X7 l7 y7 z7 st7 hQ7
  subst l7 y7 z7
  obtain ⟨rfl, N7q, Kq7, Ex7, Fo7⟩ := hQ7
  have N7 := Fr.app N6 N7q
  obtain ⟨w2, h_w2⟩ : ∃ z : Int64, z = (((((0 : Int64) + q1) - ((((0 : Int64) + q1) / (1000 : Int64)) * (1000 : Int64))) + q2) / (1000 : Int64)) := ⟨_, rfl⟩
  obtain ⟨cq8, kq8, q8a, q8b, q8c⟩ := isOf hZ rfl Ex7
  obtain ⟨_, _, ⟨T8, L8, k8, n8⟩, -, X8, ⟨Lc8, hQ8, l8, y8, z8⟩, st8⟩ := X7.virtualBack hx (y := (⟨"com/example/cyclewright/cyclewright/core/ooo/Carry", "whole", "(J)J"⟩ : MethodName)) (z := (⟨"com/example/cyclewright/cyclewright/core/ooo/Carry", "whole", "(J)J"⟩ : MethodName)) hown (mvT hZ (hw _ (List.mem_of_getElem? (i := 9) rfl))) (mvT hZ (hw _ (List.mem_of_getElem? (i := 10) rfl))) (notFace_of_selects (args := #[]) (mvT hZ (hw _ (List.mem_of_getElem? (i := 12) rfl)))) (mvT hZ (hw _ (List.mem_of_getElem? (i := 12) rfl))) (mvT hZ (hw _ (List.mem_of_getElem? (i := 11) rfl))) (by decide) (backOf (W := 0) (rm3 l Z a0 hw [] b4 q3 (((((0 : Int64) + q1) - ((((0 : Int64) + q1) / (1000 : Int64)) * (1000 : Int64))) + q2) - ((((((0 : Int64) + q1) - ((((0 : Int64) + q1) / (1000 : Int64)) * (1000 : Int64))) + q2) / (1000 : Int64)) * (1000 : Int64))) T7.heap n0 (Nat.le_trans (Nat.le_trans (Nat.le_trans Z0 E4.1) Kq6.1) Kq7.1) Fo7 Ex7 g_b4) hZ (hw _ (List.mem_of_getElem? (i := 13) rfl)) (hw _ (List.mem_of_getElem? (i := 2) rfl)) (by decide) (by decide)) q8a q8c (g := (mkF m 29 #[.val (.long q1), .second, .val (.long q2), .second, .val (.long q3), .second, .val (.ref b4), .val (.long w1), .second, .val (.long w2), .second, .unset, .unset, .unset, .unset, .unset, .unset, .unset, .unset, .unset, .unset] [(.long q3), (.ref b4)])) rfl (by rw [hml]; rfl) (Steps.refl _) (argsL := [(.long q3)]) (rest := []) (lenOf pd_0_1 rfl) rfl (by show 2 * 0 + _ ≤ _; exact Nat.le_of_eq rfl) (hb hby at_29) (fun _ _ => ⟨rfl, rfl, (by decide : 1 + 0 ≤ _), (by decide : 1 + 0 ≤ _)⟩)
  dsimp only [Pt.U, Pt.locs, Pt.cells, Pt.slots] at X8 l8 y8 z8 st8 hQ8
  subst l8 y8 z8
  obtain ⟨rfl, N8q, Kq8, Ex8, Fo8⟩ := hQ8
  have N8 := Fr.app N7 N8q
  obtain ⟨w3, h_w3⟩ : ∃ z : Int64, z = (((((((0 : Int64) + q1) - ((((0 : Int64) + q1) / (1000 : Int64)) * (1000 : Int64))) + q2) - ((((((0 : Int64) + q1) - ((((0 : Int64) + q1) / (1000 : Int64)) * (1000 : Int64))) + q2) / (1000 : Int64)) * (1000 : Int64))) + q3) / (1000 : Int64)) := ⟨_, rfl⟩
  have hs1 : w1 = q1 / (1000 : Int64) := by rw [h_w1, Int64.zero_add]
  obtain ⟨_, _, ⟨T9, L9, k9, n9⟩, -, X9, ⟨Lc9, hQ9, l9, y9, z9⟩, st9⟩ := Jvm.LawKit.callS X8 hx (y := (⟨"com/example/cyclewright/cyclewright/core/ooo/CarryWholePinLaw", "splits", "(JJ)Z"⟩ : MethodName)) hown (mvT hZ (hw _ (List.mem_of_getElem? (i := 17) rfl))) (mvT hZ (hw _ (List.mem_of_getElem? (i := 18) rfl))) (mvT hZ (hw _ (List.mem_of_getElem? (i := 19) rfl))) (mvT hZ (hw _ (List.mem_of_getElem? (i := 20) rfl))) (by decide) (backOf (W := 0) (rm4 l Z a0 hw [] q1 w1  T8.heap n0 (Nat.le_trans (Nat.le_trans (Nat.le_trans (Nat.le_trans Z0 E4.1) Kq6.1) Kq7.1) Kq8.1) hs1) hZ (hw _ (List.mem_of_getElem? (i := 20) rfl)) (hw _ (List.mem_of_getElem? (i := 19) rfl)) (by decide) (by decide)) (g := (mkF m 37 #[.val (.long q1), .second, .val (.long q2), .second, .val (.long q3), .second, .val (.ref b4), .val (.long w1), .second, .val (.long w2), .second, .val (.long w3), .second, .unset, .unset, .unset, .unset, .unset, .unset, .unset, .unset] [(.long w1), (.long q1)])) rfl (by rw [hml]; rfl) (argsL := [(.long q1), (.long w1)]) (rest := []) (lenOf pd_0_2 rfl) rfl (by show 2 * 0 + _ ≤ _; exact Nat.le_of_eq rfl) (hb hby at_37) (fun _ _ => ⟨rfl, rfl, (by decide : 1 + 0 ≤ _), (by decide : 1 + 0 ≤ _)⟩)
  dsimp only [Pt.U, Pt.locs, Pt.cells, Pt.slots] at X9 l9 y9 z9 st9 hQ9
  subst l9 y9 z9
  obtain ⟨rfl, N9q, e9⟩ := hQ9
  have N9 := Fr.app N8 N9q
  obtain ⟨r1, h_r1⟩ : ∃ z : Int64, z = (q1 - (w1 * (1000 : Int64))) := ⟨_, rfl⟩
  obtain ⟨s2, h_s2⟩ : ∃ z : Int64, z = (r1 + q2) := ⟨_, rfl⟩
  have hs2 : w2 = s2 / (1000 : Int64) := by rw [h_w2, h_s2, h_r1, h_w1, Int64.zero_add]
  obtain ⟨_, _, ⟨T10, L10, k10, n10⟩, -, X10, ⟨Lc10, hQ10, l10, y10, z10⟩, st10⟩ := Jvm.LawKit.callS X9 hx (y := (⟨"com/example/cyclewright/cyclewright/core/ooo/CarryWholePinLaw", "splits", "(JJ)Z"⟩ : MethodName)) hown (mvT hZ (hw _ (List.mem_of_getElem? (i := 17) rfl))) (mvT hZ (hw _ (List.mem_of_getElem? (i := 18) rfl))) (mvT hZ (hw _ (List.mem_of_getElem? (i := 19) rfl))) (mvT hZ (hw _ (List.mem_of_getElem? (i := 20) rfl))) (by decide) (backOf (W := 0) (rm4 l Z a0 hw [] s2 w2  T8.heap n0 (Nat.le_trans (Nat.le_trans (Nat.le_trans (Nat.le_trans Z0 E4.1) Kq6.1) Kq7.1) Kq8.1) hs2) hZ (hw _ (List.mem_of_getElem? (i := 20) rfl)) (hw _ (List.mem_of_getElem? (i := 19) rfl)) (by decide) (by decide)) (g := (mkF m 65 #[.val (.long q1), .second, .val (.long q2), .second, .val (.long q3), .second, .val (.ref b4), .val (.long w1), .second, .val (.long w2), .second, .val (.long w3), .second, .val (.long r1), .second, .val (.long s2), .second, .unset, .unset, .unset, .unset] [(.long w2), (.long s2)])) rfl (by rw [hml]; rfl) (argsL := [(.long s2), (.long w2)]) (rest := []) (lenOf pd_0_2 rfl) rfl (by show 2 * 0 + _ ≤ _; exact Nat.le_of_eq rfl) (hb hby at_65) (fun _ _ => ⟨rfl, e9, (by decide : 1 + 0 ≤ _), (by decide : 1 + 0 ≤ _)⟩)
  dsimp only [Pt.U, Pt.locs, Pt.cells, Pt.slots] at X10 l10 y10 z10 st10 hQ10
  subst l10 y10 z10
  obtain ⟨rfl, N10q, e10⟩ := hQ10
  have N10 := Fr.app N9 N10q
  obtain ⟨r2, h_r2⟩ : ∃ z : Int64, z = (s2 - (w2 * (1000 : Int64))) := ⟨_, rfl⟩
  obtain ⟨s3, h_s3⟩ : ∃ z : Int64, z = (r2 + q3) := ⟨_, rfl⟩
  have hs3 : w3 = s3 / (1000 : Int64) := by rw [h_w3, h_s3, h_r2, h_s2, h_r1, h_w2, h_w1, Int64.zero_add]
  obtain ⟨_, _, ⟨T11, L11, k11, n11⟩, -, X11, ⟨Lc11, hQ11, l11, y11, z11⟩, st11⟩ := Jvm.LawKit.callS X10 hx (y := (⟨"com/example/cyclewright/cyclewright/core/ooo/CarryWholePinLaw", "splits", "(JJ)Z"⟩ : MethodName)) hown (mvT hZ (hw _ (List.mem_of_getElem? (i := 17) rfl))) (mvT hZ (hw _ (List.mem_of_getElem? (i := 18) rfl))) (mvT hZ (hw _ (List.mem_of_getElem? (i := 19) rfl))) (mvT hZ (hw _ (List.mem_of_getElem? (i := 20) rfl))) (by decide) (backOf (W := 0) (rm4 l Z a0 hw [] s3 w3  T8.heap n0 (Nat.le_trans (Nat.le_trans (Nat.le_trans (Nat.le_trans Z0 E4.1) Kq6.1) Kq7.1) Kq8.1) hs3) hZ (hw _ (List.mem_of_getElem? (i := 20) rfl)) (hw _ (List.mem_of_getElem? (i := 19) rfl)) (by decide) (by decide)) (g := (mkF m 95 #[.val (.long q1), .second, .val (.long q2), .second, .val (.long q3), .second, .val (.ref b4), .val (.long w1), .second, .val (.long w2), .second, .val (.long w3), .second, .val (.long r1), .second, .val (.long s2), .second, .val (.long r2), .second, .val (.long s3), .second] [(.long w3), (.long s3)])) rfl (by rw [hml]; rfl) (argsL := [(.long s3), (.long w3)]) (rest := []) (lenOf pd_0_2 rfl) rfl (by show 2 * 0 + _ ≤ _; exact Nat.le_of_eq rfl) (hb hby at_95) (fun _ _ => ⟨rfl, e10, (by decide : 1 + 0 ≤ _), (by decide : 1 + 0 ≤ _)⟩)
  dsimp only [Pt.U, Pt.locs, Pt.cells, Pt.slots] at X11 l11 y11 z11 st11 hQ11
  subst l11 y11 z11
  obtain ⟨rfl, N11q, e11⟩ := hQ11
  have N11 := Fr.app N10 N11q
  obtain ⟨fs, hr, hrun, hended, hW, hsame⟩ := X11.leave (v := some (.int (1 : Int32))) (fun h => by rw [Bd.returns] at h; cases h)
  refine ⟨_, _, pre0 _ ?_, hrun, hended, _, _, rfl, ?_, ⟨_, rfl⟩, hW, hsame.mono (by decide) (by decide)⟩
  · show Steps p.tables e below (s₁.setTop (mkF m 0 #[.val (.long q1), .second, .val (.long q2), .second, .val (.long q3), .second, .unset, .unset, .unset, .unset, .unset, .unset, .unset, .unset, .unset, .unset, .unset, .unset, .unset, .unset, .unset] [])) _
    refine st4 _ ?_
    show Steps p.tables e below (T4.setTop (mkF m 3 #[.val (.long q1), .second, .val (.long q2), .second, .val (.long q3), .second, .unset, .unset, .unset, .unset, .unset, .unset, .unset, .unset, .unset, .unset, .unset, .unset, .unset, .unset, .unset] [(.ref b4)])) _
    refine XS.dup X4.here hx rfl (hb hby at_3) rfl rfl ?_
    show Steps p.tables e below (T4.setTop (mkF m 4 #[.val (.long q1), .second, .val (.long q2), .second, .val (.long q3), .second, .unset, .unset, .unset, .unset, .unset, .unset, .unset, .unset, .unset, .unset, .unset, .unset, .unset, .unset, .unset] [(.ref b4), (.ref b4)])) _
    refine st5.trans ?_
    show Steps p.tables e below (T5.setTop (mkF m 7 #[.val (.long q1), .second, .val (.long q2), .second, .val (.long q3), .second, .unset, .unset, .unset, .unset, .unset, .unset, .unset, .unset, .unset, .unset, .unset, .unset, .unset, .unset, .unset] [(.ref b4)])) _
    refine XS.astore X5.here hx rfl (hb hby at_7) rfl rfl (l' := #[.val (.long q1), .second, .val (.long q2), .second, .val (.long q3), .second, .val (.ref b4), .unset, .unset, .unset, .unset, .unset, .unset, .unset, .unset, .unset, .unset, .unset, .unset, .unset, .unset]) rfl ?_
    show Steps p.tables e below (T5.setTop (mkF m 9 #[.val (.long q1), .second, .val (.long q2), .second, .val (.long q3), .second, .val (.ref b4), .unset, .unset, .unset, .unset, .unset, .unset, .unset, .unset, .unset, .unset, .unset, .unset, .unset, .unset] [])) _
    refine XS.aload X5.here hx rfl (hb hby at_9) rfl rfl ?_
    show Steps p.tables e below (T5.setTop (mkF m 11 #[.val (.long q1), .second, .val (.long q2), .second, .val (.long q3), .second, .val (.ref b4), .unset, .unset, .unset, .unset, .unset, .unset, .unset, .unset, .unset, .unset, .unset, .unset, .unset, .unset] [(.ref b4)])) _
    refine XS.lloadN X5.here hx rfl (hb hby at_11) rfl ?_
    show Steps p.tables e below (T5.setTop (mkF m 12 #[.val (.long q1), .second, .val (.long q2), .second, .val (.long q3), .second, .val (.ref b4), .unset, .unset, .unset, .unset, .unset, .unset, .unset, .unset, .unset, .unset, .unset, .unset, .unset, .unset] [(.long q1), (.ref b4)])) _
    refine st6.trans ?_
    show Steps p.tables e below (T6.setTop (mkF m 15 #[.val (.long q1), .second, .val (.long q2), .second, .val (.long q3), .second, .val (.ref b4), .unset, .unset, .unset, .unset, .unset, .unset, .unset, .unset, .unset, .unset, .unset, .unset, .unset, .unset] [(.long (((0 : Int64) + q1) / (1000 : Int64)))])) _
    refine XS.lstore X6.here hx rfl (hb hby at_15) (x := w1) (rest := []) (by subst h_w1; rfl) (l' := #[.val (.long q1), .second, .val (.long q2), .second, .val (.long q3), .second, .val (.ref b4), .val (.long w1), .second, .unset, .unset, .unset, .unset, .unset, .unset, .unset, .unset, .unset, .unset, .unset, .unset]) rfl ?_
    show Steps p.tables e below (T6.setTop (mkF m 17 #[.val (.long q1), .second, .val (.long q2), .second, .val (.long q3), .second, .val (.ref b4), .val (.long w1), .second, .unset, .unset, .unset, .unset, .unset, .unset, .unset, .unset, .unset, .unset, .unset, .unset] [])) _
    refine XS.aload X6.here hx rfl (hb hby at_17) rfl rfl ?_
    show Steps p.tables e below (T6.setTop (mkF m 19 #[.val (.long q1), .second, .val (.long q2), .second, .val (.long q3), .second, .val (.ref b4), .val (.long w1), .second, .unset, .unset, .unset, .unset, .unset, .unset, .unset, .unset, .unset, .unset, .unset, .unset] [(.ref b4)])) _
    refine XS.lloadN X6.here hx rfl (hb hby at_19) rfl ?_
    show Steps p.tables e below (T6.setTop (mkF m 20 #[.val (.long q1), .second, .val (.long q2), .second, .val (.long q3), .second, .val (.ref b4), .val (.long w1), .second, .unset, .unset, .unset, .unset, .unset, .unset, .unset, .unset, .unset, .unset, .unset, .unset] [(.long q2), (.ref b4)])) _
    refine st7.trans ?_
    show Steps p.tables e below (T7.setTop (mkF m 23 #[.val (.long q1), .second, .val (.long q2), .second, .val (.long q3), .second, .val (.ref b4), .val (.long w1), .second, .unset, .unset, .unset, .unset, .unset, .unset, .unset, .unset, .unset, .unset, .unset, .unset] [(.long (((((0 : Int64) + q1) - ((((0 : Int64) + q1) / (1000 : Int64)) * (1000 : Int64))) + q2) / (1000 : Int64)))])) _
    refine XS.lstore X7.here hx rfl (hb hby at_23) (x := w2) (rest := []) (by subst h_w2; rfl) (l' := #[.val (.long q1), .second, .val (.long q2), .second, .val (.long q3), .second, .val (.ref b4), .val (.long w1), .second, .val (.long w2), .second, .unset, .unset, .unset, .unset, .unset, .unset, .unset, .unset, .unset, .unset]) rfl ?_
    show Steps p.tables e below (T7.setTop (mkF m 25 #[.val (.long q1), .second, .val (.long q2), .second, .val (.long q3), .second, .val (.ref b4), .val (.long w1), .second, .val (.long w2), .second, .unset, .unset, .unset, .unset, .unset, .unset, .unset, .unset, .unset, .unset] [])) _
    refine XS.aload X7.here hx rfl (hb hby at_25) rfl rfl ?_
    show Steps p.tables e below (T7.setTop (mkF m 27 #[.val (.long q1), .second, .val (.long q2), .second, .val (.long q3), .second, .val (.ref b4), .val (.long w1), .second, .val (.long w2), .second, .unset, .unset, .unset, .unset, .unset, .unset, .unset, .unset, .unset, .unset] [(.ref b4)])) _
    refine XS.lload X7.here hx rfl (hb hby at_27) rfl ?_
    show Steps p.tables e below (T7.setTop (mkF m 29 #[.val (.long q1), .second, .val (.long q2), .second, .val (.long q3), .second, .val (.ref b4), .val (.long w1), .second, .val (.long w2), .second, .unset, .unset, .unset, .unset, .unset, .unset, .unset, .unset, .unset, .unset] [(.long q3), (.ref b4)])) _
    refine st8.trans ?_
    show Steps p.tables e below (T8.setTop (mkF m 32 #[.val (.long q1), .second, .val (.long q2), .second, .val (.long q3), .second, .val (.ref b4), .val (.long w1), .second, .val (.long w2), .second, .unset, .unset, .unset, .unset, .unset, .unset, .unset, .unset, .unset, .unset] [(.long (((((((0 : Int64) + q1) - ((((0 : Int64) + q1) / (1000 : Int64)) * (1000 : Int64))) + q2) - ((((((0 : Int64) + q1) - ((((0 : Int64) + q1) / (1000 : Int64)) * (1000 : Int64))) + q2) / (1000 : Int64)) * (1000 : Int64))) + q3) / (1000 : Int64)))])) _
    refine XS.lstore X8.here hx rfl (hb hby at_32) (x := w3) (rest := []) (by subst h_w3; rfl) (l' := #[.val (.long q1), .second, .val (.long q2), .second, .val (.long q3), .second, .val (.ref b4), .val (.long w1), .second, .val (.long w2), .second, .val (.long w3), .second, .unset, .unset, .unset, .unset, .unset, .unset, .unset, .unset]) rfl ?_
    show Steps p.tables e below (T8.setTop (mkF m 34 #[.val (.long q1), .second, .val (.long q2), .second, .val (.long q3), .second, .val (.ref b4), .val (.long w1), .second, .val (.long w2), .second, .val (.long w3), .second, .unset, .unset, .unset, .unset, .unset, .unset, .unset, .unset] [])) _
    refine XS.lloadN X8.here hx rfl (hb hby at_34) rfl ?_
    show Steps p.tables e below (T8.setTop (mkF m 35 #[.val (.long q1), .second, .val (.long q2), .second, .val (.long q3), .second, .val (.ref b4), .val (.long w1), .second, .val (.long w2), .second, .val (.long w3), .second, .unset, .unset, .unset, .unset, .unset, .unset, .unset, .unset] [(.long q1)])) _
    refine XS.lload X8.here hx rfl (hb hby at_35) rfl ?_
    show Steps p.tables e below (T8.setTop (mkF m 37 #[.val (.long q1), .second, .val (.long q2), .second, .val (.long q3), .second, .val (.ref b4), .val (.long w1), .second, .val (.long w2), .second, .val (.long w3), .second, .unset, .unset, .unset, .unset, .unset, .unset, .unset, .unset] [(.long w1), (.long q1)])) _
    refine st9 _ ?_
    show Steps p.tables e below (T9.setTop (mkF m 40 #[.val (.long q1), .second, .val (.long q2), .second, .val (.long q3), .second, .val (.ref b4), .val (.long w1), .second, .val (.long w2), .second, .val (.long w3), .second, .unset, .unset, .unset, .unset, .unset, .unset, .unset, .unset] [(.int (1 : Int32))])) _
    refine XS.ifYes X9.here hx rfl (pc0 := 40) (pc' := 45) rfl (hb hby at_40) rfl ((if0 _ _).trans (feq hc40).2) (by decide) (by decide) ?_
    show Steps p.tables e below (T9.setTop (mkF m 45 #[.val (.long q1), .second, .val (.long q2), .second, .val (.long q3), .second, .val (.ref b4), .val (.long w1), .second, .val (.long w2), .second, .val (.long w3), .second, .unset, .unset, .unset, .unset, .unset, .unset, .unset, .unset] [])) _
    refine XS.lloadN X9.here hx rfl (hb hby at_45) rfl ?_
    show Steps p.tables e below (T9.setTop (mkF m 46 #[.val (.long q1), .second, .val (.long q2), .second, .val (.long q3), .second, .val (.ref b4), .val (.long w1), .second, .val (.long w2), .second, .val (.long w3), .second, .unset, .unset, .unset, .unset, .unset, .unset, .unset, .unset] [(.long q1)])) _
    refine XS.lload X9.here hx rfl (hb hby at_46) rfl ?_
    show Steps p.tables e below (T9.setTop (mkF m 48 #[.val (.long q1), .second, .val (.long q2), .second, .val (.long q3), .second, .val (.ref b4), .val (.long w1), .second, .val (.long w2), .second, .val (.long w3), .second, .unset, .unset, .unset, .unset, .unset, .unset, .unset, .unset] [(.long w1), (.long q1)])) _
    refine X9.ldc2Long hx hown (mvT hZ (hw _ (List.mem_of_getElem? (i := 23) rfl))) (g := (mkF m 48 #[.val (.long q1), .second, .val (.long q2), .second, .val (.long q3), .second, .val (.ref b4), .val (.long w1), .second, .val (.long w2), .second, .val (.long w3), .second, .unset, .unset, .unset, .unset, .unset, .unset, .unset, .unset] [(.long w1), (.long q1)])) rfl (hb hby at_48) _ ?_
    show Steps p.tables e below (T9.setTop (mkF m 51 #[.val (.long q1), .second, .val (.long q2), .second, .val (.long q3), .second, .val (.ref b4), .val (.long w1), .second, .val (.long w2), .second, .val (.long w3), .second, .unset, .unset, .unset, .unset, .unset, .unset, .unset, .unset] [(.long (1000 : Int64)), (.long w1), (.long q1)])) _
    refine XS.lmul X9.here hx rfl (hb hby at_51) rfl ?_
    show Steps p.tables e below (T9.setTop (mkF m 52 #[.val (.long q1), .second, .val (.long q2), .second, .val (.long q3), .second, .val (.ref b4), .val (.long w1), .second, .val (.long w2), .second, .val (.long w3), .second, .unset, .unset, .unset, .unset, .unset, .unset, .unset, .unset] [(.long (w1 * (1000 : Int64))), (.long q1)])) _
    refine XS.lsub X9.here hx rfl (hb hby at_52) rfl ?_
    show Steps p.tables e below (T9.setTop (mkF m 53 #[.val (.long q1), .second, .val (.long q2), .second, .val (.long q3), .second, .val (.ref b4), .val (.long w1), .second, .val (.long w2), .second, .val (.long w3), .second, .unset, .unset, .unset, .unset, .unset, .unset, .unset, .unset] [(.long (q1 - (w1 * (1000 : Int64))))])) _
    refine XS.lstore X9.here hx rfl (hb hby at_53) (x := r1) (rest := []) (by subst h_r1; rfl) (l' := #[.val (.long q1), .second, .val (.long q2), .second, .val (.long q3), .second, .val (.ref b4), .val (.long w1), .second, .val (.long w2), .second, .val (.long w3), .second, .val (.long r1), .second, .unset, .unset, .unset, .unset, .unset, .unset]) rfl ?_
    show Steps p.tables e below (T9.setTop (mkF m 55 #[.val (.long q1), .second, .val (.long q2), .second, .val (.long q3), .second, .val (.ref b4), .val (.long w1), .second, .val (.long w2), .second, .val (.long w3), .second, .val (.long r1), .second, .unset, .unset, .unset, .unset, .unset, .unset] [])) _
    refine XS.lload X9.here hx rfl (hb hby at_55) rfl ?_
    show Steps p.tables e below (T9.setTop (mkF m 57 #[.val (.long q1), .second, .val (.long q2), .second, .val (.long q3), .second, .val (.ref b4), .val (.long w1), .second, .val (.long w2), .second, .val (.long w3), .second, .val (.long r1), .second, .unset, .unset, .unset, .unset, .unset, .unset] [(.long r1)])) _
    refine XS.lloadN X9.here hx rfl (hb hby at_57) rfl ?_
    show Steps p.tables e below (T9.setTop (mkF m 58 #[.val (.long q1), .second, .val (.long q2), .second, .val (.long q3), .second, .val (.ref b4), .val (.long w1), .second, .val (.long w2), .second, .val (.long w3), .second, .val (.long r1), .second, .unset, .unset, .unset, .unset, .unset, .unset] [(.long q2), (.long r1)])) _
    refine XS.ladd X9.here hx rfl (hb hby at_58) rfl ?_
    show Steps p.tables e below (T9.setTop (mkF m 59 #[.val (.long q1), .second, .val (.long q2), .second, .val (.long q3), .second, .val (.ref b4), .val (.long w1), .second, .val (.long w2), .second, .val (.long w3), .second, .val (.long r1), .second, .unset, .unset, .unset, .unset, .unset, .unset] [(.long (r1 + q2))])) _
    refine XS.lstore X9.here hx rfl (hb hby at_59) (x := s2) (rest := []) (by subst h_s2; rfl) (l' := #[.val (.long q1), .second, .val (.long q2), .second, .val (.long q3), .second, .val (.ref b4), .val (.long w1), .second, .val (.long w2), .second, .val (.long w3), .second, .val (.long r1), .second, .val (.long s2), .second, .unset, .unset, .unset, .unset]) rfl ?_
    show Steps p.tables e below (T9.setTop (mkF m 61 #[.val (.long q1), .second, .val (.long q2), .second, .val (.long q3), .second, .val (.ref b4), .val (.long w1), .second, .val (.long w2), .second, .val (.long w3), .second, .val (.long r1), .second, .val (.long s2), .second, .unset, .unset, .unset, .unset] [])) _
    refine XS.lload X9.here hx rfl (hb hby at_61) rfl ?_
    show Steps p.tables e below (T9.setTop (mkF m 63 #[.val (.long q1), .second, .val (.long q2), .second, .val (.long q3), .second, .val (.ref b4), .val (.long w1), .second, .val (.long w2), .second, .val (.long w3), .second, .val (.long r1), .second, .val (.long s2), .second, .unset, .unset, .unset, .unset] [(.long s2)])) _
    refine XS.lload X9.here hx rfl (hb hby at_63) rfl ?_
    show Steps p.tables e below (T9.setTop (mkF m 65 #[.val (.long q1), .second, .val (.long q2), .second, .val (.long q3), .second, .val (.ref b4), .val (.long w1), .second, .val (.long w2), .second, .val (.long w3), .second, .val (.long r1), .second, .val (.long s2), .second, .unset, .unset, .unset, .unset] [(.long w2), (.long s2)])) _
    refine st10 _ ?_
    show Steps p.tables e below (T10.setTop (mkF m 68 #[.val (.long q1), .second, .val (.long q2), .second, .val (.long q3), .second, .val (.ref b4), .val (.long w1), .second, .val (.long w2), .second, .val (.long w3), .second, .val (.long r1), .second, .val (.long s2), .second, .unset, .unset, .unset, .unset] [(.int (1 : Int32))])) _
    refine XS.ifYes X10.here hx rfl (pc0 := 68) (pc' := 73) rfl (hb hby at_68) rfl ((if0 _ _).trans (feq hc68).2) (by decide) (by decide) ?_
    show Steps p.tables e below (T10.setTop (mkF m 73 #[.val (.long q1), .second, .val (.long q2), .second, .val (.long q3), .second, .val (.ref b4), .val (.long w1), .second, .val (.long w2), .second, .val (.long w3), .second, .val (.long r1), .second, .val (.long s2), .second, .unset, .unset, .unset, .unset] [])) _
    refine XS.lload X10.here hx rfl (hb hby at_73) rfl ?_
    show Steps p.tables e below (T10.setTop (mkF m 75 #[.val (.long q1), .second, .val (.long q2), .second, .val (.long q3), .second, .val (.ref b4), .val (.long w1), .second, .val (.long w2), .second, .val (.long w3), .second, .val (.long r1), .second, .val (.long s2), .second, .unset, .unset, .unset, .unset] [(.long s2)])) _
    refine XS.lload X10.here hx rfl (hb hby at_75) rfl ?_
    show Steps p.tables e below (T10.setTop (mkF m 77 #[.val (.long q1), .second, .val (.long q2), .second, .val (.long q3), .second, .val (.ref b4), .val (.long w1), .second, .val (.long w2), .second, .val (.long w3), .second, .val (.long r1), .second, .val (.long s2), .second, .unset, .unset, .unset, .unset] [(.long w2), (.long s2)])) _
    refine X10.ldc2Long hx hown (mvT hZ (hw _ (List.mem_of_getElem? (i := 23) rfl))) (g := (mkF m 77 #[.val (.long q1), .second, .val (.long q2), .second, .val (.long q3), .second, .val (.ref b4), .val (.long w1), .second, .val (.long w2), .second, .val (.long w3), .second, .val (.long r1), .second, .val (.long s2), .second, .unset, .unset, .unset, .unset] [(.long w2), (.long s2)])) rfl (hb hby at_77) _ ?_
    show Steps p.tables e below (T10.setTop (mkF m 80 #[.val (.long q1), .second, .val (.long q2), .second, .val (.long q3), .second, .val (.ref b4), .val (.long w1), .second, .val (.long w2), .second, .val (.long w3), .second, .val (.long r1), .second, .val (.long s2), .second, .unset, .unset, .unset, .unset] [(.long (1000 : Int64)), (.long w2), (.long s2)])) _
    refine XS.lmul X10.here hx rfl (hb hby at_80) rfl ?_
    show Steps p.tables e below (T10.setTop (mkF m 81 #[.val (.long q1), .second, .val (.long q2), .second, .val (.long q3), .second, .val (.ref b4), .val (.long w1), .second, .val (.long w2), .second, .val (.long w3), .second, .val (.long r1), .second, .val (.long s2), .second, .unset, .unset, .unset, .unset] [(.long (w2 * (1000 : Int64))), (.long s2)])) _
    refine XS.lsub X10.here hx rfl (hb hby at_81) rfl ?_
    show Steps p.tables e below (T10.setTop (mkF m 82 #[.val (.long q1), .second, .val (.long q2), .second, .val (.long q3), .second, .val (.ref b4), .val (.long w1), .second, .val (.long w2), .second, .val (.long w3), .second, .val (.long r1), .second, .val (.long s2), .second, .unset, .unset, .unset, .unset] [(.long (s2 - (w2 * (1000 : Int64))))])) _
    refine XS.lstore X10.here hx rfl (hb hby at_82) (x := r2) (rest := []) (by subst h_r2; rfl) (l' := #[.val (.long q1), .second, .val (.long q2), .second, .val (.long q3), .second, .val (.ref b4), .val (.long w1), .second, .val (.long w2), .second, .val (.long w3), .second, .val (.long r1), .second, .val (.long s2), .second, .val (.long r2), .second, .unset, .unset]) rfl ?_
    show Steps p.tables e below (T10.setTop (mkF m 84 #[.val (.long q1), .second, .val (.long q2), .second, .val (.long q3), .second, .val (.ref b4), .val (.long w1), .second, .val (.long w2), .second, .val (.long w3), .second, .val (.long r1), .second, .val (.long s2), .second, .val (.long r2), .second, .unset, .unset] [])) _
    refine XS.lload X10.here hx rfl (hb hby at_84) rfl ?_
    show Steps p.tables e below (T10.setTop (mkF m 86 #[.val (.long q1), .second, .val (.long q2), .second, .val (.long q3), .second, .val (.ref b4), .val (.long w1), .second, .val (.long w2), .second, .val (.long w3), .second, .val (.long r1), .second, .val (.long s2), .second, .val (.long r2), .second, .unset, .unset] [(.long r2)])) _
    refine XS.lload X10.here hx rfl (hb hby at_86) rfl ?_
    show Steps p.tables e below (T10.setTop (mkF m 88 #[.val (.long q1), .second, .val (.long q2), .second, .val (.long q3), .second, .val (.ref b4), .val (.long w1), .second, .val (.long w2), .second, .val (.long w3), .second, .val (.long r1), .second, .val (.long s2), .second, .val (.long r2), .second, .unset, .unset] [(.long q3), (.long r2)])) _
    refine XS.ladd X10.here hx rfl (hb hby at_88) rfl ?_
    show Steps p.tables e below (T10.setTop (mkF m 89 #[.val (.long q1), .second, .val (.long q2), .second, .val (.long q3), .second, .val (.ref b4), .val (.long w1), .second, .val (.long w2), .second, .val (.long w3), .second, .val (.long r1), .second, .val (.long s2), .second, .val (.long r2), .second, .unset, .unset] [(.long (r2 + q3))])) _
    refine XS.lstore X10.here hx rfl (hb hby at_89) (x := s3) (rest := []) (by subst h_s3; rfl) (l' := #[.val (.long q1), .second, .val (.long q2), .second, .val (.long q3), .second, .val (.ref b4), .val (.long w1), .second, .val (.long w2), .second, .val (.long w3), .second, .val (.long r1), .second, .val (.long s2), .second, .val (.long r2), .second, .val (.long s3), .second]) rfl ?_
    show Steps p.tables e below (T10.setTop (mkF m 91 #[.val (.long q1), .second, .val (.long q2), .second, .val (.long q3), .second, .val (.ref b4), .val (.long w1), .second, .val (.long w2), .second, .val (.long w3), .second, .val (.long r1), .second, .val (.long s2), .second, .val (.long r2), .second, .val (.long s3), .second] [])) _
    refine XS.lload X10.here hx rfl (hb hby at_91) rfl ?_
    show Steps p.tables e below (T10.setTop (mkF m 93 #[.val (.long q1), .second, .val (.long q2), .second, .val (.long q3), .second, .val (.ref b4), .val (.long w1), .second, .val (.long w2), .second, .val (.long w3), .second, .val (.long r1), .second, .val (.long s2), .second, .val (.long r2), .second, .val (.long s3), .second] [(.long s3)])) _
    refine XS.lload X10.here hx rfl (hb hby at_93) rfl ?_
    show Steps p.tables e below (T10.setTop (mkF m 95 #[.val (.long q1), .second, .val (.long q2), .second, .val (.long q3), .second, .val (.ref b4), .val (.long w1), .second, .val (.long w2), .second, .val (.long w3), .second, .val (.long r1), .second, .val (.long s2), .second, .val (.long r2), .second, .val (.long s3), .second] [(.long w3), (.long s3)])) _
    refine st11 _ ?_
    show Steps p.tables e below (T11.setTop (mkF m 98 #[.val (.long q1), .second, .val (.long q2), .second, .val (.long q3), .second, .val (.ref b4), .val (.long w1), .second, .val (.long w2), .second, .val (.long w3), .second, .val (.long r1), .second, .val (.long s2), .second, .val (.long r2), .second, .val (.long s3), .second] [(.int (1 : Int32))])) _
    exact retN X11 hx (t := .boolean) Bd.returns (by simp) (hb hby at_98) hr
  · show Q0 Z q1 q2 q3 h0 n0 _ T11.heap _
    rw [e11]
    exact ⟨rfl, N11⟩
set_option maxRecDepth 65536 in
set_option maxHeartbeats 40000000 in
theorem comes_1 {Post : Tables → Env → Array Value → State → Outcome → State → Prop} (hpost : ∀ tb e args s v u, (limb_1_1.after args s (.returned v) u = true ∧ limb_1_2.after args s (.returned v) u = true ∧ True) → FrameEnd s (.returned v) u (Jvm.fieldLocs frame_1_writes args s ++ Jvm.arrayLocs frame_1_arrays args s ++ Jvm.staticLocs frame_1_statics s) 16 128 → Post tb e args s (.returned v) u) :
    ArmFor flags0 classFile x code maxLocals ret World_1 tables_1 room_1 Calls_1 rest_1 Pre_1 Post := by
  intro l hfl _ _ p e ha hc hk s m args below hf hA hF happ hP
  obtain ⟨hcalls, hrest, hpre⟩ := hP
  obtain ⟨-, -, -, hnamed, -, -, -, hat⟩ := (Spec.applies_iff hf).mp happ
  obtain ⟨hg, hn⟩ := and_e (Cond.before_iff.mp (show (Jvm.Cond.and given_1 narrow_1).before args s = true from hpre))
  obtain ⟨g12, g13⟩ := and_e hg
  obtain ⟨g14, g15⟩ := and_e g13
  obtain ⟨g16, g17⟩ := and_e g15
  obtain ⟨w0, w1, w2, rfl⟩ : ∃ w0 w1 w2 : Value, args = #[w0, w1, w2] := by
    have hs : args.size = 3 := by simpa [Cond.value, given_1] using g12
    obtain ⟨L⟩ := args
    match L, hs with
    | [w0, w1, w2], _ => exact ⟨w0, w1, w2, rfl⟩
  have hw := fun d (hd : d ∈ tables_1) => atoms_spec (ws := Jvm.Cond.code x code maxLocals ret :: tables_1) hat d (List.mem_cons_of_mem _ hd)
  have hfit : Fit s := fun {y c} hc i hi => by
    obtain ⟨ha, rfl⟩ := Array.getElem?_eq_some_iff.mp hc
    have q := List.all_eq_true.mp ((Array.all_eq_true_iff_forall_mem.mp hF) _ (Array.getElem_mem ha)) i (List.mem_range.mpr hi)
    simpa [Array.getElem?_eq_getElem hi] using q
  obtain ⟨i0, ei0⟩ := isL_v g14
  obtain rfl : w0 = (.long i0) := Option.some.inj ei0
  obtain ⟨i1, ei1⟩ := isL_v g16
  obtain rfl : w1 = (.long i1) := Option.some.inj ei1
  obtain ⟨i2, ei2⟩ := isL_v g17
  obtain rfl : w2 = (.long i2) := Option.some.inj ei2
  obtain ⟨n, o, h1, h2, h3, _, L, rfl, ⟨rfl, N⟩, hq⟩ := rm0 l s _ hw tables_1 i0 i1 i2 s.heap s.heap.size (Nat.le_refl _) (by decide) (by decide) p e ha hc hk s m _ below hf ((Spec.applies_iff_loose hf).mp happ).1 ⟨rfl, State.Warmed39.refl s, rfl⟩ trivial
  refine ⟨n, _, h1, h2, h3, hpost _ _ _ _ _ _ ⟨Cond.after_iff.mpr rfl, Cond.after_iff.mpr (eq_i res_at (Term.int_eval (1)) rfl), trivial⟩ ⟨hq.1, hq.2.1, (hq.2.2.sift fun y hy => Or.inr (N y hy)).mono (by decide) (by decide)⟩⟩
theorem main_1_1 : Claimed_1_1 := comes_1 fun _ _ _ _ _ _ h hF => ⟨h.1, hF⟩
theorem main_1_2 : Claimed_1_2 := comes_1 fun _ _ _ _ _ _ h hF => ⟨h.2.1, hF⟩
end Jvm.Pilot.@@N@@
namespace Jvm.Pilot.@@N@@
open Jvm Jvm.ClassFile Sem Op Lib Jvm.Free Jvm.Stand Jvm.Pilot.@@N@@.Jvm.D
/-! MADE BY PROGRAM (witnessworld.py) out of the Statement's table words and the real class files: 7 classes; the members and pool entries that the words name. The judged class is class 1, her method 2. -/
namespace start1
open Jvm.ClassFile
def u (s : String) : CpInfo := .utf8 (stringToUtf16 s)
/-- a pool by its gaps: so many unusable entries, then the entry; so many at the end -/
def gap : Nat → List CpInfo → List CpInfo
  | 0, r => r
  | n + 1, r => .unusable :: gap n r
def poolList (es : List (Nat × CpInfo)) (last : Nat) : List CpInfo := es.foldr (fun e r => gap e.1 (e.2 :: r)) (gap last [])
def pool (es : List (Nat × CpInfo)) (last : Nat) : Array CpInfo := ⟨poolList es last⟩
def fileOf (pool : Array CpInfo) (this : Nat) (attrs : Array Attribute := #[]) (ms : Array MethodInfo := #[]) (fl : Nat := 33) (sup : Nat := 0) (ifs : Array Nat := #[]) (fds : Array FieldInfo := #[]) : ClassFile where
  minorVersion := 0
  majorVersion := 65
  constantPool := pool
  accessFlags := fl
  thisClass := this
  superClass := sup
  interfaces := ifs
  fields := fds
  methods := ms
  attributes := attrs
def plain (name : String) (sup : Option ClassId) : Class where
  name := name
  kind := .ordinary
  loader := none
  accessFlags := 33
  super := sup
  interfaces := #[]
  cf := none
  fields := #[]
  methods := #[]
  instanceTypes := #[]
  staticTypes := #[]
  resolved := #[]
  callSites := []
  init := .initialized
  statics := none
  mirror := none

def pool0 : Array CpInfo := pool [(5, u "<init>"), (0, u "()V"), (1, .class_ 10), (1, u "java/lang/Object")] 113

def k0c0 : Code := { maxStack := 0, maxLocals := 1, code := object_method_1_code, exceptionTable := #[], attributes := #[] }
def k0m0 : Method := { name := "<init>", desc := "()V", sig := { parameters := [], returnType := none }, accessFlags := 1, code := some k0c0 }
/-- java/lang/Object -/
def k0 : Class := { plain "java/lang/Object" none with
  accessFlags := 33
  interfaces := #[]
  cf := some (fileOf pool0 8 #[] #[{ accessFlags := 1, nameIndex := 5, descriptorIndex := 6, attributes := #[] }] 33 0 #[] #[])
  fields := #[]
  methods := #[k0m0]
  instanceTypes := #[]
  staticTypes := #[]
  resolved := Array.replicate 124 none
  statics := none }

def pool1 : Array CpInfo := pool [(2, .class_ 4), (0, .nameAndType 5 6), (0, u "java/lang/Object"), (0, u "<init>"), (0, u "()V"), (2, .long 18437520701672696841), (1, .long 9223372036854775), (1, .long 1000), (1, .long 18446744073709550616), (1, .class_ 18), (0, u "com/example/cyclewright/cyclewright/core/ooo/Carry"), (0, .methodref 17 3), (0, .methodref 17 21), (0, .nameAndType 22 23), (0, u "whole"), (0, u "(J)J"), (0, .methodref 25 26), (0, .class_ 27), (0, .nameAndType 28 29), (0, u "com/example/cyclewright/cyclewright/core/ooo/CarryWholePinLaw"), (0, u "splits"), (0, u "(JJ)Z"), (3, u "law"), (0, u "(JJJ)Z")] 2

def k1m0 : Method := { name := "<init>", desc := "()V", sig := { parameters := [], returnType := none }, accessFlags := 2, code := none }
def k1c1 : Code := { maxStack := 6, maxLocals := 6, code := method_2_code, exceptionTable := #[], attributes := #[] }
def k1m1 : Method := { name := "splits", desc := "(JJ)Z", sig := { parameters := [.long, .long], returnType := some .boolean }, accessFlags := 10, code := some k1c1 }
def k1c2 : Code := { maxStack := 6, maxLocals := 21, code := code, exceptionTable := #[], attributes := #[] }
def k1m2 : Method := { name := "law", desc := "(JJJ)Z", sig := { parameters := [.long, .long, .long], returnType := some .boolean }, accessFlags := 9, code := some k1c2 }
/-- com/example/cyclewright/cyclewright/core/ooo/CarryWholePinLaw -/
def k1 : Class := { plain "com/example/cyclewright/cyclewright/core/ooo/CarryWholePinLaw" (some 0) with
  accessFlags := 49
  interfaces := #[]
  cf := some (fileOf pool1 25 #[] #[{ accessFlags := 2, nameIndex := 5, descriptorIndex := 6, attributes := #[] }, { accessFlags := 10, nameIndex := 28, descriptorIndex := 29, attributes := #[] }, { accessFlags := 9, nameIndex := 33, descriptorIndex := 34, attributes := #[] }] 49 2 #[] #[])
  fields := #[]
  methods := #[k1m0, k1m1, k1m2]
  instanceTypes := #[]
  staticTypes := #[]
  resolved := Array.replicate 37 none
  statics := none }

def pool2 : Array CpInfo := pool [(1, .methodref 2 3), (0, .class_ 4), (0, .nameAndType 5 6), (0, u "java/lang/Object"), (0, u "<init>"), (0, u "()V"), (0, .fieldref 8 9), (0, .class_ 10), (0, .nameAndType 11 12), (0, u "com/example/cyclewright/cyclewright/core/ooo/Carry"), (0, u "owed"), (0, u "J"), (2, .long 1000), (3, u "whole"), (0, u "(J)J")] 2

def k2c0 : Code := { maxStack := 1, maxLocals := 1, code := prog_35_method_1_code, exceptionTable := #[], attributes := #[] }
def k2m0 : Method := { name := "<init>", desc := "()V", sig := { parameters := [], returnType := none }, accessFlags := 0, code := some k2c0 }
def k2c1 : Code := { maxStack := 7, maxLocals := 5, code := prog_35_method_2_code, exceptionTable := #[], attributes := #[] }
def k2m1 : Method := { name := "whole", desc := "(J)J", sig := { parameters := [.long], returnType := some .long }, accessFlags := 0, code := some k2c1 }
/-- com/example/cyclewright/cyclewright/core/ooo/Carry -/
def k2 : Class := { plain "com/example/cyclewright/cyclewright/core/ooo/Carry" (some 0) with
  accessFlags := 48
  interfaces := #[]
  cf := some (fileOf pool2 8 #[] #[{ accessFlags := 0, nameIndex := 5, descriptorIndex := 6, attributes := #[] }, { accessFlags := 0, nameIndex := 19, descriptorIndex := 20, attributes := #[] }] 48 2 #[] #[{ accessFlags := 2, nameIndex := 11, descriptorIndex := 12, attributes := #[] }])
  fields := #[{ name := "owed", type := .long, accessFlags := 2, slot := 0, constantValue := 0 }]
  methods := #[k2m0, k2m1]
  instanceTypes := #[.long]
  staticTypes := #[]
  resolved := Array.replicate 23 none
  statics := none }

def pool3 : Array CpInfo := pool [(1, u "java/lang/Cloneable"), (0, .class_ 1), (0, u "java/lang/Object"), (0, .class_ 3)] 3

/-- java/lang/Cloneable -/
def k3 : Class := { plain "java/lang/Cloneable" (some 0) with
  accessFlags := 1537
  interfaces := #[]
  cf := some (fileOf pool3 2 #[] #[] 1537 4 #[] #[])
  fields := #[]
  methods := #[]
  instanceTypes := #[]
  staticTypes := #[]
  resolved := Array.replicate 8 none
  statics := none }

def pool4 : Array CpInfo := pool [(1, u "java/io/Serializable"), (0, .class_ 1), (0, u "java/lang/Object"), (0, .class_ 3)] 3

/-- java/io/Serializable -/
def k4 : Class := { plain "java/io/Serializable" (some 0) with
  accessFlags := 1537
  interfaces := #[]
  cf := some (fileOf pool4 2 #[] #[] 1537 4 #[] #[])
  fields := #[]
  methods := #[]
  instanceTypes := #[]
  staticTypes := #[]
  resolved := Array.replicate 8 none
  statics := none }

/-- the primitive byte -/
def k5 : Class := { plain "byte" none with kind := .primitive 'B', accessFlags := 0x411 }
/-- [B -/
def k6 : Class := { plain "[B" (some 0) with kind := .array 5 .byte, interfaces := #[3, 4], accessFlags := 1041 }

def heap : Heap := #[]
def classes : Array Class := #[k0, k1, k2, k3, k4, k5, k6]
def interned : List (Array UInt16 × Addr) := []
def slotsUsed : Nat := 0
def theMethod : MethodId := ⟨1, 2⟩
def args0 : Array Value := #[.long 5, .long 1700, .long (-3)]
def aboutOver (below : List Frame) : State where
  vm := { classes := classes, interned := interned.toArray }
  heap := heap
  slotsUsed := slotsUsed
  threads := #[{ frames := .invoking theMethod args0 :: below }]
def below0 : List Frame := [.native { method := ⟨0, 0⟩, args := #[] }]
def about1 : State := aboutOver below0
def p0 : Program := .bare "" "" ""
def e0 : Env := launch0.env 0 0 0
theorem w_frames : about1.frames = Frame.invoking theMethod args0 :: below0 := rfl
set_option maxRecDepth 65536 in
theorem w_args : argsFit about1.vm theMethod args0 = true := by decide +kernel
set_option maxRecDepth 65536 in
theorem w_heap : heapFits about1 = true := by decide +kernel
set_option maxRecDepth 65536 in
theorem w_runnable : about1.curStatus? = some .runnable := by decide +kernel
set_option maxRecDepth 65536 in
theorem w_alone : about1.alone = true := by decide +kernel
set_option maxRecDepth 65536 in
theorem w_named : about1.methodNamed? x = some theMethod := by decide +kernel
set_option maxRecDepth 65536 in
theorem w_hears : about1.hears theMethod below0 = true := by decide +kernel
set_option maxRecDepth 65536 in
theorem w_ripe : about1.ripe theMethod args0 below0 = true := by decide +kernel
theorem w_running : about1.status = .running := rfl
set_option maxRecDepth 65536 in
theorem w_room : about1.hasRoom e0.platform room_1 = true :=
  launch0.hasRoom_least _ room_1 (by decide +kernel) (by decide +kernel) (by decide +kernel) (by decide +kernel) (by decide +kernel) (by decide +kernel)
theorem allAtoms_all (ts : List Jvm.Cond) (a : Array Jvm.Value) (st : Jvm.State) : (allAtoms ts).before a st = ts.all (fun c => c.before a st) := by
  induction ts with
  | nil => rfl
  | cons c t ih =>
    show (Jvm.Cond.and c (allAtoms t)).before a st = _
    rw [Jvm.Cond.before_and, ih, List.all_cons]
def words1 : List Jvm.Cond := Jvm.Cond.code x code maxLocals ret :: tables_1
/-- a 'code' word, met by the world's own term for the bytes: nothing is compared byte by byte -/
theorem code_word {y : MethodName} {bytes : ByteArray} {mx : Nat} {rt : Option FieldType} {a : Array Value} {s : State} {m : MethodId} {meth : Method} {c : Code} (h1 : s.methodNamed? y = some m) (h2 : s.vm.method? m = some meth) (h3 : meth.code = some c) (h4 : c.code = bytes)
    (h5 : (c.maxLocals == mx && c.exceptionTable.isEmpty && decide (c.maxStack ≤ mostOperands) && decide (meth.sig.returnType = rt) && !meth.locks && decide (parseMethodDescriptor y.desc = some meth.sig)) = true) : (Jvm.Cond.code y bytes mx rt).before a s = true := by
  simp only [Bool.and_eq_true, beq_iff_eq, Bool.not_eq_true', decide_eq_true_eq] at h5
  obtain ⟨⟨⟨⟨⟨g1, g2⟩, g3⟩, g4⟩, g5⟩, g6⟩ := h5
  simp [Cond.before, Cond.holds, Cond.value, h1, h2, h3, h4, g1, g2, g3, g4, g5, g6]
def isCode : Jvm.Cond → Bool
  | .code _ _ _ _ => true
  | _ => false
theorem all_split {L : List Jvm.Cond} {P : Jvm.Cond → Bool} (h1 : L.all (fun c => isCode c || P c) = true) (h2 : ∀ c ∈ L.filter isCode, P c = true) : L.all P = true := by
  refine List.all_eq_true.mpr fun c hc => ?_
  have h := List.all_eq_true.mp h1 c hc
  rcases Bool.eq_false_or_eq_true (isCode c) with hi | hi
  · exact h2 c (List.mem_filter.mpr ⟨hc, hi⟩)
  · simpa [hi] using h
set_option maxRecDepth 65536 in
theorem w_c0 : (Jvm.Cond.code x code maxLocals ret).before args0 about1 = true := code_word (m := ⟨1, 2⟩) (meth := k1m2) (c := k1c2) (by decide +kernel) rfl rfl rfl (by decide +kernel)
set_option maxRecDepth 65536 in
theorem w_c1 : (Jvm.Cond.code ({ cls := "com/example/cyclewright/cyclewright/core/ooo/Carry", name := "<init>", desc := "()V" } : Jvm.MethodName) prog_35_method_1_code (1 : Nat) (Option.none : Option Jvm.ClassFile.FieldType)).before args0 about1 = true := code_word (m := ⟨2, 0⟩) (meth := k2m0) (c := k2c0) (by decide +kernel) rfl rfl rfl (by decide +kernel)
set_option maxRecDepth 65536 in
theorem w_c2 : (Jvm.Cond.code ({ cls := "java/lang/Object", name := "<init>", desc := "()V" } : Jvm.MethodName) object_method_1_code (1 : Nat) (Option.none : Option Jvm.ClassFile.FieldType)).before args0 about1 = true := code_word (m := ⟨0, 0⟩) (meth := k0m0) (c := k0c0) (by decide +kernel) rfl rfl rfl (by decide +kernel)
set_option maxRecDepth 65536 in
theorem w_c3 : (Jvm.Cond.code ({ cls := "com/example/cyclewright/cyclewright/core/ooo/Carry", name := "whole", desc := "(J)J" } : Jvm.MethodName) prog_35_method_2_code (5 : Nat) (Option.some Jvm.ClassFile.FieldType.long)).before args0 about1 = true := code_word (m := ⟨2, 1⟩) (meth := k2m1) (c := k2c1) (by decide +kernel) rfl rfl rfl (by decide +kernel)
set_option maxRecDepth 65536 in
theorem w_c4 : (Jvm.Cond.code ({ cls := "com/example/cyclewright/cyclewright/core/ooo/CarryWholePinLaw", name := "splits", desc := "(JJ)Z" } : Jvm.MethodName) method_2_code (6 : Nat) (Option.some Jvm.ClassFile.FieldType.boolean)).before args0 about1 = true := code_word (m := ⟨1, 1⟩) (meth := k1m1) (c := k1c1) (by decide +kernel) rfl rfl rfl (by decide +kernel)
def codes1 : List Jvm.Cond := [Jvm.Cond.code x code maxLocals ret, Jvm.Cond.code ({ cls := "com/example/cyclewright/cyclewright/core/ooo/Carry", name := "<init>", desc := "()V" } : Jvm.MethodName) prog_35_method_1_code (1 : Nat) (Option.none : Option Jvm.ClassFile.FieldType), Jvm.Cond.code ({ cls := "java/lang/Object", name := "<init>", desc := "()V" } : Jvm.MethodName) object_method_1_code (1 : Nat) (Option.none : Option Jvm.ClassFile.FieldType), Jvm.Cond.code ({ cls := "com/example/cyclewright/cyclewright/core/ooo/Carry", name := "whole", desc := "(J)J" } : Jvm.MethodName) prog_35_method_2_code (5 : Nat) (Option.some Jvm.ClassFile.FieldType.long), Jvm.Cond.code ({ cls := "com/example/cyclewright/cyclewright/core/ooo/CarryWholePinLaw", name := "splits", desc := "(JJ)Z" } : Jvm.MethodName) method_2_code (6 : Nat) (Option.some Jvm.ClassFile.FieldType.boolean)]
set_option maxRecDepth 65536 in
theorem codes_eq : words1.filter isCode = codes1 := rfl
theorem w_codes : ∀ c ∈ words1.filter isCode, c.before args0 about1 = true := by
  rw [codes_eq]
  intro c hc
  simp only [codes1, List.mem_cons, List.not_mem_nil, or_false] at hc
  rcases hc with rfl | rfl | rfl | rfl | rfl
  · exact w_c0
  · exact w_c1
  · exact w_c2
  · exact w_c3
  · exact w_c4
set_option maxRecDepth 65536 in
theorem w_t1 : (words1.take 24).all (fun c => isCode c || c.before args0 about1) = true := by decide +kernel
set_option maxRecDepth 65536 in
theorem w_t2 : (words1.drop 24).all (fun c => isCode c || c.before args0 about1) = true := by decide +kernel
theorem w_tables : (allAtoms (Jvm.Cond.code x code maxLocals ret :: tables_1)).before args0 about1 = true := by
  rw [allAtoms_all]
  show words1.all (fun c => c.before args0 about1) = true
  refine all_split ?_ w_codes
  rw [← List.take_append_drop 24 words1, List.all_append, w_t1, w_t2]
  rfl
set_option maxRecDepth 65536 in
theorem w_case : (Jvm.Cond.and given_1 narrow_1).before args0 about1 = true := by decide +kernel
theorem w_applies : (headSpec (Jvm.Cond.code x code maxLocals ret :: tables_1) room_1).applies x e0.platform about1 = true :=
  (Spec.applies_iff w_frames).mpr ⟨w_running, w_runnable, w_alone, w_named, w_hears, w_ripe, w_room, w_tables⟩
theorem atStart : AtStart classFile x code maxLocals ret World_1 tables_1 room_1 Calls_1 rest_1 Pre_1 launch0 p0 e0 about1 theMethod args0 below0 :=
  ⟨lists_1, trivial, launch0.admits_env _ _ _, launch0.least_env, fairChoices_fair.cas, fairChoices_fair.clock, w_frames, w_args, w_heap, w_applies, trivial, trivial, w_case⟩
end start1
theorem witness_1 : WitnessClaimed_1 := ⟨start1.p0, start1.e0, start1.about1, start1.theMethod, start1.args0, start1.below0, start1.atStart⟩
end Jvm.Pilot.@@N@@
