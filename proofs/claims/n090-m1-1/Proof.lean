import JvmDerived
import JvmDerived.Pilot.@@N@@Statement
import JvmDerived.Pilot.@@N@@Code
set_option linter.unusedVariables false
set_option linter.unusedSimpArgs false
namespace Jvm.RoadKit
open Sem ClassFile Op Lib Jvm.Stand Jvm.Free Jvm.LawKit
section New
variable {p : Program} {l : Launch} {e : Env} {R : Room} {s : State} {m : MethodId} {args : Array Value} {below : List Frame} {meth : Method} {c : Code} {T : State} {locs : List Loc} {cells slots : Nat}
theorem retI (X : Stand p l e R s m args below meth c T locs cells slots) (hx : p.tables.exec = Jvm.exec) {pc : Nat} {Ls : Array Slot} {z : Int32} {rest : List Value} (hret : meth.sig.returnType = some .int) (hd : decode c.code pc = .ok (.ireturn, 1)) {fs : List Frame}
    (hl : ∀ (f : JFrame) (acts : List Action), f.method = m → f.locked = none → f.entered = [] → (doReturn e (T.setTop f) acts (some (.int z))).1 = T.setFrames fs) : Steps p.tables e below (T.setTop (mkF m pc Ls (.int z :: rest))) (T.setFrames fs) := by
  have hm' : T.vm.method? m = some meth := X.method'
  have hn : narrow .int (.int z) = .int z := rfl
  show Steps p.tables e below (T.setTop { method := m, pc := pc, locals := Ls, stack := _ :: rest, locked := none }) _
  jvm_step X.here [X.here.top, hx, hd, hm', hret, hn]
  first | (intro acts; rw [hl _ acts rfl rfl rfl]) | rw [hl _ _ rfl rfl rfl]
  exact Steps.refl _
theorem retL (X : Stand p l e R s m args below meth c T locs cells slots) (hx : p.tables.exec = Jvm.exec) {pc : Nat} {Ls : Array Slot} {z : Int64} {rest : List Value} (hret : meth.sig.returnType = some .long) (hd : decode c.code pc = .ok (.lreturn, 1)) {fs : List Frame}
    (hl : ∀ (f : JFrame) (acts : List Action), f.method = m → f.locked = none → f.entered = [] → (doReturn e (T.setTop f) acts (some (.long z))).1 = T.setFrames fs) : Steps p.tables e below (T.setTop (mkF m pc Ls (.long z :: rest))) (T.setFrames fs) := by
  have hm' : T.vm.method? m = some meth := X.method'
  have hn : narrow .long (.long z) = .long z := rfl
  show Steps p.tables e below (T.setTop { method := m, pc := pc, locals := Ls, stack := _ :: rest, locked := none }) _
  jvm_step X.here [X.here.top, hx, hd, hm', hret, hn]
  first | (intro acts; rw [hl _ acts rfl rfl rfl]) | rw [hl _ _ rfl rfl rfl]
  exact Steps.refl _
end New
end Jvm.RoadKit
namespace Jvm.Pilot.@@N@@
open Jvm Jvm.ClassFile Sem Op Lib Jvm.Free Jvm.Stand Jvm.LawKit Jvm.RoadKit Bundle Jvm.Pilot.@@N@@.Jvm.D

theorem own_tif {tb : Tables} [Ours tb] {e : Env} {below : List Frame} {T target : State} {m : MethodId} {c : Code} {cd : ClassFile.Cond} {pc : Nat} {Ls : Array Slot} {v : Int32} {rest : List Value} (h : At T m c below) (hx : tb.exec = Jvm.exec)
    (d0 : decode c.code pc = .ok (.ifCond cd 7, 3)) (d1 : decode c.code (pc + 3) = .ok (.iconst 1, 1)) (d2 : decode c.code (pc + 4) = .ok (.goto 4, 3)) (d3 : decode c.code (pc + 7) = .ok (.iconst 0, 1))
    (hr : Steps tb e below (T.setTop (mkF m (pc + 8) Ls (.int (if ifCond.holds cd v = true then 0 else 1) :: rest))) target) :
    Steps tb e below (T.setTop (mkF m pc Ls (.int v :: rest))) target := by
  rcases Bool.eq_false_or_eq_true (ifCond.holds cd v) with hc | hc
  · rw [hc, if_pos rfl] at hr
    refine XS.ifYes h hx rfl (pc0 := pc) (pc' := pc + 7) rfl d0 rfl hc (by omega) (by omega) ?_
    refine XS.iconst h hx rfl d3 ?_
    exact hr
  · rw [hc, if_neg (by decide)] at hr
    refine XS.ifNo h hx rfl d0 rfl hc ?_
    refine XS.iconst h hx rfl d1 ?_
    refine XS.goto h hx rfl (pc0 := pc + 4) (pc' := pc + 8) rfl d2 (by omega) (by omega) ?_
    exact hr
theorem own_tic {tb : Tables} [Ours tb] {e : Env} {below : List Frame} {T target : State} {m : MethodId} {c : Code} {cd : ClassFile.Cond} {pc : Nat} {Ls : Array Slot} {v w : Int32} {rest : List Value} (h : At T m c below) (hx : tb.exec = Jvm.exec)
    (d0 : decode c.code pc = .ok (.if_icmp cd 7, 3)) (d1 : decode c.code (pc + 3) = .ok (.iconst 1, 1)) (d2 : decode c.code (pc + 4) = .ok (.goto 4, 3)) (d3 : decode c.code (pc + 7) = .ok (.iconst 0, 1))
    (hr : Steps tb e below (T.setTop (mkF m (pc + 8) Ls (.int (if if_icmp.holds cd v w = true then 0 else 1) :: rest))) target) :
    Steps tb e below (T.setTop (mkF m pc Ls (.int w :: .int v :: rest))) target := by
  rcases Bool.eq_false_or_eq_true (if_icmp.holds cd v w) with hc | hc
  · rw [hc, if_pos rfl] at hr
    refine XS.icmpYes h hx rfl (pc0 := pc) (pc' := pc + 7) rfl d0 rfl hc (by omega) (by omega) ?_
    refine XS.iconst h hx rfl d3 ?_
    exact hr
  · rw [hc, if_neg (by decide)] at hr
    refine XS.icmpNo h hx rfl d0 rfl hc ?_
    refine XS.iconst h hx rfl d1 ?_
    refine XS.goto h hx rfl (pc0 := pc + 4) (pc' := pc + 8) rfl d2 (by omega) (by omega) ?_
    exact hr
theorem own_tic_gt {tb : Tables} [Ours tb] {e : Env} {below : List Frame} {T target : State} {m : MethodId} {c : Code} {pc : Nat} {Ls : Array Slot} {v w : Int32} {rest : List Value} (h : At T m c below) (hx : tb.exec = Jvm.exec)
    (d0 : decode c.code pc = .ok (.if_icmp .gt 7, 3)) (d1 : decode c.code (pc + 3) = .ok (.iconst 1, 1)) (d2 : decode c.code (pc + 4) = .ok (.goto 4, 3)) (d3 : decode c.code (pc + 7) = .ok (.iconst 0, 1))
    (hr : Steps tb e below (T.setTop (mkF m (pc + 8) Ls (.int (if ¬ (w < v) then (1 : Int32) else 0) :: rest))) target) :
    Steps tb e below (T.setTop (mkF m pc Ls (.int w :: .int v :: rest))) target := by
  refine own_tic h hx d0 d1 d2 d3 ?_
  by_cases hb : w < v
  · have hh : if_icmp.holds .gt v w = true := (tlt hb).2.2.1
    rw [if_neg (fun q => q hb)] at hr; rw [hh]; exact hr
  · have hh : if_icmp.holds .gt v w = false := (flt hb).2.2.1
    rw [if_pos hb] at hr; rw [hh]; exact hr

theorem own_narb (P : Prop) [Decidable P] : nar .boolean (if P then (1 : Int32) else 0) = (if P then (1 : Int32) else 0) := by
  by_cases h : P
  · rw [if_pos h]; rfl
  · rw [if_neg h]; rfl
theorem own_osz {Z : State} {n0 : Nat} {h : Heap} (O : Old Z n0 h) : n0 ≤ h.size := O.1 ▸ O.2.1
def own_AR (Z : State) (h : Heap) (b : Addr) : Prop := ∃ cl : Cell, Arr Z h b cl (.object "java/lang/Object") ∧ cl.slots.size = 10 ∧ Ovr Z cl.cls "java/lang/Object"
theorem own_AR.ext {Z : State} {h h' : Heap} {b : Addr} (A : own_AR Z h b) (E : Ext h h') : own_AR Z h' b := by
  obtain ⟨cl, a, r⟩ := A
  exact ⟨cl, a.ext E, r⟩
theorem own_AR.keep {Z : State} {h h' : Heap} {b : Addr} {ws : List Addr} (A : own_AR Z h b) (K : Keep h h' ws) (q : b ∉ ws) : own_AR Z h' b := by
  obtain ⟨cl, a, r⟩ := A
  exact ⟨cl, ⟨K.2.1 b cl a.1 q, a.2⟩, r⟩
theorem own_AR.other {Z : State} {h h' : Heap} {a b : Addr} {sl : Nat} {v : Value} (A : own_AR Z h b) (W : Wr h h' a sl v) (q : b ≠ a) : own_AR Z h' b := by
  obtain ⟨cl, r, r'⟩ := A
  exact ⟨cl, r.other W q, r'⟩
theorem own_AR.same {Z : State} {h h' : Heap} {b : Addr} {sl : Nat} {v : Value} (A : own_AR Z h b) (W : Wr h h' b sl v) : own_AR Z h' b := by
  obtain ⟨cl, r, s, o⟩ := A
  exact ⟨_, r.same W, by rw [sz_set]; exact s, o⟩
def own_L (Z : State) (h : Heap) (n0 : Nat) (o d0 : Addr) (n : Nat) : Prop :=
  Exa Z h o "java/util/ArrayList" ∧ (∃ mc : Int32, Fld Z h o "java/util/AbstractList" "modCount" "I" (.int mc)) ∧ Fld Z h o "java/util/ArrayList" "size" "I" (.int (Int32.ofNat n)) ∧
  ((n = 0 ∧ Fld Z h o "java/util/ArrayList" "elementData" "[Ljava/lang/Object;" (.ref d0)) ∨ (0 < n ∧ ∃ b : Addr, n0 ≤ b ∧ b ≠ o ∧ Fld Z h o "java/util/ArrayList" "elementData" "[Ljava/lang/Object;" (.ref b) ∧ own_AR Z h b))
theorem own_L.keep {Z : State} {h h' : Heap} {n0 n : Nat} {o d0 : Addr} (A : own_L Z h n0 o d0 n) (K : Keep h h' []) : own_L Z h' n0 o d0 n := by
  obtain ⟨e, ⟨mc, f1⟩, f2, r⟩ := A
  refine ⟨e.keep K, ⟨mc, f1.keep K List.not_mem_nil⟩, f2.keep K List.not_mem_nil, ?_⟩
  rcases r with ⟨q, f⟩ | ⟨q, b, g, ne, f, a⟩
  · exact Or.inl ⟨q, f.keep K List.not_mem_nil⟩
  · exact Or.inr ⟨q, b, g, ne, f.keep K List.not_mem_nil, a.keep K List.not_mem_nil⟩
theorem own_L.ext {Z : State} {h h' : Heap} {n0 n : Nat} {o d0 : Addr} (A : own_L Z h n0 o d0 n) (E : Ext h h') : own_L Z h' n0 o d0 n := A.keep ((Keep.refl h []).ext E)
theorem d3_0 : decode jdk_22_method_1_code 0 = .ok (.aload_n 0, 1) := by decide +kernel
theorem d3_1 : decode jdk_22_method_1_code 1 = .ok (.invokespecial 1, 3) := by decide +kernel
theorem d3_4 : decode jdk_22_method_1_code 4 = .ok (.return_, 1) := by decide +kernel
theorem pn_3 : plainName "java/util/AbstractCollection" = true := by first | (simp [plainName, overriddenIn]; done) | decide +kernel
theorem ef_3 (m : MethodId) (x0 : Addr) : entryFrame m #[(.ref x0)] 1 = mkF m 0 #[.val (.ref x0)] [] := by first | (simp [entryFrame, mkF, argsToLocals, Value.category]; done) | rfl
def Q3 (Z : State) (a1 : Addr) (h0 : Heap) (n0 : Nat) (v : Option Value) (h : Heap) (L : List Loc) : Prop := v = none ∧ Fr n0 L ∧ h = h0
set_option maxRecDepth 65536 in
set_option maxHeartbeats 40000000 in
theorem rm3 (l : Launch) (Z : State) (a0 : Array Value) (hw : ∀ d ∈ tables_1, d.before a0 Z = true) (ws : List Jvm.Cond) (a1 : Addr) (h0 : Heap) (n0 : Nat) (Z0 : n0 ≤ h0.size) :
    MetFree l (⟨"java/util/AbstractCollection", "<init>", "()V"⟩ : MethodName) (head1 (Jvm.Cond.code (⟨"java/util/AbstractCollection", "<init>", "()V"⟩ : MethodName) jdk_22_method_1_code 1 none :: ws) ({ frames := 1, cells := 0, slots := 0, locals := 12 } : Room)) (fun a U => a = #[(.ref a1)] ∧ Z.Warmed39 U.vm ∧ U.heap = h0) (fun _ _ _ _ _ => True) (fun _ U o U' => ∃ v L, o = .returned v ∧ Q3 Z a1 h0 n0 v U'.heap L ∧ FrameEnd U o U' L ({ frames := 1, cells := 0, slots := 0, locals := 12 } : Room).cells ({ frames := 1, cells := 0, slots := 0, locals := 12 } : Room).slots) := by
  refine MetFree.of_bodySF (plainFor_of_name pn_3) hisR ?_
  intro p e s m args below meth c s₁ Bd hml0 hP hK
  obtain ⟨rfl, hZ, hh⟩ := hP
  have hx := Bd.exec
  have hby := Bd.bytes
  have hml : c.maxLocals = 1 := hml0
  have hown : s.vm.findClass "java/util/AbstractCollection" = some m.cls := findClass_of_methodNamed Bd.named
  have hnm := (name_of_methodNamed Bd.named Bd.method).1
  have X0 : Stand p l e ({ frames := 1, cells := 0, slots := 0, locals := 12 } : Room) s m #[(.ref a1)] below meth c s₁ [] 0 0 := Stand.of_body Bd
  have e0 : s₁.heap = h0 := by rw [← hh, Bd.state]; rfl
  have N0 := Fr.nil n0
  have pre0 : ∀ t, Steps p.tables e below (s₁.setTop (mkF m 0 #[.val (.ref a1)] [])) t → Steps p.tables e below (s₁.setTop (entryFrame m #[(.ref a1)] 1)) t := fun t k => castTop (ef_3 m a1) k
  obtain ⟨T2, X2, e2, st2⟩ := initO X0 hx hZ hown (hw _ (List.mem_of_getElem? (i := 18) rfl)) (hw _ (List.mem_of_getElem? (i := 19) rfl)) (hw _ (List.mem_of_getElem? (i := 20) rfl)) e0 (g := (mkF m 1 #[.val (.ref a1)] [(.ref a1)])) rfl (by rw [hml]; rfl) rfl (hb hby d3_1) (by decide) (W := 0) (by show 2 * 0 + _ ≤ _; exact Nat.le_of_eq rfl) (by decide)
  obtain ⟨fs, hr, hrun, hended, hW, hsame⟩ := X2.leave (v := none) (fun _ => rfl)
  refine ⟨_, _, pre0 _ ?_, hrun, hended, _, _, rfl, ?_, ⟨_, rfl⟩, hW, hsame.mono (by decide) (by decide)⟩
  · show Steps p.tables e below (s₁.setTop (mkF m 0 #[.val (.ref a1)] [])) _
    refine XS.aloadN X0.here hx rfl (hb hby d3_0) rfl rfl ?_
    show Steps p.tables e below (s₁.setTop (mkF m 1 #[.val (.ref a1)] [(.ref a1)])) _
    refine st2 _ ?_
    show Steps p.tables e below (T2.setTop (mkF m 4 #[.val (.ref a1)] [])) _
    exact X2.returnOut hx Bd.returns (hb hby d3_4) hr
  · show Q3 Z a1 h0 n0 _ T2.heap _
    rw [e2]
    exact ⟨rfl, N0, rfl⟩
theorem d2_0 : decode jdk_39_method_1_code 0 = .ok (.aload_n 0, 1) := by decide +kernel
theorem d2_1 : decode jdk_39_method_1_code 1 = .ok (.invokespecial 1, 3) := by decide +kernel
theorem d2_4 : decode jdk_39_method_1_code 4 = .ok (.aload_n 0, 1) := by decide +kernel
theorem d2_5 : decode jdk_39_method_1_code 5 = .ok (.iconst 0, 1) := by decide +kernel
theorem d2_6 : decode jdk_39_method_1_code 6 = .ok (.putfield 7, 3) := by decide +kernel
theorem d2_9 : decode jdk_39_method_1_code 9 = .ok (.return_, 1) := by decide +kernel
theorem pn_2 : plainName "java/util/AbstractList" = true := by first | (simp [plainName, overriddenIn]; done) | decide +kernel
theorem pd_2_0 : parseMethodDescriptor "()V" = some ⟨[], none⟩ := by decide +kernel
theorem ef_2 (m : MethodId) (x0 : Addr) : entryFrame m #[(.ref x0)] 1 = mkF m 0 #[.val (.ref x0)] [] := by first | (simp [entryFrame, mkF, argsToLocals, Value.category]; done) | rfl
def Q2 (Z : State) (a1 : Addr) (h0 : Heap) (n0 : Nat) (v : Option Value) (h : Heap) (L : List Loc) : Prop := v = none ∧ Fr n0 L ∧ Keep h0 h [a1] ∧ Exa Z h a1 "java/util/ArrayList" ∧ Fld Z h a1 "java/util/AbstractList" "modCount" "I" (.int (0 : Int32)) ∧ Fld Z h a1 "java/util/ArrayList" "size" "I" (.int (0 : Int32)) ∧ Fld Z h a1 "java/util/ArrayList" "elementData" "[Ljava/lang/Object;" .null
set_option maxRecDepth 65536 in
set_option maxHeartbeats 40000000 in
theorem rm2 (l : Launch) (Z : State) (a0 : Array Value) (hw : ∀ d ∈ tables_1, d.before a0 Z = true) (ws : List Jvm.Cond) (a1 : Addr) (h0 : Heap) (n0 : Nat) (Z0 : n0 ≤ h0.size) (E_a1 : Exa Z h0 a1 "java/util/ArrayList") (Fmc : Fld Z h0 a1 "java/util/AbstractList" "modCount" "I" (.int (0 : Int32))) (Fsz : Fld Z h0 a1 "java/util/ArrayList" "size" "I" (.int (0 : Int32))) (Fed : Fld Z h0 a1 "java/util/ArrayList" "elementData" "[Ljava/lang/Object;" .null) (g_a1 : n0 ≤ a1) :
    MetFree l (⟨"java/util/AbstractList", "<init>", "()V"⟩ : MethodName) (head1 (Jvm.Cond.code (⟨"java/util/AbstractList", "<init>", "()V"⟩ : MethodName) jdk_39_method_1_code 1 none :: ws) ({ frames := 2, cells := 0, slots := 0, locals := 24 } : Room)) (fun a U => a = #[(.ref a1)] ∧ Z.Warmed39 U.vm ∧ U.heap = h0) (fun _ _ _ _ _ => True) (fun _ U o U' => ∃ v L, o = .returned v ∧ Q2 Z a1 h0 n0 v U'.heap L ∧ FrameEnd U o U' L ({ frames := 2, cells := 0, slots := 0, locals := 24 } : Room).cells ({ frames := 2, cells := 0, slots := 0, locals := 24 } : Room).slots) := by
  refine MetFree.of_bodySF (plainFor_of_name pn_2) hisR ?_
  intro p e s m args below meth c s₁ Bd hml0 hP hK
  obtain ⟨rfl, hZ, hh⟩ := hP
  have hx := Bd.exec
  have hby := Bd.bytes
  have hml : c.maxLocals = 1 := hml0
  have hown : s.vm.findClass "java/util/AbstractList" = some m.cls := findClass_of_methodNamed Bd.named
  have hnm := (name_of_methodNamed Bd.named Bd.method).1
  have X0 : Stand p l e ({ frames := 2, cells := 0, slots := 0, locals := 24 } : Room) s m #[(.ref a1)] below meth c s₁ [] 0 0 := Stand.of_body Bd
  have e0 : s₁.heap = h0 := by rw [← hh, Bd.state]; rfl
  have N0 := Fr.nil n0
  have pre0 : ∀ t, Steps p.tables e below (s₁.setTop (mkF m 0 #[.val (.ref a1)] [])) t → Steps p.tables e below (s₁.setTop (entryFrame m #[(.ref a1)] 1)) t := fun t k => castTop (ef_2 m a1) k
  obtain ⟨_, _, ⟨T2, L2, k2, n2⟩, -, X2, ⟨Lc2, hQ2, l2, y2, z2⟩, st2⟩ := X0.specialBack hx (y := (⟨"java/util/AbstractCollection", "<init>", "()V"⟩ : MethodName)) rfl hown (mvT hZ (hw _ (List.mem_of_getElem? (i := 12) rfl))) (mvT hZ (hw _ (List.mem_of_getElem? (i := 13) rfl))) (mvT hZ (hw _ (List.mem_of_getElem? (i := 17) rfl))) (by decide) (backOf (W := 0) (rm3 l Z a0 hw [] a1  h0 n0 Z0) hZ (hw _ (List.mem_of_getElem? (i := 17) rfl)) (hw _ (List.mem_of_getElem? (i := 16) rfl)) (by decide) (by decide)) (g := (mkF m 1 #[.val (.ref a1)] [(.ref a1)])) rfl (by rw [hml]; rfl) (Steps.refl _) (a := a1) (argsL := []) (rest := []) (lenOf pd_2_0 rfl) rfl (by show 2 * 0 + _ ≤ _; exact Nat.le_of_eq rfl) (hb hby d2_1) (fun _ _ => ⟨rfl, e0, (by decide : 0 + 0 ≤ _), (by decide : 0 + 0 ≤ _)⟩)
  dsimp only [Pt.U, Pt.locs, Pt.cells, Pt.slots] at X2 l2 y2 z2 st2 hQ2
  subst l2 y2 z2
  obtain ⟨rfl, N2q, e2⟩ := hQ2
  have N2 := Fr.app N0 N2q
  obtain ⟨T3, h3, X3, e3, W3, st3⟩ := putF X2 hx hZ hown (host := "") (Or.inl (hw _ (List.mem_of_getElem? (i := 21) rfl))) Via.refl e2 Fmc E_a1 (Or.inl (hw _ (List.mem_of_getElem? (i := 22) rfl))) (hw _ (List.mem_of_getElem? (i := 1) rfl)) (ty := .int) (by decide) rfl rfl (g := (mkF m 6 #[.val (.ref a1)] [(.int (0 : Int32)), (.ref a1)])) rfl rfl (hb hby d2_6)
  have Fw3 := Fmc.same W3
  have K3 : Keep h0 h3 [a1] := (Keep.refl h0 [a1]).wr W3 (Or.inl (List.mem_of_getElem? (i := 0) rfl))
  have N3 := Fr.snoc X3 N2 g_a1
  obtain ⟨fs, hr, hrun, hended, hW, hsame⟩ := X3.leave (v := none) (fun _ => rfl)
  refine ⟨_, _, pre0 _ ?_, hrun, hended, _, _, rfl, ?_, ⟨_, rfl⟩, hW, hsame.mono (by decide) (by decide)⟩
  · show Steps p.tables e below (s₁.setTop (mkF m 0 #[.val (.ref a1)] [])) _
    refine XS.aloadN X0.here hx rfl (hb hby d2_0) rfl rfl ?_
    show Steps p.tables e below (s₁.setTop (mkF m 1 #[.val (.ref a1)] [(.ref a1)])) _
    refine st2.trans ?_
    show Steps p.tables e below (T2.setTop (mkF m 4 #[.val (.ref a1)] [])) _
    refine XS.aloadN X2.here hx rfl (hb hby d2_4) rfl rfl ?_
    show Steps p.tables e below (T2.setTop (mkF m 5 #[.val (.ref a1)] [(.ref a1)])) _
    refine XS.iconst X2.here hx rfl (hb hby d2_5) ?_
    show Steps p.tables e below (T2.setTop (mkF m 6 #[.val (.ref a1)] [(.int (0 : Int32)), (.ref a1)])) _
    refine st3 _ ?_
    show Steps p.tables e below (T3.setTop (mkF m 9 #[.val (.ref a1)] [])) _
    exact X3.returnOut hx Bd.returns (hb hby d2_9) hr
  · show Q2 Z a1 h0 n0 _ T3.heap _
    rw [e3]
    exact ⟨rfl, N3, K3, (E_a1.wr W3), Fw3, (Fsz.other W3 (Or.inr (slot_ne (Or.inl (hw _ (List.mem_of_getElem? (i := 67) rfl))) (Or.inl (hw _ (List.mem_of_getElem? (i := 22) rfl))) (by decide) (t := .int) (t' := .int) (by decide) (by decide)))), (Fed.other W3 (Or.inr (slot_ne (Or.inl (hw _ (List.mem_of_getElem? (i := 25) rfl))) (Or.inl (hw _ (List.mem_of_getElem? (i := 22) rfl))) (by decide) (t := (.array (.object "java/lang/Object"))) (t' := .int) (by decide) (by decide))))⟩
theorem d1_0 : decode jdk_38_method_2_code 0 = .ok (.aload_n 0, 1) := by decide +kernel
theorem d1_1 : decode jdk_38_method_2_code 1 = .ok (.invokespecial 1, 3) := by decide +kernel
theorem d1_4 : decode jdk_38_method_2_code 4 = .ok (.aload_n 0, 1) := by decide +kernel
theorem d1_5 : decode jdk_38_method_2_code 5 = .ok (.getstatic 39, 3) := by decide +kernel
theorem d1_8 : decode jdk_38_method_2_code 8 = .ok (.putfield 9, 3) := by decide +kernel
theorem d1_11 : decode jdk_38_method_2_code 11 = .ok (.return_, 1) := by decide +kernel
theorem pn_1 : plainName "java/util/ArrayList" = true := by first | (simp [plainName, overriddenIn]; done) | decide +kernel
theorem pd_1_0 : parseMethodDescriptor "()V" = some ⟨[], none⟩ := by decide +kernel
theorem ef_1 (m : MethodId) (x0 : Addr) : entryFrame m #[(.ref x0)] 1 = mkF m 0 #[.val (.ref x0)] [] := by first | (simp [entryFrame, mkF, argsToLocals, Value.category]; done) | rfl
def Q1 (Z : State) (a1 : Addr) (d0 : Addr) (h0 : Heap) (n0 : Nat) (v : Option Value) (h : Heap) (L : List Loc) : Prop := v = none ∧ Fr n0 L ∧ Old Z n0 h ∧ own_L Z h n0 a1 d0 0
set_option maxRecDepth 65536 in
set_option maxHeartbeats 40000000 in
theorem rm1 (l : Launch) (Z : State) (a0 : Array Value) (hw : ∀ d ∈ tables_1, d.before a0 Z = true) (ws : List Jvm.Cond) (a1 : Addr) (d0 : Addr) (h0 : Heap) (n0 : Nat) (Z0 : n0 ≤ h0.size) (O0 : Old Z n0 h0) (SD : Sta Z Z.heap "java/util/ArrayList" "DEFAULTCAPACITY_EMPTY_ELEMENTDATA" "[Ljava/lang/Object;" (.ref d0)) (E_a1 : Exa Z h0 a1 "java/util/ArrayList") (Fmc : Fld Z h0 a1 "java/util/AbstractList" "modCount" "I" (.int (0 : Int32))) (Fsz : Fld Z h0 a1 "java/util/ArrayList" "size" "I" (.int (0 : Int32))) (Fed : Fld Z h0 a1 "java/util/ArrayList" "elementData" "[Ljava/lang/Object;" .null) (g_a1 : n0 ≤ a1) :
    MetFree l (⟨"java/util/ArrayList", "<init>", "()V"⟩ : MethodName) (head1 (Jvm.Cond.code (⟨"java/util/ArrayList", "<init>", "()V"⟩ : MethodName) jdk_38_method_2_code 1 none :: ws) ({ frames := 3, cells := 0, slots := 0, locals := 36 } : Room)) (fun a U => a = #[(.ref a1)] ∧ Z.Warmed39 U.vm ∧ U.heap = h0) (fun _ _ _ _ _ => True) (fun _ U o U' => ∃ v L, o = .returned v ∧ Q1 Z a1 d0 h0 n0 v U'.heap L ∧ FrameEnd U o U' L ({ frames := 3, cells := 0, slots := 0, locals := 36 } : Room).cells ({ frames := 3, cells := 0, slots := 0, locals := 36 } : Room).slots) := by
  refine MetFree.of_bodySF (plainFor_of_name pn_1) hisR ?_
  intro p e s m args below meth c s₁ Bd hml0 hP hK
  obtain ⟨rfl, hZ, hh⟩ := hP
  have hx := Bd.exec
  have hby := Bd.bytes
  have hml : c.maxLocals = 1 := hml0
  have hown : s.vm.findClass "java/util/ArrayList" = some m.cls := findClass_of_methodNamed Bd.named
  have hnm := (name_of_methodNamed Bd.named Bd.method).1
  have X0 : Stand p l e ({ frames := 3, cells := 0, slots := 0, locals := 36 } : Room) s m #[(.ref a1)] below meth c s₁ [] 0 0 := Stand.of_body Bd
  have e0 : s₁.heap = h0 := by rw [← hh, Bd.state]; rfl
  have N0 := Fr.nil n0
  have pre0 : ∀ t, Steps p.tables e below (s₁.setTop (mkF m 0 #[.val (.ref a1)] [])) t → Steps p.tables e below (s₁.setTop (entryFrame m #[(.ref a1)] 1)) t := fun t k => castTop (ef_1 m a1) k
  obtain ⟨_, _, ⟨T2, L2, k2, n2⟩, -, X2, ⟨Lc2, hQ2, l2, y2, z2⟩, st2⟩ := X0.specialBack hx (y := (⟨"java/util/AbstractList", "<init>", "()V"⟩ : MethodName)) rfl hown (mvT hZ (hw _ (List.mem_of_getElem? (i := 6) rfl))) (mvT hZ (hw _ (List.mem_of_getElem? (i := 7) rfl))) (mvT hZ (hw _ (List.mem_of_getElem? (i := 11) rfl))) (by decide) (backOf (W := 0) (rm2 l Z a0 hw [] a1  h0 n0 Z0 E_a1 Fmc Fsz Fed g_a1) hZ (hw _ (List.mem_of_getElem? (i := 11) rfl)) (hw _ (List.mem_of_getElem? (i := 10) rfl)) (by decide) (by decide)) (g := (mkF m 1 #[.val (.ref a1)] [(.ref a1)])) rfl (by rw [hml]; rfl) (Steps.refl _) (a := a1) (argsL := []) (rest := []) (lenOf pd_1_0 rfl) rfl (by show 2 * 0 + _ ≤ _; exact Nat.le_of_eq rfl) (hb hby d1_1) (fun _ _ => ⟨rfl, e0, (by decide : 0 + 0 ≤ _), (by decide : 0 + 0 ≤ _)⟩)
  dsimp only [Pt.U, Pt.locs, Pt.cells, Pt.slots] at X2 l2 y2 z2 st2 hQ2
  subst l2 y2 z2
  obtain ⟨rfl, N2q, Kq2, E_a12, Fmc2, Fsz2, Fed2⟩ := hQ2
  have N2 := Fr.app N0 N2q
  obtain ⟨T3, X3, e3, st3⟩ := getS2 X2 hx hZ hown (host := "") (Or.inl (hw _ (List.mem_of_getElem? (i := 23) rfl))) Via.refl rfl (SD.ext (O0.keep Kq2 (fun x_ q_ => (List.mem_singleton.mp q_).symm ▸ g_a1)).2) (g := (mkF m 5 #[.val (.ref a1)] [(.ref a1)])) rfl (hb hby d1_5)
  obtain ⟨T4, h4, X4, e4, W4, st4⟩ := putF X3 hx hZ hown (host := "") (Or.inl (hw _ (List.mem_of_getElem? (i := 24) rfl))) Via.refl e3 Fed2 E_a12 (Or.inl (hw _ (List.mem_of_getElem? (i := 25) rfl))) (hw _ (List.mem_of_getElem? (i := 1) rfl)) (ty := (.array (.object "java/lang/Object"))) (by decide) rfl rfl (g := (mkF m 8 #[.val (.ref a1)] [(.ref d0), (.ref a1)])) rfl rfl (hb hby d1_8)
  have Fw4 := Fed2.same W4
  have N4 := Fr.snoc X4 N2 g_a1
  obtain ⟨fs, hr, hrun, hended, hW, hsame⟩ := X4.leave (v := none) (fun _ => rfl)
  refine ⟨_, _, pre0 _ ?_, hrun, hended, _, _, rfl, ?_, ⟨_, rfl⟩, hW, hsame.mono (by decide) (by decide)⟩
  · show Steps p.tables e below (s₁.setTop (mkF m 0 #[.val (.ref a1)] [])) _
    refine XS.aloadN X0.here hx rfl (hb hby d1_0) rfl rfl ?_
    show Steps p.tables e below (s₁.setTop (mkF m 1 #[.val (.ref a1)] [(.ref a1)])) _
    refine st2.trans ?_
    show Steps p.tables e below (T2.setTop (mkF m 4 #[.val (.ref a1)] [])) _
    refine XS.aloadN X2.here hx rfl (hb hby d1_4) rfl rfl ?_
    show Steps p.tables e below (T2.setTop (mkF m 5 #[.val (.ref a1)] [(.ref a1)])) _
    refine st3 _ ?_
    show Steps p.tables e below (T3.setTop (mkF m 8 #[.val (.ref a1)] [(.ref d0), (.ref a1)])) _
    refine st4 _ ?_
    show Steps p.tables e below (T4.setTop (mkF m 11 #[.val (.ref a1)] [])) _
    exact X4.returnOut hx Bd.returns (hb hby d1_11) hr
  · show Q1 Z a1 d0 h0 n0 _ T4.heap _
    rw [e4]
    exact ⟨rfl, N4, ((O0.keep Kq2 (fun x_ q_ => (List.mem_singleton.mp q_).symm ▸ g_a1)).wr W4 g_a1), (E_a12.wr W4), ⟨_, (Fmc2.other W4 (Or.inr (slot_ne (Or.inl (hw _ (List.mem_of_getElem? (i := 22) rfl))) (Or.inl (hw _ (List.mem_of_getElem? (i := 25) rfl))) (by decide) (t := .int) (t' := (.array (.object "java/lang/Object"))) (by decide) (by decide))))⟩, (Fsz2.other W4 (Or.inr (slot_ne (Or.inl (hw _ (List.mem_of_getElem? (i := 67) rfl))) (Or.inl (hw _ (List.mem_of_getElem? (i := 25) rfl))) (by decide) (t := .int) (t' := (.array (.object "java/lang/Object"))) (by decide) (by decide)))), Or.inl ⟨rfl, Fw4⟩⟩
def own_max (a b : Int32) : Int32 := if a < b then b else a
theorem d14_0 : decode jdk_29_method_65_code 0 = .ok (.iload_n 0, 1) := by decide +kernel
theorem d14_1 : decode jdk_29_method_65_code 1 = .ok (.iload_n 1, 1) := by decide +kernel
theorem d14_2 : decode jdk_29_method_65_code 2 = .ok (.if_icmp .lt 7, 3) := by decide +kernel
theorem d14_9 : decode jdk_29_method_65_code 9 = .ok (.iload_n 1, 1) := by decide +kernel
theorem d14_10 : decode jdk_29_method_65_code 10 = .ok (.ireturn, 1) := by decide +kernel
theorem ef_14 (m : MethodId) (x0 : Int32) (x1 : Int32) : entryFrame m #[(.int x0), (.int x1)] 2 = mkF m 0 #[.val (.int x0), .val (.int x1)] [] := by first | (simp [entryFrame, mkF, argsToLocals, Value.category]; done) | rfl
def Q14 (Z : State) (p1 : Int32) (p2 : Int32) (h0 : Heap) (n0 : Nat) (v : Option Value) (h : Heap) (L : List Loc) : Prop := v = some (.int (own_max p1 p2)) ∧ Fr n0 L ∧ h = h0
set_option maxRecDepth 65536 in
set_option maxHeartbeats 40000000 in
theorem rm14a (l : Launch) (Z : State) (a0 : Array Value) (hw : ∀ d ∈ tables_1, d.before a0 Z = true) (ws : List Jvm.Cond) (p1 : Int32) (p2 : Int32) (h0 : Heap) (n0 : Nat) (Z0 : n0 ≤ h0.size) (hc2 : p1 < p2) :
    MetFree l (⟨"java/lang/Math", "max", "(II)I"⟩ : MethodName) (head1 (Jvm.Cond.code (⟨"java/lang/Math", "max", "(II)I"⟩ : MethodName) jdk_29_method_65_code 2 (some .int) :: ws) ({ frames := 0, cells := 0, slots := 0, locals := 0 } : Room)) (fun a U => a = #[(.int p1), (.int p2)] ∧ Z.Warmed39 U.vm ∧ U.heap = h0) (fun _ _ _ _ _ => True) (fun _ U o U' => ∃ v L, o = .returned v ∧ Q14 Z p1 p2 h0 n0 v U'.heap L ∧ FrameEnd U o U' L ({ frames := 0, cells := 0, slots := 0, locals := 0 } : Room).cells ({ frames := 0, cells := 0, slots := 0, locals := 0 } : Room).slots) := by
  refine MetFree.of_bodySF (Jvm.Free.JP.mathPlain rfl (by decide +kernel)) hisR ?_
  intro p e s m args below meth c s₁ Bd hml0 hP hK
  obtain ⟨rfl, hZ, hh⟩ := hP
  have hx := Bd.exec
  have hby := Bd.bytes
  have hml : c.maxLocals = 2 := hml0
  have hown : s.vm.findClass "java/lang/Math" = some m.cls := findClass_of_methodNamed Bd.named
  have hnm := (name_of_methodNamed Bd.named Bd.method).1
  have X0 : Stand p l e ({ frames := 0, cells := 0, slots := 0, locals := 0 } : Room) s m #[(.int p1), (.int p2)] below meth c s₁ [] 0 0 := Stand.of_body Bd
  have e0 : s₁.heap = h0 := by rw [← hh, Bd.state]; rfl
  have N0 := Fr.nil n0
  have pre0 : ∀ t, Steps p.tables e below (s₁.setTop (mkF m 0 #[.val (.int p1), .val (.int p2)] [])) t → Steps p.tables e below (s₁.setTop (entryFrame m #[(.int p1), (.int p2)] 2)) t := fun t k => castTop (ef_14 m p1 p2) k

  obtain ⟨fs, hr, hrun, hended, hW, hsame⟩ := X0.leave (v := some (.int p2)) (fun h => by rw [Bd.returns] at h; cases h)
  refine ⟨_, _, pre0 _ ?_, hrun, hended, _, _, rfl, ?_, ⟨_, rfl⟩, hW, hsame.mono (by decide) (by decide)⟩
  · show Steps p.tables e below (s₁.setTop (mkF m 0 #[.val (.int p1), .val (.int p2)] [])) _
    refine XS.iloadN X0.here hx rfl (hb hby d14_0) rfl ?_
    show Steps p.tables e below (s₁.setTop (mkF m 1 #[.val (.int p1), .val (.int p2)] [(.int p1)])) _
    refine XS.iloadN X0.here hx rfl (hb hby d14_1) rfl ?_
    show Steps p.tables e below (s₁.setTop (mkF m 2 #[.val (.int p1), .val (.int p2)] [(.int p2), (.int p1)])) _
    refine XS.icmpYes X0.here hx rfl (pc0 := 2) (pc' := 9) rfl (hb hby d14_2) rfl (tlt hc2).1 (by decide) (by decide) ?_
    show Steps p.tables e below (s₁.setTop (mkF m 9 #[.val (.int p1), .val (.int p2)] [])) _
    refine XS.iloadN X0.here hx rfl (hb hby d14_9) rfl ?_
    show Steps p.tables e below (s₁.setTop (mkF m 10 #[.val (.int p1), .val (.int p2)] [(.int p2)])) _
    exact retI X0 hx Bd.returns (hb hby d14_10) hr
  · show Q14 Z p1 p2 h0 n0 _ s₁.heap _
    rw [e0]
    exact ⟨by rw [own_max, if_pos hc2], N0, rfl⟩
theorem d14_5 : decode jdk_29_method_65_code 5 = .ok (.iload_n 0, 1) := by decide +kernel
theorem d14_6 : decode jdk_29_method_65_code 6 = .ok (.goto 4, 3) := by decide +kernel

set_option maxRecDepth 65536 in
set_option maxHeartbeats 40000000 in
theorem rm14b (l : Launch) (Z : State) (a0 : Array Value) (hw : ∀ d ∈ tables_1, d.before a0 Z = true) (ws : List Jvm.Cond) (p1 : Int32) (p2 : Int32) (h0 : Heap) (n0 : Nat) (Z0 : n0 ≤ h0.size) (hc2 : ¬ (p1 < p2)) :
    MetFree l (⟨"java/lang/Math", "max", "(II)I"⟩ : MethodName) (head1 (Jvm.Cond.code (⟨"java/lang/Math", "max", "(II)I"⟩ : MethodName) jdk_29_method_65_code 2 (some .int) :: ws) ({ frames := 0, cells := 0, slots := 0, locals := 0 } : Room)) (fun a U => a = #[(.int p1), (.int p2)] ∧ Z.Warmed39 U.vm ∧ U.heap = h0) (fun _ _ _ _ _ => True) (fun _ U o U' => ∃ v L, o = .returned v ∧ Q14 Z p1 p2 h0 n0 v U'.heap L ∧ FrameEnd U o U' L ({ frames := 0, cells := 0, slots := 0, locals := 0 } : Room).cells ({ frames := 0, cells := 0, slots := 0, locals := 0 } : Room).slots) := by
  refine MetFree.of_bodySF (Jvm.Free.JP.mathPlain rfl (by decide +kernel)) hisR ?_
  intro p e s m args below meth c s₁ Bd hml0 hP hK
  obtain ⟨rfl, hZ, hh⟩ := hP
  have hx := Bd.exec
  have hby := Bd.bytes
  have hml : c.maxLocals = 2 := hml0
  have hown : s.vm.findClass "java/lang/Math" = some m.cls := findClass_of_methodNamed Bd.named
  have hnm := (name_of_methodNamed Bd.named Bd.method).1
  have X0 : Stand p l e ({ frames := 0, cells := 0, slots := 0, locals := 0 } : Room) s m #[(.int p1), (.int p2)] below meth c s₁ [] 0 0 := Stand.of_body Bd
  have e0 : s₁.heap = h0 := by rw [← hh, Bd.state]; rfl
  have N0 := Fr.nil n0
  have pre0 : ∀ t, Steps p.tables e below (s₁.setTop (mkF m 0 #[.val (.int p1), .val (.int p2)] [])) t → Steps p.tables e below (s₁.setTop (entryFrame m #[(.int p1), (.int p2)] 2)) t := fun t k => castTop (ef_14 m p1 p2) k

  obtain ⟨fs, hr, hrun, hended, hW, hsame⟩ := X0.leave (v := some (.int p1)) (fun h => by rw [Bd.returns] at h; cases h)
  refine ⟨_, _, pre0 _ ?_, hrun, hended, _, _, rfl, ?_, ⟨_, rfl⟩, hW, hsame.mono (by decide) (by decide)⟩
  · show Steps p.tables e below (s₁.setTop (mkF m 0 #[.val (.int p1), .val (.int p2)] [])) _
    refine XS.iloadN X0.here hx rfl (hb hby d14_0) rfl ?_
    show Steps p.tables e below (s₁.setTop (mkF m 1 #[.val (.int p1), .val (.int p2)] [(.int p1)])) _
    refine XS.iloadN X0.here hx rfl (hb hby d14_1) rfl ?_
    show Steps p.tables e below (s₁.setTop (mkF m 2 #[.val (.int p1), .val (.int p2)] [(.int p2), (.int p1)])) _
    refine XS.icmpNo X0.here hx rfl (hb hby d14_2) rfl (flt hc2).1 ?_
    show Steps p.tables e below (s₁.setTop (mkF m 5 #[.val (.int p1), .val (.int p2)] [])) _
    refine XS.iloadN X0.here hx rfl (hb hby d14_5) rfl ?_
    show Steps p.tables e below (s₁.setTop (mkF m 6 #[.val (.int p1), .val (.int p2)] [(.int p1)])) _
    refine XS.goto X0.here hx rfl (pc0 := 6) (pc' := 10) rfl (hb hby d14_6) (by decide) (by decide) ?_
    show Steps p.tables e below (s₁.setTop (mkF m 10 #[.val (.int p1), .val (.int p2)] [(.int p1)])) _
    exact retI X0 hx Bd.returns (hb hby d14_10) hr
  · show Q14 Z p1 p2 h0 n0 _ s₁.heap _
    rw [e0]
    exact ⟨by rw [own_max, if_neg hc2], N0, rfl⟩
set_option maxRecDepth 65536 in
set_option maxHeartbeats 40000000 in
theorem rm14 (l : Launch) (Z : State) (a0 : Array Value) (hw : ∀ d ∈ tables_1, d.before a0 Z = true) (ws : List Jvm.Cond) (p1 : Int32) (p2 : Int32) (h0 : Heap) (n0 : Nat) (Z0 : n0 ≤ h0.size) :
    MetFree l (⟨"java/lang/Math", "max", "(II)I"⟩ : MethodName) (head1 (Jvm.Cond.code (⟨"java/lang/Math", "max", "(II)I"⟩ : MethodName) jdk_29_method_65_code 2 (some .int) :: ws) ({ frames := 0, cells := 0, slots := 0, locals := 0 } : Room)) (fun a U => a = #[(.int p1), (.int p2)] ∧ Z.Warmed39 U.vm ∧ U.heap = h0) (fun _ _ _ _ _ => True) (fun _ U o U' => ∃ v L, o = .returned v ∧ Q14 Z p1 p2 h0 n0 v U'.heap L ∧ FrameEnd U o U' L ({ frames := 0, cells := 0, slots := 0, locals := 0 } : Room).cells ({ frames := 0, cells := 0, slots := 0, locals := 0 } : Room).slots) := by
  by_cases hc2 : p1 < p2
  · exact rm14a l Z a0 hw ws p1 p2 h0 n0 Z0 hc2
  · exact rm14b l Z a0 hw ws p1 p2 h0 n0 Z0 hc2
def Q14c (Z : State) (p1 : Int32) (p2 : Int32) (h0 : Heap) (n0 : Nat) (v : Option Value) (h : Heap) (L : List Loc) : Prop := v = some (.int p1) ∧ Fr n0 L ∧ h = h0
set_option maxRecDepth 65536 in
set_option maxHeartbeats 40000000 in
theorem rm14c (l : Launch) (Z : State) (a0 : Array Value) (hw : ∀ d ∈ tables_1, d.before a0 Z = true) (ws : List Jvm.Cond) (p1 : Int32) (p2 : Int32) (h0 : Heap) (n0 : Nat) (Z0 : n0 ≤ h0.size) (hc2 : ¬ (p1 < p2)) :
    MetFree l (⟨"java/lang/Math", "max", "(II)I"⟩ : MethodName) (head1 (Jvm.Cond.code (⟨"java/lang/Math", "max", "(II)I"⟩ : MethodName) jdk_29_method_65_code 2 (some .int) :: ws) ({ frames := 0, cells := 0, slots := 0, locals := 0 } : Room)) (fun a U => a = #[(.int p1), (.int p2)] ∧ Z.Warmed39 U.vm ∧ U.heap = h0) (fun _ _ _ _ _ => True) (fun _ U o U' => ∃ v L, o = .returned v ∧ Q14c Z p1 p2 h0 n0 v U'.heap L ∧ FrameEnd U o U' L ({ frames := 0, cells := 0, slots := 0, locals := 0 } : Room).cells ({ frames := 0, cells := 0, slots := 0, locals := 0 } : Room).slots) := by
  refine MetFree.of_bodySF (Jvm.Free.JP.mathPlain rfl (by decide +kernel)) hisR ?_
  intro p e s m args below meth c s₁ Bd hml0 hP hK
  obtain ⟨rfl, hZ, hh⟩ := hP
  have hx := Bd.exec
  have hby := Bd.bytes
  have hml : c.maxLocals = 2 := hml0
  have hown : s.vm.findClass "java/lang/Math" = some m.cls := findClass_of_methodNamed Bd.named
  have hnm := (name_of_methodNamed Bd.named Bd.method).1
  have X0 : Stand p l e ({ frames := 0, cells := 0, slots := 0, locals := 0 } : Room) s m #[(.int p1), (.int p2)] below meth c s₁ [] 0 0 := Stand.of_body Bd
  have e0 : s₁.heap = h0 := by rw [← hh, Bd.state]; rfl
  have N0 := Fr.nil n0
  have pre0 : ∀ t, Steps p.tables e below (s₁.setTop (mkF m 0 #[.val (.int p1), .val (.int p2)] [])) t → Steps p.tables e below (s₁.setTop (entryFrame m #[(.int p1), (.int p2)] 2)) t := fun t k => castTop (ef_14 m p1 p2) k

  obtain ⟨fs, hr, hrun, hended, hW, hsame⟩ := X0.leave (v := some (.int p1)) (fun h => by rw [Bd.returns] at h; cases h)
  refine ⟨_, _, pre0 _ ?_, hrun, hended, _, _, rfl, ?_, ⟨_, rfl⟩, hW, hsame.mono (by decide) (by decide)⟩
  · show Steps p.tables e below (s₁.setTop (mkF m 0 #[.val (.int p1), .val (.int p2)] [])) _
    refine XS.iloadN X0.here hx rfl (hb hby d14_0) rfl ?_
    show Steps p.tables e below (s₁.setTop (mkF m 1 #[.val (.int p1), .val (.int p2)] [(.int p1)])) _
    refine XS.iloadN X0.here hx rfl (hb hby d14_1) rfl ?_
    show Steps p.tables e below (s₁.setTop (mkF m 2 #[.val (.int p1), .val (.int p2)] [(.int p2), (.int p1)])) _
    refine XS.icmpNo X0.here hx rfl (hb hby d14_2) rfl (flt hc2).1 ?_
    show Steps p.tables e below (s₁.setTop (mkF m 5 #[.val (.int p1), .val (.int p2)] [])) _
    refine XS.iloadN X0.here hx rfl (hb hby d14_5) rfl ?_
    show Steps p.tables e below (s₁.setTop (mkF m 6 #[.val (.int p1), .val (.int p2)] [(.int p1)])) _
    refine XS.goto X0.here hx rfl (pc0 := 6) (pc' := 10) rfl (hb hby d14_6) (by decide) (by decide) ?_
    show Steps p.tables e below (s₁.setTop (mkF m 10 #[.val (.int p1), .val (.int p2)] [(.int p1)])) _
    exact retI X0 hx Bd.returns (hb hby d14_10) hr
  · show Q14c Z p1 p2 h0 n0 _ s₁.heap _
    rw [e0]
    exact ⟨rfl, N0, rfl⟩
theorem d13_0 : decode jdk_38_method_6_code 0 = .ok (.aload_n 0, 1) := by decide +kernel
theorem d13_1 : decode jdk_38_method_6_code 1 = .ok (.getfield 9, 3) := by decide +kernel
theorem d13_4 : decode jdk_38_method_6_code 4 = .ok (.arraylength, 1) := by decide +kernel
theorem d13_5 : decode jdk_38_method_6_code 5 = .ok (.istore_n 2, 1) := by decide +kernel
theorem d13_6 : decode jdk_38_method_6_code 6 = .ok (.iload_n 2, 1) := by decide +kernel
theorem d13_7 : decode jdk_38_method_6_code 7 = .ok (.ifCond .gt 13, 3) := by decide +kernel
theorem d13_10 : decode jdk_38_method_6_code 10 = .ok (.aload_n 0, 1) := by decide +kernel
theorem d13_11 : decode jdk_38_method_6_code 11 = .ok (.getfield 9, 3) := by decide +kernel
theorem d13_14 : decode jdk_38_method_6_code 14 = .ok (.getstatic 39, 3) := by decide +kernel
theorem d13_17 : decode jdk_38_method_6_code 17 = .ok (.if_acmp .eq 28, 3) := by decide +kernel
theorem d13_45 : decode jdk_38_method_6_code 45 = .ok (.aload_n 0, 1) := by decide +kernel
theorem d13_46 : decode jdk_38_method_6_code 46 = .ok (.bipush 10, 2) := by decide +kernel
theorem d13_48 : decode jdk_38_method_6_code 48 = .ok (.iload_n 1, 1) := by decide +kernel
theorem d13_49 : decode jdk_38_method_6_code 49 = .ok (.invokestatic 79, 3) := by decide +kernel
theorem d13_52 : decode jdk_38_method_6_code 52 = .ok (.anewarray 7, 3) := by decide +kernel
theorem d13_55 : decode jdk_38_method_6_code 55 = .ok (.dup_x1, 1) := by decide +kernel
theorem d13_56 : decode jdk_38_method_6_code 56 = .ok (.putfield 9, 3) := by decide +kernel
theorem d13_59 : decode jdk_38_method_6_code 59 = .ok (.areturn, 1) := by decide +kernel
theorem pn_13 : plainName "java/util/ArrayList" = true := by first | (simp [plainName, overriddenIn]; done) | decide +kernel
theorem pd_13_10 : parseMethodDescriptor "(II)I" = some ⟨[.int, .int], some .int⟩ := by decide +kernel
theorem ef_13 (m : MethodId) (x0 : Addr) (x1 : Int32) : entryFrame m #[(.ref x0), (.int x1)] 4 = mkF m 0 #[.val (.ref x0), .val (.int x1), .unset, .unset] [] := by first | (simp [entryFrame, mkF, argsToLocals, Value.category]; done) | rfl
def Q13 (Z : State) (a1 : Addr) (p2 : Int32) (d0 : Addr) (mc : Int32) (sz : Int32) (cl_d0 : Cell) (h0 : Heap) (n0 : Nat) (v : Option Value) (h : Heap) (L : List Loc) : Prop := ∃ b : Addr, v = some (.ref b) ∧ Fr n0 L ∧ Keep h0 h [a1] ∧ Exa Z h a1 "java/util/ArrayList" ∧ Fld Z h a1 "java/util/AbstractList" "modCount" "I" (.int mc) ∧ Fld Z h a1 "java/util/ArrayList" "size" "I" (.int sz) ∧ Fld Z h a1 "java/util/ArrayList" "elementData" "[Ljava/lang/Object;" (.ref b) ∧ n0 ≤ b ∧ b ≠ a1 ∧ own_AR Z h b
set_option maxRecDepth 65536 in
set_option maxHeartbeats 40000000 in
theorem rm13 (l : Launch) (Z : State) (a0 : Array Value) (hw : ∀ d ∈ tables_1, d.before a0 Z = true) (ws : List Jvm.Cond) (a1 : Addr) (p2 : Int32) (d0 : Addr) (mc : Int32) (sz : Int32) (cl_d0 : Cell) (h0 : Heap) (n0 : Nat) (Z0 : n0 ≤ h0.size) (S_d0 : cl_d0.slots.size = (0 : Int32).toNatClampNeg) (O0 : Old Z n0 h0) (SD : Sta Z Z.heap "java/util/ArrayList" "DEFAULTCAPACITY_EMPTY_ELEMENTDATA" "[Ljava/lang/Object;" (.ref d0)) (E_a1 : Exa Z h0 a1 "java/util/ArrayList") (Fmc : Fld Z h0 a1 "java/util/AbstractList" "modCount" "I" (.int mc)) (Fsz : Fld Z h0 a1 "java/util/ArrayList" "size" "I" (.int sz)) (Fed : Fld Z h0 a1 "java/util/ArrayList" "elementData" "[Ljava/lang/Object;" (.ref d0)) (g_a1 : n0 ≤ a1) (hmx : ¬ ((10 : Int32) < p2)) (Ar_d0 : Arr Z h0 d0 cl_d0 (.object "java/lang/Object")) :
    MetFree l (⟨"java/util/ArrayList", "grow", "(I)[Ljava/lang/Object;"⟩ : MethodName) (head1 (Jvm.Cond.code (⟨"java/util/ArrayList", "grow", "(I)[Ljava/lang/Object;"⟩ : MethodName) jdk_38_method_6_code 4 (some (.array (.object "java/lang/Object"))) :: ws) ({ frames := 1, cells := 1, slots := 10, locals := 14 } : Room)) (fun a U => a = #[(.ref a1), (.int p2)] ∧ Z.Warmed39 U.vm ∧ U.heap = h0) (fun _ _ _ _ _ => True) (fun _ U o U' => ∃ v L, o = .returned v ∧ Q13 Z a1 p2 d0 mc sz cl_d0 h0 n0 v U'.heap L ∧ FrameEnd U o U' L ({ frames := 1, cells := 1, slots := 10, locals := 14 } : Room).cells ({ frames := 1, cells := 1, slots := 10, locals := 14 } : Room).slots) := by
  refine MetFree.of_bodySF (plainFor_of_name pn_13) hisR ?_
  intro p e s m args below meth c s₁ Bd hml0 hP hK
  obtain ⟨rfl, hZ, hh⟩ := hP
  have hx := Bd.exec
  have hby := Bd.bytes
  have hml : c.maxLocals = 4 := hml0
  have hown : s.vm.findClass "java/util/ArrayList" = some m.cls := findClass_of_methodNamed Bd.named
  have hnm := (name_of_methodNamed Bd.named Bd.method).1
  have X0 : Stand p l e ({ frames := 1, cells := 1, slots := 10, locals := 14 } : Room) s m #[(.ref a1), (.int p2)] below meth c s₁ [] 0 0 := Stand.of_body Bd
  have e0 : s₁.heap = h0 := by rw [← hh, Bd.state]; rfl
  have N0 := Fr.nil n0
  have pre0 : ∀ t, Steps p.tables e below (s₁.setTop (mkF m 0 #[.val (.ref a1), .val (.int p2), .unset, .unset] [])) t → Steps p.tables e below (s₁.setTop (entryFrame m #[(.ref a1), (.int p2)] 4)) t := fun t k => castTop (ef_13 m a1 p2) k
  have N_d0 : ¬ (0 : Int32) < 0 := by decide
  have hc7 : ¬ ((0 : Int32) < (0 : Int32)) := by decide
  obtain ⟨T3, X3, e3, st3⟩ := getF X0 hx hZ hown (host := "") (Or.inl (hw _ (List.mem_of_getElem? (i := 24) rfl))) Via.refl e0 Fed (g := (mkF m 1 #[.val (.ref a1), .val (.int p2), .unset, .unset] [(.ref a1)])) rfl rfl (hb hby d13_1)
  obtain ⟨T4, X4, e4, st4⟩ := getF X3 hx hZ hown (host := "") (Or.inl (hw _ (List.mem_of_getElem? (i := 24) rfl))) Via.refl e3 Fed (g := (mkF m 11 #[.val (.ref a1), .val (.int p2), .val (.int (0 : Int32)), .unset] [(.ref a1)])) rfl rfl (hb hby d13_11)
  obtain ⟨T5, X5, e5, st5⟩ := getS2 X4 hx hZ hown (host := "") (Or.inl (hw _ (List.mem_of_getElem? (i := 23) rfl))) Via.refl e4 (SD.ext O0.2) (g := (mkF m 14 #[.val (.ref a1), .val (.int p2), .val (.int (0 : Int32)), .unset] [(.ref d0)])) rfl (hb hby d13_14)
  obtain ⟨_, _, ⟨T6, L6, k6, n6⟩, -, X6, ⟨Lc6, hQ6, l6, y6, z6⟩, st6⟩ := Jvm.LawKit.callS X5 hx (y := (⟨"java/lang/Math", "max", "(II)I"⟩ : MethodName)) hown (mvT hZ (hw _ (List.mem_of_getElem? (i := 83) rfl))) (mvT hZ (hw _ (List.mem_of_getElem? (i := 84) rfl))) (mvT hZ (hw _ (List.mem_of_getElem? (i := 85) rfl))) (mvT hZ (hw _ (List.mem_of_getElem? (i := 86) rfl))) (by decide) (backOf (W := 1) (rm14c l Z a0 hw [] (10 : Int32) p2  h0 n0 Z0 hmx) hZ (hw _ (List.mem_of_getElem? (i := 86) rfl)) (hw _ (List.mem_of_getElem? (i := 85) rfl)) (by decide) (by decide)) (g := (mkF m 49 #[.val (.ref a1), .val (.int p2), .val (.int (0 : Int32)), .unset] [(.int p2), (.int (10 : Int32)), (.ref a1)])) rfl (by rw [hml]; rfl) (argsL := [(.int (10 : Int32)), (.int p2)]) (rest := [(.ref a1)]) (lenOf pd_13_10 rfl) rfl (by show 2 * 0 + _ ≤ _; exact Nat.le_of_eq rfl) (hb hby d13_49) (fun _ _ => ⟨rfl, e5, (by decide : 0 + 0 ≤ _), (by decide : 0 + 0 ≤ _)⟩)
  dsimp only [Pt.U, Pt.locs, Pt.cells, Pt.slots] at X6 l6 y6 z6 st6 hQ6
  subst l6 y6 z6
  obtain ⟨rfl, N6q, e6⟩ := hQ6
  have N6 := Fr.app N0 N6q
  obtain ⟨T7, h7, k7, X7, e7, E7, A7, O7, st7⟩ := newR X6 hx hZ hown (hw _ (List.mem_of_getElem? (i := 87) rfl)) (hw _ (List.mem_of_getElem? (i := 88) rfl)) e6 (g := (mkF m 52 #[.val (.ref a1), .val (.int p2), .val (.int (0 : Int32)), .unset] [(.int (10 : Int32)), (.ref a1)])) rfl (hb hby d13_52) rfl (by decide) (cap := 10) (by decide) (by decide) (by decide) (by decide)
  obtain ⟨b7, g7⟩ : ∃ z, z = h0.size := ⟨_, rfl⟩
  rw [← g7] at A7 st7
  have V_b7 := Arv.new A7 (by decide)
  have g_b7 : n0 ≤ b7 := Nat.le_trans Z0 (Nat.le_of_eq g7.symm)
  have sz_b7 : h0.size ≤ b7 := (Nat.le_trans (Keep.refl h0 [a1]).1 (Nat.le_of_eq g7.symm))
  have K7 : Keep h0 h7 [a1] := (Keep.refl h0 [a1]).ext E7
  obtain ⟨T8, h8, X8, e8, W8, st8⟩ := putF X7 hx hZ hown (host := "") (Or.inl (hw _ (List.mem_of_getElem? (i := 24) rfl))) Via.refl e7 (Fed.ext E7) (E_a1.ext E7) (Or.inl (hw _ (List.mem_of_getElem? (i := 25) rfl))) (hw _ (List.mem_of_getElem? (i := 1) rfl)) (ty := (.array (.object "java/lang/Object"))) (by decide) rfl rfl (g := (mkF m 56 #[.val (.ref a1), .val (.int p2), .val (.int (0 : Int32)), .unset] [(.ref b7), (.ref a1), (.ref b7)])) rfl rfl (hb hby d13_56)
  have Fw8 := (Fed.ext E7).same W8
  have K8 : Keep h0 h8 [a1] := K7.wr W8 (Or.inl (List.mem_of_getElem? (i := 0) rfl))
  have N8 := Fr.snoc X8 N6 g_a1
  obtain ⟨fs, hr, hrun, hended, hW, hsame⟩ := X8.leave (v := some (.ref b7)) (fun h => by rw [Bd.returns] at h; cases h)
  refine ⟨_, _, pre0 _ ?_, hrun, hended, _, _, rfl, ?_, ⟨_, rfl⟩, hW, hsame.mono (by decide) (by decide)⟩
  · show Steps p.tables e below (s₁.setTop (mkF m 0 #[.val (.ref a1), .val (.int p2), .unset, .unset] [])) _
    refine XS.aloadN X0.here hx rfl (hb hby d13_0) rfl rfl ?_
    show Steps p.tables e below (s₁.setTop (mkF m 1 #[.val (.ref a1), .val (.int p2), .unset, .unset] [(.ref a1)])) _
    refine st3 _ ?_
    show Steps p.tables e below (T3.setTop (mkF m 4 #[.val (.ref a1), .val (.int p2), .unset, .unset] [(.ref d0)])) _
    refine X3.arraylength hx (by rw [e3]; exact Ar_d0.1) (State.isArrayOf_alike hZ.alike Ar_d0.2.1) (g := (mkF m 4 #[.val (.ref a1), .val (.int p2), .unset, .unset] [(.ref d0)])) rfl rfl (hb hby d13_4) _ ?_
    rw [len_of S_d0 N_d0]
    show Steps p.tables e below (T3.setTop (mkF m 5 #[.val (.ref a1), .val (.int p2), .unset, .unset] [(.int (0 : Int32))])) _
    refine XS.istoreN X3.here hx rfl (hb hby d13_5) rfl (l' := #[.val (.ref a1), .val (.int p2), .val (.int (0 : Int32)), .unset]) rfl ?_
    show Steps p.tables e below (T3.setTop (mkF m 6 #[.val (.ref a1), .val (.int p2), .val (.int (0 : Int32)), .unset] [])) _
    refine XS.iloadN X3.here hx rfl (hb hby d13_6) rfl ?_
    show Steps p.tables e below (T3.setTop (mkF m 7 #[.val (.ref a1), .val (.int p2), .val (.int (0 : Int32)), .unset] [(.int (0 : Int32))])) _
    refine XS.ifNo X3.here hx rfl (hb hby d13_7) rfl ((if0 _ _).trans (flt hc7).2.2.1) ?_
    show Steps p.tables e below (T3.setTop (mkF m 10 #[.val (.ref a1), .val (.int p2), .val (.int (0 : Int32)), .unset] [])) _
    refine XS.aloadN X3.here hx rfl (hb hby d13_10) rfl rfl ?_
    show Steps p.tables e below (T3.setTop (mkF m 11 #[.val (.ref a1), .val (.int p2), .val (.int (0 : Int32)), .unset] [(.ref a1)])) _
    refine st4 _ ?_
    show Steps p.tables e below (T4.setTop (mkF m 14 #[.val (.ref a1), .val (.int p2), .val (.int (0 : Int32)), .unset] [(.ref d0)])) _
    refine st5 _ ?_
    show Steps p.tables e below (T5.setTop (mkF m 17 #[.val (.ref a1), .val (.int p2), .val (.int (0 : Int32)), .unset] [(.ref d0), (.ref d0)])) _
    refine Jvm.RoadKit.acmp (g := (mkF m 17 #[.val (.ref a1), .val (.int p2), .val (.int (0 : Int32)), .unset] [(.ref d0), (.ref d0)])) X5 hx rfl rfl rfl (pc0 := 17) (pc' := 45) (same := true) rfl (hb hby d13_17) rfl (decide_eq_true rfl) (by decide) (by decide) ?_
    show Steps p.tables e below (T5.setTop (mkF m 45 #[.val (.ref a1), .val (.int p2), .val (.int (0 : Int32)), .unset] [])) _
    refine XS.aloadN X5.here hx rfl (hb hby d13_45) rfl rfl ?_
    show Steps p.tables e below (T5.setTop (mkF m 46 #[.val (.ref a1), .val (.int p2), .val (.int (0 : Int32)), .unset] [(.ref a1)])) _
    refine XS.bipush X5.here hx rfl (hb hby d13_46) ?_
    show Steps p.tables e below (T5.setTop (mkF m 48 #[.val (.ref a1), .val (.int p2), .val (.int (0 : Int32)), .unset] [(.int (10 : Int32)), (.ref a1)])) _
    refine XS.iloadN X5.here hx rfl (hb hby d13_48) rfl ?_
    show Steps p.tables e below (T5.setTop (mkF m 49 #[.val (.ref a1), .val (.int p2), .val (.int (0 : Int32)), .unset] [(.int p2), (.int (10 : Int32)), (.ref a1)])) _
    refine st6 _ ?_
    show Steps p.tables e below (T6.setTop (mkF m 52 #[.val (.ref a1), .val (.int p2), .val (.int (0 : Int32)), .unset] [(.int (10 : Int32)), (.ref a1)])) _
    refine st7 _ ?_
    show Steps p.tables e below (T7.setTop (mkF m 55 #[.val (.ref a1), .val (.int p2), .val (.int (0 : Int32)), .unset] [(.ref b7), (.ref a1)])) _
    refine XS.dupX1 X7.here hx rfl (hb hby d13_55) rfl rfl rfl ?_
    show Steps p.tables e below (T7.setTop (mkF m 56 #[.val (.ref a1), .val (.int p2), .val (.int (0 : Int32)), .unset] [(.ref b7), (.ref a1), (.ref b7)])) _
    refine st8 _ ?_
    show Steps p.tables e below (T8.setTop (mkF m 59 #[.val (.ref a1), .val (.int p2), .val (.int (0 : Int32)), .unset] [(.ref b7)])) _
    jvm_step X8.here [X8.here.top, hx, (hb hby d13_59), X8.method', Bd.returns, Value.isRef, FieldType.isReference]
    first | (intro acts; rw [hr _ acts rfl rfl rfl]) | rw [hr _ _ rfl rfl rfl]
    exact Steps.refl _
  · show Q13 Z a1 p2 d0 mc sz cl_d0 h0 n0 _ T8.heap _
    rw [e8]
    exact ⟨b7, rfl, N8, K8, ((E_a1.ext E7).wr W8), ((Fmc.ext E7).other W8 (Or.inr (slot_ne (Or.inl (hw _ (List.mem_of_getElem? (i := 22) rfl))) (Or.inl (hw _ (List.mem_of_getElem? (i := 25) rfl))) (by decide) (t := .int) (t' := (.array (.object "java/lang/Object"))) (by decide) (by decide)))), ((Fsz.ext E7).other W8 (Or.inr (slot_ne (Or.inl (hw _ (List.mem_of_getElem? (i := 67) rfl))) (Or.inl (hw _ (List.mem_of_getElem? (i := 25) rfl))) (by decide) (t := .int) (t' := (.array (.object "java/lang/Object"))) (by decide) (by decide)))), Fw8, g_b7, (Ne.symm (Nat.ne_of_lt (Nat.lt_of_lt_of_le E_a1.lt (Nat.le_of_eq g7.symm)))), ((own_AR.other (b := b7) ⟨_, A7, (by show (Array.replicate _ _).size = 10; rw [Array.size_replicate]; rfl), O7⟩ W8 (Ne.symm (Nat.ne_of_lt (Nat.lt_of_lt_of_le E_a1.lt (Nat.le_of_eq g7.symm))))))⟩
theorem d12_0 : decode jdk_38_method_7_code 0 = .ok (.aload_n 0, 1) := by decide +kernel
theorem d12_1 : decode jdk_38_method_7_code 1 = .ok (.aload_n 0, 1) := by decide +kernel
theorem d12_2 : decode jdk_38_method_7_code 2 = .ok (.getfield 48, 3) := by decide +kernel
theorem d12_5 : decode jdk_38_method_7_code 5 = .ok (.iconst 1, 1) := by decide +kernel
theorem d12_6 : decode jdk_38_method_7_code 6 = .ok (.iadd, 1) := by decide +kernel
theorem d12_7 : decode jdk_38_method_7_code 7 = .ok (.invokevirtual 69, 3) := by decide +kernel
theorem d12_10 : decode jdk_38_method_7_code 10 = .ok (.areturn, 1) := by decide +kernel
theorem pn_12 : plainName "java/util/ArrayList" = true := by first | (simp [plainName, overriddenIn]; done) | decide +kernel
theorem pd_12_9 : parseMethodDescriptor "(I)[Ljava/lang/Object;" = some ⟨[.int], some (.array (.object "java/lang/Object"))⟩ := by decide +kernel
theorem ef_12 (m : MethodId) (x0 : Addr) : entryFrame m #[(.ref x0)] 1 = mkF m 0 #[.val (.ref x0)] [] := by first | (simp [entryFrame, mkF, argsToLocals, Value.category]; done) | rfl
def Q12 (Z : State) (a1 : Addr) (d0 : Addr) (mc : Int32) (sz : Int32) (cl_d0 : Cell) (h0 : Heap) (n0 : Nat) (v : Option Value) (h : Heap) (L : List Loc) : Prop := ∃ b : Addr, v = some (.ref b) ∧ Fr n0 L ∧ Keep h0 h [a1] ∧ Exa Z h a1 "java/util/ArrayList" ∧ Fld Z h a1 "java/util/AbstractList" "modCount" "I" (.int mc) ∧ Fld Z h a1 "java/util/ArrayList" "size" "I" (.int sz) ∧ Fld Z h a1 "java/util/ArrayList" "elementData" "[Ljava/lang/Object;" (.ref b) ∧ n0 ≤ b ∧ b ≠ a1 ∧ own_AR Z h b
set_option maxRecDepth 65536 in
set_option maxHeartbeats 40000000 in
theorem rm12 (l : Launch) (Z : State) (a0 : Array Value) (hw : ∀ d ∈ tables_1, d.before a0 Z = true) (ws : List Jvm.Cond) (a1 : Addr) (d0 : Addr) (mc : Int32) (sz : Int32) (cl_d0 : Cell) (h0 : Heap) (n0 : Nat) (Z0 : n0 ≤ h0.size) (O0 : Old Z n0 h0) (SD : Sta Z Z.heap "java/util/ArrayList" "DEFAULTCAPACITY_EMPTY_ELEMENTDATA" "[Ljava/lang/Object;" (.ref d0)) (AD : Arr Z Z.heap d0 cl_d0 (.object "java/lang/Object")) (S_d0 : cl_d0.slots.size = (0 : Int32).toNatClampNeg) (E_a1 : Exa Z h0 a1 "java/util/ArrayList") (Fmc : Fld Z h0 a1 "java/util/AbstractList" "modCount" "I" (.int mc)) (Fsz : Fld Z h0 a1 "java/util/ArrayList" "size" "I" (.int sz)) (Fed : Fld Z h0 a1 "java/util/ArrayList" "elementData" "[Ljava/lang/Object;" (.ref d0)) (g_a1 : n0 ≤ a1) (hmx : ¬ ((10 : Int32) < (sz + (1 : Int32)))) :
    MetFree l (⟨"java/util/ArrayList", "grow", "()[Ljava/lang/Object;"⟩ : MethodName) (head1 (Jvm.Cond.code (⟨"java/util/ArrayList", "grow", "()[Ljava/lang/Object;"⟩ : MethodName) jdk_38_method_7_code 1 (some (.array (.object "java/lang/Object"))) :: ws) ({ frames := 2, cells := 1, slots := 10, locals := 30 } : Room)) (fun a U => a = #[(.ref a1)] ∧ Z.Warmed39 U.vm ∧ U.heap = h0) (fun _ _ _ _ _ => True) (fun _ U o U' => ∃ v L, o = .returned v ∧ Q12 Z a1 d0 mc sz cl_d0 h0 n0 v U'.heap L ∧ FrameEnd U o U' L ({ frames := 2, cells := 1, slots := 10, locals := 30 } : Room).cells ({ frames := 2, cells := 1, slots := 10, locals := 30 } : Room).slots) := by
  refine MetFree.of_bodySF (plainFor_of_name pn_12) hisR ?_
  intro p e s m args below meth c s₁ Bd hml0 hP hK
  obtain ⟨rfl, hZ, hh⟩ := hP
  have hx := Bd.exec
  have hby := Bd.bytes
  have hml : c.maxLocals = 1 := hml0
  have hown : s.vm.findClass "java/util/ArrayList" = some m.cls := findClass_of_methodNamed Bd.named
  have hnm := (name_of_methodNamed Bd.named Bd.method).1
  have X0 : Stand p l e ({ frames := 2, cells := 1, slots := 10, locals := 30 } : Room) s m #[(.ref a1)] below meth c s₁ [] 0 0 := Stand.of_body Bd
  have e0 : s₁.heap = h0 := by rw [← hh, Bd.state]; rfl
  have N0 := Fr.nil n0
  have pre0 : ∀ t, Steps p.tables e below (s₁.setTop (mkF m 0 #[.val (.ref a1)] [])) t → Steps p.tables e below (s₁.setTop (entryFrame m #[(.ref a1)] 1)) t := fun t k => castTop (ef_12 m a1) k
  obtain ⟨T2, X2, e2, st2⟩ := getF X0 hx hZ hown (host := "") (Or.inl (hw _ (List.mem_of_getElem? (i := 66) rfl))) Via.refl e0 Fsz (g := (mkF m 2 #[.val (.ref a1)] [(.ref a1), (.ref a1)])) rfl rfl (hb hby d12_2)
  obtain ⟨cq3, q3, q3'⟩ := E_a1.cell
  obtain ⟨_, _, ⟨T3, L3, k3, n3⟩, -, X3, ⟨Lc3, hQ3, l3, y3, z3⟩, st3⟩ := X2.privateBack hx (y := (⟨"java/util/ArrayList", "grow", "(I)[Ljava/lang/Object;"⟩ : MethodName)) hown (mvT hZ (hw _ (List.mem_of_getElem? (i := 78) rfl))) (mvT hZ (hw _ (List.mem_of_getElem? (i := 79) rfl))) (mvT hZ (hw _ (List.mem_of_getElem? (i := 81) rfl))) (Cond.privateMethod_at (mvP hZ (hw _ (List.mem_of_getElem? (i := 80) rfl)) (args := #[]))) (mvT hZ (hw _ (List.mem_of_getElem? (i := 82) rfl))) (by decide) (backOf (W := 0) (rm13 l Z a0 hw [] a1 (sz + (1 : Int32)) d0 mc sz cl_d0 h0 n0 Z0 S_d0 O0 SD E_a1 Fmc Fsz Fed g_a1 hmx (AD.ext O0.2)) hZ (hw _ (List.mem_of_getElem? (i := 82) rfl)) (hw _ (List.mem_of_getElem? (i := 2) rfl)) (by decide) (by decide)) (g := (mkF m 7 #[.val (.ref a1)] [(.int (sz + (1 : Int32))), (.ref a1)])) rfl (by rw [hml]; rfl) (Steps.refl _) (a := a1) (by rw [e2]; exact q3) q3' (argsL := [(.int (sz + (1 : Int32)))]) (rest := []) (lenOf pd_12_9 rfl) rfl (by show 2 * 0 + _ ≤ _; exact Nat.le_of_eq rfl) (hb hby d12_7) (fun _ _ => ⟨rfl, e2, (by decide : 0 + 1 ≤ _), (by decide : 0 + 10 ≤ _)⟩)
  dsimp only [Pt.U, Pt.locs, Pt.cells, Pt.slots] at X3 l3 y3 z3 st3 hQ3
  subst l3 y3 z3
  obtain ⟨bq3, rfl, N3q, Kq3, E_a13, Fmc3, Fsz3, Fed3, gb3, nb3, AR3⟩ := hQ3
  have N3 := Fr.app N0 N3q
  obtain ⟨fs, hr, hrun, hended, hW, hsame⟩ := X3.leave (v := some (.ref bq3)) (fun h => by rw [Bd.returns] at h; cases h)
  refine ⟨_, _, pre0 _ ?_, hrun, hended, _, _, rfl, ?_, ⟨_, rfl⟩, hW, hsame.mono (by decide) (by decide)⟩
  · show Steps p.tables e below (s₁.setTop (mkF m 0 #[.val (.ref a1)] [])) _
    refine XS.aloadN X0.here hx rfl (hb hby d12_0) rfl rfl ?_
    show Steps p.tables e below (s₁.setTop (mkF m 1 #[.val (.ref a1)] [(.ref a1)])) _
    refine XS.aloadN X0.here hx rfl (hb hby d12_1) rfl rfl ?_
    show Steps p.tables e below (s₁.setTop (mkF m 2 #[.val (.ref a1)] [(.ref a1), (.ref a1)])) _
    refine st2 _ ?_
    show Steps p.tables e below (T2.setTop (mkF m 5 #[.val (.ref a1)] [(.int sz), (.ref a1)])) _
    refine XS.iconst X2.here hx rfl (hb hby d12_5) ?_
    show Steps p.tables e below (T2.setTop (mkF m 6 #[.val (.ref a1)] [(.int (1 : Int32)), (.int sz), (.ref a1)])) _
    refine XS.iadd X2.here hx rfl (hb hby d12_6) rfl ?_
    show Steps p.tables e below (T2.setTop (mkF m 7 #[.val (.ref a1)] [(.int (sz + (1 : Int32))), (.ref a1)])) _
    refine st3.trans ?_
    show Steps p.tables e below (T3.setTop (mkF m 10 #[.val (.ref a1)] [(.ref bq3)])) _
    jvm_step X3.here [X3.here.top, hx, (hb hby d12_10), X3.method', Bd.returns, Value.isRef, FieldType.isReference]
    first | (intro acts; rw [hr _ acts rfl rfl rfl]) | rw [hr _ _ rfl rfl rfl]
    exact Steps.refl _
  · show Q12 Z a1 d0 mc sz cl_d0 h0 n0 _ T3.heap _
    exact ⟨bq3, rfl, N3, Kq3, E_a13, Fmc3, Fsz3, Fed3, gb3, nb3, AR3⟩
theorem own_Ins_keep {Z : State} {h h' : Heap} {a : Addr} {C : String} {bo : Bool} {ws : List Addr} (F : Ins Z h a C bo) (K : Keep h h' ws) : Ins Z h' a C bo := by
  obtain ⟨cell, cT, h1, h2, h3⟩ := F
  obtain ⟨c', q, r1, r2, -⟩ := K.2.2 _ _ h1
  exact ⟨c', cT, q, h2, by rw [r1, r2]; exact h3⟩
theorem d11_0 : decode jdk_38_method_24_code 0 = .ok (.iload_n 3, 1) := by decide +kernel
theorem d11_1 : decode jdk_38_method_24_code 1 = .ok (.aload_n 2, 1) := by decide +kernel
theorem d11_2 : decode jdk_38_method_24_code 2 = .ok (.arraylength, 1) := by decide +kernel
theorem d11_3 : decode jdk_38_method_24_code 3 = .ok (.if_icmp .ne 8, 3) := by decide +kernel
theorem d11_6 : decode jdk_38_method_24_code 6 = .ok (.aload_n 0, 1) := by decide +kernel
theorem d11_7 : decode jdk_38_method_24_code 7 = .ok (.invokevirtual 129, 3) := by decide +kernel
theorem d11_10 : decode jdk_38_method_24_code 10 = .ok (.astore_n 2, 1) := by decide +kernel
theorem d11_11 : decode jdk_38_method_24_code 11 = .ok (.aload_n 2, 1) := by decide +kernel
theorem d11_12 : decode jdk_38_method_24_code 12 = .ok (.iload_n 3, 1) := by decide +kernel
theorem d11_13 : decode jdk_38_method_24_code 13 = .ok (.aload_n 1, 1) := by decide +kernel
theorem d11_14 : decode jdk_38_method_24_code 14 = .ok (.aastore, 1) := by decide +kernel
theorem d11_15 : decode jdk_38_method_24_code 15 = .ok (.aload_n 0, 1) := by decide +kernel
theorem d11_16 : decode jdk_38_method_24_code 16 = .ok (.iload_n 3, 1) := by decide +kernel
theorem d11_17 : decode jdk_38_method_24_code 17 = .ok (.iconst 1, 1) := by decide +kernel
theorem d11_18 : decode jdk_38_method_24_code 18 = .ok (.iadd, 1) := by decide +kernel
theorem d11_19 : decode jdk_38_method_24_code 19 = .ok (.putfield 48, 3) := by decide +kernel
theorem d11_22 : decode jdk_38_method_24_code 22 = .ok (.return_, 1) := by decide +kernel
theorem pn_11 : plainName "java/util/ArrayList" = true := by first | (simp [plainName, overriddenIn]; done) | decide +kernel
theorem pd_11_8 : parseMethodDescriptor "()[Ljava/lang/Object;" = some ⟨[], some (.array (.object "java/lang/Object"))⟩ := by decide +kernel
theorem ef_11 (m : MethodId) (x0 : Addr) (x1 : Addr) (x2 : Addr) (x3 : Int32) : entryFrame m #[(.ref x0), (.ref x1), (.ref x2), (.int x3)] 4 = mkF m 0 #[.val (.ref x0), .val (.ref x1), .val (.ref x2), .val (.int x3)] [] := by first | (simp [entryFrame, mkF, argsToLocals, Value.category]; done) | rfl
def Q11A (Z : State) (a1 : Addr) (a2 : Addr) (a3 : Addr) (d0 : Addr) (mc : Int32) (sz : Int32) (cl_d0 : Cell) (cl_a3 : Cell) (z_a3 : Int32) (h0 : Heap) (n0 : Nat) (v : Option Value) (h : Heap) (L : List Loc) : Prop := v = none ∧ Fr n0 L ∧ Old Z n0 h ∧ own_L Z h n0 a1 d0 1
set_option maxRecDepth 65536 in
set_option maxHeartbeats 40000000 in
theorem rm11A (l : Launch) (Z : State) (a0 : Array Value) (hw : ∀ d ∈ tables_1, d.before a0 Z = true) (ws : List Jvm.Cond) (a1 : Addr) (a2 : Addr) (a3 : Addr) (d0 : Addr) (mc : Int32) (sz : Int32) (cl_d0 : Cell) (cl_a3 : Cell) (z_a3 : Int32) (h0 : Heap) (n0 : Nat) (Z0 : n0 ≤ h0.size) (O0 : Old Z n0 h0) (SD : Sta Z Z.heap "java/util/ArrayList" "DEFAULTCAPACITY_EMPTY_ELEMENTDATA" "[Ljava/lang/Object;" (.ref d0)) (AD : Arr Z Z.heap d0 cl_d0 (.object "java/lang/Object")) (S_d0 : cl_d0.slots.size = (0 : Int32).toNatClampNeg) (E_a1 : Exa Z h0 a1 "java/util/ArrayList") (Fmc : Fld Z h0 a1 "java/util/AbstractList" "modCount" "I" (.int mc)) (Fsz : Fld Z h0 a1 "java/util/ArrayList" "size" "I" (.int sz)) (Fed : Fld Z h0 a1 "java/util/ArrayList" "elementData" "[Ljava/lang/Object;" (.ref d0)) (g_a1 : n0 ≤ a1) (hmx : ¬ ((10 : Int32) < (sz + (1 : Int32)))) (Iy : Ins Z h0 a2 "java/lang/Object" true) (Ar_a3 : Arr Z h0 a3 cl_a3 (.object "java/lang/Object")) (S_a3 : cl_a3.slots.size = z_a3.toNatClampNeg) (N_a3 : ¬ z_a3 < 0) (hc3 : (0 : Int32) = z_a3) :
    MetFree l (⟨"java/util/ArrayList", "add", "(Ljava/lang/Object;[Ljava/lang/Object;I)V"⟩ : MethodName) (head1 (Jvm.Cond.code (⟨"java/util/ArrayList", "add", "(Ljava/lang/Object;[Ljava/lang/Object;I)V"⟩ : MethodName) jdk_38_method_24_code 4 none :: ws) ({ frames := 3, cells := 1, slots := 10, locals := 42 } : Room)) (fun a U => a = #[(.ref a1), (.ref a2), (.ref a3), (.int (0 : Int32))] ∧ Z.Warmed39 U.vm ∧ U.heap = h0) (fun _ _ _ _ _ => True) (fun _ U o U' => ∃ v L, o = .returned v ∧ Q11A Z a1 a2 a3 d0 mc sz cl_d0 cl_a3 z_a3 h0 n0 v U'.heap L ∧ FrameEnd U o U' L ({ frames := 3, cells := 1, slots := 10, locals := 42 } : Room).cells ({ frames := 3, cells := 1, slots := 10, locals := 42 } : Room).slots) := by
  refine MetFree.of_bodySF (plainFor_of_name pn_11) hisR ?_
  intro p e s m args below meth c s₁ Bd hml0 hP hK
  obtain ⟨rfl, hZ, hh⟩ := hP
  have hx := Bd.exec
  have hby := Bd.bytes
  have hml : c.maxLocals = 4 := hml0
  have hown : s.vm.findClass "java/util/ArrayList" = some m.cls := findClass_of_methodNamed Bd.named
  have hnm := (name_of_methodNamed Bd.named Bd.method).1
  have X0 : Stand p l e ({ frames := 3, cells := 1, slots := 10, locals := 42 } : Room) s m #[(.ref a1), (.ref a2), (.ref a3), (.int (0 : Int32))] below meth c s₁ [] 0 0 := Stand.of_body Bd
  have e0 : s₁.heap = h0 := by rw [← hh, Bd.state]; rfl
  have N0 := Fr.nil n0
  have pre0 : ∀ t, Steps p.tables e below (s₁.setTop (mkF m 0 #[.val (.ref a1), .val (.ref a2), .val (.ref a3), .val (.int (0 : Int32))] [])) t → Steps p.tables e below (s₁.setTop (entryFrame m #[(.ref a1), (.ref a2), (.ref a3), (.int (0 : Int32))] 4)) t := fun t k => castTop (ef_11 m a1 a2 a3 (0 : Int32)) k
  obtain ⟨cq5, q5, q5'⟩ := E_a1.cell
  obtain ⟨_, _, ⟨T5, L5, k5, n5⟩, -, X5, ⟨Lc5, hQ5, l5, y5, z5⟩, st5⟩ := X0.privateBack hx (y := (⟨"java/util/ArrayList", "grow", "()[Ljava/lang/Object;"⟩ : MethodName)) hown (mvT hZ (hw _ (List.mem_of_getElem? (i := 73) rfl))) (mvT hZ (hw _ (List.mem_of_getElem? (i := 74) rfl))) (mvT hZ (hw _ (List.mem_of_getElem? (i := 76) rfl))) (Cond.privateMethod_at (mvP hZ (hw _ (List.mem_of_getElem? (i := 75) rfl)) (args := #[]))) (mvT hZ (hw _ (List.mem_of_getElem? (i := 77) rfl))) (by decide) (backOf (W := 0) (rm12 l Z a0 hw [] a1 d0 mc sz cl_d0 h0 n0 Z0 O0 SD AD S_d0 E_a1 Fmc Fsz Fed g_a1 hmx) hZ (hw _ (List.mem_of_getElem? (i := 77) rfl)) (hw _ (List.mem_of_getElem? (i := 2) rfl)) (by decide) (by decide)) (g := (mkF m 7 #[.val (.ref a1), .val (.ref a2), .val (.ref a3), .val (.int (0 : Int32))] [(.ref a1)])) rfl (by rw [hml]; rfl) (Steps.refl _) (a := a1) (by rw [e0]; exact q5) q5' (argsL := []) (rest := []) (lenOf pd_11_8 rfl) rfl (by show 2 * 0 + _ ≤ _; exact Nat.le_of_eq rfl) (hb hby d11_7) (fun _ _ => ⟨rfl, e0, (by decide : 0 + 1 ≤ _), (by decide : 0 + 10 ≤ _)⟩)
  dsimp only [Pt.U, Pt.locs, Pt.cells, Pt.slots] at X5 l5 y5 z5 st5 hQ5
  subst l5 y5 z5
  obtain ⟨bq5, rfl, N5q, Kq5, E_a15, Fmc5, Fsz5, Fed5, gb5, nb5, AR5⟩ := hQ5
  have N5 := Fr.app N0 N5q
  obtain ⟨cl_bq5, Ar_bq5, zz_bq5, ov_bq5⟩ := AR5
  have g_bq5 := gb5
  have ne_a1_bq5 : a1 ≠ bq5 := Ne.symm nb5
  have hin14 : ¬ ((0 : Int32) < 0 ∨ cl_bq5.slots.size ≤ (0 : Int32).toNatClampNeg) := by rw [zz_bq5]; decide
  have Sto14 : Sto Z T5.heap bq5 (.ref a2) := Sto.of Ar_bq5 ov_bq5 (own_Ins_keep Iy Kq5)
  obtain ⟨T6, h6, X6, e6, W6, st6⟩ := stR X5 hx hZ rfl Ar_bq5 (j := (0 : Int32)) hin14 rfl Sto14 (g := (mkF m 14 #[.val (.ref a1), .val (.ref a2), .val (.ref bq5), .val (.int (0 : Int32))] [(.ref a2), (.int (0 : Int32)), (.ref bq5)])) rfl rfl (hb hby d11_14)
  have N6 := Fr.snoc X6 N5 g_bq5
  obtain ⟨T7, h7, X7, e7, W7, st7⟩ := putF X6 hx hZ hown (host := "") (Or.inl (hw _ (List.mem_of_getElem? (i := 66) rfl))) Via.refl e6 (Fsz5.other W6 (Or.inl ne_a1_bq5)) (E_a15.wr W6) (Or.inl (hw _ (List.mem_of_getElem? (i := 67) rfl))) (hw _ (List.mem_of_getElem? (i := 1) rfl)) (ty := .int) (by decide) rfl rfl (g := (mkF m 19 #[.val (.ref a1), .val (.ref a2), .val (.ref bq5), .val (.int (0 : Int32))] [(.int ((0 : Int32) + (1 : Int32))), (.ref a1)])) rfl rfl (hb hby d11_19)
  have Fw7 := (Fsz5.other W6 (Or.inl ne_a1_bq5)).same W7
  have N7 := Fr.snoc X7 N6 g_a1
  obtain ⟨fs, hr, hrun, hended, hW, hsame⟩ := X7.leave (v := none) (fun _ => rfl)
  refine ⟨_, _, pre0 _ ?_, hrun, hended, _, _, rfl, ?_, ⟨_, rfl⟩, hW, hsame.mono (by decide) (by decide)⟩
  · show Steps p.tables e below (s₁.setTop (mkF m 0 #[.val (.ref a1), .val (.ref a2), .val (.ref a3), .val (.int (0 : Int32))] [])) _
    refine XS.iloadN X0.here hx rfl (hb hby d11_0) rfl ?_
    show Steps p.tables e below (s₁.setTop (mkF m 1 #[.val (.ref a1), .val (.ref a2), .val (.ref a3), .val (.int (0 : Int32))] [(.int (0 : Int32))])) _
    refine XS.aloadN X0.here hx rfl (hb hby d11_1) rfl rfl ?_
    show Steps p.tables e below (s₁.setTop (mkF m 2 #[.val (.ref a1), .val (.ref a2), .val (.ref a3), .val (.int (0 : Int32))] [(.ref a3), (.int (0 : Int32))])) _
    refine X0.arraylength hx (by rw [e0]; exact Ar_a3.1) (State.isArrayOf_alike hZ.alike Ar_a3.2.1) (g := (mkF m 2 #[.val (.ref a1), .val (.ref a2), .val (.ref a3), .val (.int (0 : Int32))] [(.ref a3), (.int (0 : Int32))])) rfl rfl (hb hby d11_2) _ ?_
    rw [len_of S_a3 N_a3]
    show Steps p.tables e below (s₁.setTop (mkF m 3 #[.val (.ref a1), .val (.ref a2), .val (.ref a3), .val (.int (0 : Int32))] [(.int z_a3), (.int (0 : Int32))])) _
    refine XS.icmpNo X0.here hx rfl (hb hby d11_3) rfl (teq hc3).2 ?_
    show Steps p.tables e below (s₁.setTop (mkF m 6 #[.val (.ref a1), .val (.ref a2), .val (.ref a3), .val (.int (0 : Int32))] [])) _
    refine XS.aloadN X0.here hx rfl (hb hby d11_6) rfl rfl ?_
    show Steps p.tables e below (s₁.setTop (mkF m 7 #[.val (.ref a1), .val (.ref a2), .val (.ref a3), .val (.int (0 : Int32))] [(.ref a1)])) _
    refine st5.trans ?_
    show Steps p.tables e below (T5.setTop (mkF m 10 #[.val (.ref a1), .val (.ref a2), .val (.ref a3), .val (.int (0 : Int32))] [(.ref bq5)])) _
    refine XS.astoreN X5.here hx rfl (hb hby d11_10) rfl rfl (l' := #[.val (.ref a1), .val (.ref a2), .val (.ref bq5), .val (.int (0 : Int32))]) rfl ?_
    show Steps p.tables e below (T5.setTop (mkF m 11 #[.val (.ref a1), .val (.ref a2), .val (.ref bq5), .val (.int (0 : Int32))] [])) _
    refine XS.aloadN X5.here hx rfl (hb hby d11_11) rfl rfl ?_
    show Steps p.tables e below (T5.setTop (mkF m 12 #[.val (.ref a1), .val (.ref a2), .val (.ref bq5), .val (.int (0 : Int32))] [(.ref bq5)])) _
    refine XS.iloadN X5.here hx rfl (hb hby d11_12) rfl ?_
    show Steps p.tables e below (T5.setTop (mkF m 13 #[.val (.ref a1), .val (.ref a2), .val (.ref bq5), .val (.int (0 : Int32))] [(.int (0 : Int32)), (.ref bq5)])) _
    refine XS.aloadN X5.here hx rfl (hb hby d11_13) rfl rfl ?_
    show Steps p.tables e below (T5.setTop (mkF m 14 #[.val (.ref a1), .val (.ref a2), .val (.ref bq5), .val (.int (0 : Int32))] [(.ref a2), (.int (0 : Int32)), (.ref bq5)])) _
    refine st6 _ ?_
    show Steps p.tables e below (T6.setTop (mkF m 15 #[.val (.ref a1), .val (.ref a2), .val (.ref bq5), .val (.int (0 : Int32))] [])) _
    refine XS.aloadN X6.here hx rfl (hb hby d11_15) rfl rfl ?_
    show Steps p.tables e below (T6.setTop (mkF m 16 #[.val (.ref a1), .val (.ref a2), .val (.ref bq5), .val (.int (0 : Int32))] [(.ref a1)])) _
    refine XS.iloadN X6.here hx rfl (hb hby d11_16) rfl ?_
    show Steps p.tables e below (T6.setTop (mkF m 17 #[.val (.ref a1), .val (.ref a2), .val (.ref bq5), .val (.int (0 : Int32))] [(.int (0 : Int32)), (.ref a1)])) _
    refine XS.iconst X6.here hx rfl (hb hby d11_17) ?_
    show Steps p.tables e below (T6.setTop (mkF m 18 #[.val (.ref a1), .val (.ref a2), .val (.ref bq5), .val (.int (0 : Int32))] [(.int (1 : Int32)), (.int (0 : Int32)), (.ref a1)])) _
    refine XS.iadd X6.here hx rfl (hb hby d11_18) rfl ?_
    show Steps p.tables e below (T6.setTop (mkF m 19 #[.val (.ref a1), .val (.ref a2), .val (.ref bq5), .val (.int (0 : Int32))] [(.int ((0 : Int32) + (1 : Int32))), (.ref a1)])) _
    refine st7 _ ?_
    show Steps p.tables e below (T7.setTop (mkF m 22 #[.val (.ref a1), .val (.ref a2), .val (.ref bq5), .val (.int (0 : Int32))] [])) _
    exact X7.returnOut hx Bd.returns (hb hby d11_22) hr
  · show Q11A Z a1 a2 a3 d0 mc sz cl_d0 cl_a3 z_a3 h0 n0 _ T7.heap _
    rw [e7]
    exact ⟨rfl, N7, (((O0.keep Kq5 (fun x_ q_ => (List.mem_singleton.mp q_).symm ▸ g_a1)).wr W6 g_bq5).wr W7 g_a1), ((E_a15.wr W6).wr W7), ⟨_, ((Fmc5.other W6 (Or.inl ne_a1_bq5)).other W7 (Or.inr (slot_ne (Or.inl (hw _ (List.mem_of_getElem? (i := 22) rfl))) (Or.inl (hw _ (List.mem_of_getElem? (i := 67) rfl))) (by decide) (t := .int) (t' := .int) (by decide) (by decide))))⟩, Fw7, Or.inr ⟨by decide, bq5, gb5, nb5, ((Fed5.other W6 (Or.inl ne_a1_bq5)).other W7 (Or.inr (slot_ne (Or.inl (hw _ (List.mem_of_getElem? (i := 25) rfl))) (Or.inl (hw _ (List.mem_of_getElem? (i := 67) rfl))) (by decide) (t := (.array (.object "java/lang/Object"))) (t' := .int) (by decide) (by decide)))), (own_AR.same ⟨cl_bq5, Ar_bq5, zz_bq5, ov_bq5⟩ W6).other W7 nb5⟩⟩
theorem own_lt (a b : Nat) (ha : a < 2 ^ 31) (hb : b < 2 ^ 31) : Int32.ofNat a < Int32.ofNat b ↔ a < b := Int32.ofNat_lt_iff_lt ha hb
theorem own_eq (a b : Nat) (ha : a < 2 ^ 31) (hb : b < 2 ^ 31) : Int32.ofNat a = Int32.ofNat b ↔ a = b := by
  rw [← Int32.toInt_inj, Int32.toInt_ofNat_of_lt ha, Int32.toInt_ofNat_of_lt hb]
  omega
theorem own_cl (a : Nat) (h : a < 2 ^ 31) : (Int32.ofNat a).toNatClampNeg = a := Int32.toNatClampNeg_ofNat_of_lt h
theorem own_n0 (a : Nat) (h : a < 2 ^ 31) : ¬ Int32.ofNat a < 0 := by
  have : ¬ Int32.ofNat a < Int32.ofNat 0 := by rw [own_lt a 0 h (by decide)]; omega
  exact this
theorem own_up (a : Nat) : Int32.ofNat a + (1 : Int32) = Int32.ofNat (a + 1) := (Int32.ofNat_add a 1).symm
def Q11B (Z : State) (a1 : Addr) (a2 : Addr) (a3 : Addr) (d0 : Addr) (mc : Int32) (n : Nat) (h0 : Heap) (n0 : Nat) (v : Option Value) (h : Heap) (L : List Loc) : Prop := v = none ∧ Fr n0 L ∧ Old Z n0 h ∧ own_L Z h n0 a1 d0 (n + 1)
set_option maxRecDepth 65536 in
set_option maxHeartbeats 40000000 in
theorem rm11B (l : Launch) (Z : State) (a0 : Array Value) (hw : ∀ d ∈ tables_1, d.before a0 Z = true) (ws : List Jvm.Cond) (a1 : Addr) (a2 : Addr) (a3 : Addr) (d0 : Addr) (mc : Int32) (n : Nat) (h0 : Heap) (n0 : Nat) (Z0 : n0 ≤ h0.size) (O0 : Old Z n0 h0) (E_a1 : Exa Z h0 a1 "java/util/ArrayList") (Fmc : Fld Z h0 a1 "java/util/AbstractList" "modCount" "I" (.int mc)) (Fsz : Fld Z h0 a1 "java/util/ArrayList" "size" "I" (.int (Int32.ofNat n))) (Fed : Fld Z h0 a1 "java/util/ArrayList" "elementData" "[Ljava/lang/Object;" (.ref a3)) (g_a1 : n0 ≤ a1) (g_a3 : n0 ≤ a3) (ne_a1_a3 : a1 ≠ a3) (Iy : Ins Z h0 a2 "java/lang/Object" true) (AR : own_AR Z h0 a3) (hn1 : 0 < n) (hn2 : n < 10) :
    MetFree l (⟨"java/util/ArrayList", "add", "(Ljava/lang/Object;[Ljava/lang/Object;I)V"⟩ : MethodName) (head1 (Jvm.Cond.code (⟨"java/util/ArrayList", "add", "(Ljava/lang/Object;[Ljava/lang/Object;I)V"⟩ : MethodName) jdk_38_method_24_code 4 none :: ws) ({ frames := 0, cells := 0, slots := 0, locals := 0 } : Room)) (fun a U => a = #[(.ref a1), (.ref a2), (.ref a3), (.int (Int32.ofNat n))] ∧ Z.Warmed39 U.vm ∧ U.heap = h0) (fun _ _ _ _ _ => True) (fun _ U o U' => ∃ v L, o = .returned v ∧ Q11B Z a1 a2 a3 d0 mc n h0 n0 v U'.heap L ∧ FrameEnd U o U' L ({ frames := 0, cells := 0, slots := 0, locals := 0 } : Room).cells ({ frames := 0, cells := 0, slots := 0, locals := 0 } : Room).slots) := by
  refine MetFree.of_bodySF (plainFor_of_name pn_11) hisR ?_
  intro p e s m args below meth c s₁ Bd hml0 hP hK
  obtain ⟨rfl, hZ, hh⟩ := hP
  have hx := Bd.exec
  have hby := Bd.bytes
  have hml : c.maxLocals = 4 := hml0
  have hown : s.vm.findClass "java/util/ArrayList" = some m.cls := findClass_of_methodNamed Bd.named
  have hnm := (name_of_methodNamed Bd.named Bd.method).1
  have X0 : Stand p l e ({ frames := 0, cells := 0, slots := 0, locals := 0 } : Room) s m #[(.ref a1), (.ref a2), (.ref a3), (.int (Int32.ofNat n))] below meth c s₁ [] 0 0 := Stand.of_body Bd
  have e0 : s₁.heap = h0 := by rw [← hh, Bd.state]; rfl
  have N0 := Fr.nil n0
  have pre0 : ∀ t, Steps p.tables e below (s₁.setTop (mkF m 0 #[.val (.ref a1), .val (.ref a2), .val (.ref a3), .val (.int (Int32.ofNat n))] [])) t → Steps p.tables e below (s₁.setTop (entryFrame m #[(.ref a1), (.ref a2), (.ref a3), (.int (Int32.ofNat n))] 4)) t := fun t k => castTop (ef_11 m a1 a2 a3 (Int32.ofNat n)) k
  obtain ⟨cl_a3, Ar_a3, zz, ov⟩ := AR
  have S_a3 : cl_a3.slots.size = (10 : Int32).toNatClampNeg := zz
  have N_a3 : ¬ (10 : Int32) < 0 := by decide
  have hin14 : ¬ ((Int32.ofNat n) < 0 ∨ cl_a3.slots.size ≤ ((Int32.ofNat n)).toNatClampNeg) := by
    rw [own_cl n (by omega), zz]
    rintro (q | q)
    · exact own_n0 n (by omega) q
    · omega
  have hc3 : ¬ ((Int32.ofNat n) = (10 : Int32)) := fun q => absurd ((own_eq n 10 (by omega) (by decide)).mp q) (by omega)
  have Sto14 : Sto Z h0 a3 (.ref a2) := Sto.of Ar_a3 ov Iy
  obtain ⟨T5, h5, X5, e5, W5, st5⟩ := stR X0 hx hZ e0 Ar_a3 (j := (Int32.ofNat n)) hin14 rfl Sto14 (g := (mkF m 14 #[.val (.ref a1), .val (.ref a2), .val (.ref a3), .val (.int (Int32.ofNat n))] [(.ref a2), (.int (Int32.ofNat n)), (.ref a3)])) rfl rfl (hb hby d11_14)
  have N5 := Fr.snoc X5 N0 g_a3
  obtain ⟨T6, h6, X6, e6, W6, st6⟩ := putF X5 hx hZ hown (host := "") (Or.inl (hw _ (List.mem_of_getElem? (i := 66) rfl))) Via.refl e5 (Fsz.other W5 (Or.inl ne_a1_a3)) (E_a1.wr W5) (Or.inl (hw _ (List.mem_of_getElem? (i := 67) rfl))) (hw _ (List.mem_of_getElem? (i := 1) rfl)) (ty := .int) (by decide) rfl rfl (g := (mkF m 19 #[.val (.ref a1), .val (.ref a2), .val (.ref a3), .val (.int (Int32.ofNat n))] [(.int ((Int32.ofNat n) + (1 : Int32))), (.ref a1)])) rfl rfl (hb hby d11_19)
  have Fw6 := (Fsz.other W5 (Or.inl ne_a1_a3)).same W6
  have N6 := Fr.snoc X6 N5 g_a1
  obtain ⟨fs, hr, hrun, hended, hW, hsame⟩ := X6.leave (v := none) (fun _ => rfl)
  refine ⟨_, _, pre0 _ ?_, hrun, hended, _, _, rfl, ?_, ⟨_, rfl⟩, hW, hsame.mono (by decide) (by decide)⟩
  · show Steps p.tables e below (s₁.setTop (mkF m 0 #[.val (.ref a1), .val (.ref a2), .val (.ref a3), .val (.int (Int32.ofNat n))] [])) _
    refine XS.iloadN X0.here hx rfl (hb hby d11_0) rfl ?_
    show Steps p.tables e below (s₁.setTop (mkF m 1 #[.val (.ref a1), .val (.ref a2), .val (.ref a3), .val (.int (Int32.ofNat n))] [(.int (Int32.ofNat n))])) _
    refine XS.aloadN X0.here hx rfl (hb hby d11_1) rfl rfl ?_
    show Steps p.tables e below (s₁.setTop (mkF m 2 #[.val (.ref a1), .val (.ref a2), .val (.ref a3), .val (.int (Int32.ofNat n))] [(.ref a3), (.int (Int32.ofNat n))])) _
    refine X0.arraylength hx (by rw [e0]; exact Ar_a3.1) (State.isArrayOf_alike hZ.alike Ar_a3.2.1) (g := (mkF m 2 #[.val (.ref a1), .val (.ref a2), .val (.ref a3), .val (.int (Int32.ofNat n))] [(.ref a3), (.int (Int32.ofNat n))])) rfl rfl (hb hby d11_2) _ ?_
    rw [len_of S_a3 N_a3]
    show Steps p.tables e below (s₁.setTop (mkF m 3 #[.val (.ref a1), .val (.ref a2), .val (.ref a3), .val (.int (Int32.ofNat n))] [(.int (10 : Int32)), (.int (Int32.ofNat n))])) _
    refine XS.icmpYes X0.here hx rfl (pc0 := 3) (pc' := 11) rfl (hb hby d11_3) rfl (feq hc3).2 (by decide) (by decide) ?_
    show Steps p.tables e below (s₁.setTop (mkF m 11 #[.val (.ref a1), .val (.ref a2), .val (.ref a3), .val (.int (Int32.ofNat n))] [])) _
    refine XS.aloadN X0.here hx rfl (hb hby d11_11) rfl rfl ?_
    show Steps p.tables e below (s₁.setTop (mkF m 12 #[.val (.ref a1), .val (.ref a2), .val (.ref a3), .val (.int (Int32.ofNat n))] [(.ref a3)])) _
    refine XS.iloadN X0.here hx rfl (hb hby d11_12) rfl ?_
    show Steps p.tables e below (s₁.setTop (mkF m 13 #[.val (.ref a1), .val (.ref a2), .val (.ref a3), .val (.int (Int32.ofNat n))] [(.int (Int32.ofNat n)), (.ref a3)])) _
    refine XS.aloadN X0.here hx rfl (hb hby d11_13) rfl rfl ?_
    show Steps p.tables e below (s₁.setTop (mkF m 14 #[.val (.ref a1), .val (.ref a2), .val (.ref a3), .val (.int (Int32.ofNat n))] [(.ref a2), (.int (Int32.ofNat n)), (.ref a3)])) _
    refine st5 _ ?_
    show Steps p.tables e below (T5.setTop (mkF m 15 #[.val (.ref a1), .val (.ref a2), .val (.ref a3), .val (.int (Int32.ofNat n))] [])) _
    refine XS.aloadN X5.here hx rfl (hb hby d11_15) rfl rfl ?_
    show Steps p.tables e below (T5.setTop (mkF m 16 #[.val (.ref a1), .val (.ref a2), .val (.ref a3), .val (.int (Int32.ofNat n))] [(.ref a1)])) _
    refine XS.iloadN X5.here hx rfl (hb hby d11_16) rfl ?_
    show Steps p.tables e below (T5.setTop (mkF m 17 #[.val (.ref a1), .val (.ref a2), .val (.ref a3), .val (.int (Int32.ofNat n))] [(.int (Int32.ofNat n)), (.ref a1)])) _
    refine XS.iconst X5.here hx rfl (hb hby d11_17) ?_
    show Steps p.tables e below (T5.setTop (mkF m 18 #[.val (.ref a1), .val (.ref a2), .val (.ref a3), .val (.int (Int32.ofNat n))] [(.int (1 : Int32)), (.int (Int32.ofNat n)), (.ref a1)])) _
    refine XS.iadd X5.here hx rfl (hb hby d11_18) rfl ?_
    show Steps p.tables e below (T5.setTop (mkF m 19 #[.val (.ref a1), .val (.ref a2), .val (.ref a3), .val (.int (Int32.ofNat n))] [(.int ((Int32.ofNat n) + (1 : Int32))), (.ref a1)])) _
    refine st6 _ ?_
    show Steps p.tables e below (T6.setTop (mkF m 22 #[.val (.ref a1), .val (.ref a2), .val (.ref a3), .val (.int (Int32.ofNat n))] [])) _
    exact X6.returnOut hx Bd.returns (hb hby d11_22) hr
  · show Q11B Z a1 a2 a3 d0 mc n h0 n0 _ T6.heap _
    rw [e6]
    exact ⟨rfl, N6, ((O0.wr W5 g_a3).wr W6 g_a1), ((E_a1.wr W5).wr W6), ⟨_, ((Fmc.other W5 (Or.inl ne_a1_a3)).other W6 (Or.inr (slot_ne (Or.inl (hw _ (List.mem_of_getElem? (i := 22) rfl))) (Or.inl (hw _ (List.mem_of_getElem? (i := 67) rfl))) (by decide) (t := .int) (t' := .int) (by decide) (by decide))))⟩, by rw [← own_up]; exact Fw6, Or.inr ⟨by omega, a3, g_a3, Ne.symm ne_a1_a3, ((Fed.other W5 (Or.inl ne_a1_a3)).other W6 (Or.inr (slot_ne (Or.inl (hw _ (List.mem_of_getElem? (i := 25) rfl))) (Or.inl (hw _ (List.mem_of_getElem? (i := 67) rfl))) (by decide) (t := (.array (.object "java/lang/Object"))) (t' := .int) (by decide) (by decide)))), (own_AR.same ⟨cl_a3, Ar_a3, zz, ov⟩ W5).other W6 (Ne.symm ne_a1_a3)⟩⟩
theorem d10_0 : decode jdk_38_method_25_code 0 = .ok (.aload_n 0, 1) := by decide +kernel
theorem d10_1 : decode jdk_38_method_25_code 1 = .ok (.dup, 1) := by decide +kernel
theorem d10_2 : decode jdk_38_method_25_code 2 = .ok (.getfield 63, 3) := by decide +kernel
theorem d10_5 : decode jdk_38_method_25_code 5 = .ok (.iconst 1, 1) := by decide +kernel
theorem d10_6 : decode jdk_38_method_25_code 6 = .ok (.iadd, 1) := by decide +kernel
theorem d10_7 : decode jdk_38_method_25_code 7 = .ok (.putfield 63, 3) := by decide +kernel
theorem d10_10 : decode jdk_38_method_25_code 10 = .ok (.aload_n 0, 1) := by decide +kernel
theorem d10_11 : decode jdk_38_method_25_code 11 = .ok (.aload_n 1, 1) := by decide +kernel
theorem d10_12 : decode jdk_38_method_25_code 12 = .ok (.aload_n 0, 1) := by decide +kernel
theorem d10_13 : decode jdk_38_method_25_code 13 = .ok (.getfield 9, 3) := by decide +kernel
theorem d10_16 : decode jdk_38_method_25_code 16 = .ok (.aload_n 0, 1) := by decide +kernel
theorem d10_17 : decode jdk_38_method_25_code 17 = .ok (.getfield 48, 3) := by decide +kernel
theorem d10_20 : decode jdk_38_method_25_code 20 = .ok (.invokevirtual 131, 3) := by decide +kernel
theorem d10_23 : decode jdk_38_method_25_code 23 = .ok (.iconst 1, 1) := by decide +kernel
theorem d10_24 : decode jdk_38_method_25_code 24 = .ok (.ireturn, 1) := by decide +kernel
theorem pn_10 : plainName "java/util/ArrayList" = true := by first | (simp [plainName, overriddenIn]; done) | decide +kernel
theorem pd_10_7 : parseMethodDescriptor "(Ljava/lang/Object;[Ljava/lang/Object;I)V" = some ⟨[(.object "java/lang/Object"), (.array (.object "java/lang/Object")), .int], none⟩ := by decide +kernel
theorem ef_10 (m : MethodId) (x0 : Addr) (x1 : Addr) : entryFrame m #[(.ref x0), (.ref x1)] 2 = mkF m 0 #[.val (.ref x0), .val (.ref x1)] [] := by first | (simp [entryFrame, mkF, argsToLocals, Value.category]; done) | rfl
def Q10A (Z : State) (a1 : Addr) (a2 : Addr) (d0 : Addr) (mc : Int32) (cl_d0 : Cell) (h0 : Heap) (n0 : Nat) (v : Option Value) (h : Heap) (L : List Loc) : Prop := v = some (.int (1 : Int32)) ∧ Fr n0 L ∧ Old Z n0 h ∧ own_L Z h n0 a1 d0 1
set_option maxRecDepth 65536 in
set_option maxHeartbeats 40000000 in
theorem rm10A (l : Launch) (Z : State) (a0 : Array Value) (hw : ∀ d ∈ tables_1, d.before a0 Z = true) (ws : List Jvm.Cond) (a1 : Addr) (a2 : Addr) (d0 : Addr) (mc : Int32) (cl_d0 : Cell) (h0 : Heap) (n0 : Nat) (Z0 : n0 ≤ h0.size) (O0 : Old Z n0 h0) (SD : Sta Z Z.heap "java/util/ArrayList" "DEFAULTCAPACITY_EMPTY_ELEMENTDATA" "[Ljava/lang/Object;" (.ref d0)) (AD : Arr Z Z.heap d0 cl_d0 (.object "java/lang/Object")) (S_d0 : cl_d0.slots.size = (0 : Int32).toNatClampNeg) (E_a1 : Exa Z h0 a1 "java/util/ArrayList") (Fmc : Fld Z h0 a1 "java/util/AbstractList" "modCount" "I" (.int mc)) (Fsz : Fld Z h0 a1 "java/util/ArrayList" "size" "I" (.int (0 : Int32))) (Fed : Fld Z h0 a1 "java/util/ArrayList" "elementData" "[Ljava/lang/Object;" (.ref d0)) (g_a1 : n0 ≤ a1) (Iy : Ins Z h0 a2 "java/lang/Object" true) :
    MetFree l (⟨"java/util/ArrayList", "add", "(Ljava/lang/Object;)Z"⟩ : MethodName) (head1 (Jvm.Cond.code (⟨"java/util/ArrayList", "add", "(Ljava/lang/Object;)Z"⟩ : MethodName) jdk_38_method_25_code 2 (some .boolean) :: ws) ({ frames := 4, cells := 1, slots := 10, locals := 57 } : Room)) (fun a U => a = #[(.ref a1), (.ref a2)] ∧ Z.Warmed39 U.vm ∧ U.heap = h0) (fun _ _ _ _ _ => True) (fun _ U o U' => ∃ v L, o = .returned v ∧ Q10A Z a1 a2 d0 mc cl_d0 h0 n0 v U'.heap L ∧ FrameEnd U o U' L ({ frames := 4, cells := 1, slots := 10, locals := 57 } : Room).cells ({ frames := 4, cells := 1, slots := 10, locals := 57 } : Room).slots) := by
  refine MetFree.of_bodySF (plainFor_of_name pn_10) hisR ?_
  intro p e s m args below meth c s₁ Bd hml0 hP hK
  obtain ⟨rfl, hZ, hh⟩ := hP
  have hx := Bd.exec
  have hby := Bd.bytes
  have hml : c.maxLocals = 2 := hml0
  have hown : s.vm.findClass "java/util/ArrayList" = some m.cls := findClass_of_methodNamed Bd.named
  have hnm := (name_of_methodNamed Bd.named Bd.method).1
  have X0 : Stand p l e ({ frames := 4, cells := 1, slots := 10, locals := 57 } : Room) s m #[(.ref a1), (.ref a2)] below meth c s₁ [] 0 0 := Stand.of_body Bd
  have e0 : s₁.heap = h0 := by rw [← hh, Bd.state]; rfl
  have N0 := Fr.nil n0
  have pre0 : ∀ t, Steps p.tables e below (s₁.setTop (mkF m 0 #[.val (.ref a1), .val (.ref a2)] [])) t → Steps p.tables e below (s₁.setTop (entryFrame m #[(.ref a1), (.ref a2)] 2)) t := fun t k => castTop (ef_10 m a1 a2) k
  obtain ⟨T3, X3, e3, st3⟩ := getF X0 hx hZ hown (host := "") (Or.inl (hw _ (List.mem_of_getElem? (i := 64) rfl))) (Via.of (hw _ (List.mem_of_getElem? (i := 65) rfl))) e0 Fmc (g := (mkF m 2 #[.val (.ref a1), .val (.ref a2)] [(.ref a1), (.ref a1)])) rfl rfl (hb hby d10_2)
  obtain ⟨T4, h4, X4, e4, W4, st4⟩ := putF X3 hx hZ hown (host := "") (Or.inl (hw _ (List.mem_of_getElem? (i := 64) rfl))) (Via.of (hw _ (List.mem_of_getElem? (i := 65) rfl))) e3 Fmc E_a1 (Or.inl (hw _ (List.mem_of_getElem? (i := 22) rfl))) (hw _ (List.mem_of_getElem? (i := 1) rfl)) (ty := .int) (by decide) rfl rfl (g := (mkF m 7 #[.val (.ref a1), .val (.ref a2)] [(.int (mc + (1 : Int32))), (.ref a1)])) rfl rfl (hb hby d10_7)
  have Fw4 := Fmc.same W4
  have N4 := Fr.snoc X4 N0 g_a1
  obtain ⟨T5, X5, e5, st5⟩ := getF X4 hx hZ hown (host := "") (Or.inl (hw _ (List.mem_of_getElem? (i := 24) rfl))) Via.refl e4 (Fed.other W4 (Or.inr (slot_ne (Or.inl (hw _ (List.mem_of_getElem? (i := 25) rfl))) (Or.inl (hw _ (List.mem_of_getElem? (i := 22) rfl))) (by decide) (t := (.array (.object "java/lang/Object"))) (t' := .int) (by decide) (by decide)))) (g := (mkF m 13 #[.val (.ref a1), .val (.ref a2)] [(.ref a1), (.ref a2), (.ref a1)])) rfl rfl (hb hby d10_13)
  obtain ⟨T6, X6, e6, st6⟩ := getF X5 hx hZ hown (host := "") (Or.inl (hw _ (List.mem_of_getElem? (i := 66) rfl))) Via.refl e5 (Fsz.other W4 (Or.inr (slot_ne (Or.inl (hw _ (List.mem_of_getElem? (i := 67) rfl))) (Or.inl (hw _ (List.mem_of_getElem? (i := 22) rfl))) (by decide) (t := .int) (t' := .int) (by decide) (by decide)))) (g := (mkF m 17 #[.val (.ref a1), .val (.ref a2)] [(.ref a1), (.ref d0), (.ref a2), (.ref a1)])) rfl rfl (hb hby d10_17)
  obtain ⟨cq7, q7, q7'⟩ := (E_a1.wr W4).cell
  obtain ⟨_, _, ⟨T7, L7, k7, n7⟩, -, X7, ⟨Lc7, hQ7, l7, y7, z7⟩, st7⟩ := X6.privateBack hx (y := (⟨"java/util/ArrayList", "add", "(Ljava/lang/Object;[Ljava/lang/Object;I)V"⟩ : MethodName)) hown (mvT hZ (hw _ (List.mem_of_getElem? (i := 68) rfl))) (mvT hZ (hw _ (List.mem_of_getElem? (i := 69) rfl))) (mvT hZ (hw _ (List.mem_of_getElem? (i := 71) rfl))) (Cond.privateMethod_at (mvP hZ (hw _ (List.mem_of_getElem? (i := 70) rfl)) (args := #[]))) (mvT hZ (hw _ (List.mem_of_getElem? (i := 72) rfl))) (by decide) (backOf (W := 0) (rm11A l Z a0 hw [] a1 a2 d0 d0 (mc + (1 : Int32)) (0 : Int32) cl_d0 cl_d0 (0 : Int32) h4 n0 (Nat.le_trans Z0 (Keep.of_wr W4).1) (O0.wr W4 g_a1) SD AD S_d0 (E_a1.wr W4) Fw4 (Fsz.other W4 (Or.inr (slot_ne (Or.inl (hw _ (List.mem_of_getElem? (i := 67) rfl))) (Or.inl (hw _ (List.mem_of_getElem? (i := 22) rfl))) (by decide) (t := .int) (t' := .int) (by decide) (by decide)))) (Fed.other W4 (Or.inr (slot_ne (Or.inl (hw _ (List.mem_of_getElem? (i := 25) rfl))) (Or.inl (hw _ (List.mem_of_getElem? (i := 22) rfl))) (by decide) (t := (.array (.object "java/lang/Object"))) (t' := .int) (by decide) (by decide)))) g_a1 (by decide) (Ins.wr W4 Iy) (AD.ext (O0.wr W4 g_a1).2) S_d0 (by decide) rfl) hZ (hw _ (List.mem_of_getElem? (i := 72) rfl)) (hw _ (List.mem_of_getElem? (i := 2) rfl)) (by decide) (by decide)) (g := (mkF m 20 #[.val (.ref a1), .val (.ref a2)] [(.int (0 : Int32)), (.ref d0), (.ref a2), (.ref a1)])) rfl (by rw [hml]; rfl) (Steps.refl _) (a := a1) (by rw [e6]; exact q7) q7' (argsL := [(.ref a2), (.ref d0), (.int (0 : Int32))]) (rest := []) (lenOf pd_10_7 rfl) rfl (by show 2 * 0 + _ ≤ _; exact Nat.le_of_eq rfl) (hb hby d10_20) (fun _ _ => ⟨rfl, e6, (by decide : 0 + 1 ≤ _), (by decide : 0 + 10 ≤ _)⟩)
  dsimp only [Pt.U, Pt.locs, Pt.cells, Pt.slots] at X7 l7 y7 z7 st7 hQ7
  subst l7 y7 z7
  obtain ⟨rfl, N7q, Oq7, Lq7⟩ := hQ7
  have N7 := Fr.app N4 N7q
  obtain ⟨fs, hr, hrun, hended, hW, hsame⟩ := X7.leave (v := some (.int (1 : Int32))) (fun h => by rw [Bd.returns] at h; cases h)
  refine ⟨_, _, pre0 _ ?_, hrun, hended, _, _, rfl, ?_, ⟨_, rfl⟩, hW, hsame.mono (by decide) (by decide)⟩
  · show Steps p.tables e below (s₁.setTop (mkF m 0 #[.val (.ref a1), .val (.ref a2)] [])) _
    refine XS.aloadN X0.here hx rfl (hb hby d10_0) rfl rfl ?_
    show Steps p.tables e below (s₁.setTop (mkF m 1 #[.val (.ref a1), .val (.ref a2)] [(.ref a1)])) _
    refine XS.dup X0.here hx rfl (hb hby d10_1) rfl rfl ?_
    show Steps p.tables e below (s₁.setTop (mkF m 2 #[.val (.ref a1), .val (.ref a2)] [(.ref a1), (.ref a1)])) _
    refine st3 _ ?_
    show Steps p.tables e below (T3.setTop (mkF m 5 #[.val (.ref a1), .val (.ref a2)] [(.int mc), (.ref a1)])) _
    refine XS.iconst X3.here hx rfl (hb hby d10_5) ?_
    show Steps p.tables e below (T3.setTop (mkF m 6 #[.val (.ref a1), .val (.ref a2)] [(.int (1 : Int32)), (.int mc), (.ref a1)])) _
    refine XS.iadd X3.here hx rfl (hb hby d10_6) rfl ?_
    show Steps p.tables e below (T3.setTop (mkF m 7 #[.val (.ref a1), .val (.ref a2)] [(.int (mc + (1 : Int32))), (.ref a1)])) _
    refine st4 _ ?_
    show Steps p.tables e below (T4.setTop (mkF m 10 #[.val (.ref a1), .val (.ref a2)] [])) _
    refine XS.aloadN X4.here hx rfl (hb hby d10_10) rfl rfl ?_
    show Steps p.tables e below (T4.setTop (mkF m 11 #[.val (.ref a1), .val (.ref a2)] [(.ref a1)])) _
    refine XS.aloadN X4.here hx rfl (hb hby d10_11) rfl rfl ?_
    show Steps p.tables e below (T4.setTop (mkF m 12 #[.val (.ref a1), .val (.ref a2)] [(.ref a2), (.ref a1)])) _
    refine XS.aloadN X4.here hx rfl (hb hby d10_12) rfl rfl ?_
    show Steps p.tables e below (T4.setTop (mkF m 13 #[.val (.ref a1), .val (.ref a2)] [(.ref a1), (.ref a2), (.ref a1)])) _
    refine st5 _ ?_
    show Steps p.tables e below (T5.setTop (mkF m 16 #[.val (.ref a1), .val (.ref a2)] [(.ref d0), (.ref a2), (.ref a1)])) _
    refine XS.aloadN X5.here hx rfl (hb hby d10_16) rfl rfl ?_
    show Steps p.tables e below (T5.setTop (mkF m 17 #[.val (.ref a1), .val (.ref a2)] [(.ref a1), (.ref d0), (.ref a2), (.ref a1)])) _
    refine st6 _ ?_
    show Steps p.tables e below (T6.setTop (mkF m 20 #[.val (.ref a1), .val (.ref a2)] [(.int (0 : Int32)), (.ref d0), (.ref a2), (.ref a1)])) _
    refine st7.trans ?_
    show Steps p.tables e below (T7.setTop (mkF m 23 #[.val (.ref a1), .val (.ref a2)] [])) _
    refine XS.iconst X7.here hx rfl (hb hby d10_23) ?_
    show Steps p.tables e below (T7.setTop (mkF m 24 #[.val (.ref a1), .val (.ref a2)] [(.int (1 : Int32))])) _
    exact retN X7 hx (t := .boolean) Bd.returns (by simp) (hb hby d10_24) hr
  · show Q10A Z a1 a2 d0 mc cl_d0 h0 n0 _ T7.heap _
    exact ⟨rfl, N7, Oq7, Lq7⟩
def Q10B (Z : State) (a1 : Addr) (a2 : Addr) (d0 : Addr) (mc : Int32) (ab : Addr) (n : Nat) (h0 : Heap) (n0 : Nat) (v : Option Value) (h : Heap) (L : List Loc) : Prop := v = some (.int (1 : Int32)) ∧ Fr n0 L ∧ Old Z n0 h ∧ own_L Z h n0 a1 d0 (n + 1)
set_option maxRecDepth 65536 in
set_option maxHeartbeats 40000000 in
theorem rm10B (l : Launch) (Z : State) (a0 : Array Value) (hw : ∀ d ∈ tables_1, d.before a0 Z = true) (ws : List Jvm.Cond) (a1 : Addr) (a2 : Addr) (d0 : Addr) (mc : Int32) (ab : Addr) (n : Nat) (h0 : Heap) (n0 : Nat) (Z0 : n0 ≤ h0.size) (O0 : Old Z n0 h0) (E_a1 : Exa Z h0 a1 "java/util/ArrayList") (Fmc : Fld Z h0 a1 "java/util/AbstractList" "modCount" "I" (.int mc)) (Fsz : Fld Z h0 a1 "java/util/ArrayList" "size" "I" (.int (Int32.ofNat n))) (Fed : Fld Z h0 a1 "java/util/ArrayList" "elementData" "[Ljava/lang/Object;" (.ref ab)) (g_a1 : n0 ≤ a1) (g_ab : n0 ≤ ab) (ne_a1_ab : a1 ≠ ab) (Iy : Ins Z h0 a2 "java/lang/Object" true) (AR : own_AR Z h0 ab) (hn1 : 0 < n) (hn2 : n < 10) :
    MetFree l (⟨"java/util/ArrayList", "add", "(Ljava/lang/Object;)Z"⟩ : MethodName) (head1 (Jvm.Cond.code (⟨"java/util/ArrayList", "add", "(Ljava/lang/Object;)Z"⟩ : MethodName) jdk_38_method_25_code 2 (some .boolean) :: ws) ({ frames := 4, cells := 1, slots := 10, locals := 57 } : Room)) (fun a U => a = #[(.ref a1), (.ref a2)] ∧ Z.Warmed39 U.vm ∧ U.heap = h0) (fun _ _ _ _ _ => True) (fun _ U o U' => ∃ v L, o = .returned v ∧ Q10B Z a1 a2 d0 mc ab n h0 n0 v U'.heap L ∧ FrameEnd U o U' L ({ frames := 4, cells := 1, slots := 10, locals := 57 } : Room).cells ({ frames := 4, cells := 1, slots := 10, locals := 57 } : Room).slots) := by
  refine MetFree.of_bodySF (plainFor_of_name pn_10) hisR ?_
  intro p e s m args below meth c s₁ Bd hml0 hP hK
  obtain ⟨rfl, hZ, hh⟩ := hP
  have hx := Bd.exec
  have hby := Bd.bytes
  have hml : c.maxLocals = 2 := hml0
  have hown : s.vm.findClass "java/util/ArrayList" = some m.cls := findClass_of_methodNamed Bd.named
  have hnm := (name_of_methodNamed Bd.named Bd.method).1
  have X0 : Stand p l e ({ frames := 4, cells := 1, slots := 10, locals := 57 } : Room) s m #[(.ref a1), (.ref a2)] below meth c s₁ [] 0 0 := Stand.of_body Bd
  have e0 : s₁.heap = h0 := by rw [← hh, Bd.state]; rfl
  have N0 := Fr.nil n0
  have pre0 : ∀ t, Steps p.tables e below (s₁.setTop (mkF m 0 #[.val (.ref a1), .val (.ref a2)] [])) t → Steps p.tables e below (s₁.setTop (entryFrame m #[(.ref a1), (.ref a2)] 2)) t := fun t k => castTop (ef_10 m a1 a2) k
  obtain ⟨T3, X3, e3, st3⟩ := getF X0 hx hZ hown (host := "") (Or.inl (hw _ (List.mem_of_getElem? (i := 64) rfl))) (Via.of (hw _ (List.mem_of_getElem? (i := 65) rfl))) e0 Fmc (g := (mkF m 2 #[.val (.ref a1), .val (.ref a2)] [(.ref a1), (.ref a1)])) rfl rfl (hb hby d10_2)
  obtain ⟨T4, h4, X4, e4, W4, st4⟩ := putF X3 hx hZ hown (host := "") (Or.inl (hw _ (List.mem_of_getElem? (i := 64) rfl))) (Via.of (hw _ (List.mem_of_getElem? (i := 65) rfl))) e3 Fmc E_a1 (Or.inl (hw _ (List.mem_of_getElem? (i := 22) rfl))) (hw _ (List.mem_of_getElem? (i := 1) rfl)) (ty := .int) (by decide) rfl rfl (g := (mkF m 7 #[.val (.ref a1), .val (.ref a2)] [(.int (mc + (1 : Int32))), (.ref a1)])) rfl rfl (hb hby d10_7)
  have Fw4 := Fmc.same W4
  have N4 := Fr.snoc X4 N0 g_a1
  obtain ⟨T5, X5, e5, st5⟩ := getF X4 hx hZ hown (host := "") (Or.inl (hw _ (List.mem_of_getElem? (i := 24) rfl))) Via.refl e4 (Fed.other W4 (Or.inr (slot_ne (Or.inl (hw _ (List.mem_of_getElem? (i := 25) rfl))) (Or.inl (hw _ (List.mem_of_getElem? (i := 22) rfl))) (by decide) (t := (.array (.object "java/lang/Object"))) (t' := .int) (by decide) (by decide)))) (g := (mkF m 13 #[.val (.ref a1), .val (.ref a2)] [(.ref a1), (.ref a2), (.ref a1)])) rfl rfl (hb hby d10_13)
  obtain ⟨T6, X6, e6, st6⟩ := getF X5 hx hZ hown (host := "") (Or.inl (hw _ (List.mem_of_getElem? (i := 66) rfl))) Via.refl e5 (Fsz.other W4 (Or.inr (slot_ne (Or.inl (hw _ (List.mem_of_getElem? (i := 67) rfl))) (Or.inl (hw _ (List.mem_of_getElem? (i := 22) rfl))) (by decide) (t := .int) (t' := .int) (by decide) (by decide)))) (g := (mkF m 17 #[.val (.ref a1), .val (.ref a2)] [(.ref a1), (.ref ab), (.ref a2), (.ref a1)])) rfl rfl (hb hby d10_17)
  obtain ⟨cq7, q7, q7'⟩ := (E_a1.wr W4).cell
  obtain ⟨_, _, ⟨T7, L7, k7, n7⟩, -, X7, ⟨Lc7, hQ7, l7, y7, z7⟩, st7⟩ := X6.privateBack hx (y := (⟨"java/util/ArrayList", "add", "(Ljava/lang/Object;[Ljava/lang/Object;I)V"⟩ : MethodName)) hown (mvT hZ (hw _ (List.mem_of_getElem? (i := 68) rfl))) (mvT hZ (hw _ (List.mem_of_getElem? (i := 69) rfl))) (mvT hZ (hw _ (List.mem_of_getElem? (i := 71) rfl))) (Cond.privateMethod_at (mvP hZ (hw _ (List.mem_of_getElem? (i := 70) rfl)) (args := #[]))) (mvT hZ (hw _ (List.mem_of_getElem? (i := 72) rfl))) (by decide) (backOf (W := 0) (rm11B l Z a0 hw [] a1 a2 ab d0 (mc + (1 : Int32)) n h4 n0 (Nat.le_trans Z0 (Keep.of_wr W4).1) (O0.wr W4 g_a1) (E_a1.wr W4) Fw4 (Fsz.other W4 (Or.inr (slot_ne (Or.inl (hw _ (List.mem_of_getElem? (i := 67) rfl))) (Or.inl (hw _ (List.mem_of_getElem? (i := 22) rfl))) (by decide) (t := .int) (t' := .int) (by decide) (by decide)))) (Fed.other W4 (Or.inr (slot_ne (Or.inl (hw _ (List.mem_of_getElem? (i := 25) rfl))) (Or.inl (hw _ (List.mem_of_getElem? (i := 22) rfl))) (by decide) (t := (.array (.object "java/lang/Object"))) (t' := .int) (by decide) (by decide)))) g_a1 g_ab ne_a1_ab (Ins.wr W4 Iy) (AR.other W4 (Ne.symm ne_a1_ab)) hn1 hn2) hZ (hw _ (List.mem_of_getElem? (i := 72) rfl)) (hw _ (List.mem_of_getElem? (i := 2) rfl)) (by decide) (by decide)) (g := (mkF m 20 #[.val (.ref a1), .val (.ref a2)] [(.int (Int32.ofNat n)), (.ref ab), (.ref a2), (.ref a1)])) rfl (by rw [hml]; rfl) (Steps.refl _) (a := a1) (by rw [e6]; exact q7) q7' (argsL := [(.ref a2), (.ref ab), (.int (Int32.ofNat n))]) (rest := []) (lenOf pd_10_7 rfl) rfl (by show 2 * 0 + _ ≤ _; exact Nat.le_of_eq rfl) (hb hby d10_20) (fun _ _ => ⟨rfl, e6, (by decide : 0 + 0 ≤ _), (by decide : 0 + 0 ≤ _)⟩)
  dsimp only [Pt.U, Pt.locs, Pt.cells, Pt.slots] at X7 l7 y7 z7 st7 hQ7
  subst l7 y7 z7
  obtain ⟨rfl, N7q, Oq7, Lq7⟩ := hQ7
  have N7 := Fr.app N4 N7q
  obtain ⟨fs, hr, hrun, hended, hW, hsame⟩ := X7.leave (v := some (.int (1 : Int32))) (fun h => by rw [Bd.returns] at h; cases h)
  refine ⟨_, _, pre0 _ ?_, hrun, hended, _, _, rfl, ?_, ⟨_, rfl⟩, hW, hsame.mono (by decide) (by decide)⟩
  · show Steps p.tables e below (s₁.setTop (mkF m 0 #[.val (.ref a1), .val (.ref a2)] [])) _
    refine XS.aloadN X0.here hx rfl (hb hby d10_0) rfl rfl ?_
    show Steps p.tables e below (s₁.setTop (mkF m 1 #[.val (.ref a1), .val (.ref a2)] [(.ref a1)])) _
    refine XS.dup X0.here hx rfl (hb hby d10_1) rfl rfl ?_
    show Steps p.tables e below (s₁.setTop (mkF m 2 #[.val (.ref a1), .val (.ref a2)] [(.ref a1), (.ref a1)])) _
    refine st3 _ ?_
    show Steps p.tables e below (T3.setTop (mkF m 5 #[.val (.ref a1), .val (.ref a2)] [(.int mc), (.ref a1)])) _
    refine XS.iconst X3.here hx rfl (hb hby d10_5) ?_
    show Steps p.tables e below (T3.setTop (mkF m 6 #[.val (.ref a1), .val (.ref a2)] [(.int (1 : Int32)), (.int mc), (.ref a1)])) _
    refine XS.iadd X3.here hx rfl (hb hby d10_6) rfl ?_
    show Steps p.tables e below (T3.setTop (mkF m 7 #[.val (.ref a1), .val (.ref a2)] [(.int (mc + (1 : Int32))), (.ref a1)])) _
    refine st4 _ ?_
    show Steps p.tables e below (T4.setTop (mkF m 10 #[.val (.ref a1), .val (.ref a2)] [])) _
    refine XS.aloadN X4.here hx rfl (hb hby d10_10) rfl rfl ?_
    show Steps p.tables e below (T4.setTop (mkF m 11 #[.val (.ref a1), .val (.ref a2)] [(.ref a1)])) _
    refine XS.aloadN X4.here hx rfl (hb hby d10_11) rfl rfl ?_
    show Steps p.tables e below (T4.setTop (mkF m 12 #[.val (.ref a1), .val (.ref a2)] [(.ref a2), (.ref a1)])) _
    refine XS.aloadN X4.here hx rfl (hb hby d10_12) rfl rfl ?_
    show Steps p.tables e below (T4.setTop (mkF m 13 #[.val (.ref a1), .val (.ref a2)] [(.ref a1), (.ref a2), (.ref a1)])) _
    refine st5 _ ?_
    show Steps p.tables e below (T5.setTop (mkF m 16 #[.val (.ref a1), .val (.ref a2)] [(.ref ab), (.ref a2), (.ref a1)])) _
    refine XS.aloadN X5.here hx rfl (hb hby d10_16) rfl rfl ?_
    show Steps p.tables e below (T5.setTop (mkF m 17 #[.val (.ref a1), .val (.ref a2)] [(.ref a1), (.ref ab), (.ref a2), (.ref a1)])) _
    refine st6 _ ?_
    show Steps p.tables e below (T6.setTop (mkF m 20 #[.val (.ref a1), .val (.ref a2)] [(.int (Int32.ofNat n)), (.ref ab), (.ref a2), (.ref a1)])) _
    refine st7.trans ?_
    show Steps p.tables e below (T7.setTop (mkF m 23 #[.val (.ref a1), .val (.ref a2)] [])) _
    refine XS.iconst X7.here hx rfl (hb hby d10_23) ?_
    show Steps p.tables e below (T7.setTop (mkF m 24 #[.val (.ref a1), .val (.ref a2)] [(.int (1 : Int32))])) _
    exact retN X7 hx (t := .boolean) Bd.returns (by simp) (hb hby d10_24) hr
  · show Q10B Z a1 a2 d0 mc ab n h0 n0 _ T7.heap _
    exact ⟨rfl, N7, Oq7, Lq7⟩
def Q10 (Z : State) (a1 : Addr) (a2 : Addr) (d0 : Addr) (n : Nat) (h0 : Heap) (n0 : Nat) (v : Option Value) (h : Heap) (L : List Loc) : Prop := v = some (.int (1 : Int32)) ∧ Fr n0 L ∧ Old Z n0 h ∧ own_L Z h n0 a1 d0 (n + 1)
set_option maxRecDepth 65536 in
set_option maxHeartbeats 40000000 in
theorem rm10 (l : Launch) (Z : State) (a0 : Array Value) (hw : ∀ d ∈ tables_1, d.before a0 Z = true) (ws : List Jvm.Cond) (a1 : Addr) (a2 : Addr) (d0 : Addr) (cl_d0 : Cell) (n : Nat) (h0 : Heap) (n0 : Nat) (O0 : Old Z n0 h0) (SD : Sta Z Z.heap "java/util/ArrayList" "DEFAULTCAPACITY_EMPTY_ELEMENTDATA" "[Ljava/lang/Object;" (.ref d0)) (AD : Arr Z Z.heap d0 cl_d0 (.object "java/lang/Object")) (S_d0 : cl_d0.slots.size = (0 : Int32).toNatClampNeg) (g_a1 : n0 ≤ a1) (Iy : Ins Z h0 a2 "java/lang/Object" true) (HL : own_L Z h0 n0 a1 d0 n) (hn2 : n < 10) :
    MetFree l (⟨"java/util/ArrayList", "add", "(Ljava/lang/Object;)Z"⟩ : MethodName) (head1 (Jvm.Cond.code (⟨"java/util/ArrayList", "add", "(Ljava/lang/Object;)Z"⟩ : MethodName) jdk_38_method_25_code 2 (some .boolean) :: ws) ({ frames := 4, cells := 1, slots := 10, locals := 57 } : Room)) (fun a U => a = #[(.ref a1), (.ref a2)] ∧ Z.Warmed39 U.vm ∧ U.heap = h0) (fun _ _ _ _ _ => True) (fun _ U o U' => ∃ v L, o = .returned v ∧ Q10 Z a1 a2 d0 n h0 n0 v U'.heap L ∧ FrameEnd U o U' L ({ frames := 4, cells := 1, slots := 10, locals := 57 } : Room).cells ({ frames := 4, cells := 1, slots := 10, locals := 57 } : Room).slots) := by
  obtain ⟨E, ⟨mc, F1⟩, F2, ⟨rfl, F3⟩ | ⟨hn, b, gb, nb, F3, A⟩⟩ := HL
  · exact rm10A l Z a0 hw ws a1 a2 d0 mc cl_d0 h0 n0 (own_osz O0) O0 SD AD S_d0 E F1 F2 F3 g_a1 Iy
  · exact rm10B l Z a0 hw ws a1 a2 d0 mc b n h0 n0 (own_osz O0) O0 E F1 F2 F3 g_a1 gb (Ne.symm nb) Iy A hn hn2
theorem d8_0 : decode jdk_43_method_46_code 0 = .ok (.iconst 1, 1) := by decide +kernel
theorem d8_1 : decode jdk_43_method_46_code 1 = .ok (.newarray .byte, 2) := by decide +kernel
theorem d8_3 : decode jdk_43_method_46_code 3 = .ok (.dup, 1) := by decide +kernel
theorem d8_4 : decode jdk_43_method_46_code 4 = .ok (.iconst 0, 1) := by decide +kernel
theorem d8_5 : decode jdk_43_method_46_code 5 = .ok (.iload_n 0, 1) := by decide +kernel
theorem d8_6 : decode jdk_43_method_46_code 6 = .ok (.i2b, 1) := by decide +kernel
theorem d8_7 : decode jdk_43_method_46_code 7 = .ok (.bastore, 1) := by decide +kernel
theorem d8_8 : decode jdk_43_method_46_code 8 = .ok (.areturn, 1) := by decide +kernel
theorem pn_8 : plainName "java/lang/StringLatin1" = true := by first | (simp [plainName, overriddenIn]; done) | decide +kernel
theorem ef_8 (m : MethodId) (x0 : Int32) : entryFrame m #[(.int x0)] 1 = mkF m 0 #[.val (.int x0)] [] := by first | (simp [entryFrame, mkF, argsToLocals, Value.category]; done) | rfl
def Q8 (Z : State) (p1 : Int32) (h0 : Heap) (n0 : Nat) (v : Option Value) (h : Heap) (L : List Loc) : Prop := ∃ b : Addr, v = some (.ref b) ∧ Fr n0 L ∧ Keep h0 h []
set_option maxRecDepth 65536 in
set_option maxHeartbeats 40000000 in
theorem rm8 (l : Launch) (Z : State) (a0 : Array Value) (hw : ∀ d ∈ tables_1, d.before a0 Z = true) (ws : List Jvm.Cond) (p1 : Int32) (h0 : Heap) (n0 : Nat) (Z0 : n0 ≤ h0.size) :
    MetFree l (⟨"java/lang/StringLatin1", "toBytes", "(C)[B"⟩ : MethodName) (head1 (Jvm.Cond.code (⟨"java/lang/StringLatin1", "toBytes", "(C)[B"⟩ : MethodName) jdk_43_method_46_code 1 (some (.array .byte)) :: ws) ({ frames := 0, cells := 1, slots := 1, locals := 0 } : Room)) (fun a U => a = #[(.int p1)] ∧ Z.Warmed39 U.vm ∧ U.heap = h0) (fun _ _ _ _ _ => True) (fun _ U o U' => ∃ v L, o = .returned v ∧ Q8 Z p1 h0 n0 v U'.heap L ∧ FrameEnd U o U' L ({ frames := 0, cells := 1, slots := 1, locals := 0 } : Room).cells ({ frames := 0, cells := 1, slots := 1, locals := 0 } : Room).slots) := by
  refine MetFree.of_bodySF (plainFor_of_name pn_8) hisR ?_
  intro p e s m args below meth c s₁ Bd hml0 hP hK
  obtain ⟨rfl, hZ, hh⟩ := hP
  have hx := Bd.exec
  have hby := Bd.bytes
  have hml : c.maxLocals = 1 := hml0
  have hown : s.vm.findClass "java/lang/StringLatin1" = some m.cls := findClass_of_methodNamed Bd.named
  have hnm := (name_of_methodNamed Bd.named Bd.method).1
  have X0 : Stand p l e ({ frames := 0, cells := 1, slots := 1, locals := 0 } : Room) s m #[(.int p1)] below meth c s₁ [] 0 0 := Stand.of_body Bd
  have e0 : s₁.heap = h0 := by rw [← hh, Bd.state]; rfl
  have N0 := Fr.nil n0
  have pre0 : ∀ t, Steps p.tables e below (s₁.setTop (mkF m 0 #[.val (.int p1)] [])) t → Steps p.tables e below (s₁.setTop (entryFrame m #[(.int p1)] 1)) t := fun t k => castTop (ef_8 m p1) k
  obtain ⟨T2, h2, k2, X2, e2, E2, A2, st2⟩ := newP X0 hx hZ (hw _ (List.mem_of_getElem? (i := 45) rfl)) e0 (g := (mkF m 1 #[.val (.int p1)] [(.int (1 : Int32))])) rfl (hb hby d8_1) rfl (by decide) (cap := 1) (by decide) (by decide) (by decide) (by decide)
  obtain ⟨b2, g2⟩ : ∃ z, z = h0.size := ⟨_, rfl⟩
  rw [← g2] at A2 st2
  have V_b2 : Arv Z h2 b2 k2 .byte (1 : Int32) [(.int (0 : Int32))] (.int (0 : Int32)) := (Arv.new A2 (by decide)).pad (pad_rep [] (.int (0 : Int32)) 1)
  have g_b2 : n0 ≤ b2 := Nat.le_trans Z0 (Nat.le_of_eq g2.symm)
  have sz_b2 : h0.size ≤ b2 := (Nat.le_trans (Keep.refl h0 []).1 (Nat.le_of_eq g2.symm))
  have K2 : Keep h0 h2 [] := (Keep.refl h0 []).ext E2
  obtain ⟨cl_b2_7, Ar_b2, q_b2, S_b2, N_b2, H_b2, G_b2⟩ := V_b2
  have hin7 : ¬ ((0 : Int32) < 0 ∨ cl_b2_7.slots.size ≤ ((0 : Int32)).toNatClampNeg) := inb_of S_b2 ⟨by decide, by decide⟩
  obtain ⟨T3, h3, X3, e3, W3, st3⟩ := stB X2 hx hZ e2 Ar_b2 (j := (0 : Int32)) hin7 (g := (mkF m 7 #[.val (.int p1)] [(.int (p1.toInt8.toInt32)), (.int (0 : Int32)), (.ref b2), (.ref b2)])) rfl rfl (hb hby d8_7)
  have V_b2_3 := Arv.set Ar_b2 q_b2 S_b2 N_b2 H_b2 G_b2 (fits_nar_byte _) W3 0 rfl (Nat.le_of_ble_eq_true rfl)
  have K3 : Keep h0 h3 [] := K2.wr W3 (Or.inr sz_b2)
  have N3 := Fr.snoc X3 N0 g_b2
  obtain ⟨fs, hr, hrun, hended, hW, hsame⟩ := X3.leave (v := some (.ref b2)) (fun h => by rw [Bd.returns] at h; cases h)
  refine ⟨_, _, pre0 _ ?_, hrun, hended, _, _, rfl, ?_, ⟨_, rfl⟩, hW, hsame.mono (by decide) (by decide)⟩
  · show Steps p.tables e below (s₁.setTop (mkF m 0 #[.val (.int p1)] [])) _
    refine XS.iconst X0.here hx rfl (hb hby d8_0) ?_
    show Steps p.tables e below (s₁.setTop (mkF m 1 #[.val (.int p1)] [(.int (1 : Int32))])) _
    refine st2 _ ?_
    show Steps p.tables e below (T2.setTop (mkF m 3 #[.val (.int p1)] [(.ref b2)])) _
    refine XS.dup X2.here hx rfl (hb hby d8_3) rfl rfl ?_
    show Steps p.tables e below (T2.setTop (mkF m 4 #[.val (.int p1)] [(.ref b2), (.ref b2)])) _
    refine XS.iconst X2.here hx rfl (hb hby d8_4) ?_
    show Steps p.tables e below (T2.setTop (mkF m 5 #[.val (.int p1)] [(.int (0 : Int32)), (.ref b2), (.ref b2)])) _
    refine XS.iloadN X2.here hx rfl (hb hby d8_5) rfl ?_
    show Steps p.tables e below (T2.setTop (mkF m 6 #[.val (.int p1)] [(.int p1), (.int (0 : Int32)), (.ref b2), (.ref b2)])) _
    refine XS.i2b X2.here hx rfl (hb hby d8_6) rfl ?_
    show Steps p.tables e below (T2.setTop (mkF m 7 #[.val (.int p1)] [(.int (p1.toInt8.toInt32)), (.int (0 : Int32)), (.ref b2), (.ref b2)])) _
    refine st3 _ ?_
    show Steps p.tables e below (T3.setTop (mkF m 8 #[.val (.int p1)] [(.ref b2)])) _
    jvm_step X3.here [X3.here.top, hx, (hb hby d8_8), X3.method', Bd.returns, Value.isRef, FieldType.isReference]
    first | (intro acts; rw [hr _ acts rfl rfl rfl]) | rw [hr _ _ rfl rfl rfl]
    exact Steps.refl _
  · show Q8 Z p1 h0 n0 _ T3.heap _
    rw [e3]
    exact ⟨b2, rfl, N3, K3⟩
theorem d9_0 : decode jdk_42_method_151_code 0 = .ok (.aload_n 0, 1) := by decide +kernel
theorem d9_1 : decode jdk_42_method_151_code 1 = .ok (.invokespecial 1, 3) := by decide +kernel
theorem d9_4 : decode jdk_42_method_151_code 4 = .ok (.aload_n 0, 1) := by decide +kernel
theorem d9_5 : decode jdk_42_method_151_code 5 = .ok (.aload_n 1, 1) := by decide +kernel
theorem d9_6 : decode jdk_42_method_151_code 6 = .ok (.putfield 9, 3) := by decide +kernel
theorem d9_9 : decode jdk_42_method_151_code 9 = .ok (.aload_n 0, 1) := by decide +kernel
theorem d9_10 : decode jdk_42_method_151_code 10 = .ok (.iload_n 2, 1) := by decide +kernel
theorem d9_11 : decode jdk_42_method_151_code 11 = .ok (.putfield 15, 3) := by decide +kernel
theorem d9_14 : decode jdk_42_method_151_code 14 = .ok (.return_, 1) := by decide +kernel
theorem pn_9 : plainName "java/lang/String" = true := by first | (simp [plainName, overriddenIn]; done) | decide +kernel
theorem ef_9 (m : MethodId) (x0 : Addr) (x1 : Addr) (x2 : Int32) : entryFrame m #[(.ref x0), (.ref x1), (.int x2)] 3 = mkF m 0 #[.val (.ref x0), .val (.ref x1), .val (.int x2)] [] := by first | (simp [entryFrame, mkF, argsToLocals, Value.category]; done) | rfl
def Q9 (Z : State) (a1 : Addr) (a2 : Addr) (p3 : Int32) (u_value_a1 : Value) (u_coder_a1 : Value) (h0 : Heap) (n0 : Nat) (v : Option Value) (h : Heap) (L : List Loc) : Prop := v = none ∧ Fr n0 L ∧ Keep h0 h [a1] ∧ Exa Z h a1 "java/lang/String"
set_option maxRecDepth 65536 in
set_option maxHeartbeats 40000000 in
theorem rm9 (l : Launch) (Z : State) (a0 : Array Value) (hw : ∀ d ∈ tables_1, d.before a0 Z = true) (ws : List Jvm.Cond) (a1 : Addr) (a2 : Addr) (p3 : Int32) (u_value_a1 : Value) (u_coder_a1 : Value) (h0 : Heap) (n0 : Nat) (Z0 : n0 ≤ h0.size) (E_a1 : Exa Z h0 a1 "java/lang/String") (F_value_a1 : Fld Z h0 a1 "java/lang/String" "value" "[B" u_value_a1) (g_a1 : n0 ≤ a1) (F_coder_a1 : Fld Z h0 a1 "java/lang/String" "coder" "B" u_coder_a1) :
    MetFree l (⟨"java/lang/String", "<init>", "([BB)V"⟩ : MethodName) (head1 (Jvm.Cond.code (⟨"java/lang/String", "<init>", "([BB)V"⟩ : MethodName) jdk_42_method_151_code 3 none :: ws) ({ frames := 1, cells := 0, slots := 0, locals := 12 } : Room)) (fun a U => a = #[(.ref a1), (.ref a2), (.int p3)] ∧ Z.Warmed39 U.vm ∧ U.heap = h0) (fun _ _ _ _ _ => True) (fun _ U o U' => ∃ v L, o = .returned v ∧ Q9 Z a1 a2 p3 u_value_a1 u_coder_a1 h0 n0 v U'.heap L ∧ FrameEnd U o U' L ({ frames := 1, cells := 0, slots := 0, locals := 12 } : Room).cells ({ frames := 1, cells := 0, slots := 0, locals := 12 } : Room).slots) := by
  refine MetFree.of_bodySF (plainFor_of_name pn_9) hisR ?_
  intro p e s m args below meth c s₁ Bd hml0 hP hK
  obtain ⟨rfl, hZ, hh⟩ := hP
  have hx := Bd.exec
  have hby := Bd.bytes
  have hml : c.maxLocals = 3 := hml0
  have hown : s.vm.findClass "java/lang/String" = some m.cls := findClass_of_methodNamed Bd.named
  have hnm := (name_of_methodNamed Bd.named Bd.method).1
  have X0 : Stand p l e ({ frames := 1, cells := 0, slots := 0, locals := 12 } : Room) s m #[(.ref a1), (.ref a2), (.int p3)] below meth c s₁ [] 0 0 := Stand.of_body Bd
  have e0 : s₁.heap = h0 := by rw [← hh, Bd.state]; rfl
  have N0 := Fr.nil n0
  have pre0 : ∀ t, Steps p.tables e below (s₁.setTop (mkF m 0 #[.val (.ref a1), .val (.ref a2), .val (.int p3)] [])) t → Steps p.tables e below (s₁.setTop (entryFrame m #[(.ref a1), (.ref a2), (.int p3)] 3)) t := fun t k => castTop (ef_9 m a1 a2 p3) k
  obtain ⟨T4, X4, e4, st4⟩ := initO X0 hx hZ hown (hw _ (List.mem_of_getElem? (i := 50) rfl)) (hw _ (List.mem_of_getElem? (i := 19) rfl)) (hw _ (List.mem_of_getElem? (i := 20) rfl)) e0 (g := (mkF m 1 #[.val (.ref a1), .val (.ref a2), .val (.int p3)] [(.ref a1)])) rfl (by rw [hml]; rfl) rfl (hb hby d9_1) (by decide) (W := 0) (by show 2 * 0 + _ ≤ _; exact Nat.le_of_eq rfl) (by decide)
  obtain ⟨T5, h5, X5, e5, W5, st5⟩ := putF X4 hx hZ hown (host := "") (Or.inl (hw _ (List.mem_of_getElem? (i := 51) rfl))) Via.refl e4 F_value_a1 E_a1 (Or.inr ⟨(hw _ (List.mem_of_getElem? (i := 52) rfl)), rfl, hnm⟩) (hw _ (List.mem_of_getElem? (i := 41) rfl)) (ty := (.array .byte)) (by decide) rfl rfl (g := (mkF m 6 #[.val (.ref a1), .val (.ref a2), .val (.int p3)] [(.ref a2), (.ref a1)])) rfl rfl (hb hby d9_6)
  have Fw5 := F_value_a1.same W5
  have K5 : Keep h0 h5 [a1] := (Keep.refl h0 [a1]).wr W5 (Or.inl (List.mem_of_getElem? (i := 0) rfl))
  have N5 := Fr.snoc X5 N0 g_a1
  obtain ⟨T6, h6, X6, e6, W6, st6⟩ := putFN X5 hx hZ hown (hw _ (List.mem_of_getElem? (i := 53) rfl)) Via.refl e5 (F_coder_a1.other W5 (Or.inr (slot_ne (Or.inr (hw _ (List.mem_of_getElem? (i := 54) rfl))) (Or.inr (hw _ (List.mem_of_getElem? (i := 52) rfl))) (by decide) (t := .byte) (t' := (.array .byte)) (by decide) (by decide)))) (E_a1.wr W5) (Or.inr ⟨(hw _ (List.mem_of_getElem? (i := 54) rfl)), rfl, hnm⟩) (hw _ (List.mem_of_getElem? (i := 41) rfl)) (ty := .byte) (v' := (.int (p3.toInt8.toInt32))) (by decide) rfl (fits_nar_byte _) (g := (mkF m 11 #[.val (.ref a1), .val (.ref a2), .val (.int p3)] [(.int p3), (.ref a1)])) rfl rfl (hb hby d9_11)
  have Fw6 := (F_coder_a1.other W5 (Or.inr (slot_ne (Or.inr (hw _ (List.mem_of_getElem? (i := 54) rfl))) (Or.inr (hw _ (List.mem_of_getElem? (i := 52) rfl))) (by decide) (t := .byte) (t' := (.array .byte)) (by decide) (by decide)))).same W6
  have K6 : Keep h0 h6 [a1] := K5.wr W6 (Or.inl (List.mem_of_getElem? (i := 0) rfl))
  have N6 := Fr.snoc X6 N5 g_a1
  obtain ⟨fs, hr, hrun, hended, hW, hsame⟩ := X6.leave (v := none) (fun _ => rfl)
  refine ⟨_, _, pre0 _ ?_, hrun, hended, _, _, rfl, ?_, ⟨_, rfl⟩, hW, hsame.mono (by decide) (by decide)⟩
  · show Steps p.tables e below (s₁.setTop (mkF m 0 #[.val (.ref a1), .val (.ref a2), .val (.int p3)] [])) _
    refine XS.aloadN X0.here hx rfl (hb hby d9_0) rfl rfl ?_
    show Steps p.tables e below (s₁.setTop (mkF m 1 #[.val (.ref a1), .val (.ref a2), .val (.int p3)] [(.ref a1)])) _
    refine st4 _ ?_
    show Steps p.tables e below (T4.setTop (mkF m 4 #[.val (.ref a1), .val (.ref a2), .val (.int p3)] [])) _
    refine XS.aloadN X4.here hx rfl (hb hby d9_4) rfl rfl ?_
    show Steps p.tables e below (T4.setTop (mkF m 5 #[.val (.ref a1), .val (.ref a2), .val (.int p3)] [(.ref a1)])) _
    refine XS.aloadN X4.here hx rfl (hb hby d9_5) rfl rfl ?_
    show Steps p.tables e below (T4.setTop (mkF m 6 #[.val (.ref a1), .val (.ref a2), .val (.int p3)] [(.ref a2), (.ref a1)])) _
    refine st5 _ ?_
    show Steps p.tables e below (T5.setTop (mkF m 9 #[.val (.ref a1), .val (.ref a2), .val (.int p3)] [])) _
    refine XS.aloadN X5.here hx rfl (hb hby d9_9) rfl rfl ?_
    show Steps p.tables e below (T5.setTop (mkF m 10 #[.val (.ref a1), .val (.ref a2), .val (.int p3)] [(.ref a1)])) _
    refine XS.iloadN X5.here hx rfl (hb hby d9_10) rfl ?_
    show Steps p.tables e below (T5.setTop (mkF m 11 #[.val (.ref a1), .val (.ref a2), .val (.int p3)] [(.int p3), (.ref a1)])) _
    refine st6 _ ?_
    show Steps p.tables e below (T6.setTop (mkF m 14 #[.val (.ref a1), .val (.ref a2), .val (.int p3)] [])) _
    exact X6.returnOut hx Bd.returns (hb hby d9_14) hr
  · show Q9 Z a1 a2 p3 u_value_a1 u_coder_a1 h0 n0 _ T6.heap _
    rw [e6]
    exact ⟨rfl, N6, K6, ((E_a1.wr W5).wr W6)⟩
theorem d7_0 : decode jdk_43_method_3_code 0 = .ok (.iload_n 0, 1) := by decide +kernel
theorem d7_1 : decode jdk_43_method_3_code 1 = .ok (.sipush 255, 3) := by decide +kernel
theorem d7_4 : decode jdk_43_method_3_code 4 = .ok (.if_icmp .gt 7, 3) := by decide +kernel
theorem d7_7 : decode jdk_43_method_3_code 7 = .ok (.iconst 1, 1) := by decide +kernel
theorem d7_8 : decode jdk_43_method_3_code 8 = .ok (.goto 4, 3) := by decide +kernel
theorem d7_12 : decode jdk_43_method_3_code 12 = .ok (.ireturn, 1) := by decide +kernel
theorem pn_7 : plainName "java/lang/StringLatin1" = true := by first | (simp [plainName, overriddenIn]; done) | decide +kernel
theorem ef_7 (m : MethodId) (x0 : Int32) : entryFrame m #[(.int x0)] 1 = mkF m 0 #[.val (.int x0)] [] := by first | (simp [entryFrame, mkF, argsToLocals, Value.category]; done) | rfl
def Q7 (Z : State) (p1 : Int32) (h0 : Heap) (n0 : Nat) (v : Option Value) (h : Heap) (L : List Loc) : Prop := v = some (.int (1 : Int32)) ∧ Fr n0 L ∧ h = h0
set_option maxRecDepth 65536 in
set_option maxHeartbeats 40000000 in
theorem rm7 (l : Launch) (Z : State) (a0 : Array Value) (hw : ∀ d ∈ tables_1, d.before a0 Z = true) (ws : List Jvm.Cond) (p1 : Int32) (h0 : Heap) (n0 : Nat) (Z0 : n0 ≤ h0.size) (hc4 : ¬ ((255 : Int32) < p1)) :
    MetFree l (⟨"java/lang/StringLatin1", "canEncode", "(C)Z"⟩ : MethodName) (head1 (Jvm.Cond.code (⟨"java/lang/StringLatin1", "canEncode", "(C)Z"⟩ : MethodName) jdk_43_method_3_code 1 (some .boolean) :: ws) ({ frames := 0, cells := 0, slots := 0, locals := 0 } : Room)) (fun a U => a = #[(.int p1)] ∧ Z.Warmed39 U.vm ∧ U.heap = h0) (fun _ _ _ _ _ => True) (fun _ U o U' => ∃ v L, o = .returned v ∧ Q7 Z p1 h0 n0 v U'.heap L ∧ FrameEnd U o U' L ({ frames := 0, cells := 0, slots := 0, locals := 0 } : Room).cells ({ frames := 0, cells := 0, slots := 0, locals := 0 } : Room).slots) := by
  refine MetFree.of_bodySF (plainFor_of_name pn_7) hisR ?_
  intro p e s m args below meth c s₁ Bd hml0 hP hK
  obtain ⟨rfl, hZ, hh⟩ := hP
  have hx := Bd.exec
  have hby := Bd.bytes
  have hml : c.maxLocals = 1 := hml0
  have hown : s.vm.findClass "java/lang/StringLatin1" = some m.cls := findClass_of_methodNamed Bd.named
  have hnm := (name_of_methodNamed Bd.named Bd.method).1
  have X0 : Stand p l e ({ frames := 0, cells := 0, slots := 0, locals := 0 } : Room) s m #[(.int p1)] below meth c s₁ [] 0 0 := Stand.of_body Bd
  have e0 : s₁.heap = h0 := by rw [← hh, Bd.state]; rfl
  have N0 := Fr.nil n0
  have pre0 : ∀ t, Steps p.tables e below (s₁.setTop (mkF m 0 #[.val (.int p1)] [])) t → Steps p.tables e below (s₁.setTop (entryFrame m #[(.int p1)] 1)) t := fun t k => castTop (ef_7 m p1) k

  obtain ⟨fs, hr, hrun, hended, hW, hsame⟩ := X0.leave (v := some (.int (1 : Int32))) (fun h => by rw [Bd.returns] at h; cases h)
  refine ⟨_, _, pre0 _ ?_, hrun, hended, _, _, rfl, ?_, ⟨_, rfl⟩, hW, hsame.mono (by decide) (by decide)⟩
  · show Steps p.tables e below (s₁.setTop (mkF m 0 #[.val (.int p1)] [])) _
    refine XS.iloadN X0.here hx rfl (hb hby d7_0) rfl ?_
    show Steps p.tables e below (s₁.setTop (mkF m 1 #[.val (.int p1)] [(.int p1)])) _
    refine XS.sipush X0.here hx rfl (hb hby d7_1) ?_
    show Steps p.tables e below (s₁.setTop (mkF m 4 #[.val (.int p1)] [(.int (255 : Int32)), (.int p1)])) _
    refine XS.icmpNo X0.here hx rfl (hb hby d7_4) rfl (flt hc4).2.2.1 ?_
    show Steps p.tables e below (s₁.setTop (mkF m 7 #[.val (.int p1)] [])) _
    refine XS.iconst X0.here hx rfl (hb hby d7_7) ?_
    show Steps p.tables e below (s₁.setTop (mkF m 8 #[.val (.int p1)] [(.int (1 : Int32))])) _
    refine XS.goto X0.here hx rfl (pc0 := 8) (pc' := 12) rfl (hb hby d7_8) (by decide) (by decide) ?_
    show Steps p.tables e below (s₁.setTop (mkF m 12 #[.val (.int p1)] [(.int (1 : Int32))])) _
    exact retN X0 hx (t := .boolean) Bd.returns (by simp) (hb hby d7_12) hr
  · show Q7 Z p1 h0 n0 _ s₁.heap _
    rw [e0]
    exact ⟨rfl, N0, rfl⟩
theorem d6_0 : decode jdk_42_method_139_code 0 = .ok (.getstatic 38, 3) := by decide +kernel
theorem d6_3 : decode jdk_42_method_139_code 3 = .ok (.ifCond .eq 23, 3) := by decide +kernel
theorem d6_6 : decode jdk_42_method_139_code 6 = .ok (.iload_n 0, 1) := by decide +kernel
theorem d6_7 : decode jdk_42_method_139_code 7 = .ok (.invokestatic 1015, 3) := by decide +kernel
theorem d6_10 : decode jdk_42_method_139_code 10 = .ok (.ifCond .eq 16, 3) := by decide +kernel
theorem d6_13 : decode jdk_42_method_139_code 13 = .ok (.new 10, 3) := by decide +kernel
theorem d6_16 : decode jdk_42_method_139_code 16 = .ok (.dup, 1) := by decide +kernel
theorem d6_17 : decode jdk_42_method_139_code 17 = .ok (.iload_n 0, 1) := by decide +kernel
theorem d6_18 : decode jdk_42_method_139_code 18 = .ok (.invokestatic 1018, 3) := by decide +kernel
theorem d6_21 : decode jdk_42_method_139_code 21 = .ok (.iconst 0, 1) := by decide +kernel
theorem d6_22 : decode jdk_42_method_139_code 22 = .ok (.invokespecial 209, 3) := by decide +kernel
theorem d6_25 : decode jdk_42_method_139_code 25 = .ok (.areturn, 1) := by decide +kernel
theorem pn_6 : plainName "java/lang/String" = true := by first | (simp [plainName, overriddenIn]; done) | decide +kernel
theorem pd_6_3 : parseMethodDescriptor "(C)Z" = some ⟨[.char], some .boolean⟩ := by decide +kernel
theorem pd_6_4 : parseMethodDescriptor "(C)[B" = some ⟨[.char], some (.array .byte)⟩ := by decide +kernel
theorem pd_6_5 : parseMethodDescriptor "([BB)V" = some ⟨[(.array .byte), .byte], none⟩ := by decide +kernel
theorem ef_6 (m : MethodId) (x0 : Int32) : entryFrame m #[(.int x0)] 1 = mkF m 0 #[.val (.int x0)] [] := by first | (simp [entryFrame, mkF, argsToLocals, Value.category]; done) | rfl
def Q6 (Z : State) (p1 : Int32) (cs : Int32) (h0 : Heap) (n0 : Nat) (v : Option Value) (h : Heap) (L : List Loc) : Prop := ∃ b : Addr, v = some (.ref b) ∧ Fr n0 L ∧ Keep h0 h [] ∧ Exa Z h b "java/lang/String"
set_option maxRecDepth 65536 in
set_option maxHeartbeats 40000000 in
theorem rm6 (l : Launch) (Z : State) (a0 : Array Value) (hw : ∀ d ∈ tables_1, d.before a0 Z = true) (ws : List Jvm.Cond) (p1 : Int32) (cs : Int32) (h0 : Heap) (n0 : Nat) (Z0 : n0 ≤ h0.size) (O0 : Old Z n0 h0) (SC : Sta Z Z.heap "java/lang/String" "COMPACT_STRINGS" "Z" (.int cs)) (hp : ¬ ((255 : Int32) < p1)) (hc3 : ¬ (cs = (0 : Int32))) :
    MetFree l (⟨"java/lang/String", "valueOf", "(C)Ljava/lang/String;"⟩ : MethodName) (head1 (Jvm.Cond.code (⟨"java/lang/String", "valueOf", "(C)Ljava/lang/String;"⟩ : MethodName) jdk_42_method_139_code 1 (some (.object "java/lang/String")) :: ws) ({ frames := 2, cells := 2, slots := 5, locals := 28 } : Room)) (fun a U => a = #[(.int p1)] ∧ Z.Warmed39 U.vm ∧ U.heap = h0) (fun _ _ _ _ _ => True) (fun _ U o U' => ∃ v L, o = .returned v ∧ Q6 Z p1 cs h0 n0 v U'.heap L ∧ FrameEnd U o U' L ({ frames := 2, cells := 2, slots := 5, locals := 28 } : Room).cells ({ frames := 2, cells := 2, slots := 5, locals := 28 } : Room).slots) := by
  refine MetFree.of_bodySF (plainFor_of_name pn_6) hisR ?_
  intro p e s m args below meth c s₁ Bd hml0 hP hK
  obtain ⟨rfl, hZ, hh⟩ := hP
  have hx := Bd.exec
  have hby := Bd.bytes
  have hml : c.maxLocals = 1 := hml0
  have hown : s.vm.findClass "java/lang/String" = some m.cls := findClass_of_methodNamed Bd.named
  have hnm := (name_of_methodNamed Bd.named Bd.method).1
  have X0 : Stand p l e ({ frames := 2, cells := 2, slots := 5, locals := 28 } : Room) s m #[(.int p1)] below meth c s₁ [] 0 0 := Stand.of_body Bd
  have e0 : s₁.heap = h0 := by rw [← hh, Bd.state]; rfl
  have N0 := Fr.nil n0
  have pre0 : ∀ t, Steps p.tables e below (s₁.setTop (mkF m 0 #[.val (.int p1)] [])) t → Steps p.tables e below (s₁.setTop (entryFrame m #[(.int p1)] 1)) t := fun t k => castTop (ef_6 m p1) k
  have hc10 : ¬ ((1 : Int32) = (0 : Int32)) := by decide
  obtain ⟨T2, X2, e2, st2⟩ := getS2 X0 hx hZ hown (host := "") (Or.inl (hw _ (List.mem_of_getElem? (i := 35) rfl))) Via.refl e0 (SC.ext O0.2) (g := (mkF m 0 #[.val (.int p1)] [])) rfl (hb hby d6_0)
  obtain ⟨_, _, ⟨T3, L3, k3, n3⟩, -, X3, ⟨Lc3, hQ3, l3, y3, z3⟩, st3⟩ := Jvm.LawKit.callS X2 hx (y := (⟨"java/lang/StringLatin1", "canEncode", "(C)Z"⟩ : MethodName)) hown (mvT hZ (hw _ (List.mem_of_getElem? (i := 36) rfl))) (mvT hZ (hw _ (List.mem_of_getElem? (i := 37) rfl))) (mvT hZ (hw _ (List.mem_of_getElem? (i := 38) rfl))) (mvT hZ (hw _ (List.mem_of_getElem? (i := 39) rfl))) (by decide) (backOf (W := 0) (rm7 l Z a0 hw [] p1  h0 n0 Z0 hp) hZ (hw _ (List.mem_of_getElem? (i := 39) rfl)) (hw _ (List.mem_of_getElem? (i := 38) rfl)) (by decide) (by decide)) (g := (mkF m 7 #[.val (.int p1)] [(.int p1)])) rfl (by rw [hml]; rfl) (argsL := [(.int p1)]) (rest := []) (lenOf pd_6_3 rfl) rfl (by show 2 * 0 + _ ≤ _; exact Nat.le_of_eq rfl) (hb hby d6_7) (fun _ _ => ⟨rfl, e2, (by decide : 0 + 0 ≤ _), (by decide : 0 + 0 ≤ _)⟩)
  dsimp only [Pt.U, Pt.locs, Pt.cells, Pt.slots] at X3 l3 y3 z3 st3 hQ3
  subst l3 y3 z3
  obtain ⟨rfl, N3q, e3⟩ := hQ3
  have N3 := Fr.app N0 N3q
  obtain ⟨T4, h4, X4, e4, E4, A4, D4, -, st4⟩ := newO X3 hx hZ hown (hw _ (List.mem_of_getElem? (i := 40) rfl)) (hw _ (List.mem_of_getElem? (i := 41) rfl)) (hw _ (List.mem_of_getElem? (i := 33) rfl)) e3 (g := (mkF m 13 #[.val (.int p1)] [])) rfl (hb hby d6_13) (by decide) (by decide)
  obtain ⟨b4, g4⟩ : ∃ z, z = h0.size := ⟨_, rfl⟩
  rw [← g4] at A4 D4 st4
  have F_value_b4 : Fld Z h4 b4 "java/lang/String" "value" "[B" .null := D4 (Or.inr (hw _ (List.mem_of_getElem? (i := 52) rfl))) (ty := (.array .byte)) (by decide)
  have F_coder_b4 : Fld Z h4 b4 "java/lang/String" "coder" "B" (.int (0 : Int32)) := D4 (Or.inr (hw _ (List.mem_of_getElem? (i := 54) rfl))) (ty := .byte) (by decide)
  have E_b4 := A4
  have g_b4 : n0 ≤ b4 := Nat.le_trans Z0 (Nat.le_of_eq g4.symm)
  have sz_b4 : h0.size ≤ b4 := (Nat.le_trans (Keep.refl h0 []).1 (Nat.le_of_eq g4.symm))
  obtain ⟨_, _, ⟨T5, L5, k5, n5⟩, -, X5, ⟨Lc5, hQ5, l5, y5, z5⟩, st5⟩ := Jvm.LawKit.callS X4 hx (y := (⟨"java/lang/StringLatin1", "toBytes", "(C)[B"⟩ : MethodName)) hown (mvT hZ (hw _ (List.mem_of_getElem? (i := 42) rfl))) (mvT hZ (hw _ (List.mem_of_getElem? (i := 43) rfl))) (mvT hZ (hw _ (List.mem_of_getElem? (i := 38) rfl))) (mvT hZ (hw _ (List.mem_of_getElem? (i := 44) rfl))) (by decide) (backOf (W := 2) (rm8 l Z a0 hw [] p1  h4 n0 (Nat.le_trans Z0 E4.1)) hZ (hw _ (List.mem_of_getElem? (i := 44) rfl)) (hw _ (List.mem_of_getElem? (i := 38) rfl)) (by decide) (by decide)) (g := (mkF m 18 #[.val (.int p1)] [(.int p1), (.ref b4), (.ref b4)])) rfl (by rw [hml]; rfl) (argsL := [(.int p1)]) (rest := [(.ref b4), (.ref b4)]) (lenOf pd_6_4 rfl) rfl (by show 2 * 0 + _ ≤ _; exact Nat.le_of_eq rfl) (hb hby d6_18) (fun _ _ => ⟨rfl, e4, (by decide : 1 + 1 ≤ _), (by decide : 4 + 1 ≤ _)⟩)
  dsimp only [Pt.U, Pt.locs, Pt.cells, Pt.slots] at X5 l5 y5 z5 st5 hQ5
  subst l5 y5 z5
  obtain ⟨bq5, rfl, N5q, Kq5⟩ := hQ5
  have N5 := Fr.app N3 N5q
  obtain ⟨_, _, ⟨T6, L6, k6, n6⟩, -, X6, ⟨Lc6, hQ6, l6, y6, z6⟩, st6⟩ := X5.specialBack hx (y := (⟨"java/lang/String", "<init>", "([BB)V"⟩ : MethodName)) rfl hown (mvT hZ (hw _ (List.mem_of_getElem? (i := 46) rfl))) (mvT hZ (hw _ (List.mem_of_getElem? (i := 47) rfl))) (mvT hZ (hw _ (List.mem_of_getElem? (i := 49) rfl))) (by decide) (backOf (W := 1) (rm9 l Z a0 hw [] b4 bq5 (0 : Int32) .null (.int (0 : Int32)) T5.heap n0 (Nat.le_trans (Nat.le_trans Z0 E4.1) Kq5.1) (E_b4.keep Kq5) (F_value_b4.keep Kq5 List.not_mem_nil) g_b4 (F_coder_b4.keep Kq5 List.not_mem_nil)) hZ (hw _ (List.mem_of_getElem? (i := 49) rfl)) (hw _ (List.mem_of_getElem? (i := 33) rfl)) (by decide) (by decide)) (g := (mkF m 22 #[.val (.int p1)] [(.int (0 : Int32)), (.ref bq5), (.ref b4), (.ref b4)])) rfl (by rw [hml]; rfl) (Steps.refl _) (a := b4) (argsL := [(.ref bq5), (.int (0 : Int32))]) (rest := [(.ref b4)]) (lenOf pd_6_5 rfl) rfl (by show 2 * 0 + _ ≤ _; exact Nat.le_of_eq rfl) (hb hby d6_22) (fun _ _ => ⟨rfl, rfl, (by decide : 2 + 0 ≤ _), (by decide : 5 + 0 ≤ _)⟩)
  dsimp only [Pt.U, Pt.locs, Pt.cells, Pt.slots] at X6 l6 y6 z6 st6 hQ6
  subst l6 y6 z6
  obtain ⟨rfl, N6q, Kq6, Ex6⟩ := hQ6
  have N6 := Fr.app N5 N6q
  obtain ⟨fs, hr, hrun, hended, hW, hsame⟩ := X6.leave (v := some (.ref b4)) (fun h => by rw [Bd.returns] at h; cases h)
  refine ⟨_, _, pre0 _ ?_, hrun, hended, _, _, rfl, ?_, ⟨_, rfl⟩, hW, hsame.mono (by decide) (by decide)⟩
  · show Steps p.tables e below (s₁.setTop (mkF m 0 #[.val (.int p1)] [])) _
    refine st2 _ ?_
    show Steps p.tables e below (T2.setTop (mkF m 3 #[.val (.int p1)] [(.int cs)])) _
    refine XS.ifNo X2.here hx rfl (hb hby d6_3) rfl ((if0 _ _).trans (feq hc3).1) ?_
    show Steps p.tables e below (T2.setTop (mkF m 6 #[.val (.int p1)] [])) _
    refine XS.iloadN X2.here hx rfl (hb hby d6_6) rfl ?_
    show Steps p.tables e below (T2.setTop (mkF m 7 #[.val (.int p1)] [(.int p1)])) _
    refine st3 _ ?_
    show Steps p.tables e below (T3.setTop (mkF m 10 #[.val (.int p1)] [(.int (1 : Int32))])) _
    refine XS.ifNo X3.here hx rfl (hb hby d6_10) rfl ((if0 _ _).trans (feq hc10).1) ?_
    show Steps p.tables e below (T3.setTop (mkF m 13 #[.val (.int p1)] [])) _
    refine st4 _ ?_
    show Steps p.tables e below (T4.setTop (mkF m 16 #[.val (.int p1)] [(.ref b4)])) _
    refine XS.dup X4.here hx rfl (hb hby d6_16) rfl rfl ?_
    show Steps p.tables e below (T4.setTop (mkF m 17 #[.val (.int p1)] [(.ref b4), (.ref b4)])) _
    refine XS.iloadN X4.here hx rfl (hb hby d6_17) rfl ?_
    show Steps p.tables e below (T4.setTop (mkF m 18 #[.val (.int p1)] [(.int p1), (.ref b4), (.ref b4)])) _
    refine st5 _ ?_
    show Steps p.tables e below (T5.setTop (mkF m 21 #[.val (.int p1)] [(.ref bq5), (.ref b4), (.ref b4)])) _
    refine XS.iconst X5.here hx rfl (hb hby d6_21) ?_
    show Steps p.tables e below (T5.setTop (mkF m 22 #[.val (.int p1)] [(.int (0 : Int32)), (.ref bq5), (.ref b4), (.ref b4)])) _
    refine st6.trans ?_
    show Steps p.tables e below (T6.setTop (mkF m 25 #[.val (.int p1)] [(.ref b4)])) _
    jvm_step X6.here [X6.here.top, hx, (hb hby d6_25), X6.method', Bd.returns, Value.isRef, FieldType.isReference]
    first | (intro acts; rw [hr _ acts rfl rfl rfl]) | rw [hr _ _ rfl rfl rfl]
    exact Steps.refl _
  · show Q6 Z p1 cs h0 n0 _ T6.heap _
    exact ⟨b4, rfl, N6, (((Keep.refl h0 []).ext E4).trans Kq5 (fun _ q_ => absurd q_ List.not_mem_nil)).trans Kq6 (fun x_ q_ => Or.inr ((List.mem_singleton.mp q_).symm ▸ sz_b4)), Ex6⟩
theorem own_and64 (x : Int64) : ∃ n : Nat, n < 256 ∧ (x &&& (255 : Int64)) = Int64.ofNat n := by
  refine ⟨x.toBitVec.toNat % 2 ^ 8, Nat.mod_lt _ (by decide), ?_⟩
  apply Int64.toBitVec_inj.mp
  apply BitVec.eq_of_toNat_eq
  rw [Int64.toBitVec_and, BitVec.toNat_and]
  show x.toBitVec.toNat &&& (2 ^ 8 - 1) = (BitVec.ofNat 64 _).toNat
  rw [Nat.and_two_pow_sub_one_eq_mod, BitVec.toNat_ofNat]
  omega
theorem own_and (x : Int32) (k : Nat) (hk : k < 32) (m : Int32) (hm : m.toBitVec.toNat = 2 ^ k - 1) : ∃ n : Nat, n < 2 ^ k ∧ (x &&& m) = Int32.ofNat n := by
  refine ⟨x.toBitVec.toNat % 2 ^ k, Nat.mod_lt _ (Nat.two_pow_pos k), ?_⟩
  apply Int32.toBitVec_inj.mp
  apply BitVec.eq_of_toNat_eq
  rw [Int32.toBitVec_and, BitVec.toNat_and, hm, Nat.and_two_pow_sub_one_eq_mod]
  show _ = (BitVec.ofNat 32 _).toNat
  rw [BitVec.toNat_ofNat]
  exact (Nat.mod_eq_of_lt (Nat.lt_of_lt_of_le (Nat.mod_lt _ (Nat.two_pow_pos k)) (Nat.pow_le_pow_right (by decide) (Nat.le_of_lt hk)))).symm
set_option maxRecDepth 65536 in
theorem own_char64 (x : Int64) : ¬ ((255 : Int32) < (((x &&& (255 : Int64)).toInt32).toUInt32.toUInt16.toUInt32.toInt32)) := by
  obtain ⟨n, h, e⟩ := own_and64 x
  rw [e]
  have all : ∀ n : Fin 256, ¬ ((255 : Int32) < (((Int64.ofNat n.val).toInt32).toUInt32.toUInt16.toUInt32.toInt32)) := by decide +kernel
  exact all ⟨n, h⟩
set_option maxRecDepth 65536 in
theorem own_char32 (x : Int32) : ¬ ((255 : Int32) < ((x &&& (255 : Int32)).toUInt32.toUInt16.toUInt32.toInt32)) := by
  obtain ⟨n, h, e⟩ := own_and x 8 (by decide) 255 rfl
  rw [e]
  have all : ∀ n : Fin 256, ¬ ((255 : Int32) < ((Int32.ofNat n.val).toUInt32.toUInt16.toUInt32.toInt32)) := by decide +kernel
  exact all ⟨n, h⟩
theorem d5_0 : decode method_2_code 0 = .ok (.lload_n 0, 1) := by decide +kernel
theorem d5_1 : decode method_2_code 1 = .ok (.bipush 8, 2) := by decide +kernel
theorem d5_3 : decode method_2_code 3 = .ok (.iload_n 2, 1) := by decide +kernel
theorem d5_4 : decode method_2_code 4 = .ok (.imul, 1) := by decide +kernel
theorem d5_5 : decode method_2_code 5 = .ok (.lushr, 1) := by decide +kernel
theorem d5_6 : decode method_2_code 6 = .ok (.ldc2_w 7, 3) := by decide +kernel
theorem d5_9 : decode method_2_code 9 = .ok (.land, 1) := by decide +kernel
theorem d5_10 : decode method_2_code 10 = .ok (.l2i, 1) := by decide +kernel
theorem d5_11 : decode method_2_code 11 = .ok (.i2c, 1) := by decide +kernel
theorem d5_12 : decode method_2_code 12 = .ok (.invokestatic 9, 3) := by decide +kernel
theorem d5_15 : decode method_2_code 15 = .ok (.areturn, 1) := by decide +kernel
theorem pn_5 : plainName "com/example/ordinal_lock/ordinallock/protocol/WithinLimitTurnPinLaw" = true := by first | (simp [plainName, overriddenIn]; done) | decide +kernel
theorem pd_5_2 : parseMethodDescriptor "(C)Ljava/lang/String;" = some ⟨[.char], some (.object "java/lang/String")⟩ := by decide +kernel
theorem ef_5 (m : MethodId) (x0 : Int64) (x1 : Int32) : entryFrame m #[(.long x0), (.int x1)] 3 = mkF m 0 #[.val (.long x0), .second, .val (.int x1)] [] := by first | (simp [entryFrame, mkF, argsToLocals, Value.category]; done) | rfl
def Q5 (Z : State) (q1 : Int64) (p2 : Int32) (cs : Int32) (h0 : Heap) (n0 : Nat) (v : Option Value) (h : Heap) (L : List Loc) : Prop := ∃ b : Addr, v = some (.ref b) ∧ Fr n0 L ∧ Keep h0 h [] ∧ Exa Z h b "java/lang/String"
set_option maxRecDepth 65536 in
set_option maxHeartbeats 40000000 in
theorem rm5 (l : Launch) (Z : State) (a0 : Array Value) (hw : ∀ d ∈ tables_1, d.before a0 Z = true) (ws : List Jvm.Cond) (q1 : Int64) (p2 : Int32) (cs : Int32) (h0 : Heap) (n0 : Nat) (Z0 : n0 ≤ h0.size) (O0 : Old Z n0 h0) (SC : Sta Z Z.heap "java/lang/String" "COMPACT_STRINGS" "Z" (.int cs)) (hcs : ¬ (cs = (0 : Int32))) :
    MetFree l (⟨"com/example/ordinal_lock/ordinallock/protocol/WithinLimitTurnPinLaw", "ch", "(JI)Ljava/lang/String;"⟩ : MethodName) (head1 (Jvm.Cond.code (⟨"com/example/ordinal_lock/ordinallock/protocol/WithinLimitTurnPinLaw", "ch", "(JI)Ljava/lang/String;"⟩ : MethodName) method_2_code 3 (some (.object "java/lang/String")) :: ws) ({ frames := 3, cells := 2, slots := 5, locals := 40 } : Room)) (fun a U => a = #[(.long q1), (.int p2)] ∧ Z.Warmed39 U.vm ∧ U.heap = h0) (fun _ _ _ _ _ => True) (fun _ U o U' => ∃ v L, o = .returned v ∧ Q5 Z q1 p2 cs h0 n0 v U'.heap L ∧ FrameEnd U o U' L ({ frames := 3, cells := 2, slots := 5, locals := 40 } : Room).cells ({ frames := 3, cells := 2, slots := 5, locals := 40 } : Room).slots) := by
  refine MetFree.of_bodySF (plainFor_of_name pn_5) hisR ?_
  intro p e s m args below meth c s₁ Bd hml0 hP hK
  obtain ⟨rfl, hZ, hh⟩ := hP
  have hx := Bd.exec
  have hby := Bd.bytes
  have hml : c.maxLocals = 3 := hml0
  have hown : s.vm.findClass "com/example/ordinal_lock/ordinallock/protocol/WithinLimitTurnPinLaw" = some m.cls := findClass_of_methodNamed Bd.named
  have hnm := (name_of_methodNamed Bd.named Bd.method).1
  have X0 : Stand p l e ({ frames := 3, cells := 2, slots := 5, locals := 40 } : Room) s m #[(.long q1), (.int p2)] below meth c s₁ [] 0 0 := Stand.of_body Bd
  have e0 : s₁.heap = h0 := by rw [← hh, Bd.state]; rfl
  have N0 := Fr.nil n0
  have pre0 : ∀ t, Steps p.tables e below (s₁.setTop (mkF m 0 #[.val (.long q1), .second, .val (.int p2)] [])) t → Steps p.tables e below (s₁.setTop (entryFrame m #[(.long q1), (.int p2)] 3)) t := fun t k => castTop (ef_5 m q1 p2) k
  obtain ⟨_, _, ⟨T3, L3, k3, n3⟩, -, X3, ⟨Lc3, hQ3, l3, y3, z3⟩, st3⟩ := Jvm.LawKit.callS X0 hx (y := (⟨"java/lang/String", "valueOf", "(C)Ljava/lang/String;"⟩ : MethodName)) hown (mvT hZ (hw _ (List.mem_of_getElem? (i := 31) rfl))) (mvT hZ (hw _ (List.mem_of_getElem? (i := 32) rfl))) (mvT hZ (hw _ (List.mem_of_getElem? (i := 33) rfl))) (mvT hZ (hw _ (List.mem_of_getElem? (i := 34) rfl))) (by decide) (backOf (W := 0) (rm6 l Z a0 hw [] (((((q1.toUInt64 >>> (((8 : Int32) * p2) &&& 0x3f).toInt64.toUInt64).toInt64) &&& (255 : Int64)).toInt32).toUInt32.toUInt16.toUInt32.toInt32) cs h0 n0 Z0 O0 SC (own_char64 _) hcs) hZ (hw _ (List.mem_of_getElem? (i := 34) rfl)) (hw _ (List.mem_of_getElem? (i := 33) rfl)) (by decide) (by decide)) (g := (mkF m 12 #[.val (.long q1), .second, .val (.int p2)] [(.int (((((q1.toUInt64 >>> (((8 : Int32) * p2) &&& 0x3f).toInt64.toUInt64).toInt64) &&& (255 : Int64)).toInt32).toUInt32.toUInt16.toUInt32.toInt32))])) rfl (by rw [hml]; rfl) (argsL := [(.int (((((q1.toUInt64 >>> (((8 : Int32) * p2) &&& 0x3f).toInt64.toUInt64).toInt64) &&& (255 : Int64)).toInt32).toUInt32.toUInt16.toUInt32.toInt32))]) (rest := []) (lenOf pd_5_2 rfl) rfl (by show 2 * 0 + _ ≤ _; exact Nat.le_of_eq rfl) (hb hby d5_12) (fun _ _ => ⟨rfl, e0, (by decide : 0 + 2 ≤ _), (by decide : 0 + 5 ≤ _)⟩)
  dsimp only [Pt.U, Pt.locs, Pt.cells, Pt.slots] at X3 l3 y3 z3 st3 hQ3
  subst l3 y3 z3
  obtain ⟨bq3, rfl, N3q, Kq3, Ex3⟩ := hQ3
  have N3 := Fr.app N0 N3q
  obtain ⟨fs, hr, hrun, hended, hW, hsame⟩ := X3.leave (v := some (.ref bq3)) (fun h => by rw [Bd.returns] at h; cases h)
  refine ⟨_, _, pre0 _ ?_, hrun, hended, _, _, rfl, ?_, ⟨_, rfl⟩, hW, hsame.mono (by decide) (by decide)⟩
  · show Steps p.tables e below (s₁.setTop (mkF m 0 #[.val (.long q1), .second, .val (.int p2)] [])) _
    refine XS.lloadN X0.here hx rfl (hb hby d5_0) rfl ?_
    show Steps p.tables e below (s₁.setTop (mkF m 1 #[.val (.long q1), .second, .val (.int p2)] [(.long q1)])) _
    refine XS.bipush X0.here hx rfl (hb hby d5_1) ?_
    show Steps p.tables e below (s₁.setTop (mkF m 3 #[.val (.long q1), .second, .val (.int p2)] [(.int (8 : Int32)), (.long q1)])) _
    refine XS.iloadN X0.here hx rfl (hb hby d5_3) rfl ?_
    show Steps p.tables e below (s₁.setTop (mkF m 4 #[.val (.long q1), .second, .val (.int p2)] [(.int p2), (.int (8 : Int32)), (.long q1)])) _
    refine XS.imul X0.here hx rfl (hb hby d5_4) rfl ?_
    show Steps p.tables e below (s₁.setTop (mkF m 5 #[.val (.long q1), .second, .val (.int p2)] [(.int ((8 : Int32) * p2)), (.long q1)])) _
    refine XS.lushr X0.here hx rfl (hb hby d5_5) rfl ?_
    show Steps p.tables e below (s₁.setTop (mkF m 6 #[.val (.long q1), .second, .val (.int p2)] [(.long ((q1.toUInt64 >>> (((8 : Int32) * p2) &&& 0x3f).toInt64.toUInt64).toInt64))])) _
    refine X0.ldc2Long hx hown (mvT hZ (hw _ (List.mem_of_getElem? (i := 30) rfl))) (g := (mkF m 6 #[.val (.long q1), .second, .val (.int p2)] [(.long ((q1.toUInt64 >>> (((8 : Int32) * p2) &&& 0x3f).toInt64.toUInt64).toInt64))])) rfl (hb hby d5_6) _ ?_
    show Steps p.tables e below (s₁.setTop (mkF m 9 #[.val (.long q1), .second, .val (.int p2)] [(.long (255 : Int64)), (.long ((q1.toUInt64 >>> (((8 : Int32) * p2) &&& 0x3f).toInt64.toUInt64).toInt64))])) _
    refine XS.land X0.here hx rfl (hb hby d5_9) rfl ?_
    show Steps p.tables e below (s₁.setTop (mkF m 10 #[.val (.long q1), .second, .val (.int p2)] [(.long (((q1.toUInt64 >>> (((8 : Int32) * p2) &&& 0x3f).toInt64.toUInt64).toInt64) &&& (255 : Int64)))])) _
    refine XS.l2i X0.here hx rfl (hb hby d5_10) rfl ?_
    show Steps p.tables e below (s₁.setTop (mkF m 11 #[.val (.long q1), .second, .val (.int p2)] [(.int ((((q1.toUInt64 >>> (((8 : Int32) * p2) &&& 0x3f).toInt64.toUInt64).toInt64) &&& (255 : Int64)).toInt32))])) _
    refine XS.i2c X0.here hx rfl (hb hby d5_11) rfl ?_
    show Steps p.tables e below (s₁.setTop (mkF m 12 #[.val (.long q1), .second, .val (.int p2)] [(.int (((((q1.toUInt64 >>> (((8 : Int32) * p2) &&& 0x3f).toInt64.toUInt64).toInt64) &&& (255 : Int64)).toInt32).toUInt32.toUInt16.toUInt32.toInt32))])) _
    refine st3 _ ?_
    show Steps p.tables e below (T3.setTop (mkF m 15 #[.val (.long q1), .second, .val (.int p2)] [(.ref bq3)])) _
    jvm_step X3.here [X3.here.top, hx, (hb hby d5_15), X3.method', Bd.returns, Value.isRef, FieldType.isReference]
    first | (intro acts; rw [hr _ acts rfl rfl rfl]) | rw [hr _ _ rfl rfl rfl]
    exact Steps.refl _
  · show Q5 Z q1 p2 cs h0 n0 _ T3.heap _
    exact ⟨bq3, rfl, N3, Kq3, Ex3⟩
theorem d16_0 : decode jdk_30_method_1_code 0 = .ok (.aload_n 0, 1) := by decide +kernel
theorem d16_1 : decode jdk_30_method_1_code 1 = .ok (.invokespecial 1, 3) := by decide +kernel
theorem d16_4 : decode jdk_30_method_1_code 4 = .ok (.return_, 1) := by decide +kernel
theorem pn_16 : plainName "java/lang/Record" = true := by first | (simp [plainName, overriddenIn]; done) | decide +kernel
theorem ef_16 (m : MethodId) (x0 : Addr) : entryFrame m #[(.ref x0)] 1 = mkF m 0 #[.val (.ref x0)] [] := by first | (simp [entryFrame, mkF, argsToLocals, Value.category]; done) | rfl
def Q16 (Z : State) (a1 : Addr) (h0 : Heap) (n0 : Nat) (v : Option Value) (h : Heap) (L : List Loc) : Prop := v = none ∧ Fr n0 L ∧ h = h0
set_option maxRecDepth 65536 in
set_option maxHeartbeats 40000000 in
theorem rm16 (l : Launch) (Z : State) (a0 : Array Value) (hw : ∀ d ∈ tables_1, d.before a0 Z = true) (ws : List Jvm.Cond) (a1 : Addr) (h0 : Heap) (n0 : Nat) (Z0 : n0 ≤ h0.size) :
    MetFree l (⟨"java/lang/Record", "<init>", "()V"⟩ : MethodName) (head1 (Jvm.Cond.code (⟨"java/lang/Record", "<init>", "()V"⟩ : MethodName) jdk_30_method_1_code 1 none :: ws) ({ frames := 1, cells := 0, slots := 0, locals := 12 } : Room)) (fun a U => a = #[(.ref a1)] ∧ Z.Warmed39 U.vm ∧ U.heap = h0) (fun _ _ _ _ _ => True) (fun _ U o U' => ∃ v L, o = .returned v ∧ Q16 Z a1 h0 n0 v U'.heap L ∧ FrameEnd U o U' L ({ frames := 1, cells := 0, slots := 0, locals := 12 } : Room).cells ({ frames := 1, cells := 0, slots := 0, locals := 12 } : Room).slots) := by
  refine MetFree.of_bodySF (plainFor_of_name pn_16) hisR ?_
  intro p e s m args below meth c s₁ Bd hml0 hP hK
  obtain ⟨rfl, hZ, hh⟩ := hP
  have hx := Bd.exec
  have hby := Bd.bytes
  have hml : c.maxLocals = 1 := hml0
  have hown : s.vm.findClass "java/lang/Record" = some m.cls := findClass_of_methodNamed Bd.named
  have hnm := (name_of_methodNamed Bd.named Bd.method).1
  have X0 : Stand p l e ({ frames := 1, cells := 0, slots := 0, locals := 12 } : Room) s m #[(.ref a1)] below meth c s₁ [] 0 0 := Stand.of_body Bd
  have e0 : s₁.heap = h0 := by rw [← hh, Bd.state]; rfl
  have N0 := Fr.nil n0
  have pre0 : ∀ t, Steps p.tables e below (s₁.setTop (mkF m 0 #[.val (.ref a1)] [])) t → Steps p.tables e below (s₁.setTop (entryFrame m #[(.ref a1)] 1)) t := fun t k => castTop (ef_16 m a1) k
  obtain ⟨T2, X2, e2, st2⟩ := initO X0 hx hZ hown (hw _ (List.mem_of_getElem? (i := 101) rfl)) (hw _ (List.mem_of_getElem? (i := 19) rfl)) (hw _ (List.mem_of_getElem? (i := 20) rfl)) e0 (g := (mkF m 1 #[.val (.ref a1)] [(.ref a1)])) rfl (by rw [hml]; rfl) rfl (hb hby d16_1) (by decide) (W := 0) (by show 2 * 0 + _ ≤ _; exact Nat.le_of_eq rfl) (by decide)
  obtain ⟨fs, hr, hrun, hended, hW, hsame⟩ := X2.leave (v := none) (fun _ => rfl)
  refine ⟨_, _, pre0 _ ?_, hrun, hended, _, _, rfl, ?_, ⟨_, rfl⟩, hW, hsame.mono (by decide) (by decide)⟩
  · show Steps p.tables e below (s₁.setTop (mkF m 0 #[.val (.ref a1)] [])) _
    refine XS.aloadN X0.here hx rfl (hb hby d16_0) rfl rfl ?_
    show Steps p.tables e below (s₁.setTop (mkF m 1 #[.val (.ref a1)] [(.ref a1)])) _
    refine st2 _ ?_
    show Steps p.tables e below (T2.setTop (mkF m 4 #[.val (.ref a1)] [])) _
    exact X2.returnOut hx Bd.returns (hb hby d16_4) hr
  · show Q16 Z a1 h0 n0 _ T2.heap _
    rw [e2]
    exact ⟨rfl, N0, rfl⟩
theorem d15_0 : decode prog_8_method_1_code 0 = .ok (.aload_n 0, 1) := by decide +kernel
theorem d15_1 : decode prog_8_method_1_code 1 = .ok (.invokespecial 1, 3) := by decide +kernel
theorem d15_4 : decode prog_8_method_1_code 4 = .ok (.iload_n 1, 1) := by decide +kernel
theorem d15_5 : decode prog_8_method_1_code 5 = .ok (.iconst 1, 1) := by decide +kernel
theorem d15_6 : decode prog_8_method_1_code 6 = .ok (.if_icmp .ge 17, 3) := by decide +kernel
theorem d15_23 : decode prog_8_method_1_code 23 = .ok (.aload_n 0, 1) := by decide +kernel
theorem d15_24 : decode prog_8_method_1_code 24 = .ok (.iload_n 1, 1) := by decide +kernel
theorem d15_25 : decode prog_8_method_1_code 25 = .ok (.putfield 16, 3) := by decide +kernel
theorem d15_28 : decode prog_8_method_1_code 28 = .ok (.return_, 1) := by decide +kernel
theorem pn_15 : plainName "com/example/ordinal_lock/ordinallock/protocol/TurnRule$WithinLimit" = true := by first | (simp [plainName, overriddenIn]; done) | decide +kernel
theorem pd_15_0 : parseMethodDescriptor "()V" = some ⟨[], none⟩ := by decide +kernel
theorem ef_15 (m : MethodId) (x0 : Addr) (x1 : Int32) : entryFrame m #[(.ref x0), (.int x1)] 2 = mkF m 0 #[.val (.ref x0), .val (.int x1)] [] := by first | (simp [entryFrame, mkF, argsToLocals, Value.category]; done) | rfl
def Q15 (Z : State) (a1 : Addr) (p2 : Int32) (u_limit_a1 : Value) (h0 : Heap) (n0 : Nat) (v : Option Value) (h : Heap) (L : List Loc) : Prop := v = none ∧ Fr n0 L ∧ Keep h0 h [a1] ∧ Exa Z h a1 "com/example/ordinal_lock/ordinallock/protocol/TurnRule$WithinLimit" ∧ Fld Z h a1 "com/example/ordinal_lock/ordinallock/protocol/TurnRule$WithinLimit" "limit" "I" (.int p2)
set_option maxRecDepth 65536 in
set_option maxHeartbeats 40000000 in
theorem rm15 (l : Launch) (Z : State) (a0 : Array Value) (hw : ∀ d ∈ tables_1, d.before a0 Z = true) (ws : List Jvm.Cond) (a1 : Addr) (p2 : Int32) (u_limit_a1 : Value) (h0 : Heap) (n0 : Nat) (Z0 : n0 ≤ h0.size) (E_a1 : Exa Z h0 a1 "com/example/ordinal_lock/ordinallock/protocol/TurnRule$WithinLimit") (F_limit_a1 : Fld Z h0 a1 "com/example/ordinal_lock/ordinallock/protocol/TurnRule$WithinLimit" "limit" "I" u_limit_a1) (g_a1 : n0 ≤ a1) (hc6 : ¬ (p2 < (1 : Int32))) :
    MetFree l (⟨"com/example/ordinal_lock/ordinallock/protocol/TurnRule$WithinLimit", "<init>", "(I)V"⟩ : MethodName) (head1 (Jvm.Cond.code (⟨"com/example/ordinal_lock/ordinallock/protocol/TurnRule$WithinLimit", "<init>", "(I)V"⟩ : MethodName) prog_8_method_1_code 2 none :: ws) ({ frames := 2, cells := 0, slots := 0, locals := 24 } : Room)) (fun a U => a = #[(.ref a1), (.int p2)] ∧ Z.Warmed39 U.vm ∧ U.heap = h0) (fun _ _ _ _ _ => True) (fun _ U o U' => ∃ v L, o = .returned v ∧ Q15 Z a1 p2 u_limit_a1 h0 n0 v U'.heap L ∧ FrameEnd U o U' L ({ frames := 2, cells := 0, slots := 0, locals := 24 } : Room).cells ({ frames := 2, cells := 0, slots := 0, locals := 24 } : Room).slots) := by
  refine MetFree.of_bodySF (plainFor_of_name pn_15) hisR ?_
  intro p e s m args below meth c s₁ Bd hml0 hP hK
  obtain ⟨rfl, hZ, hh⟩ := hP
  have hx := Bd.exec
  have hby := Bd.bytes
  have hml : c.maxLocals = 2 := hml0
  have hown : s.vm.findClass "com/example/ordinal_lock/ordinallock/protocol/TurnRule$WithinLimit" = some m.cls := findClass_of_methodNamed Bd.named
  have hnm := (name_of_methodNamed Bd.named Bd.method).1
  have X0 : Stand p l e ({ frames := 2, cells := 0, slots := 0, locals := 24 } : Room) s m #[(.ref a1), (.int p2)] below meth c s₁ [] 0 0 := Stand.of_body Bd
  have e0 : s₁.heap = h0 := by rw [← hh, Bd.state]; rfl
  have N0 := Fr.nil n0
  have pre0 : ∀ t, Steps p.tables e below (s₁.setTop (mkF m 0 #[.val (.ref a1), .val (.int p2)] [])) t → Steps p.tables e below (s₁.setTop (entryFrame m #[(.ref a1), (.int p2)] 2)) t := fun t k => castTop (ef_15 m a1 p2) k
  obtain ⟨_, _, ⟨T3, L3, k3, n3⟩, -, X3, ⟨Lc3, hQ3, l3, y3, z3⟩, st3⟩ := X0.specialBack hx (y := (⟨"java/lang/Record", "<init>", "()V"⟩ : MethodName)) rfl hown (mvT hZ (hw _ (List.mem_of_getElem? (i := 96) rfl))) (mvT hZ (hw _ (List.mem_of_getElem? (i := 97) rfl))) (mvT hZ (hw _ (List.mem_of_getElem? (i := 100) rfl))) (by decide) (backOf (W := 0) (rm16 l Z a0 hw [] a1  h0 n0 Z0) hZ (hw _ (List.mem_of_getElem? (i := 100) rfl)) (hw _ (List.mem_of_getElem? (i := 99) rfl)) (by decide) (by decide)) (g := (mkF m 1 #[.val (.ref a1), .val (.int p2)] [(.ref a1)])) rfl (by rw [hml]; rfl) (Steps.refl _) (a := a1) (argsL := []) (rest := []) (lenOf pd_15_0 rfl) rfl (by show 2 * 0 + _ ≤ _; exact Nat.le_of_eq rfl) (hb hby d15_1) (fun _ _ => ⟨rfl, e0, (by decide : 0 + 0 ≤ _), (by decide : 0 + 0 ≤ _)⟩)
  dsimp only [Pt.U, Pt.locs, Pt.cells, Pt.slots] at X3 l3 y3 z3 st3 hQ3
  subst l3 y3 z3
  obtain ⟨rfl, N3q, e3⟩ := hQ3
  have N3 := Fr.app N0 N3q
  obtain ⟨T4, h4, X4, e4, W4, st4⟩ := putF X3 hx hZ hown (host := "") (Or.inl (hw _ (List.mem_of_getElem? (i := 102) rfl))) Via.refl e3 F_limit_a1 E_a1 (Or.inr ⟨(hw _ (List.mem_of_getElem? (i := 103) rfl)), rfl, hnm⟩) (hw _ (List.mem_of_getElem? (i := 91) rfl)) (ty := .int) (by decide) rfl rfl (g := (mkF m 25 #[.val (.ref a1), .val (.int p2)] [(.int p2), (.ref a1)])) rfl rfl (hb hby d15_25)
  have Fw4 := F_limit_a1.same W4
  have K4 : Keep h0 h4 [a1] := (Keep.refl h0 [a1]).wr W4 (Or.inl (List.mem_of_getElem? (i := 0) rfl))
  have N4 := Fr.snoc X4 N3 g_a1
  obtain ⟨fs, hr, hrun, hended, hW, hsame⟩ := X4.leave (v := none) (fun _ => rfl)
  refine ⟨_, _, pre0 _ ?_, hrun, hended, _, _, rfl, ?_, ⟨_, rfl⟩, hW, hsame.mono (by decide) (by decide)⟩
  · show Steps p.tables e below (s₁.setTop (mkF m 0 #[.val (.ref a1), .val (.int p2)] [])) _
    refine XS.aloadN X0.here hx rfl (hb hby d15_0) rfl rfl ?_
    show Steps p.tables e below (s₁.setTop (mkF m 1 #[.val (.ref a1), .val (.int p2)] [(.ref a1)])) _
    refine st3.trans ?_
    show Steps p.tables e below (T3.setTop (mkF m 4 #[.val (.ref a1), .val (.int p2)] [])) _
    refine XS.iloadN X3.here hx rfl (hb hby d15_4) rfl ?_
    show Steps p.tables e below (T3.setTop (mkF m 5 #[.val (.ref a1), .val (.int p2)] [(.int p2)])) _
    refine XS.iconst X3.here hx rfl (hb hby d15_5) ?_
    show Steps p.tables e below (T3.setTop (mkF m 6 #[.val (.ref a1), .val (.int p2)] [(.int (1 : Int32)), (.int p2)])) _
    refine XS.icmpYes X3.here hx rfl (pc0 := 6) (pc' := 23) rfl (hb hby d15_6) rfl (flt hc6).2.1 (by decide) (by decide) ?_
    show Steps p.tables e below (T3.setTop (mkF m 23 #[.val (.ref a1), .val (.int p2)] [])) _
    refine XS.aloadN X3.here hx rfl (hb hby d15_23) rfl rfl ?_
    show Steps p.tables e below (T3.setTop (mkF m 24 #[.val (.ref a1), .val (.int p2)] [(.ref a1)])) _
    refine XS.iloadN X3.here hx rfl (hb hby d15_24) rfl ?_
    show Steps p.tables e below (T3.setTop (mkF m 25 #[.val (.ref a1), .val (.int p2)] [(.int p2), (.ref a1)])) _
    refine st4 _ ?_
    show Steps p.tables e below (T4.setTop (mkF m 28 #[.val (.ref a1), .val (.int p2)] [])) _
    exact X4.returnOut hx Bd.returns (hb hby d15_28) hr
  · show Q15 Z a1 p2 u_limit_a1 h0 n0 _ T4.heap _
    rw [e4]
    exact ⟨rfl, N4, K4, (E_a1.wr W4), Fw4⟩
theorem d18_0 : decode jdk_38_method_8_code 0 = .ok (.aload_n 0, 1) := by decide +kernel
theorem d18_1 : decode jdk_38_method_8_code 1 = .ok (.getfield 48, 3) := by decide +kernel
theorem d18_4 : decode jdk_38_method_8_code 4 = .ok (.ireturn, 1) := by decide +kernel
theorem pn_18 : plainName "java/util/ArrayList" = true := by first | (simp [plainName, overriddenIn]; done) | decide +kernel
theorem ef_18 (m : MethodId) (x0 : Addr) : entryFrame m #[(.ref x0)] 1 = mkF m 0 #[.val (.ref x0)] [] := by first | (simp [entryFrame, mkF, argsToLocals, Value.category]; done) | rfl
def Q18 (Z : State) (a1 : Addr) (sz : Int32) (h0 : Heap) (n0 : Nat) (v : Option Value) (h : Heap) (L : List Loc) : Prop := v = some (.int sz) ∧ Fr n0 L ∧ h = h0
set_option maxRecDepth 65536 in
set_option maxHeartbeats 40000000 in
theorem rm18 (l : Launch) (Z : State) (a0 : Array Value) (hw : ∀ d ∈ tables_1, d.before a0 Z = true) (ws : List Jvm.Cond) (a1 : Addr) (sz : Int32) (h0 : Heap) (n0 : Nat) (Z0 : n0 ≤ h0.size) (F_size_a1 : Fld Z h0 a1 "java/util/ArrayList" "size" "I" (.int sz)) :
    MetFree l (⟨"java/util/ArrayList", "size", "()I"⟩ : MethodName) (head1 (Jvm.Cond.code (⟨"java/util/ArrayList", "size", "()I"⟩ : MethodName) jdk_38_method_8_code 1 (some .int) :: ws) ({ frames := 0, cells := 0, slots := 0, locals := 0 } : Room)) (fun a U => a = #[(.ref a1)] ∧ Z.Warmed39 U.vm ∧ U.heap = h0) (fun _ _ _ _ _ => True) (fun _ U o U' => ∃ v L, o = .returned v ∧ Q18 Z a1 sz h0 n0 v U'.heap L ∧ FrameEnd U o U' L ({ frames := 0, cells := 0, slots := 0, locals := 0 } : Room).cells ({ frames := 0, cells := 0, slots := 0, locals := 0 } : Room).slots) := by
  refine MetFree.of_bodySF (plainFor_of_name pn_18) hisR ?_
  intro p e s m args below meth c s₁ Bd hml0 hP hK
  obtain ⟨rfl, hZ, hh⟩ := hP
  have hx := Bd.exec
  have hby := Bd.bytes
  have hml : c.maxLocals = 1 := hml0
  have hown : s.vm.findClass "java/util/ArrayList" = some m.cls := findClass_of_methodNamed Bd.named
  have hnm := (name_of_methodNamed Bd.named Bd.method).1
  have X0 : Stand p l e ({ frames := 0, cells := 0, slots := 0, locals := 0 } : Room) s m #[(.ref a1)] below meth c s₁ [] 0 0 := Stand.of_body Bd
  have e0 : s₁.heap = h0 := by rw [← hh, Bd.state]; rfl
  have N0 := Fr.nil n0
  have pre0 : ∀ t, Steps p.tables e below (s₁.setTop (mkF m 0 #[.val (.ref a1)] [])) t → Steps p.tables e below (s₁.setTop (entryFrame m #[(.ref a1)] 1)) t := fun t k => castTop (ef_18 m a1) k
  obtain ⟨T2, X2, e2, st2⟩ := getF X0 hx hZ hown (host := "") (Or.inl (hw _ (List.mem_of_getElem? (i := 66) rfl))) Via.refl e0 F_size_a1 (g := (mkF m 1 #[.val (.ref a1)] [(.ref a1)])) rfl rfl (hb hby d18_1)
  obtain ⟨fs, hr, hrun, hended, hW, hsame⟩ := X2.leave (v := some (.int sz)) (fun h => by rw [Bd.returns] at h; cases h)
  refine ⟨_, _, pre0 _ ?_, hrun, hended, _, _, rfl, ?_, ⟨_, rfl⟩, hW, hsame.mono (by decide) (by decide)⟩
  · show Steps p.tables e below (s₁.setTop (mkF m 0 #[.val (.ref a1)] [])) _
    refine XS.aloadN X0.here hx rfl (hb hby d18_0) rfl rfl ?_
    show Steps p.tables e below (s₁.setTop (mkF m 1 #[.val (.ref a1)] [(.ref a1)])) _
    refine st2 _ ?_
    show Steps p.tables e below (T2.setTop (mkF m 4 #[.val (.ref a1)] [(.int sz)])) _
    exact retI X2 hx Bd.returns (hb hby d18_4) hr
  · show Q18 Z a1 sz h0 n0 _ T2.heap _
    rw [e2]
    exact ⟨rfl, N0, rfl⟩
theorem d17_0 : decode prog_8_method_4_code 0 = .ok (.aload_n 1, 1) := by decide +kernel
theorem d17_1 : decode prog_8_method_4_code 1 = .ok (.invokeinterface 28 1, 5) := by decide +kernel
theorem d17_6 : decode prog_8_method_4_code 6 = .ok (.aload_n 0, 1) := by decide +kernel
theorem d17_7 : decode prog_8_method_4_code 7 = .ok (.getfield 16, 3) := by decide +kernel
theorem d17_10 : decode prog_8_method_4_code 10 = .ok (.if_icmp .gt 9, 3) := by decide +kernel
theorem d17_13 : decode prog_8_method_4_code 13 = .ok (.getstatic 34, 3) := by decide +kernel
theorem d17_16 : decode prog_8_method_4_code 16 = .ok (.goto 6, 3) := by decide +kernel
theorem d17_22 : decode prog_8_method_4_code 22 = .ok (.areturn, 1) := by decide +kernel
theorem pn_17 : plainName "com/example/ordinal_lock/ordinallock/protocol/TurnRule$WithinLimit" = true := by first | (simp [plainName, overriddenIn]; done) | decide +kernel
theorem pd_17_13 : parseMethodDescriptor "()I" = some ⟨[], some .int⟩ := by decide +kernel
theorem ef_17 (m : MethodId) (x0 : Addr) (x1 : Addr) (x2 : Addr) : entryFrame m #[(.ref x0), (.ref x1), (.ref x2)] 3 = mkF m 0 #[.val (.ref x0), .val (.ref x1), .val (.ref x2)] [] := by first | (simp [entryFrame, mkF, argsToLocals, Value.category]; done) | rfl
def Q17a (Z : State) (a1 : Addr) (a2 : Addr) (a3 : Addr) (sz : Int32) (lm : Int32) (tu : Addr) (h0 : Heap) (n0 : Nat) (v : Option Value) (h : Heap) (L : List Loc) : Prop := v = some (.ref tu) ∧ Fr n0 L ∧ h = h0
set_option maxRecDepth 65536 in
set_option maxHeartbeats 40000000 in
theorem rm17a (l : Launch) (Z : State) (a0 : Array Value) (hw : ∀ d ∈ tables_1, d.before a0 Z = true) (ws : List Jvm.Cond) (a1 : Addr) (a2 : Addr) (a3 : Addr) (sz : Int32) (lm : Int32) (tu : Addr) (h0 : Heap) (n0 : Nat) (Z0 : n0 ≤ h0.size) (O0 : Old Z n0 h0) (ST : Sta Z Z.heap "com/example/ordinal_lock/ordinallock/protocol/TurnRule$Turn" "COME" "Lcom/example/ordinal_lock/ordinallock/protocol/TurnRule$Turn;" (.ref tu)) (Fsz : Fld Z h0 a2 "java/util/ArrayList" "size" "I" (.int sz)) (E_a2 : Exa Z h0 a2 "java/util/ArrayList") (F_limit_a1 : Fld Z h0 a1 "com/example/ordinal_lock/ordinallock/protocol/TurnRule$WithinLimit" "limit" "I" (.int lm)) (hc10 : ¬ (lm < sz)) :
    MetFree l (⟨"com/example/ordinal_lock/ordinallock/protocol/TurnRule$WithinLimit", "turn", "(Ljava/util/List;Ljava/lang/String;)Lcom/example/ordinal_lock/ordinallock/protocol/TurnRule$Turn;"⟩ : MethodName) (head1 (Jvm.Cond.code (⟨"com/example/ordinal_lock/ordinallock/protocol/TurnRule$WithinLimit", "turn", "(Ljava/util/List;Ljava/lang/String;)Lcom/example/ordinal_lock/ordinallock/protocol/TurnRule$Turn;"⟩ : MethodName) prog_8_method_4_code 3 (some (.object "com/example/ordinal_lock/ordinallock/protocol/TurnRule$Turn")) :: ws) ({ frames := 1, cells := 0, slots := 0, locals := 12 } : Room)) (fun a U => a = #[(.ref a1), (.ref a2), (.ref a3)] ∧ Z.Warmed39 U.vm ∧ U.heap = h0) (fun _ _ _ _ _ => True) (fun _ U o U' => ∃ v L, o = .returned v ∧ Q17a Z a1 a2 a3 sz lm tu h0 n0 v U'.heap L ∧ FrameEnd U o U' L ({ frames := 1, cells := 0, slots := 0, locals := 12 } : Room).cells ({ frames := 1, cells := 0, slots := 0, locals := 12 } : Room).slots) := by
  refine MetFree.of_bodySF (plainFor_of_name pn_17) hisR ?_
  intro p e s m args below meth c s₁ Bd hml0 hP hK
  obtain ⟨rfl, hZ, hh⟩ := hP
  have hx := Bd.exec
  have hby := Bd.bytes
  have hml : c.maxLocals = 3 := hml0
  have hown : s.vm.findClass "com/example/ordinal_lock/ordinallock/protocol/TurnRule$WithinLimit" = some m.cls := findClass_of_methodNamed Bd.named
  have hnm := (name_of_methodNamed Bd.named Bd.method).1
  have X0 : Stand p l e ({ frames := 1, cells := 0, slots := 0, locals := 12 } : Room) s m #[(.ref a1), (.ref a2), (.ref a3)] below meth c s₁ [] 0 0 := Stand.of_body Bd
  have e0 : s₁.heap = h0 := by rw [← hh, Bd.state]; rfl
  have N0 := Fr.nil n0
  have pre0 : ∀ t, Steps p.tables e below (s₁.setTop (mkF m 0 #[.val (.ref a1), .val (.ref a2), .val (.ref a3)] [])) t → Steps p.tables e below (s₁.setTop (entryFrame m #[(.ref a1), (.ref a2), (.ref a3)] 3)) t := fun t k => castTop (ef_17 m a1 a2 a3) k
  obtain ⟨cq4, kq4, q4a, q4b, q4c⟩ := isOf hZ e0 E_a2
  obtain ⟨_, _, ⟨T4, L4, k4, n4⟩, -, X4, ⟨Lc4, hQ4, l4, y4, z4⟩, st4⟩ := X0.interfaceBack hx (xi := (⟨"java/util/List", "size", "()I"⟩ : MethodName)) (y := (⟨"java/util/ArrayList", "size", "()I"⟩ : MethodName)) hown (mvT hZ (hw _ (List.mem_of_getElem? (i := 109) rfl))) (mvT hZ (hw _ (List.mem_of_getElem? (i := 110) rfl))) (mvT hZ (hw _ (List.mem_of_getElem? (i := 111) rfl))) (mvT hZ (hw _ (List.mem_of_getElem? (i := 112) rfl))) (mvT hZ (hw _ (List.mem_of_getElem? (i := 113) rfl))) (mvT hZ (hw _ (List.mem_of_getElem? (i := 114) rfl))) (mvT hZ (hw _ (List.mem_of_getElem? (i := 115) rfl))) (mvT hZ (hw _ (List.mem_of_getElem? (i := 62) rfl))) (by decide) (backOf (W := 0) (rm18 l Z a0 hw [] a2 sz h0 n0 Z0 Fsz) hZ (hw _ (List.mem_of_getElem? (i := 116) rfl)) (hw _ (List.mem_of_getElem? (i := 2) rfl)) (by decide) (by decide)) q4a q4b q4c (g := (mkF m 1 #[.val (.ref a1), .val (.ref a2), .val (.ref a3)] [(.ref a2)])) rfl (by rw [hml]; rfl) (Steps.refl _) (argsL := []) (rest := []) (lenOf pd_17_13 rfl) rfl (by show 2 * 0 + _ ≤ _; exact Nat.le_of_eq rfl) (hb hby d17_1) (fun _ _ => ⟨rfl, e0, (by decide : 0 + 0 ≤ _), (by decide : 0 + 0 ≤ _)⟩)
  dsimp only [Pt.U, Pt.locs, Pt.cells, Pt.slots] at X4 l4 y4 z4 st4 hQ4
  subst l4 y4 z4
  obtain ⟨rfl, N4q, e4⟩ := hQ4
  have N4 := Fr.app N0 N4q
  obtain ⟨T5, X5, e5, st5⟩ := getF X4 hx hZ hown (host := "") (Or.inl (hw _ (List.mem_of_getElem? (i := 102) rfl))) Via.refl e4 F_limit_a1 (g := (mkF m 7 #[.val (.ref a1), .val (.ref a2), .val (.ref a3)] [(.ref a1), (.int sz)])) rfl rfl (hb hby d17_7)
  obtain ⟨T6, X6, e6, st6⟩ := getS2 X5 hx hZ hown (host := "") (Or.inl (hw _ (List.mem_of_getElem? (i := 134) rfl))) Via.refl e5 (ST.ext O0.2) (g := (mkF m 13 #[.val (.ref a1), .val (.ref a2), .val (.ref a3)] [])) rfl (hb hby d17_13)
  obtain ⟨fs, hr, hrun, hended, hW, hsame⟩ := X6.leave (v := some (.ref tu)) (fun h => by rw [Bd.returns] at h; cases h)
  refine ⟨_, _, pre0 _ ?_, hrun, hended, _, _, rfl, ?_, ⟨_, rfl⟩, hW, hsame.mono (by decide) (by decide)⟩
  · show Steps p.tables e below (s₁.setTop (mkF m 0 #[.val (.ref a1), .val (.ref a2), .val (.ref a3)] [])) _
    refine XS.aloadN X0.here hx rfl (hb hby d17_0) rfl rfl ?_
    show Steps p.tables e below (s₁.setTop (mkF m 1 #[.val (.ref a1), .val (.ref a2), .val (.ref a3)] [(.ref a2)])) _
    refine st4.trans ?_
    show Steps p.tables e below (T4.setTop (mkF m 6 #[.val (.ref a1), .val (.ref a2), .val (.ref a3)] [(.int sz)])) _
    refine XS.aloadN X4.here hx rfl (hb hby d17_6) rfl rfl ?_
    show Steps p.tables e below (T4.setTop (mkF m 7 #[.val (.ref a1), .val (.ref a2), .val (.ref a3)] [(.ref a1), (.int sz)])) _
    refine st5 _ ?_
    show Steps p.tables e below (T5.setTop (mkF m 10 #[.val (.ref a1), .val (.ref a2), .val (.ref a3)] [(.int lm), (.int sz)])) _
    refine XS.icmpNo X5.here hx rfl (hb hby d17_10) rfl (flt hc10).2.2.1 ?_
    show Steps p.tables e below (T5.setTop (mkF m 13 #[.val (.ref a1), .val (.ref a2), .val (.ref a3)] [])) _
    refine st6 _ ?_
    show Steps p.tables e below (T6.setTop (mkF m 16 #[.val (.ref a1), .val (.ref a2), .val (.ref a3)] [(.ref tu)])) _
    refine XS.goto X6.here hx rfl (pc0 := 16) (pc' := 22) rfl (hb hby d17_16) (by decide) (by decide) ?_
    show Steps p.tables e below (T6.setTop (mkF m 22 #[.val (.ref a1), .val (.ref a2), .val (.ref a3)] [(.ref tu)])) _
    jvm_step X6.here [X6.here.top, hx, (hb hby d17_22), X6.method', Bd.returns, Value.isRef, FieldType.isReference]
    first | (intro acts; rw [hr _ acts rfl rfl rfl]) | rw [hr _ _ rfl rfl rfl]
    exact Steps.refl _
  · show Q17a Z a1 a2 a3 sz lm tu h0 n0 _ T6.heap _
    rw [e6]
    exact ⟨rfl, N4, rfl⟩
theorem d17_19 : decode prog_8_method_4_code 19 = .ok (.getstatic 40, 3) := by decide +kernel
def Q17b (Z : State) (a1 : Addr) (a2 : Addr) (a3 : Addr) (sz : Int32) (lm : Int32) (tu : Addr) (h0 : Heap) (n0 : Nat) (v : Option Value) (h : Heap) (L : List Loc) : Prop := v = some (.ref tu) ∧ Fr n0 L ∧ h = h0
set_option maxRecDepth 65536 in
set_option maxHeartbeats 40000000 in
theorem rm17b (l : Launch) (Z : State) (a0 : Array Value) (hw : ∀ d ∈ tables_1, d.before a0 Z = true) (ws : List Jvm.Cond) (a1 : Addr) (a2 : Addr) (a3 : Addr) (sz : Int32) (lm : Int32) (tu : Addr) (h0 : Heap) (n0 : Nat) (Z0 : n0 ≤ h0.size) (O0 : Old Z n0 h0) (ST : Sta Z Z.heap "com/example/ordinal_lock/ordinallock/protocol/TurnRule$Turn" "AWAIT_CHILDREN" "Lcom/example/ordinal_lock/ordinallock/protocol/TurnRule$Turn;" (.ref tu)) (Fsz : Fld Z h0 a2 "java/util/ArrayList" "size" "I" (.int sz)) (E_a2 : Exa Z h0 a2 "java/util/ArrayList") (F_limit_a1 : Fld Z h0 a1 "com/example/ordinal_lock/ordinallock/protocol/TurnRule$WithinLimit" "limit" "I" (.int lm)) (hc10 : lm < sz) :
    MetFree l (⟨"com/example/ordinal_lock/ordinallock/protocol/TurnRule$WithinLimit", "turn", "(Ljava/util/List;Ljava/lang/String;)Lcom/example/ordinal_lock/ordinallock/protocol/TurnRule$Turn;"⟩ : MethodName) (head1 (Jvm.Cond.code (⟨"com/example/ordinal_lock/ordinallock/protocol/TurnRule$WithinLimit", "turn", "(Ljava/util/List;Ljava/lang/String;)Lcom/example/ordinal_lock/ordinallock/protocol/TurnRule$Turn;"⟩ : MethodName) prog_8_method_4_code 3 (some (.object "com/example/ordinal_lock/ordinallock/protocol/TurnRule$Turn")) :: ws) ({ frames := 1, cells := 0, slots := 0, locals := 12 } : Room)) (fun a U => a = #[(.ref a1), (.ref a2), (.ref a3)] ∧ Z.Warmed39 U.vm ∧ U.heap = h0) (fun _ _ _ _ _ => True) (fun _ U o U' => ∃ v L, o = .returned v ∧ Q17b Z a1 a2 a3 sz lm tu h0 n0 v U'.heap L ∧ FrameEnd U o U' L ({ frames := 1, cells := 0, slots := 0, locals := 12 } : Room).cells ({ frames := 1, cells := 0, slots := 0, locals := 12 } : Room).slots) := by
  refine MetFree.of_bodySF (plainFor_of_name pn_17) hisR ?_
  intro p e s m args below meth c s₁ Bd hml0 hP hK
  obtain ⟨rfl, hZ, hh⟩ := hP
  have hx := Bd.exec
  have hby := Bd.bytes
  have hml : c.maxLocals = 3 := hml0
  have hown : s.vm.findClass "com/example/ordinal_lock/ordinallock/protocol/TurnRule$WithinLimit" = some m.cls := findClass_of_methodNamed Bd.named
  have hnm := (name_of_methodNamed Bd.named Bd.method).1
  have X0 : Stand p l e ({ frames := 1, cells := 0, slots := 0, locals := 12 } : Room) s m #[(.ref a1), (.ref a2), (.ref a3)] below meth c s₁ [] 0 0 := Stand.of_body Bd
  have e0 : s₁.heap = h0 := by rw [← hh, Bd.state]; rfl
  have N0 := Fr.nil n0
  have pre0 : ∀ t, Steps p.tables e below (s₁.setTop (mkF m 0 #[.val (.ref a1), .val (.ref a2), .val (.ref a3)] [])) t → Steps p.tables e below (s₁.setTop (entryFrame m #[(.ref a1), (.ref a2), (.ref a3)] 3)) t := fun t k => castTop (ef_17 m a1 a2 a3) k
  obtain ⟨cq4, kq4, q4a, q4b, q4c⟩ := isOf hZ e0 E_a2
  obtain ⟨_, _, ⟨T4, L4, k4, n4⟩, -, X4, ⟨Lc4, hQ4, l4, y4, z4⟩, st4⟩ := X0.interfaceBack hx (xi := (⟨"java/util/List", "size", "()I"⟩ : MethodName)) (y := (⟨"java/util/ArrayList", "size", "()I"⟩ : MethodName)) hown (mvT hZ (hw _ (List.mem_of_getElem? (i := 109) rfl))) (mvT hZ (hw _ (List.mem_of_getElem? (i := 110) rfl))) (mvT hZ (hw _ (List.mem_of_getElem? (i := 111) rfl))) (mvT hZ (hw _ (List.mem_of_getElem? (i := 112) rfl))) (mvT hZ (hw _ (List.mem_of_getElem? (i := 113) rfl))) (mvT hZ (hw _ (List.mem_of_getElem? (i := 114) rfl))) (mvT hZ (hw _ (List.mem_of_getElem? (i := 115) rfl))) (mvT hZ (hw _ (List.mem_of_getElem? (i := 62) rfl))) (by decide) (backOf (W := 0) (rm18 l Z a0 hw [] a2 sz h0 n0 Z0 Fsz) hZ (hw _ (List.mem_of_getElem? (i := 116) rfl)) (hw _ (List.mem_of_getElem? (i := 2) rfl)) (by decide) (by decide)) q4a q4b q4c (g := (mkF m 1 #[.val (.ref a1), .val (.ref a2), .val (.ref a3)] [(.ref a2)])) rfl (by rw [hml]; rfl) (Steps.refl _) (argsL := []) (rest := []) (lenOf pd_17_13 rfl) rfl (by show 2 * 0 + _ ≤ _; exact Nat.le_of_eq rfl) (hb hby d17_1) (fun _ _ => ⟨rfl, e0, (by decide : 0 + 0 ≤ _), (by decide : 0 + 0 ≤ _)⟩)
  dsimp only [Pt.U, Pt.locs, Pt.cells, Pt.slots] at X4 l4 y4 z4 st4 hQ4
  subst l4 y4 z4
  obtain ⟨rfl, N4q, e4⟩ := hQ4
  have N4 := Fr.app N0 N4q
  obtain ⟨T5, X5, e5, st5⟩ := getF X4 hx hZ hown (host := "") (Or.inl (hw _ (List.mem_of_getElem? (i := 102) rfl))) Via.refl e4 F_limit_a1 (g := (mkF m 7 #[.val (.ref a1), .val (.ref a2), .val (.ref a3)] [(.ref a1), (.int sz)])) rfl rfl (hb hby d17_7)
  obtain ⟨T6, X6, e6, st6⟩ := getS2 X5 hx hZ hown (host := "") (Or.inl (hw _ (List.mem_of_getElem? (i := 117) rfl))) Via.refl e5 (ST.ext O0.2) (g := (mkF m 19 #[.val (.ref a1), .val (.ref a2), .val (.ref a3)] [])) rfl (hb hby d17_19)
  obtain ⟨fs, hr, hrun, hended, hW, hsame⟩ := X6.leave (v := some (.ref tu)) (fun h => by rw [Bd.returns] at h; cases h)
  refine ⟨_, _, pre0 _ ?_, hrun, hended, _, _, rfl, ?_, ⟨_, rfl⟩, hW, hsame.mono (by decide) (by decide)⟩
  · show Steps p.tables e below (s₁.setTop (mkF m 0 #[.val (.ref a1), .val (.ref a2), .val (.ref a3)] [])) _
    refine XS.aloadN X0.here hx rfl (hb hby d17_0) rfl rfl ?_
    show Steps p.tables e below (s₁.setTop (mkF m 1 #[.val (.ref a1), .val (.ref a2), .val (.ref a3)] [(.ref a2)])) _
    refine st4.trans ?_
    show Steps p.tables e below (T4.setTop (mkF m 6 #[.val (.ref a1), .val (.ref a2), .val (.ref a3)] [(.int sz)])) _
    refine XS.aloadN X4.here hx rfl (hb hby d17_6) rfl rfl ?_
    show Steps p.tables e below (T4.setTop (mkF m 7 #[.val (.ref a1), .val (.ref a2), .val (.ref a3)] [(.ref a1), (.int sz)])) _
    refine st5 _ ?_
    show Steps p.tables e below (T5.setTop (mkF m 10 #[.val (.ref a1), .val (.ref a2), .val (.ref a3)] [(.int lm), (.int sz)])) _
    refine XS.icmpYes X5.here hx rfl (pc0 := 10) (pc' := 19) rfl (hb hby d17_10) rfl (tlt hc10).2.2.1 (by decide) (by decide) ?_
    show Steps p.tables e below (T5.setTop (mkF m 19 #[.val (.ref a1), .val (.ref a2), .val (.ref a3)] [])) _
    refine st6 _ ?_
    show Steps p.tables e below (T6.setTop (mkF m 22 #[.val (.ref a1), .val (.ref a2), .val (.ref a3)] [(.ref tu)])) _
    jvm_step X6.here [X6.here.top, hx, (hb hby d17_22), X6.method', Bd.returns, Value.isRef, FieldType.isReference]
    first | (intro acts; rw [hr _ acts rfl rfl rfl]) | rw [hr _ _ rfl rfl rfl]
    exact Steps.refl _
  · show Q17b Z a1 a2 a3 sz lm tu h0 n0 _ T6.heap _
    rw [e6]
    exact ⟨rfl, N4, rfl⟩
theorem d19_0 : decode prog_7_method_6_code 0 = .ok (.aload_n 0, 1) := by decide +kernel
theorem d19_1 : decode prog_7_method_6_code 1 = .ok (.getfield 7, 3) := by decide +kernel
theorem d19_4 : decode prog_7_method_6_code 4 = .ok (.ireturn, 1) := by decide +kernel
theorem pn_19 : plainName "com/example/ordinal_lock/ordinallock/protocol/TurnRule$Turn" = true := by first | (simp [plainName, overriddenIn]; done) | decide +kernel
theorem ef_19 (m : MethodId) (x0 : Addr) : entryFrame m #[(.ref x0)] 1 = mkF m 0 #[.val (.ref x0)] [] := by first | (simp [entryFrame, mkF, argsToLocals, Value.category]; done) | rfl
def Q19a (Z : State) (a1 : Addr) (h0 : Heap) (n0 : Nat) (v : Option Value) (h : Heap) (L : List Loc) : Prop := v = some (.int (1 : Int32)) ∧ Fr n0 L ∧ h = h0
set_option maxRecDepth 65536 in
set_option maxHeartbeats 40000000 in
theorem rm19a (l : Launch) (Z : State) (a0 : Array Value) (hw : ∀ d ∈ tables_1, d.before a0 Z = true) (ws : List Jvm.Cond) (a1 : Addr) (h0 : Heap) (n0 : Nat) (Z0 : n0 ≤ h0.size) (F_come_a1 : Fld Z h0 a1 "com/example/ordinal_lock/ordinallock/protocol/TurnRule$Turn" "come" "Z" (.int (1 : Int32))) :
    MetFree l (⟨"com/example/ordinal_lock/ordinallock/protocol/TurnRule$Turn", "come", "()Z"⟩ : MethodName) (head1 (Jvm.Cond.code (⟨"com/example/ordinal_lock/ordinallock/protocol/TurnRule$Turn", "come", "()Z"⟩ : MethodName) prog_7_method_6_code 1 (some .boolean) :: ws) ({ frames := 0, cells := 0, slots := 0, locals := 0 } : Room)) (fun a U => a = #[(.ref a1)] ∧ Z.Warmed39 U.vm ∧ U.heap = h0) (fun _ _ _ _ _ => True) (fun _ U o U' => ∃ v L, o = .returned v ∧ Q19a Z a1 h0 n0 v U'.heap L ∧ FrameEnd U o U' L ({ frames := 0, cells := 0, slots := 0, locals := 0 } : Room).cells ({ frames := 0, cells := 0, slots := 0, locals := 0 } : Room).slots) := by
  refine MetFree.of_bodySF (plainFor_of_name pn_19) hisR ?_
  intro p e s m args below meth c s₁ Bd hml0 hP hK
  obtain ⟨rfl, hZ, hh⟩ := hP
  have hx := Bd.exec
  have hby := Bd.bytes
  have hml : c.maxLocals = 1 := hml0
  have hown : s.vm.findClass "com/example/ordinal_lock/ordinallock/protocol/TurnRule$Turn" = some m.cls := findClass_of_methodNamed Bd.named
  have hnm := (name_of_methodNamed Bd.named Bd.method).1
  have X0 : Stand p l e ({ frames := 0, cells := 0, slots := 0, locals := 0 } : Room) s m #[(.ref a1)] below meth c s₁ [] 0 0 := Stand.of_body Bd
  have e0 : s₁.heap = h0 := by rw [← hh, Bd.state]; rfl
  have N0 := Fr.nil n0
  have pre0 : ∀ t, Steps p.tables e below (s₁.setTop (mkF m 0 #[.val (.ref a1)] [])) t → Steps p.tables e below (s₁.setTop (entryFrame m #[(.ref a1)] 1)) t := fun t k => castTop (ef_19 m a1) k
  obtain ⟨T2, X2, e2, st2⟩ := getF X0 hx hZ hown (host := "") (Or.inl (hw _ (List.mem_of_getElem? (i := 125) rfl))) Via.refl e0 F_come_a1 (g := (mkF m 1 #[.val (.ref a1)] [(.ref a1)])) rfl rfl (hb hby d19_1)
  obtain ⟨fs, hr, hrun, hended, hW, hsame⟩ := X2.leave (v := some (.int (1 : Int32))) (fun h => by rw [Bd.returns] at h; cases h)
  refine ⟨_, _, pre0 _ ?_, hrun, hended, _, _, rfl, ?_, ⟨_, rfl⟩, hW, hsame.mono (by decide) (by decide)⟩
  · show Steps p.tables e below (s₁.setTop (mkF m 0 #[.val (.ref a1)] [])) _
    refine XS.aloadN X0.here hx rfl (hb hby d19_0) rfl rfl ?_
    show Steps p.tables e below (s₁.setTop (mkF m 1 #[.val (.ref a1)] [(.ref a1)])) _
    refine st2 _ ?_
    show Steps p.tables e below (T2.setTop (mkF m 4 #[.val (.ref a1)] [(.int (1 : Int32))])) _
    exact retN X2 hx (t := .boolean) Bd.returns (by simp) (hb hby d19_4) hr
  · show Q19a Z a1 h0 n0 _ T2.heap _
    rw [e2]
    exact ⟨rfl, N0, rfl⟩
def Q19b (Z : State) (a1 : Addr) (h0 : Heap) (n0 : Nat) (v : Option Value) (h : Heap) (L : List Loc) : Prop := v = some (.int (0 : Int32)) ∧ Fr n0 L ∧ h = h0
set_option maxRecDepth 65536 in
set_option maxHeartbeats 40000000 in
theorem rm19b (l : Launch) (Z : State) (a0 : Array Value) (hw : ∀ d ∈ tables_1, d.before a0 Z = true) (ws : List Jvm.Cond) (a1 : Addr) (h0 : Heap) (n0 : Nat) (Z0 : n0 ≤ h0.size) (F_come_a1 : Fld Z h0 a1 "com/example/ordinal_lock/ordinallock/protocol/TurnRule$Turn" "come" "Z" (.int (0 : Int32))) :
    MetFree l (⟨"com/example/ordinal_lock/ordinallock/protocol/TurnRule$Turn", "come", "()Z"⟩ : MethodName) (head1 (Jvm.Cond.code (⟨"com/example/ordinal_lock/ordinallock/protocol/TurnRule$Turn", "come", "()Z"⟩ : MethodName) prog_7_method_6_code 1 (some .boolean) :: ws) ({ frames := 0, cells := 0, slots := 0, locals := 0 } : Room)) (fun a U => a = #[(.ref a1)] ∧ Z.Warmed39 U.vm ∧ U.heap = h0) (fun _ _ _ _ _ => True) (fun _ U o U' => ∃ v L, o = .returned v ∧ Q19b Z a1 h0 n0 v U'.heap L ∧ FrameEnd U o U' L ({ frames := 0, cells := 0, slots := 0, locals := 0 } : Room).cells ({ frames := 0, cells := 0, slots := 0, locals := 0 } : Room).slots) := by
  refine MetFree.of_bodySF (plainFor_of_name pn_19) hisR ?_
  intro p e s m args below meth c s₁ Bd hml0 hP hK
  obtain ⟨rfl, hZ, hh⟩ := hP
  have hx := Bd.exec
  have hby := Bd.bytes
  have hml : c.maxLocals = 1 := hml0
  have hown : s.vm.findClass "com/example/ordinal_lock/ordinallock/protocol/TurnRule$Turn" = some m.cls := findClass_of_methodNamed Bd.named
  have hnm := (name_of_methodNamed Bd.named Bd.method).1
  have X0 : Stand p l e ({ frames := 0, cells := 0, slots := 0, locals := 0 } : Room) s m #[(.ref a1)] below meth c s₁ [] 0 0 := Stand.of_body Bd
  have e0 : s₁.heap = h0 := by rw [← hh, Bd.state]; rfl
  have N0 := Fr.nil n0
  have pre0 : ∀ t, Steps p.tables e below (s₁.setTop (mkF m 0 #[.val (.ref a1)] [])) t → Steps p.tables e below (s₁.setTop (entryFrame m #[(.ref a1)] 1)) t := fun t k => castTop (ef_19 m a1) k
  obtain ⟨T2, X2, e2, st2⟩ := getF X0 hx hZ hown (host := "") (Or.inl (hw _ (List.mem_of_getElem? (i := 125) rfl))) Via.refl e0 F_come_a1 (g := (mkF m 1 #[.val (.ref a1)] [(.ref a1)])) rfl rfl (hb hby d19_1)
  obtain ⟨fs, hr, hrun, hended, hW, hsame⟩ := X2.leave (v := some (.int (0 : Int32))) (fun h => by rw [Bd.returns] at h; cases h)
  refine ⟨_, _, pre0 _ ?_, hrun, hended, _, _, rfl, ?_, ⟨_, rfl⟩, hW, hsame.mono (by decide) (by decide)⟩
  · show Steps p.tables e below (s₁.setTop (mkF m 0 #[.val (.ref a1)] [])) _
    refine XS.aloadN X0.here hx rfl (hb hby d19_0) rfl rfl ?_
    show Steps p.tables e below (s₁.setTop (mkF m 1 #[.val (.ref a1)] [(.ref a1)])) _
    refine st2 _ ?_
    show Steps p.tables e below (T2.setTop (mkF m 4 #[.val (.ref a1)] [(.int (0 : Int32))])) _
    exact retN X2 hx (t := .boolean) Bd.returns (by simp) (hb hby d19_4) hr
  · show Q19b Z a1 h0 n0 _ T2.heap _
    rw [e2]
    exact ⟨rfl, N0, rfl⟩
theorem d20_0 : decode prog_7_method_7_code 0 = .ok (.aload_n 0, 1) := by decide +kernel
theorem d20_1 : decode prog_7_method_7_code 1 = .ok (.getfield 13, 3) := by decide +kernel
theorem d20_4 : decode prog_7_method_7_code 4 = .ok (.areturn, 1) := by decide +kernel
theorem pn_20 : plainName "com/example/ordinal_lock/ordinallock/protocol/TurnRule$Turn" = true := by first | (simp [plainName, overriddenIn]; done) | decide +kernel
theorem ef_20 (m : MethodId) (x0 : Addr) : entryFrame m #[(.ref x0)] 1 = mkF m 0 #[.val (.ref x0)] [] := by first | (simp [entryFrame, mkF, argsToLocals, Value.category]; done) | rfl
def Q20 (Z : State) (a1 : Addr) (h0 : Heap) (n0 : Nat) (v : Option Value) (h : Heap) (L : List Loc) : Prop := v = some .null ∧ Fr n0 L ∧ h = h0
set_option maxRecDepth 65536 in
set_option maxHeartbeats 40000000 in
theorem rm20 (l : Launch) (Z : State) (a0 : Array Value) (hw : ∀ d ∈ tables_1, d.before a0 Z = true) (ws : List Jvm.Cond) (a1 : Addr) (h0 : Heap) (n0 : Nat) (Z0 : n0 ≤ h0.size) (F_nodeAhead_a1 : Fld Z h0 a1 "com/example/ordinal_lock/ordinallock/protocol/TurnRule$Turn" "nodeAhead" "Ljava/lang/String;" .null) :
    MetFree l (⟨"com/example/ordinal_lock/ordinallock/protocol/TurnRule$Turn", "nodeAhead", "()Ljava/lang/String;"⟩ : MethodName) (head1 (Jvm.Cond.code (⟨"com/example/ordinal_lock/ordinallock/protocol/TurnRule$Turn", "nodeAhead", "()Ljava/lang/String;"⟩ : MethodName) prog_7_method_7_code 1 (some (.object "java/lang/String")) :: ws) ({ frames := 0, cells := 0, slots := 0, locals := 0 } : Room)) (fun a U => a = #[(.ref a1)] ∧ Z.Warmed39 U.vm ∧ U.heap = h0) (fun _ _ _ _ _ => True) (fun _ U o U' => ∃ v L, o = .returned v ∧ Q20 Z a1 h0 n0 v U'.heap L ∧ FrameEnd U o U' L ({ frames := 0, cells := 0, slots := 0, locals := 0 } : Room).cells ({ frames := 0, cells := 0, slots := 0, locals := 0 } : Room).slots) := by
  refine MetFree.of_bodySF (plainFor_of_name pn_20) hisR ?_
  intro p e s m args below meth c s₁ Bd hml0 hP hK
  obtain ⟨rfl, hZ, hh⟩ := hP
  have hx := Bd.exec
  have hby := Bd.bytes
  have hml : c.maxLocals = 1 := hml0
  have hown : s.vm.findClass "com/example/ordinal_lock/ordinallock/protocol/TurnRule$Turn" = some m.cls := findClass_of_methodNamed Bd.named
  have hnm := (name_of_methodNamed Bd.named Bd.method).1
  have X0 : Stand p l e ({ frames := 0, cells := 0, slots := 0, locals := 0 } : Room) s m #[(.ref a1)] below meth c s₁ [] 0 0 := Stand.of_body Bd
  have e0 : s₁.heap = h0 := by rw [← hh, Bd.state]; rfl
  have N0 := Fr.nil n0
  have pre0 : ∀ t, Steps p.tables e below (s₁.setTop (mkF m 0 #[.val (.ref a1)] [])) t → Steps p.tables e below (s₁.setTop (entryFrame m #[(.ref a1)] 1)) t := fun t k => castTop (ef_20 m a1) k
  obtain ⟨T2, X2, e2, st2⟩ := getF X0 hx hZ hown (host := "") (Or.inl (hw _ (List.mem_of_getElem? (i := 132) rfl))) Via.refl e0 F_nodeAhead_a1 (g := (mkF m 1 #[.val (.ref a1)] [(.ref a1)])) rfl rfl (hb hby d20_1)
  obtain ⟨fs, hr, hrun, hended, hW, hsame⟩ := X2.leave (v := some .null) (fun h => by rw [Bd.returns] at h; cases h)
  refine ⟨_, _, pre0 _ ?_, hrun, hended, _, _, rfl, ?_, ⟨_, rfl⟩, hW, hsame.mono (by decide) (by decide)⟩
  · show Steps p.tables e below (s₁.setTop (mkF m 0 #[.val (.ref a1)] [])) _
    refine XS.aloadN X0.here hx rfl (hb hby d20_0) rfl rfl ?_
    show Steps p.tables e below (s₁.setTop (mkF m 1 #[.val (.ref a1)] [(.ref a1)])) _
    refine st2 _ ?_
    show Steps p.tables e below (T2.setTop (mkF m 4 #[.val (.ref a1)] [.null])) _
    jvm_step X2.here [X2.here.top, hx, (hb hby d20_4), X2.method', Bd.returns, Value.isRef, FieldType.isReference]
    first | (intro acts; rw [hr _ acts rfl rfl rfl]) | rw [hr _ _ rfl rfl rfl]
    exact Steps.refl _
  · show Q20 Z a1 h0 n0 _ T2.heap _
    rw [e2]
    exact ⟨rfl, N0, rfl⟩
theorem pd_0_1 : parseMethodDescriptor "(JI)Ljava/lang/String;" = some ⟨[.long, .int], some (.object "java/lang/String")⟩ := by decide +kernel
theorem pd_0_6 : parseMethodDescriptor "(Ljava/lang/Object;)Z" = some ⟨[(.object "java/lang/Object")], some .boolean⟩ := by decide +kernel
set_option maxRecDepth 65536 in
set_option maxHeartbeats 40000000 in
theorem own_s0 {p : Program} {l : Launch} {e : Env} {s : State} {m : MethodId} {args : Array Value} {below : List Frame} {meth : Method} {c : Code} {T0 : State} {locs : List Loc} {Z : State} {a0 : Array Value} {h0 : Heap} {n0 : Nat} {cells slots : Nat} (s0 : Slot) (s1 : Slot) (j2 : Int64) (s4 : Slot) (s5 : Slot) (i6 : Int32) (o7 : Addr) (s8 : Slot) (s9 : Slot) (s10 : Slot) (s11 : Slot) (d0 : Addr) (cl_d0 : Cell) (cs : Int32) (k : Nat)
    (X0 : Stand p l e room_1 s m args below meth c T0 locs cells slots) (hx : p.tables.exec = Jvm.exec) (hZ : Z.Warmed39 s.vm) (hw : ∀ d ∈ tables_1, d.before a0 Z = true) (hby : c.code = code) (hml : c.maxLocals = 12) (hown : s.vm.findClass "com/example/ordinal_lock/ordinallock/protocol/WithinLimitTurnPinLaw" = some m.cls) (e0 : T0.heap = h0) (N0 : Fr n0 locs) (O0 : Old Z n0 h0) (SD : Sta Z Z.heap "java/util/ArrayList" "DEFAULTCAPACITY_EMPTY_ELEMENTDATA" "[Ljava/lang/Object;" (.ref d0)) (AD : Arr Z Z.heap d0 cl_d0 (.object "java/lang/Object")) (S_d0 : cl_d0.slots.size = (0 : Int32).toNatClampNeg) (SC : Sta Z Z.heap "java/lang/String" "COMPACT_STRINGS" "Z" (.int cs)) (hcs : ¬ (cs = (0 : Int32))) (g_o7 : n0 ≤ o7) (HL : own_L Z h0 n0 o7 d0 k) (hk : k < 10) (hcl : cells + 3 ≤ 56) (hsl : slots + 15 ≤ 192) (hc43 : (0 : Int32) < i6) :
    ∃ (T' : State) (h' : Heap) (locs' : List Loc), Stand p l e room_1 s m args below meth c T' locs' (cells + 3) (slots + 15) ∧ T'.heap = h' ∧ Fr n0 locs' ∧ Old Z n0 h' ∧ own_L Z h' n0 o7 d0 (k + 1) ∧
      ∀ target, Steps p.tables e below (T'.setTop (mkF m 59 #[s0, s1, .val (.long j2), .second, s4, s5, .val (.int i6), .val (.ref o7), s8, s9, s10, s11] [])) target → Steps p.tables e below (T0.setTop (mkF m 41 #[s0, s1, .val (.long j2), .second, s4, s5, .val (.int i6), .val (.ref o7), s8, s9, s10, s11] [])) target := by
  -- pc 50: com/example/ordinal_lock/ordinallock/protocol/WithinLimitTurnPinLaw.ch by its contract rm5
  obtain ⟨_, _, ⟨T5, L5, k5, n5⟩, -, X5, ⟨Lc5, hQ5, l5, y5, z5⟩, st5⟩ := Jvm.LawKit.callS X0 hx (y := (⟨"com/example/ordinal_lock/ordinallock/protocol/WithinLimitTurnPinLaw", "ch", "(JI)Ljava/lang/String;"⟩ : MethodName)) hown (mvT hZ (hw _ (List.mem_of_getElem? (i := 26) rfl))) (mvT hZ (hw _ (List.mem_of_getElem? (i := 27) rfl))) (mvT hZ (hw _ (List.mem_of_getElem? (i := 28) rfl))) (mvT hZ (hw _ (List.mem_of_getElem? (i := 29) rfl))) (by decide) (backOf (W := 1) (rm5 l Z a0 hw [] j2 (0 : Int32) cs h0 n0 (own_osz O0) O0 SC hcs) hZ (hw _ (List.mem_of_getElem? (i := 29) rfl)) (hw _ (List.mem_of_getElem? (i := 28) rfl)) (by decide) (by decide)) (g := (mkF m 50 #[s0, s1, .val (.long j2), .second, s4, s5, .val (.int i6), .val (.ref o7), s8, s9, s10, s11] [(.int (0 : Int32)), (.long j2), (.ref o7)])) rfl (by rw [hml]; rfl) (argsL := [(.long j2), (.int (0 : Int32))]) (rest := [(.ref o7)]) (lenOf pd_0_1 rfl) rfl (by show 2 * 0 + _ ≤ _; exact Nat.le_of_eq rfl) (hb hby at_50) (fun _ _ => ⟨rfl, e0, (show cells + 0 + 2 ≤ 56 by omega), (show slots + 0 + 5 ≤ 192 by omega)⟩)
  dsimp only [Pt.U, Pt.locs, Pt.cells, Pt.slots] at X5 l5 y5 z5 st5 hQ5
  subst l5 y5 z5
  obtain ⟨bq5, rfl, N5q, Kq5, Ex5⟩ := hQ5
  have N5 := Fr.app N0 N5q
  -- pc 53: java/util/List.add by the contract of the body that the receiver's class selects, rm10
  obtain ⟨cq6, kq6, q6a, q6b, q6c⟩ := isOf hZ rfl (HL.1.keep Kq5)
  obtain ⟨_, _, ⟨T6, L6, k6, n6⟩, -, X6, ⟨Lc6, hQ6, l6, y6, z6⟩, st6⟩ := X5.interfaceBack hx (xi := (⟨"java/util/List", "add", "(Ljava/lang/Object;)Z"⟩ : MethodName)) (y := (⟨"java/util/ArrayList", "add", "(Ljava/lang/Object;)Z"⟩ : MethodName)) hown (mvT hZ (hw _ (List.mem_of_getElem? (i := 55) rfl))) (mvT hZ (hw _ (List.mem_of_getElem? (i := 56) rfl))) (mvT hZ (hw _ (List.mem_of_getElem? (i := 57) rfl))) (mvT hZ (hw _ (List.mem_of_getElem? (i := 58) rfl))) (mvT hZ (hw _ (List.mem_of_getElem? (i := 59) rfl))) (mvT hZ (hw _ (List.mem_of_getElem? (i := 60) rfl))) (mvT hZ (hw _ (List.mem_of_getElem? (i := 61) rfl))) (mvT hZ (hw _ (List.mem_of_getElem? (i := 62) rfl))) (by decide) (backOf (W := 0) (rm10 l Z a0 hw [] o7 bq5 d0 cl_d0 k T5.heap n0 (O0.keep Kq5 (fun _ q_ => absurd q_ List.not_mem_nil)) SD AD S_d0 g_o7 (Ins.of_exa Ex5 (hw _ (List.mem_of_getElem? (i := 89) rfl))) (HL.keep Kq5) hk) hZ (hw _ (List.mem_of_getElem? (i := 63) rfl)) (hw _ (List.mem_of_getElem? (i := 2) rfl)) (by decide) (by decide)) q6a q6b q6c (g := (mkF m 53 #[s0, s1, .val (.long j2), .second, s4, s5, .val (.int i6), .val (.ref o7), s8, s9, s10, s11] [(.ref bq5), (.ref o7)])) rfl (by rw [hml]; rfl) (Steps.refl _) (argsL := [(.ref bq5)]) (rest := []) (lenOf pd_0_6 rfl) rfl (by show 2 * 0 + _ ≤ _; exact Nat.le_of_eq rfl) (hb hby at_53) (fun _ _ => ⟨rfl, rfl, (show cells + 2 + 1 ≤ 56 by omega), (show slots + 5 + 10 ≤ 192 by omega)⟩)
  dsimp only [Pt.U, Pt.locs, Pt.cells, Pt.slots] at X6 l6 y6 z6 st6 hQ6
  subst l6 y6 z6
  obtain ⟨rfl, N6q, Oq6, Lq6⟩ := hQ6
  have N6 := Fr.app N5 N6q
  refine ⟨T6, _, _, X6, rfl, N6, Oq6, Lq6, fun target kt => ?_⟩
  show Steps p.tables e below (T0.setTop (mkF m 41 #[s0, s1, .val (.long j2), .second, s4, s5, .val (.int i6), .val (.ref o7), s8, s9, s10, s11] [])) _
  refine XS.iload X0.here hx rfl (hb hby at_41) rfl ?_
  show Steps p.tables e below (T0.setTop (mkF m 43 #[s0, s1, .val (.long j2), .second, s4, s5, .val (.int i6), .val (.ref o7), s8, s9, s10, s11] [(.int i6)])) _
  refine XS.ifNo X0.here hx rfl (hb hby at_43) rfl ((if0 _ _).trans (tlt hc43).2.2.2) ?_
  show Steps p.tables e below (T0.setTop (mkF m 46 #[s0, s1, .val (.long j2), .second, s4, s5, .val (.int i6), .val (.ref o7), s8, s9, s10, s11] [])) _
  refine XS.aload X0.here hx rfl (hb hby at_46) rfl rfl ?_
  show Steps p.tables e below (T0.setTop (mkF m 48 #[s0, s1, .val (.long j2), .second, s4, s5, .val (.int i6), .val (.ref o7), s8, s9, s10, s11] [(.ref o7)])) _
  refine XS.lloadN X0.here hx rfl (hb hby at_48) rfl ?_
  show Steps p.tables e below (T0.setTop (mkF m 49 #[s0, s1, .val (.long j2), .second, s4, s5, .val (.int i6), .val (.ref o7), s8, s9, s10, s11] [(.long j2), (.ref o7)])) _
  refine XS.iconst X0.here hx rfl (hb hby at_49) ?_
  show Steps p.tables e below (T0.setTop (mkF m 50 #[s0, s1, .val (.long j2), .second, s4, s5, .val (.int i6), .val (.ref o7), s8, s9, s10, s11] [(.int (0 : Int32)), (.long j2), (.ref o7)])) _
  refine st5 _ ?_
  show Steps p.tables e below (T5.setTop (mkF m 53 #[s0, s1, .val (.long j2), .second, s4, s5, .val (.int i6), .val (.ref o7), s8, s9, s10, s11] [(.ref bq5), (.ref o7)])) _
  refine st6.trans ?_
  show Steps p.tables e below (T6.setTop (mkF m 58 #[s0, s1, .val (.long j2), .second, s4, s5, .val (.int i6), .val (.ref o7), s8, s9, s10, s11] [(.int (1 : Int32))])) _
  refine XS.pop X6.here hx rfl (hb hby at_58) rfl rfl ?_
  exact kt
set_option maxRecDepth 65536 in
set_option maxHeartbeats 40000000 in
theorem own_k0 {p : Program} {l : Launch} {e : Env} {R : Room} {s : State} {m : MethodId} {args : Array Value} {below : List Frame} {meth : Method} {c : Code} {T0 : State} {locs : List Loc} {cells slots : Nat} {Z : State} {a0 : Array Value} {h0 : Heap} (s0 : Slot) (s1 : Slot) (s2 : Slot) (s3 : Slot) (s4 : Slot) (s5 : Slot) (i6 : Int32) (s7 : Slot) (s8 : Slot) (s9 : Slot) (s10 : Slot) (s11 : Slot)
    (X0 : Stand p l e R s m args below meth c T0 locs cells slots) (hx : p.tables.exec = Jvm.exec) (hZ : Z.Warmed39 s.vm) (hw : ∀ d ∈ tables_1, d.before a0 Z = true) (hby : c.code = code) (hml : c.maxLocals = 12) (hown : s.vm.findClass "com/example/ordinal_lock/ordinallock/protocol/WithinLimitTurnPinLaw" = some m.cls) (e0 : T0.heap = h0) (hc43 : ¬ ((0 : Int32) < i6)) :
    ∃ (T' : State), Stand p l e R s m args below meth c T' locs cells slots ∧ T'.heap = h0 ∧
      ∀ target, Steps p.tables e below (T'.setTop (mkF m 59 #[s0, s1, s2, s3, s4, s5, .val (.int i6), s7, s8, s9, s10, s11] [])) target → Steps p.tables e below (T0.setTop (mkF m 41 #[s0, s1, s2, s3, s4, s5, .val (.int i6), s7, s8, s9, s10, s11] [])) target := by

  refine ⟨T0, X0, e0, fun target kt => ?_⟩
  show Steps p.tables e below (T0.setTop (mkF m 41 #[s0, s1, s2, s3, s4, s5, .val (.int i6), s7, s8, s9, s10, s11] [])) _
  refine XS.iload X0.here hx rfl (hb hby at_41) rfl ?_
  show Steps p.tables e below (T0.setTop (mkF m 43 #[s0, s1, s2, s3, s4, s5, .val (.int i6), s7, s8, s9, s10, s11] [(.int i6)])) _
  refine XS.ifYes X0.here hx rfl (pc0 := 43) (pc' := 59) rfl (hb hby at_43) rfl ((if0 _ _).trans (flt hc43).2.2.2) (by decide) (by decide) ?_
  exact kt
set_option maxRecDepth 65536 in
set_option maxHeartbeats 40000000 in
theorem own_s1 {p : Program} {l : Launch} {e : Env} {s : State} {m : MethodId} {args : Array Value} {below : List Frame} {meth : Method} {c : Code} {T0 : State} {locs : List Loc} {Z : State} {a0 : Array Value} {h0 : Heap} {n0 : Nat} {cells slots : Nat} (s0 : Slot) (s1 : Slot) (j2 : Int64) (s4 : Slot) (s5 : Slot) (i6 : Int32) (o7 : Addr) (s8 : Slot) (s9 : Slot) (s10 : Slot) (s11 : Slot) (d0 : Addr) (cl_d0 : Cell) (cs : Int32) (k : Nat)
    (X0 : Stand p l e room_1 s m args below meth c T0 locs cells slots) (hx : p.tables.exec = Jvm.exec) (hZ : Z.Warmed39 s.vm) (hw : ∀ d ∈ tables_1, d.before a0 Z = true) (hby : c.code = code) (hml : c.maxLocals = 12) (hown : s.vm.findClass "com/example/ordinal_lock/ordinallock/protocol/WithinLimitTurnPinLaw" = some m.cls) (e0 : T0.heap = h0) (N0 : Fr n0 locs) (O0 : Old Z n0 h0) (SD : Sta Z Z.heap "java/util/ArrayList" "DEFAULTCAPACITY_EMPTY_ELEMENTDATA" "[Ljava/lang/Object;" (.ref d0)) (AD : Arr Z Z.heap d0 cl_d0 (.object "java/lang/Object")) (S_d0 : cl_d0.slots.size = (0 : Int32).toNatClampNeg) (SC : Sta Z Z.heap "java/lang/String" "COMPACT_STRINGS" "Z" (.int cs)) (hcs : ¬ (cs = (0 : Int32))) (g_o7 : n0 ≤ o7) (HL : own_L Z h0 n0 o7 d0 k) (hk : k < 10) (hcl : cells + 3 ≤ 56) (hsl : slots + 15 ≤ 192) (hc62 : (1 : Int32) < i6) :
    ∃ (T' : State) (h' : Heap) (locs' : List Loc), Stand p l e room_1 s m args below meth c T' locs' (cells + 3) (slots + 15) ∧ T'.heap = h' ∧ Fr n0 locs' ∧ Old Z n0 h' ∧ own_L Z h' n0 o7 d0 (k + 1) ∧
      ∀ target, Steps p.tables e below (T'.setTop (mkF m 78 #[s0, s1, .val (.long j2), .second, s4, s5, .val (.int i6), .val (.ref o7), s8, s9, s10, s11] [])) target → Steps p.tables e below (T0.setTop (mkF m 59 #[s0, s1, .val (.long j2), .second, s4, s5, .val (.int i6), .val (.ref o7), s8, s9, s10, s11] [])) target := by
  -- pc 69: com/example/ordinal_lock/ordinallock/protocol/WithinLimitTurnPinLaw.ch by its contract rm5
  obtain ⟨_, _, ⟨T5, L5, k5, n5⟩, -, X5, ⟨Lc5, hQ5, l5, y5, z5⟩, st5⟩ := Jvm.LawKit.callS X0 hx (y := (⟨"com/example/ordinal_lock/ordinallock/protocol/WithinLimitTurnPinLaw", "ch", "(JI)Ljava/lang/String;"⟩ : MethodName)) hown (mvT hZ (hw _ (List.mem_of_getElem? (i := 26) rfl))) (mvT hZ (hw _ (List.mem_of_getElem? (i := 27) rfl))) (mvT hZ (hw _ (List.mem_of_getElem? (i := 28) rfl))) (mvT hZ (hw _ (List.mem_of_getElem? (i := 29) rfl))) (by decide) (backOf (W := 1) (rm5 l Z a0 hw [] j2 (1 : Int32) cs h0 n0 (own_osz O0) O0 SC hcs) hZ (hw _ (List.mem_of_getElem? (i := 29) rfl)) (hw _ (List.mem_of_getElem? (i := 28) rfl)) (by decide) (by decide)) (g := (mkF m 69 #[s0, s1, .val (.long j2), .second, s4, s5, .val (.int i6), .val (.ref o7), s8, s9, s10, s11] [(.int (1 : Int32)), (.long j2), (.ref o7)])) rfl (by rw [hml]; rfl) (argsL := [(.long j2), (.int (1 : Int32))]) (rest := [(.ref o7)]) (lenOf pd_0_1 rfl) rfl (by show 2 * 0 + _ ≤ _; exact Nat.le_of_eq rfl) (hb hby at_69) (fun _ _ => ⟨rfl, e0, (show cells + 0 + 2 ≤ 56 by omega), (show slots + 0 + 5 ≤ 192 by omega)⟩)
  dsimp only [Pt.U, Pt.locs, Pt.cells, Pt.slots] at X5 l5 y5 z5 st5 hQ5
  subst l5 y5 z5
  obtain ⟨bq5, rfl, N5q, Kq5, Ex5⟩ := hQ5
  have N5 := Fr.app N0 N5q
  -- pc 72: java/util/List.add by the contract of the body that the receiver's class selects, rm10
  obtain ⟨cq6, kq6, q6a, q6b, q6c⟩ := isOf hZ rfl (HL.1.keep Kq5)
  obtain ⟨_, _, ⟨T6, L6, k6, n6⟩, -, X6, ⟨Lc6, hQ6, l6, y6, z6⟩, st6⟩ := X5.interfaceBack hx (xi := (⟨"java/util/List", "add", "(Ljava/lang/Object;)Z"⟩ : MethodName)) (y := (⟨"java/util/ArrayList", "add", "(Ljava/lang/Object;)Z"⟩ : MethodName)) hown (mvT hZ (hw _ (List.mem_of_getElem? (i := 55) rfl))) (mvT hZ (hw _ (List.mem_of_getElem? (i := 56) rfl))) (mvT hZ (hw _ (List.mem_of_getElem? (i := 57) rfl))) (mvT hZ (hw _ (List.mem_of_getElem? (i := 58) rfl))) (mvT hZ (hw _ (List.mem_of_getElem? (i := 59) rfl))) (mvT hZ (hw _ (List.mem_of_getElem? (i := 60) rfl))) (mvT hZ (hw _ (List.mem_of_getElem? (i := 61) rfl))) (mvT hZ (hw _ (List.mem_of_getElem? (i := 62) rfl))) (by decide) (backOf (W := 0) (rm10 l Z a0 hw [] o7 bq5 d0 cl_d0 k T5.heap n0 (O0.keep Kq5 (fun _ q_ => absurd q_ List.not_mem_nil)) SD AD S_d0 g_o7 (Ins.of_exa Ex5 (hw _ (List.mem_of_getElem? (i := 89) rfl))) (HL.keep Kq5) hk) hZ (hw _ (List.mem_of_getElem? (i := 63) rfl)) (hw _ (List.mem_of_getElem? (i := 2) rfl)) (by decide) (by decide)) q6a q6b q6c (g := (mkF m 72 #[s0, s1, .val (.long j2), .second, s4, s5, .val (.int i6), .val (.ref o7), s8, s9, s10, s11] [(.ref bq5), (.ref o7)])) rfl (by rw [hml]; rfl) (Steps.refl _) (argsL := [(.ref bq5)]) (rest := []) (lenOf pd_0_6 rfl) rfl (by show 2 * 0 + _ ≤ _; exact Nat.le_of_eq rfl) (hb hby at_72) (fun _ _ => ⟨rfl, rfl, (show cells + 2 + 1 ≤ 56 by omega), (show slots + 5 + 10 ≤ 192 by omega)⟩)
  dsimp only [Pt.U, Pt.locs, Pt.cells, Pt.slots] at X6 l6 y6 z6 st6 hQ6
  subst l6 y6 z6
  obtain ⟨rfl, N6q, Oq6, Lq6⟩ := hQ6
  have N6 := Fr.app N5 N6q
  refine ⟨T6, _, _, X6, rfl, N6, Oq6, Lq6, fun target kt => ?_⟩
  show Steps p.tables e below (T0.setTop (mkF m 59 #[s0, s1, .val (.long j2), .second, s4, s5, .val (.int i6), .val (.ref o7), s8, s9, s10, s11] [])) _
  refine XS.iload X0.here hx rfl (hb hby at_59) rfl ?_
  show Steps p.tables e below (T0.setTop (mkF m 61 #[s0, s1, .val (.long j2), .second, s4, s5, .val (.int i6), .val (.ref o7), s8, s9, s10, s11] [(.int i6)])) _
  refine XS.iconst X0.here hx rfl (hb hby at_61) ?_
  show Steps p.tables e below (T0.setTop (mkF m 62 #[s0, s1, .val (.long j2), .second, s4, s5, .val (.int i6), .val (.ref o7), s8, s9, s10, s11] [(.int (1 : Int32)), (.int i6)])) _
  refine XS.icmpNo X0.here hx rfl (hb hby at_62) rfl (tlt hc62).2.2.2 ?_
  show Steps p.tables e below (T0.setTop (mkF m 65 #[s0, s1, .val (.long j2), .second, s4, s5, .val (.int i6), .val (.ref o7), s8, s9, s10, s11] [])) _
  refine XS.aload X0.here hx rfl (hb hby at_65) rfl rfl ?_
  show Steps p.tables e below (T0.setTop (mkF m 67 #[s0, s1, .val (.long j2), .second, s4, s5, .val (.int i6), .val (.ref o7), s8, s9, s10, s11] [(.ref o7)])) _
  refine XS.lloadN X0.here hx rfl (hb hby at_67) rfl ?_
  show Steps p.tables e below (T0.setTop (mkF m 68 #[s0, s1, .val (.long j2), .second, s4, s5, .val (.int i6), .val (.ref o7), s8, s9, s10, s11] [(.long j2), (.ref o7)])) _
  refine XS.iconst X0.here hx rfl (hb hby at_68) ?_
  show Steps p.tables e below (T0.setTop (mkF m 69 #[s0, s1, .val (.long j2), .second, s4, s5, .val (.int i6), .val (.ref o7), s8, s9, s10, s11] [(.int (1 : Int32)), (.long j2), (.ref o7)])) _
  refine st5 _ ?_
  show Steps p.tables e below (T5.setTop (mkF m 72 #[s0, s1, .val (.long j2), .second, s4, s5, .val (.int i6), .val (.ref o7), s8, s9, s10, s11] [(.ref bq5), (.ref o7)])) _
  refine st6.trans ?_
  show Steps p.tables e below (T6.setTop (mkF m 77 #[s0, s1, .val (.long j2), .second, s4, s5, .val (.int i6), .val (.ref o7), s8, s9, s10, s11] [(.int (1 : Int32))])) _
  refine XS.pop X6.here hx rfl (hb hby at_77) rfl rfl ?_
  exact kt
set_option maxRecDepth 65536 in
set_option maxHeartbeats 40000000 in
theorem own_k1 {p : Program} {l : Launch} {e : Env} {R : Room} {s : State} {m : MethodId} {args : Array Value} {below : List Frame} {meth : Method} {c : Code} {T0 : State} {locs : List Loc} {cells slots : Nat} {Z : State} {a0 : Array Value} {h0 : Heap} (s0 : Slot) (s1 : Slot) (s2 : Slot) (s3 : Slot) (s4 : Slot) (s5 : Slot) (i6 : Int32) (s7 : Slot) (s8 : Slot) (s9 : Slot) (s10 : Slot) (s11 : Slot)
    (X0 : Stand p l e R s m args below meth c T0 locs cells slots) (hx : p.tables.exec = Jvm.exec) (hZ : Z.Warmed39 s.vm) (hw : ∀ d ∈ tables_1, d.before a0 Z = true) (hby : c.code = code) (hml : c.maxLocals = 12) (hown : s.vm.findClass "com/example/ordinal_lock/ordinallock/protocol/WithinLimitTurnPinLaw" = some m.cls) (e0 : T0.heap = h0) (hc62 : ¬ ((1 : Int32) < i6)) :
    ∃ (T' : State), Stand p l e R s m args below meth c T' locs cells slots ∧ T'.heap = h0 ∧
      ∀ target, Steps p.tables e below (T'.setTop (mkF m 78 #[s0, s1, s2, s3, s4, s5, .val (.int i6), s7, s8, s9, s10, s11] [])) target → Steps p.tables e below (T0.setTop (mkF m 59 #[s0, s1, s2, s3, s4, s5, .val (.int i6), s7, s8, s9, s10, s11] [])) target := by

  refine ⟨T0, X0, e0, fun target kt => ?_⟩
  show Steps p.tables e below (T0.setTop (mkF m 59 #[s0, s1, s2, s3, s4, s5, .val (.int i6), s7, s8, s9, s10, s11] [])) _
  refine XS.iload X0.here hx rfl (hb hby at_59) rfl ?_
  show Steps p.tables e below (T0.setTop (mkF m 61 #[s0, s1, s2, s3, s4, s5, .val (.int i6), s7, s8, s9, s10, s11] [(.int i6)])) _
  refine XS.iconst X0.here hx rfl (hb hby at_61) ?_
  show Steps p.tables e below (T0.setTop (mkF m 62 #[s0, s1, s2, s3, s4, s5, .val (.int i6), s7, s8, s9, s10, s11] [(.int (1 : Int32)), (.int i6)])) _
  refine XS.icmpYes X0.here hx rfl (pc0 := 62) (pc' := 78) rfl (hb hby at_62) rfl (flt hc62).2.2.2 (by decide) (by decide) ?_
  exact kt
set_option maxRecDepth 65536 in
set_option maxHeartbeats 40000000 in
theorem own_s2 {p : Program} {l : Launch} {e : Env} {s : State} {m : MethodId} {args : Array Value} {below : List Frame} {meth : Method} {c : Code} {T0 : State} {locs : List Loc} {Z : State} {a0 : Array Value} {h0 : Heap} {n0 : Nat} {cells slots : Nat} (s0 : Slot) (s1 : Slot) (j2 : Int64) (s4 : Slot) (s5 : Slot) (i6 : Int32) (o7 : Addr) (s8 : Slot) (s9 : Slot) (s10 : Slot) (s11 : Slot) (d0 : Addr) (cl_d0 : Cell) (cs : Int32) (k : Nat)
    (X0 : Stand p l e room_1 s m args below meth c T0 locs cells slots) (hx : p.tables.exec = Jvm.exec) (hZ : Z.Warmed39 s.vm) (hw : ∀ d ∈ tables_1, d.before a0 Z = true) (hby : c.code = code) (hml : c.maxLocals = 12) (hown : s.vm.findClass "com/example/ordinal_lock/ordinallock/protocol/WithinLimitTurnPinLaw" = some m.cls) (e0 : T0.heap = h0) (N0 : Fr n0 locs) (O0 : Old Z n0 h0) (SD : Sta Z Z.heap "java/util/ArrayList" "DEFAULTCAPACITY_EMPTY_ELEMENTDATA" "[Ljava/lang/Object;" (.ref d0)) (AD : Arr Z Z.heap d0 cl_d0 (.object "java/lang/Object")) (S_d0 : cl_d0.slots.size = (0 : Int32).toNatClampNeg) (SC : Sta Z Z.heap "java/lang/String" "COMPACT_STRINGS" "Z" (.int cs)) (hcs : ¬ (cs = (0 : Int32))) (g_o7 : n0 ≤ o7) (HL : own_L Z h0 n0 o7 d0 k) (hk : k < 10) (hcl : cells + 3 ≤ 56) (hsl : slots + 15 ≤ 192) (hc81 : (2 : Int32) < i6) :
    ∃ (T' : State) (h' : Heap) (locs' : List Loc), Stand p l e room_1 s m args below meth c T' locs' (cells + 3) (slots + 15) ∧ T'.heap = h' ∧ Fr n0 locs' ∧ Old Z n0 h' ∧ own_L Z h' n0 o7 d0 (k + 1) ∧
      ∀ target, Steps p.tables e below (T'.setTop (mkF m 97 #[s0, s1, .val (.long j2), .second, s4, s5, .val (.int i6), .val (.ref o7), s8, s9, s10, s11] [])) target → Steps p.tables e below (T0.setTop (mkF m 78 #[s0, s1, .val (.long j2), .second, s4, s5, .val (.int i6), .val (.ref o7), s8, s9, s10, s11] [])) target := by
  -- pc 88: com/example/ordinal_lock/ordinallock/protocol/WithinLimitTurnPinLaw.ch by its contract rm5
  obtain ⟨_, _, ⟨T5, L5, k5, n5⟩, -, X5, ⟨Lc5, hQ5, l5, y5, z5⟩, st5⟩ := Jvm.LawKit.callS X0 hx (y := (⟨"com/example/ordinal_lock/ordinallock/protocol/WithinLimitTurnPinLaw", "ch", "(JI)Ljava/lang/String;"⟩ : MethodName)) hown (mvT hZ (hw _ (List.mem_of_getElem? (i := 26) rfl))) (mvT hZ (hw _ (List.mem_of_getElem? (i := 27) rfl))) (mvT hZ (hw _ (List.mem_of_getElem? (i := 28) rfl))) (mvT hZ (hw _ (List.mem_of_getElem? (i := 29) rfl))) (by decide) (backOf (W := 1) (rm5 l Z a0 hw [] j2 (2 : Int32) cs h0 n0 (own_osz O0) O0 SC hcs) hZ (hw _ (List.mem_of_getElem? (i := 29) rfl)) (hw _ (List.mem_of_getElem? (i := 28) rfl)) (by decide) (by decide)) (g := (mkF m 88 #[s0, s1, .val (.long j2), .second, s4, s5, .val (.int i6), .val (.ref o7), s8, s9, s10, s11] [(.int (2 : Int32)), (.long j2), (.ref o7)])) rfl (by rw [hml]; rfl) (argsL := [(.long j2), (.int (2 : Int32))]) (rest := [(.ref o7)]) (lenOf pd_0_1 rfl) rfl (by show 2 * 0 + _ ≤ _; exact Nat.le_of_eq rfl) (hb hby at_88) (fun _ _ => ⟨rfl, e0, (show cells + 0 + 2 ≤ 56 by omega), (show slots + 0 + 5 ≤ 192 by omega)⟩)
  dsimp only [Pt.U, Pt.locs, Pt.cells, Pt.slots] at X5 l5 y5 z5 st5 hQ5
  subst l5 y5 z5
  obtain ⟨bq5, rfl, N5q, Kq5, Ex5⟩ := hQ5
  have N5 := Fr.app N0 N5q
  -- pc 91: java/util/List.add by the contract of the body that the receiver's class selects, rm10
  obtain ⟨cq6, kq6, q6a, q6b, q6c⟩ := isOf hZ rfl (HL.1.keep Kq5)
  obtain ⟨_, _, ⟨T6, L6, k6, n6⟩, -, X6, ⟨Lc6, hQ6, l6, y6, z6⟩, st6⟩ := X5.interfaceBack hx (xi := (⟨"java/util/List", "add", "(Ljava/lang/Object;)Z"⟩ : MethodName)) (y := (⟨"java/util/ArrayList", "add", "(Ljava/lang/Object;)Z"⟩ : MethodName)) hown (mvT hZ (hw _ (List.mem_of_getElem? (i := 55) rfl))) (mvT hZ (hw _ (List.mem_of_getElem? (i := 56) rfl))) (mvT hZ (hw _ (List.mem_of_getElem? (i := 57) rfl))) (mvT hZ (hw _ (List.mem_of_getElem? (i := 58) rfl))) (mvT hZ (hw _ (List.mem_of_getElem? (i := 59) rfl))) (mvT hZ (hw _ (List.mem_of_getElem? (i := 60) rfl))) (mvT hZ (hw _ (List.mem_of_getElem? (i := 61) rfl))) (mvT hZ (hw _ (List.mem_of_getElem? (i := 62) rfl))) (by decide) (backOf (W := 0) (rm10 l Z a0 hw [] o7 bq5 d0 cl_d0 k T5.heap n0 (O0.keep Kq5 (fun _ q_ => absurd q_ List.not_mem_nil)) SD AD S_d0 g_o7 (Ins.of_exa Ex5 (hw _ (List.mem_of_getElem? (i := 89) rfl))) (HL.keep Kq5) hk) hZ (hw _ (List.mem_of_getElem? (i := 63) rfl)) (hw _ (List.mem_of_getElem? (i := 2) rfl)) (by decide) (by decide)) q6a q6b q6c (g := (mkF m 91 #[s0, s1, .val (.long j2), .second, s4, s5, .val (.int i6), .val (.ref o7), s8, s9, s10, s11] [(.ref bq5), (.ref o7)])) rfl (by rw [hml]; rfl) (Steps.refl _) (argsL := [(.ref bq5)]) (rest := []) (lenOf pd_0_6 rfl) rfl (by show 2 * 0 + _ ≤ _; exact Nat.le_of_eq rfl) (hb hby at_91) (fun _ _ => ⟨rfl, rfl, (show cells + 2 + 1 ≤ 56 by omega), (show slots + 5 + 10 ≤ 192 by omega)⟩)
  dsimp only [Pt.U, Pt.locs, Pt.cells, Pt.slots] at X6 l6 y6 z6 st6 hQ6
  subst l6 y6 z6
  obtain ⟨rfl, N6q, Oq6, Lq6⟩ := hQ6
  have N6 := Fr.app N5 N6q
  refine ⟨T6, _, _, X6, rfl, N6, Oq6, Lq6, fun target kt => ?_⟩
  show Steps p.tables e below (T0.setTop (mkF m 78 #[s0, s1, .val (.long j2), .second, s4, s5, .val (.int i6), .val (.ref o7), s8, s9, s10, s11] [])) _
  refine XS.iload X0.here hx rfl (hb hby at_78) rfl ?_
  show Steps p.tables e below (T0.setTop (mkF m 80 #[s0, s1, .val (.long j2), .second, s4, s5, .val (.int i6), .val (.ref o7), s8, s9, s10, s11] [(.int i6)])) _
  refine XS.iconst X0.here hx rfl (hb hby at_80) ?_
  show Steps p.tables e below (T0.setTop (mkF m 81 #[s0, s1, .val (.long j2), .second, s4, s5, .val (.int i6), .val (.ref o7), s8, s9, s10, s11] [(.int (2 : Int32)), (.int i6)])) _
  refine XS.icmpNo X0.here hx rfl (hb hby at_81) rfl (tlt hc81).2.2.2 ?_
  show Steps p.tables e below (T0.setTop (mkF m 84 #[s0, s1, .val (.long j2), .second, s4, s5, .val (.int i6), .val (.ref o7), s8, s9, s10, s11] [])) _
  refine XS.aload X0.here hx rfl (hb hby at_84) rfl rfl ?_
  show Steps p.tables e below (T0.setTop (mkF m 86 #[s0, s1, .val (.long j2), .second, s4, s5, .val (.int i6), .val (.ref o7), s8, s9, s10, s11] [(.ref o7)])) _
  refine XS.lloadN X0.here hx rfl (hb hby at_86) rfl ?_
  show Steps p.tables e below (T0.setTop (mkF m 87 #[s0, s1, .val (.long j2), .second, s4, s5, .val (.int i6), .val (.ref o7), s8, s9, s10, s11] [(.long j2), (.ref o7)])) _
  refine XS.iconst X0.here hx rfl (hb hby at_87) ?_
  show Steps p.tables e below (T0.setTop (mkF m 88 #[s0, s1, .val (.long j2), .second, s4, s5, .val (.int i6), .val (.ref o7), s8, s9, s10, s11] [(.int (2 : Int32)), (.long j2), (.ref o7)])) _
  refine st5 _ ?_
  show Steps p.tables e below (T5.setTop (mkF m 91 #[s0, s1, .val (.long j2), .second, s4, s5, .val (.int i6), .val (.ref o7), s8, s9, s10, s11] [(.ref bq5), (.ref o7)])) _
  refine st6.trans ?_
  show Steps p.tables e below (T6.setTop (mkF m 96 #[s0, s1, .val (.long j2), .second, s4, s5, .val (.int i6), .val (.ref o7), s8, s9, s10, s11] [(.int (1 : Int32))])) _
  refine XS.pop X6.here hx rfl (hb hby at_96) rfl rfl ?_
  exact kt
set_option maxRecDepth 65536 in
set_option maxHeartbeats 40000000 in
theorem own_k2 {p : Program} {l : Launch} {e : Env} {R : Room} {s : State} {m : MethodId} {args : Array Value} {below : List Frame} {meth : Method} {c : Code} {T0 : State} {locs : List Loc} {cells slots : Nat} {Z : State} {a0 : Array Value} {h0 : Heap} (s0 : Slot) (s1 : Slot) (s2 : Slot) (s3 : Slot) (s4 : Slot) (s5 : Slot) (i6 : Int32) (s7 : Slot) (s8 : Slot) (s9 : Slot) (s10 : Slot) (s11 : Slot)
    (X0 : Stand p l e R s m args below meth c T0 locs cells slots) (hx : p.tables.exec = Jvm.exec) (hZ : Z.Warmed39 s.vm) (hw : ∀ d ∈ tables_1, d.before a0 Z = true) (hby : c.code = code) (hml : c.maxLocals = 12) (hown : s.vm.findClass "com/example/ordinal_lock/ordinallock/protocol/WithinLimitTurnPinLaw" = some m.cls) (e0 : T0.heap = h0) (hc81 : ¬ ((2 : Int32) < i6)) :
    ∃ (T' : State), Stand p l e R s m args below meth c T' locs cells slots ∧ T'.heap = h0 ∧
      ∀ target, Steps p.tables e below (T'.setTop (mkF m 97 #[s0, s1, s2, s3, s4, s5, .val (.int i6), s7, s8, s9, s10, s11] [])) target → Steps p.tables e below (T0.setTop (mkF m 78 #[s0, s1, s2, s3, s4, s5, .val (.int i6), s7, s8, s9, s10, s11] [])) target := by

  refine ⟨T0, X0, e0, fun target kt => ?_⟩
  show Steps p.tables e below (T0.setTop (mkF m 78 #[s0, s1, s2, s3, s4, s5, .val (.int i6), s7, s8, s9, s10, s11] [])) _
  refine XS.iload X0.here hx rfl (hb hby at_78) rfl ?_
  show Steps p.tables e below (T0.setTop (mkF m 80 #[s0, s1, s2, s3, s4, s5, .val (.int i6), s7, s8, s9, s10, s11] [(.int i6)])) _
  refine XS.iconst X0.here hx rfl (hb hby at_80) ?_
  show Steps p.tables e below (T0.setTop (mkF m 81 #[s0, s1, s2, s3, s4, s5, .val (.int i6), s7, s8, s9, s10, s11] [(.int (2 : Int32)), (.int i6)])) _
  refine XS.icmpYes X0.here hx rfl (pc0 := 81) (pc' := 97) rfl (hb hby at_81) rfl (flt hc81).2.2.2 (by decide) (by decide) ?_
  exact kt
set_option maxRecDepth 65536 in
set_option maxHeartbeats 40000000 in
theorem own_s3 {p : Program} {l : Launch} {e : Env} {s : State} {m : MethodId} {args : Array Value} {below : List Frame} {meth : Method} {c : Code} {T0 : State} {locs : List Loc} {Z : State} {a0 : Array Value} {h0 : Heap} {n0 : Nat} {cells slots : Nat} (s0 : Slot) (s1 : Slot) (j2 : Int64) (s4 : Slot) (s5 : Slot) (i6 : Int32) (o7 : Addr) (s8 : Slot) (s9 : Slot) (s10 : Slot) (s11 : Slot) (d0 : Addr) (cl_d0 : Cell) (cs : Int32) (k : Nat)
    (X0 : Stand p l e room_1 s m args below meth c T0 locs cells slots) (hx : p.tables.exec = Jvm.exec) (hZ : Z.Warmed39 s.vm) (hw : ∀ d ∈ tables_1, d.before a0 Z = true) (hby : c.code = code) (hml : c.maxLocals = 12) (hown : s.vm.findClass "com/example/ordinal_lock/ordinallock/protocol/WithinLimitTurnPinLaw" = some m.cls) (e0 : T0.heap = h0) (N0 : Fr n0 locs) (O0 : Old Z n0 h0) (SD : Sta Z Z.heap "java/util/ArrayList" "DEFAULTCAPACITY_EMPTY_ELEMENTDATA" "[Ljava/lang/Object;" (.ref d0)) (AD : Arr Z Z.heap d0 cl_d0 (.object "java/lang/Object")) (S_d0 : cl_d0.slots.size = (0 : Int32).toNatClampNeg) (SC : Sta Z Z.heap "java/lang/String" "COMPACT_STRINGS" "Z" (.int cs)) (hcs : ¬ (cs = (0 : Int32))) (g_o7 : n0 ≤ o7) (HL : own_L Z h0 n0 o7 d0 k) (hk : k < 10) (hcl : cells + 3 ≤ 56) (hsl : slots + 15 ≤ 192) (hc100 : (3 : Int32) < i6) :
    ∃ (T' : State) (h' : Heap) (locs' : List Loc), Stand p l e room_1 s m args below meth c T' locs' (cells + 3) (slots + 15) ∧ T'.heap = h' ∧ Fr n0 locs' ∧ Old Z n0 h' ∧ own_L Z h' n0 o7 d0 (k + 1) ∧
      ∀ target, Steps p.tables e below (T'.setTop (mkF m 116 #[s0, s1, .val (.long j2), .second, s4, s5, .val (.int i6), .val (.ref o7), s8, s9, s10, s11] [])) target → Steps p.tables e below (T0.setTop (mkF m 97 #[s0, s1, .val (.long j2), .second, s4, s5, .val (.int i6), .val (.ref o7), s8, s9, s10, s11] [])) target := by
  -- pc 107: com/example/ordinal_lock/ordinallock/protocol/WithinLimitTurnPinLaw.ch by its contract rm5
  obtain ⟨_, _, ⟨T5, L5, k5, n5⟩, -, X5, ⟨Lc5, hQ5, l5, y5, z5⟩, st5⟩ := Jvm.LawKit.callS X0 hx (y := (⟨"com/example/ordinal_lock/ordinallock/protocol/WithinLimitTurnPinLaw", "ch", "(JI)Ljava/lang/String;"⟩ : MethodName)) hown (mvT hZ (hw _ (List.mem_of_getElem? (i := 26) rfl))) (mvT hZ (hw _ (List.mem_of_getElem? (i := 27) rfl))) (mvT hZ (hw _ (List.mem_of_getElem? (i := 28) rfl))) (mvT hZ (hw _ (List.mem_of_getElem? (i := 29) rfl))) (by decide) (backOf (W := 1) (rm5 l Z a0 hw [] j2 (3 : Int32) cs h0 n0 (own_osz O0) O0 SC hcs) hZ (hw _ (List.mem_of_getElem? (i := 29) rfl)) (hw _ (List.mem_of_getElem? (i := 28) rfl)) (by decide) (by decide)) (g := (mkF m 107 #[s0, s1, .val (.long j2), .second, s4, s5, .val (.int i6), .val (.ref o7), s8, s9, s10, s11] [(.int (3 : Int32)), (.long j2), (.ref o7)])) rfl (by rw [hml]; rfl) (argsL := [(.long j2), (.int (3 : Int32))]) (rest := [(.ref o7)]) (lenOf pd_0_1 rfl) rfl (by show 2 * 0 + _ ≤ _; exact Nat.le_of_eq rfl) (hb hby at_107) (fun _ _ => ⟨rfl, e0, (show cells + 0 + 2 ≤ 56 by omega), (show slots + 0 + 5 ≤ 192 by omega)⟩)
  dsimp only [Pt.U, Pt.locs, Pt.cells, Pt.slots] at X5 l5 y5 z5 st5 hQ5
  subst l5 y5 z5
  obtain ⟨bq5, rfl, N5q, Kq5, Ex5⟩ := hQ5
  have N5 := Fr.app N0 N5q
  -- pc 110: java/util/List.add by the contract of the body that the receiver's class selects, rm10
  obtain ⟨cq6, kq6, q6a, q6b, q6c⟩ := isOf hZ rfl (HL.1.keep Kq5)
  obtain ⟨_, _, ⟨T6, L6, k6, n6⟩, -, X6, ⟨Lc6, hQ6, l6, y6, z6⟩, st6⟩ := X5.interfaceBack hx (xi := (⟨"java/util/List", "add", "(Ljava/lang/Object;)Z"⟩ : MethodName)) (y := (⟨"java/util/ArrayList", "add", "(Ljava/lang/Object;)Z"⟩ : MethodName)) hown (mvT hZ (hw _ (List.mem_of_getElem? (i := 55) rfl))) (mvT hZ (hw _ (List.mem_of_getElem? (i := 56) rfl))) (mvT hZ (hw _ (List.mem_of_getElem? (i := 57) rfl))) (mvT hZ (hw _ (List.mem_of_getElem? (i := 58) rfl))) (mvT hZ (hw _ (List.mem_of_getElem? (i := 59) rfl))) (mvT hZ (hw _ (List.mem_of_getElem? (i := 60) rfl))) (mvT hZ (hw _ (List.mem_of_getElem? (i := 61) rfl))) (mvT hZ (hw _ (List.mem_of_getElem? (i := 62) rfl))) (by decide) (backOf (W := 0) (rm10 l Z a0 hw [] o7 bq5 d0 cl_d0 k T5.heap n0 (O0.keep Kq5 (fun _ q_ => absurd q_ List.not_mem_nil)) SD AD S_d0 g_o7 (Ins.of_exa Ex5 (hw _ (List.mem_of_getElem? (i := 89) rfl))) (HL.keep Kq5) hk) hZ (hw _ (List.mem_of_getElem? (i := 63) rfl)) (hw _ (List.mem_of_getElem? (i := 2) rfl)) (by decide) (by decide)) q6a q6b q6c (g := (mkF m 110 #[s0, s1, .val (.long j2), .second, s4, s5, .val (.int i6), .val (.ref o7), s8, s9, s10, s11] [(.ref bq5), (.ref o7)])) rfl (by rw [hml]; rfl) (Steps.refl _) (argsL := [(.ref bq5)]) (rest := []) (lenOf pd_0_6 rfl) rfl (by show 2 * 0 + _ ≤ _; exact Nat.le_of_eq rfl) (hb hby at_110) (fun _ _ => ⟨rfl, rfl, (show cells + 2 + 1 ≤ 56 by omega), (show slots + 5 + 10 ≤ 192 by omega)⟩)
  dsimp only [Pt.U, Pt.locs, Pt.cells, Pt.slots] at X6 l6 y6 z6 st6 hQ6
  subst l6 y6 z6
  obtain ⟨rfl, N6q, Oq6, Lq6⟩ := hQ6
  have N6 := Fr.app N5 N6q
  refine ⟨T6, _, _, X6, rfl, N6, Oq6, Lq6, fun target kt => ?_⟩
  show Steps p.tables e below (T0.setTop (mkF m 97 #[s0, s1, .val (.long j2), .second, s4, s5, .val (.int i6), .val (.ref o7), s8, s9, s10, s11] [])) _
  refine XS.iload X0.here hx rfl (hb hby at_97) rfl ?_
  show Steps p.tables e below (T0.setTop (mkF m 99 #[s0, s1, .val (.long j2), .second, s4, s5, .val (.int i6), .val (.ref o7), s8, s9, s10, s11] [(.int i6)])) _
  refine XS.iconst X0.here hx rfl (hb hby at_99) ?_
  show Steps p.tables e below (T0.setTop (mkF m 100 #[s0, s1, .val (.long j2), .second, s4, s5, .val (.int i6), .val (.ref o7), s8, s9, s10, s11] [(.int (3 : Int32)), (.int i6)])) _
  refine XS.icmpNo X0.here hx rfl (hb hby at_100) rfl (tlt hc100).2.2.2 ?_
  show Steps p.tables e below (T0.setTop (mkF m 103 #[s0, s1, .val (.long j2), .second, s4, s5, .val (.int i6), .val (.ref o7), s8, s9, s10, s11] [])) _
  refine XS.aload X0.here hx rfl (hb hby at_103) rfl rfl ?_
  show Steps p.tables e below (T0.setTop (mkF m 105 #[s0, s1, .val (.long j2), .second, s4, s5, .val (.int i6), .val (.ref o7), s8, s9, s10, s11] [(.ref o7)])) _
  refine XS.lloadN X0.here hx rfl (hb hby at_105) rfl ?_
  show Steps p.tables e below (T0.setTop (mkF m 106 #[s0, s1, .val (.long j2), .second, s4, s5, .val (.int i6), .val (.ref o7), s8, s9, s10, s11] [(.long j2), (.ref o7)])) _
  refine XS.iconst X0.here hx rfl (hb hby at_106) ?_
  show Steps p.tables e below (T0.setTop (mkF m 107 #[s0, s1, .val (.long j2), .second, s4, s5, .val (.int i6), .val (.ref o7), s8, s9, s10, s11] [(.int (3 : Int32)), (.long j2), (.ref o7)])) _
  refine st5 _ ?_
  show Steps p.tables e below (T5.setTop (mkF m 110 #[s0, s1, .val (.long j2), .second, s4, s5, .val (.int i6), .val (.ref o7), s8, s9, s10, s11] [(.ref bq5), (.ref o7)])) _
  refine st6.trans ?_
  show Steps p.tables e below (T6.setTop (mkF m 115 #[s0, s1, .val (.long j2), .second, s4, s5, .val (.int i6), .val (.ref o7), s8, s9, s10, s11] [(.int (1 : Int32))])) _
  refine XS.pop X6.here hx rfl (hb hby at_115) rfl rfl ?_
  exact kt
set_option maxRecDepth 65536 in
set_option maxHeartbeats 40000000 in
theorem own_k3 {p : Program} {l : Launch} {e : Env} {R : Room} {s : State} {m : MethodId} {args : Array Value} {below : List Frame} {meth : Method} {c : Code} {T0 : State} {locs : List Loc} {cells slots : Nat} {Z : State} {a0 : Array Value} {h0 : Heap} (s0 : Slot) (s1 : Slot) (s2 : Slot) (s3 : Slot) (s4 : Slot) (s5 : Slot) (i6 : Int32) (s7 : Slot) (s8 : Slot) (s9 : Slot) (s10 : Slot) (s11 : Slot)
    (X0 : Stand p l e R s m args below meth c T0 locs cells slots) (hx : p.tables.exec = Jvm.exec) (hZ : Z.Warmed39 s.vm) (hw : ∀ d ∈ tables_1, d.before a0 Z = true) (hby : c.code = code) (hml : c.maxLocals = 12) (hown : s.vm.findClass "com/example/ordinal_lock/ordinallock/protocol/WithinLimitTurnPinLaw" = some m.cls) (e0 : T0.heap = h0) (hc100 : ¬ ((3 : Int32) < i6)) :
    ∃ (T' : State), Stand p l e R s m args below meth c T' locs cells slots ∧ T'.heap = h0 ∧
      ∀ target, Steps p.tables e below (T'.setTop (mkF m 116 #[s0, s1, s2, s3, s4, s5, .val (.int i6), s7, s8, s9, s10, s11] [])) target → Steps p.tables e below (T0.setTop (mkF m 97 #[s0, s1, s2, s3, s4, s5, .val (.int i6), s7, s8, s9, s10, s11] [])) target := by

  refine ⟨T0, X0, e0, fun target kt => ?_⟩
  show Steps p.tables e below (T0.setTop (mkF m 97 #[s0, s1, s2, s3, s4, s5, .val (.int i6), s7, s8, s9, s10, s11] [])) _
  refine XS.iload X0.here hx rfl (hb hby at_97) rfl ?_
  show Steps p.tables e below (T0.setTop (mkF m 99 #[s0, s1, s2, s3, s4, s5, .val (.int i6), s7, s8, s9, s10, s11] [(.int i6)])) _
  refine XS.iconst X0.here hx rfl (hb hby at_99) ?_
  show Steps p.tables e below (T0.setTop (mkF m 100 #[s0, s1, s2, s3, s4, s5, .val (.int i6), s7, s8, s9, s10, s11] [(.int (3 : Int32)), (.int i6)])) _
  refine XS.icmpYes X0.here hx rfl (pc0 := 100) (pc' := 116) rfl (hb hby at_100) rfl (flt hc100).2.2.2 (by decide) (by decide) ?_
  exact kt
set_option maxRecDepth 65536 in
set_option maxHeartbeats 40000000 in
theorem own_s4 {p : Program} {l : Launch} {e : Env} {s : State} {m : MethodId} {args : Array Value} {below : List Frame} {meth : Method} {c : Code} {T0 : State} {locs : List Loc} {Z : State} {a0 : Array Value} {h0 : Heap} {n0 : Nat} {cells slots : Nat} (s0 : Slot) (s1 : Slot) (j2 : Int64) (s4 : Slot) (s5 : Slot) (i6 : Int32) (o7 : Addr) (s8 : Slot) (s9 : Slot) (s10 : Slot) (s11 : Slot) (d0 : Addr) (cl_d0 : Cell) (cs : Int32) (k : Nat)
    (X0 : Stand p l e room_1 s m args below meth c T0 locs cells slots) (hx : p.tables.exec = Jvm.exec) (hZ : Z.Warmed39 s.vm) (hw : ∀ d ∈ tables_1, d.before a0 Z = true) (hby : c.code = code) (hml : c.maxLocals = 12) (hown : s.vm.findClass "com/example/ordinal_lock/ordinallock/protocol/WithinLimitTurnPinLaw" = some m.cls) (e0 : T0.heap = h0) (N0 : Fr n0 locs) (O0 : Old Z n0 h0) (SD : Sta Z Z.heap "java/util/ArrayList" "DEFAULTCAPACITY_EMPTY_ELEMENTDATA" "[Ljava/lang/Object;" (.ref d0)) (AD : Arr Z Z.heap d0 cl_d0 (.object "java/lang/Object")) (S_d0 : cl_d0.slots.size = (0 : Int32).toNatClampNeg) (SC : Sta Z Z.heap "java/lang/String" "COMPACT_STRINGS" "Z" (.int cs)) (hcs : ¬ (cs = (0 : Int32))) (g_o7 : n0 ≤ o7) (HL : own_L Z h0 n0 o7 d0 k) (hk : k < 10) (hcl : cells + 3 ≤ 56) (hsl : slots + 15 ≤ 192) (hc119 : (4 : Int32) < i6) :
    ∃ (T' : State) (h' : Heap) (locs' : List Loc), Stand p l e room_1 s m args below meth c T' locs' (cells + 3) (slots + 15) ∧ T'.heap = h' ∧ Fr n0 locs' ∧ Old Z n0 h' ∧ own_L Z h' n0 o7 d0 (k + 1) ∧
      ∀ target, Steps p.tables e below (T'.setTop (mkF m 135 #[s0, s1, .val (.long j2), .second, s4, s5, .val (.int i6), .val (.ref o7), s8, s9, s10, s11] [])) target → Steps p.tables e below (T0.setTop (mkF m 116 #[s0, s1, .val (.long j2), .second, s4, s5, .val (.int i6), .val (.ref o7), s8, s9, s10, s11] [])) target := by
  -- pc 126: com/example/ordinal_lock/ordinallock/protocol/WithinLimitTurnPinLaw.ch by its contract rm5
  obtain ⟨_, _, ⟨T5, L5, k5, n5⟩, -, X5, ⟨Lc5, hQ5, l5, y5, z5⟩, st5⟩ := Jvm.LawKit.callS X0 hx (y := (⟨"com/example/ordinal_lock/ordinallock/protocol/WithinLimitTurnPinLaw", "ch", "(JI)Ljava/lang/String;"⟩ : MethodName)) hown (mvT hZ (hw _ (List.mem_of_getElem? (i := 26) rfl))) (mvT hZ (hw _ (List.mem_of_getElem? (i := 27) rfl))) (mvT hZ (hw _ (List.mem_of_getElem? (i := 28) rfl))) (mvT hZ (hw _ (List.mem_of_getElem? (i := 29) rfl))) (by decide) (backOf (W := 1) (rm5 l Z a0 hw [] j2 (4 : Int32) cs h0 n0 (own_osz O0) O0 SC hcs) hZ (hw _ (List.mem_of_getElem? (i := 29) rfl)) (hw _ (List.mem_of_getElem? (i := 28) rfl)) (by decide) (by decide)) (g := (mkF m 126 #[s0, s1, .val (.long j2), .second, s4, s5, .val (.int i6), .val (.ref o7), s8, s9, s10, s11] [(.int (4 : Int32)), (.long j2), (.ref o7)])) rfl (by rw [hml]; rfl) (argsL := [(.long j2), (.int (4 : Int32))]) (rest := [(.ref o7)]) (lenOf pd_0_1 rfl) rfl (by show 2 * 0 + _ ≤ _; exact Nat.le_of_eq rfl) (hb hby at_126) (fun _ _ => ⟨rfl, e0, (show cells + 0 + 2 ≤ 56 by omega), (show slots + 0 + 5 ≤ 192 by omega)⟩)
  dsimp only [Pt.U, Pt.locs, Pt.cells, Pt.slots] at X5 l5 y5 z5 st5 hQ5
  subst l5 y5 z5
  obtain ⟨bq5, rfl, N5q, Kq5, Ex5⟩ := hQ5
  have N5 := Fr.app N0 N5q
  -- pc 129: java/util/List.add by the contract of the body that the receiver's class selects, rm10
  obtain ⟨cq6, kq6, q6a, q6b, q6c⟩ := isOf hZ rfl (HL.1.keep Kq5)
  obtain ⟨_, _, ⟨T6, L6, k6, n6⟩, -, X6, ⟨Lc6, hQ6, l6, y6, z6⟩, st6⟩ := X5.interfaceBack hx (xi := (⟨"java/util/List", "add", "(Ljava/lang/Object;)Z"⟩ : MethodName)) (y := (⟨"java/util/ArrayList", "add", "(Ljava/lang/Object;)Z"⟩ : MethodName)) hown (mvT hZ (hw _ (List.mem_of_getElem? (i := 55) rfl))) (mvT hZ (hw _ (List.mem_of_getElem? (i := 56) rfl))) (mvT hZ (hw _ (List.mem_of_getElem? (i := 57) rfl))) (mvT hZ (hw _ (List.mem_of_getElem? (i := 58) rfl))) (mvT hZ (hw _ (List.mem_of_getElem? (i := 59) rfl))) (mvT hZ (hw _ (List.mem_of_getElem? (i := 60) rfl))) (mvT hZ (hw _ (List.mem_of_getElem? (i := 61) rfl))) (mvT hZ (hw _ (List.mem_of_getElem? (i := 62) rfl))) (by decide) (backOf (W := 0) (rm10 l Z a0 hw [] o7 bq5 d0 cl_d0 k T5.heap n0 (O0.keep Kq5 (fun _ q_ => absurd q_ List.not_mem_nil)) SD AD S_d0 g_o7 (Ins.of_exa Ex5 (hw _ (List.mem_of_getElem? (i := 89) rfl))) (HL.keep Kq5) hk) hZ (hw _ (List.mem_of_getElem? (i := 63) rfl)) (hw _ (List.mem_of_getElem? (i := 2) rfl)) (by decide) (by decide)) q6a q6b q6c (g := (mkF m 129 #[s0, s1, .val (.long j2), .second, s4, s5, .val (.int i6), .val (.ref o7), s8, s9, s10, s11] [(.ref bq5), (.ref o7)])) rfl (by rw [hml]; rfl) (Steps.refl _) (argsL := [(.ref bq5)]) (rest := []) (lenOf pd_0_6 rfl) rfl (by show 2 * 0 + _ ≤ _; exact Nat.le_of_eq rfl) (hb hby at_129) (fun _ _ => ⟨rfl, rfl, (show cells + 2 + 1 ≤ 56 by omega), (show slots + 5 + 10 ≤ 192 by omega)⟩)
  dsimp only [Pt.U, Pt.locs, Pt.cells, Pt.slots] at X6 l6 y6 z6 st6 hQ6
  subst l6 y6 z6
  obtain ⟨rfl, N6q, Oq6, Lq6⟩ := hQ6
  have N6 := Fr.app N5 N6q
  refine ⟨T6, _, _, X6, rfl, N6, Oq6, Lq6, fun target kt => ?_⟩
  show Steps p.tables e below (T0.setTop (mkF m 116 #[s0, s1, .val (.long j2), .second, s4, s5, .val (.int i6), .val (.ref o7), s8, s9, s10, s11] [])) _
  refine XS.iload X0.here hx rfl (hb hby at_116) rfl ?_
  show Steps p.tables e below (T0.setTop (mkF m 118 #[s0, s1, .val (.long j2), .second, s4, s5, .val (.int i6), .val (.ref o7), s8, s9, s10, s11] [(.int i6)])) _
  refine XS.iconst X0.here hx rfl (hb hby at_118) ?_
  show Steps p.tables e below (T0.setTop (mkF m 119 #[s0, s1, .val (.long j2), .second, s4, s5, .val (.int i6), .val (.ref o7), s8, s9, s10, s11] [(.int (4 : Int32)), (.int i6)])) _
  refine XS.icmpNo X0.here hx rfl (hb hby at_119) rfl (tlt hc119).2.2.2 ?_
  show Steps p.tables e below (T0.setTop (mkF m 122 #[s0, s1, .val (.long j2), .second, s4, s5, .val (.int i6), .val (.ref o7), s8, s9, s10, s11] [])) _
  refine XS.aload X0.here hx rfl (hb hby at_122) rfl rfl ?_
  show Steps p.tables e below (T0.setTop (mkF m 124 #[s0, s1, .val (.long j2), .second, s4, s5, .val (.int i6), .val (.ref o7), s8, s9, s10, s11] [(.ref o7)])) _
  refine XS.lloadN X0.here hx rfl (hb hby at_124) rfl ?_
  show Steps p.tables e below (T0.setTop (mkF m 125 #[s0, s1, .val (.long j2), .second, s4, s5, .val (.int i6), .val (.ref o7), s8, s9, s10, s11] [(.long j2), (.ref o7)])) _
  refine XS.iconst X0.here hx rfl (hb hby at_125) ?_
  show Steps p.tables e below (T0.setTop (mkF m 126 #[s0, s1, .val (.long j2), .second, s4, s5, .val (.int i6), .val (.ref o7), s8, s9, s10, s11] [(.int (4 : Int32)), (.long j2), (.ref o7)])) _
  refine st5 _ ?_
  show Steps p.tables e below (T5.setTop (mkF m 129 #[s0, s1, .val (.long j2), .second, s4, s5, .val (.int i6), .val (.ref o7), s8, s9, s10, s11] [(.ref bq5), (.ref o7)])) _
  refine st6.trans ?_
  show Steps p.tables e below (T6.setTop (mkF m 134 #[s0, s1, .val (.long j2), .second, s4, s5, .val (.int i6), .val (.ref o7), s8, s9, s10, s11] [(.int (1 : Int32))])) _
  refine XS.pop X6.here hx rfl (hb hby at_134) rfl rfl ?_
  exact kt
set_option maxRecDepth 65536 in
set_option maxHeartbeats 40000000 in
theorem own_k4 {p : Program} {l : Launch} {e : Env} {R : Room} {s : State} {m : MethodId} {args : Array Value} {below : List Frame} {meth : Method} {c : Code} {T0 : State} {locs : List Loc} {cells slots : Nat} {Z : State} {a0 : Array Value} {h0 : Heap} (s0 : Slot) (s1 : Slot) (s2 : Slot) (s3 : Slot) (s4 : Slot) (s5 : Slot) (i6 : Int32) (s7 : Slot) (s8 : Slot) (s9 : Slot) (s10 : Slot) (s11 : Slot)
    (X0 : Stand p l e R s m args below meth c T0 locs cells slots) (hx : p.tables.exec = Jvm.exec) (hZ : Z.Warmed39 s.vm) (hw : ∀ d ∈ tables_1, d.before a0 Z = true) (hby : c.code = code) (hml : c.maxLocals = 12) (hown : s.vm.findClass "com/example/ordinal_lock/ordinallock/protocol/WithinLimitTurnPinLaw" = some m.cls) (e0 : T0.heap = h0) (hc119 : ¬ ((4 : Int32) < i6)) :
    ∃ (T' : State), Stand p l e R s m args below meth c T' locs cells slots ∧ T'.heap = h0 ∧
      ∀ target, Steps p.tables e below (T'.setTop (mkF m 135 #[s0, s1, s2, s3, s4, s5, .val (.int i6), s7, s8, s9, s10, s11] [])) target → Steps p.tables e below (T0.setTop (mkF m 116 #[s0, s1, s2, s3, s4, s5, .val (.int i6), s7, s8, s9, s10, s11] [])) target := by

  refine ⟨T0, X0, e0, fun target kt => ?_⟩
  show Steps p.tables e below (T0.setTop (mkF m 116 #[s0, s1, s2, s3, s4, s5, .val (.int i6), s7, s8, s9, s10, s11] [])) _
  refine XS.iload X0.here hx rfl (hb hby at_116) rfl ?_
  show Steps p.tables e below (T0.setTop (mkF m 118 #[s0, s1, s2, s3, s4, s5, .val (.int i6), s7, s8, s9, s10, s11] [(.int i6)])) _
  refine XS.iconst X0.here hx rfl (hb hby at_118) ?_
  show Steps p.tables e below (T0.setTop (mkF m 119 #[s0, s1, s2, s3, s4, s5, .val (.int i6), s7, s8, s9, s10, s11] [(.int (4 : Int32)), (.int i6)])) _
  refine XS.icmpYes X0.here hx rfl (pc0 := 119) (pc' := 135) rfl (hb hby at_119) rfl (flt hc119).2.2.2 (by decide) (by decide) ?_
  exact kt
set_option maxRecDepth 65536 in
set_option maxHeartbeats 40000000 in
theorem own_s5 {p : Program} {l : Launch} {e : Env} {s : State} {m : MethodId} {args : Array Value} {below : List Frame} {meth : Method} {c : Code} {T0 : State} {locs : List Loc} {Z : State} {a0 : Array Value} {h0 : Heap} {n0 : Nat} {cells slots : Nat} (s0 : Slot) (s1 : Slot) (j2 : Int64) (s4 : Slot) (s5 : Slot) (i6 : Int32) (o7 : Addr) (s8 : Slot) (s9 : Slot) (s10 : Slot) (s11 : Slot) (d0 : Addr) (cl_d0 : Cell) (cs : Int32) (k : Nat)
    (X0 : Stand p l e room_1 s m args below meth c T0 locs cells slots) (hx : p.tables.exec = Jvm.exec) (hZ : Z.Warmed39 s.vm) (hw : ∀ d ∈ tables_1, d.before a0 Z = true) (hby : c.code = code) (hml : c.maxLocals = 12) (hown : s.vm.findClass "com/example/ordinal_lock/ordinallock/protocol/WithinLimitTurnPinLaw" = some m.cls) (e0 : T0.heap = h0) (N0 : Fr n0 locs) (O0 : Old Z n0 h0) (SD : Sta Z Z.heap "java/util/ArrayList" "DEFAULTCAPACITY_EMPTY_ELEMENTDATA" "[Ljava/lang/Object;" (.ref d0)) (AD : Arr Z Z.heap d0 cl_d0 (.object "java/lang/Object")) (S_d0 : cl_d0.slots.size = (0 : Int32).toNatClampNeg) (SC : Sta Z Z.heap "java/lang/String" "COMPACT_STRINGS" "Z" (.int cs)) (hcs : ¬ (cs = (0 : Int32))) (g_o7 : n0 ≤ o7) (HL : own_L Z h0 n0 o7 d0 k) (hk : k < 10) (hcl : cells + 3 ≤ 56) (hsl : slots + 15 ≤ 192) (hc138 : (5 : Int32) < i6) :
    ∃ (T' : State) (h' : Heap) (locs' : List Loc), Stand p l e room_1 s m args below meth c T' locs' (cells + 3) (slots + 15) ∧ T'.heap = h' ∧ Fr n0 locs' ∧ Old Z n0 h' ∧ own_L Z h' n0 o7 d0 (k + 1) ∧
      ∀ target, Steps p.tables e below (T'.setTop (mkF m 154 #[s0, s1, .val (.long j2), .second, s4, s5, .val (.int i6), .val (.ref o7), s8, s9, s10, s11] [])) target → Steps p.tables e below (T0.setTop (mkF m 135 #[s0, s1, .val (.long j2), .second, s4, s5, .val (.int i6), .val (.ref o7), s8, s9, s10, s11] [])) target := by
  -- pc 145: com/example/ordinal_lock/ordinallock/protocol/WithinLimitTurnPinLaw.ch by its contract rm5
  obtain ⟨_, _, ⟨T5, L5, k5, n5⟩, -, X5, ⟨Lc5, hQ5, l5, y5, z5⟩, st5⟩ := Jvm.LawKit.callS X0 hx (y := (⟨"com/example/ordinal_lock/ordinallock/protocol/WithinLimitTurnPinLaw", "ch", "(JI)Ljava/lang/String;"⟩ : MethodName)) hown (mvT hZ (hw _ (List.mem_of_getElem? (i := 26) rfl))) (mvT hZ (hw _ (List.mem_of_getElem? (i := 27) rfl))) (mvT hZ (hw _ (List.mem_of_getElem? (i := 28) rfl))) (mvT hZ (hw _ (List.mem_of_getElem? (i := 29) rfl))) (by decide) (backOf (W := 1) (rm5 l Z a0 hw [] j2 (5 : Int32) cs h0 n0 (own_osz O0) O0 SC hcs) hZ (hw _ (List.mem_of_getElem? (i := 29) rfl)) (hw _ (List.mem_of_getElem? (i := 28) rfl)) (by decide) (by decide)) (g := (mkF m 145 #[s0, s1, .val (.long j2), .second, s4, s5, .val (.int i6), .val (.ref o7), s8, s9, s10, s11] [(.int (5 : Int32)), (.long j2), (.ref o7)])) rfl (by rw [hml]; rfl) (argsL := [(.long j2), (.int (5 : Int32))]) (rest := [(.ref o7)]) (lenOf pd_0_1 rfl) rfl (by show 2 * 0 + _ ≤ _; exact Nat.le_of_eq rfl) (hb hby at_145) (fun _ _ => ⟨rfl, e0, (show cells + 0 + 2 ≤ 56 by omega), (show slots + 0 + 5 ≤ 192 by omega)⟩)
  dsimp only [Pt.U, Pt.locs, Pt.cells, Pt.slots] at X5 l5 y5 z5 st5 hQ5
  subst l5 y5 z5
  obtain ⟨bq5, rfl, N5q, Kq5, Ex5⟩ := hQ5
  have N5 := Fr.app N0 N5q
  -- pc 148: java/util/List.add by the contract of the body that the receiver's class selects, rm10
  obtain ⟨cq6, kq6, q6a, q6b, q6c⟩ := isOf hZ rfl (HL.1.keep Kq5)
  obtain ⟨_, _, ⟨T6, L6, k6, n6⟩, -, X6, ⟨Lc6, hQ6, l6, y6, z6⟩, st6⟩ := X5.interfaceBack hx (xi := (⟨"java/util/List", "add", "(Ljava/lang/Object;)Z"⟩ : MethodName)) (y := (⟨"java/util/ArrayList", "add", "(Ljava/lang/Object;)Z"⟩ : MethodName)) hown (mvT hZ (hw _ (List.mem_of_getElem? (i := 55) rfl))) (mvT hZ (hw _ (List.mem_of_getElem? (i := 56) rfl))) (mvT hZ (hw _ (List.mem_of_getElem? (i := 57) rfl))) (mvT hZ (hw _ (List.mem_of_getElem? (i := 58) rfl))) (mvT hZ (hw _ (List.mem_of_getElem? (i := 59) rfl))) (mvT hZ (hw _ (List.mem_of_getElem? (i := 60) rfl))) (mvT hZ (hw _ (List.mem_of_getElem? (i := 61) rfl))) (mvT hZ (hw _ (List.mem_of_getElem? (i := 62) rfl))) (by decide) (backOf (W := 0) (rm10 l Z a0 hw [] o7 bq5 d0 cl_d0 k T5.heap n0 (O0.keep Kq5 (fun _ q_ => absurd q_ List.not_mem_nil)) SD AD S_d0 g_o7 (Ins.of_exa Ex5 (hw _ (List.mem_of_getElem? (i := 89) rfl))) (HL.keep Kq5) hk) hZ (hw _ (List.mem_of_getElem? (i := 63) rfl)) (hw _ (List.mem_of_getElem? (i := 2) rfl)) (by decide) (by decide)) q6a q6b q6c (g := (mkF m 148 #[s0, s1, .val (.long j2), .second, s4, s5, .val (.int i6), .val (.ref o7), s8, s9, s10, s11] [(.ref bq5), (.ref o7)])) rfl (by rw [hml]; rfl) (Steps.refl _) (argsL := [(.ref bq5)]) (rest := []) (lenOf pd_0_6 rfl) rfl (by show 2 * 0 + _ ≤ _; exact Nat.le_of_eq rfl) (hb hby at_148) (fun _ _ => ⟨rfl, rfl, (show cells + 2 + 1 ≤ 56 by omega), (show slots + 5 + 10 ≤ 192 by omega)⟩)
  dsimp only [Pt.U, Pt.locs, Pt.cells, Pt.slots] at X6 l6 y6 z6 st6 hQ6
  subst l6 y6 z6
  obtain ⟨rfl, N6q, Oq6, Lq6⟩ := hQ6
  have N6 := Fr.app N5 N6q
  refine ⟨T6, _, _, X6, rfl, N6, Oq6, Lq6, fun target kt => ?_⟩
  show Steps p.tables e below (T0.setTop (mkF m 135 #[s0, s1, .val (.long j2), .second, s4, s5, .val (.int i6), .val (.ref o7), s8, s9, s10, s11] [])) _
  refine XS.iload X0.here hx rfl (hb hby at_135) rfl ?_
  show Steps p.tables e below (T0.setTop (mkF m 137 #[s0, s1, .val (.long j2), .second, s4, s5, .val (.int i6), .val (.ref o7), s8, s9, s10, s11] [(.int i6)])) _
  refine XS.iconst X0.here hx rfl (hb hby at_137) ?_
  show Steps p.tables e below (T0.setTop (mkF m 138 #[s0, s1, .val (.long j2), .second, s4, s5, .val (.int i6), .val (.ref o7), s8, s9, s10, s11] [(.int (5 : Int32)), (.int i6)])) _
  refine XS.icmpNo X0.here hx rfl (hb hby at_138) rfl (tlt hc138).2.2.2 ?_
  show Steps p.tables e below (T0.setTop (mkF m 141 #[s0, s1, .val (.long j2), .second, s4, s5, .val (.int i6), .val (.ref o7), s8, s9, s10, s11] [])) _
  refine XS.aload X0.here hx rfl (hb hby at_141) rfl rfl ?_
  show Steps p.tables e below (T0.setTop (mkF m 143 #[s0, s1, .val (.long j2), .second, s4, s5, .val (.int i6), .val (.ref o7), s8, s9, s10, s11] [(.ref o7)])) _
  refine XS.lloadN X0.here hx rfl (hb hby at_143) rfl ?_
  show Steps p.tables e below (T0.setTop (mkF m 144 #[s0, s1, .val (.long j2), .second, s4, s5, .val (.int i6), .val (.ref o7), s8, s9, s10, s11] [(.long j2), (.ref o7)])) _
  refine XS.iconst X0.here hx rfl (hb hby at_144) ?_
  show Steps p.tables e below (T0.setTop (mkF m 145 #[s0, s1, .val (.long j2), .second, s4, s5, .val (.int i6), .val (.ref o7), s8, s9, s10, s11] [(.int (5 : Int32)), (.long j2), (.ref o7)])) _
  refine st5 _ ?_
  show Steps p.tables e below (T5.setTop (mkF m 148 #[s0, s1, .val (.long j2), .second, s4, s5, .val (.int i6), .val (.ref o7), s8, s9, s10, s11] [(.ref bq5), (.ref o7)])) _
  refine st6.trans ?_
  show Steps p.tables e below (T6.setTop (mkF m 153 #[s0, s1, .val (.long j2), .second, s4, s5, .val (.int i6), .val (.ref o7), s8, s9, s10, s11] [(.int (1 : Int32))])) _
  refine XS.pop X6.here hx rfl (hb hby at_153) rfl rfl ?_
  exact kt
set_option maxRecDepth 65536 in
set_option maxHeartbeats 40000000 in
theorem own_k5 {p : Program} {l : Launch} {e : Env} {R : Room} {s : State} {m : MethodId} {args : Array Value} {below : List Frame} {meth : Method} {c : Code} {T0 : State} {locs : List Loc} {cells slots : Nat} {Z : State} {a0 : Array Value} {h0 : Heap} (s0 : Slot) (s1 : Slot) (s2 : Slot) (s3 : Slot) (s4 : Slot) (s5 : Slot) (i6 : Int32) (s7 : Slot) (s8 : Slot) (s9 : Slot) (s10 : Slot) (s11 : Slot)
    (X0 : Stand p l e R s m args below meth c T0 locs cells slots) (hx : p.tables.exec = Jvm.exec) (hZ : Z.Warmed39 s.vm) (hw : ∀ d ∈ tables_1, d.before a0 Z = true) (hby : c.code = code) (hml : c.maxLocals = 12) (hown : s.vm.findClass "com/example/ordinal_lock/ordinallock/protocol/WithinLimitTurnPinLaw" = some m.cls) (e0 : T0.heap = h0) (hc138 : ¬ ((5 : Int32) < i6)) :
    ∃ (T' : State), Stand p l e R s m args below meth c T' locs cells slots ∧ T'.heap = h0 ∧
      ∀ target, Steps p.tables e below (T'.setTop (mkF m 154 #[s0, s1, s2, s3, s4, s5, .val (.int i6), s7, s8, s9, s10, s11] [])) target → Steps p.tables e below (T0.setTop (mkF m 135 #[s0, s1, s2, s3, s4, s5, .val (.int i6), s7, s8, s9, s10, s11] [])) target := by

  refine ⟨T0, X0, e0, fun target kt => ?_⟩
  show Steps p.tables e below (T0.setTop (mkF m 135 #[s0, s1, s2, s3, s4, s5, .val (.int i6), s7, s8, s9, s10, s11] [])) _
  refine XS.iload X0.here hx rfl (hb hby at_135) rfl ?_
  show Steps p.tables e below (T0.setTop (mkF m 137 #[s0, s1, s2, s3, s4, s5, .val (.int i6), s7, s8, s9, s10, s11] [(.int i6)])) _
  refine XS.iconst X0.here hx rfl (hb hby at_137) ?_
  show Steps p.tables e below (T0.setTop (mkF m 138 #[s0, s1, s2, s3, s4, s5, .val (.int i6), s7, s8, s9, s10, s11] [(.int (5 : Int32)), (.int i6)])) _
  refine XS.icmpYes X0.here hx rfl (pc0 := 138) (pc' := 154) rfl (hb hby at_138) rfl (flt hc138).2.2.2 (by decide) (by decide) ?_
  exact kt
set_option maxRecDepth 65536 in
set_option maxHeartbeats 40000000 in
theorem own_s6 {p : Program} {l : Launch} {e : Env} {s : State} {m : MethodId} {args : Array Value} {below : List Frame} {meth : Method} {c : Code} {T0 : State} {locs : List Loc} {Z : State} {a0 : Array Value} {h0 : Heap} {n0 : Nat} {cells slots : Nat} (s0 : Slot) (s1 : Slot) (j2 : Int64) (s4 : Slot) (s5 : Slot) (i6 : Int32) (o7 : Addr) (s8 : Slot) (s9 : Slot) (s10 : Slot) (s11 : Slot) (d0 : Addr) (cl_d0 : Cell) (cs : Int32) (k : Nat)
    (X0 : Stand p l e room_1 s m args below meth c T0 locs cells slots) (hx : p.tables.exec = Jvm.exec) (hZ : Z.Warmed39 s.vm) (hw : ∀ d ∈ tables_1, d.before a0 Z = true) (hby : c.code = code) (hml : c.maxLocals = 12) (hown : s.vm.findClass "com/example/ordinal_lock/ordinallock/protocol/WithinLimitTurnPinLaw" = some m.cls) (e0 : T0.heap = h0) (N0 : Fr n0 locs) (O0 : Old Z n0 h0) (SD : Sta Z Z.heap "java/util/ArrayList" "DEFAULTCAPACITY_EMPTY_ELEMENTDATA" "[Ljava/lang/Object;" (.ref d0)) (AD : Arr Z Z.heap d0 cl_d0 (.object "java/lang/Object")) (S_d0 : cl_d0.slots.size = (0 : Int32).toNatClampNeg) (SC : Sta Z Z.heap "java/lang/String" "COMPACT_STRINGS" "Z" (.int cs)) (hcs : ¬ (cs = (0 : Int32))) (g_o7 : n0 ≤ o7) (HL : own_L Z h0 n0 o7 d0 k) (hk : k < 10) (hcl : cells + 3 ≤ 56) (hsl : slots + 15 ≤ 192) (hc158 : (6 : Int32) < i6) :
    ∃ (T' : State) (h' : Heap) (locs' : List Loc), Stand p l e room_1 s m args below meth c T' locs' (cells + 3) (slots + 15) ∧ T'.heap = h' ∧ Fr n0 locs' ∧ Old Z n0 h' ∧ own_L Z h' n0 o7 d0 (k + 1) ∧
      ∀ target, Steps p.tables e below (T'.setTop (mkF m 175 #[s0, s1, .val (.long j2), .second, s4, s5, .val (.int i6), .val (.ref o7), s8, s9, s10, s11] [])) target → Steps p.tables e below (T0.setTop (mkF m 154 #[s0, s1, .val (.long j2), .second, s4, s5, .val (.int i6), .val (.ref o7), s8, s9, s10, s11] [])) target := by
  -- pc 166: com/example/ordinal_lock/ordinallock/protocol/WithinLimitTurnPinLaw.ch by its contract rm5
  obtain ⟨_, _, ⟨T5, L5, k5, n5⟩, -, X5, ⟨Lc5, hQ5, l5, y5, z5⟩, st5⟩ := Jvm.LawKit.callS X0 hx (y := (⟨"com/example/ordinal_lock/ordinallock/protocol/WithinLimitTurnPinLaw", "ch", "(JI)Ljava/lang/String;"⟩ : MethodName)) hown (mvT hZ (hw _ (List.mem_of_getElem? (i := 26) rfl))) (mvT hZ (hw _ (List.mem_of_getElem? (i := 27) rfl))) (mvT hZ (hw _ (List.mem_of_getElem? (i := 28) rfl))) (mvT hZ (hw _ (List.mem_of_getElem? (i := 29) rfl))) (by decide) (backOf (W := 1) (rm5 l Z a0 hw [] j2 (6 : Int32) cs h0 n0 (own_osz O0) O0 SC hcs) hZ (hw _ (List.mem_of_getElem? (i := 29) rfl)) (hw _ (List.mem_of_getElem? (i := 28) rfl)) (by decide) (by decide)) (g := (mkF m 166 #[s0, s1, .val (.long j2), .second, s4, s5, .val (.int i6), .val (.ref o7), s8, s9, s10, s11] [(.int (6 : Int32)), (.long j2), (.ref o7)])) rfl (by rw [hml]; rfl) (argsL := [(.long j2), (.int (6 : Int32))]) (rest := [(.ref o7)]) (lenOf pd_0_1 rfl) rfl (by show 2 * 0 + _ ≤ _; exact Nat.le_of_eq rfl) (hb hby at_166) (fun _ _ => ⟨rfl, e0, (show cells + 0 + 2 ≤ 56 by omega), (show slots + 0 + 5 ≤ 192 by omega)⟩)
  dsimp only [Pt.U, Pt.locs, Pt.cells, Pt.slots] at X5 l5 y5 z5 st5 hQ5
  subst l5 y5 z5
  obtain ⟨bq5, rfl, N5q, Kq5, Ex5⟩ := hQ5
  have N5 := Fr.app N0 N5q
  -- pc 169: java/util/List.add by the contract of the body that the receiver's class selects, rm10
  obtain ⟨cq6, kq6, q6a, q6b, q6c⟩ := isOf hZ rfl (HL.1.keep Kq5)
  obtain ⟨_, _, ⟨T6, L6, k6, n6⟩, -, X6, ⟨Lc6, hQ6, l6, y6, z6⟩, st6⟩ := X5.interfaceBack hx (xi := (⟨"java/util/List", "add", "(Ljava/lang/Object;)Z"⟩ : MethodName)) (y := (⟨"java/util/ArrayList", "add", "(Ljava/lang/Object;)Z"⟩ : MethodName)) hown (mvT hZ (hw _ (List.mem_of_getElem? (i := 55) rfl))) (mvT hZ (hw _ (List.mem_of_getElem? (i := 56) rfl))) (mvT hZ (hw _ (List.mem_of_getElem? (i := 57) rfl))) (mvT hZ (hw _ (List.mem_of_getElem? (i := 58) rfl))) (mvT hZ (hw _ (List.mem_of_getElem? (i := 59) rfl))) (mvT hZ (hw _ (List.mem_of_getElem? (i := 60) rfl))) (mvT hZ (hw _ (List.mem_of_getElem? (i := 61) rfl))) (mvT hZ (hw _ (List.mem_of_getElem? (i := 62) rfl))) (by decide) (backOf (W := 0) (rm10 l Z a0 hw [] o7 bq5 d0 cl_d0 k T5.heap n0 (O0.keep Kq5 (fun _ q_ => absurd q_ List.not_mem_nil)) SD AD S_d0 g_o7 (Ins.of_exa Ex5 (hw _ (List.mem_of_getElem? (i := 89) rfl))) (HL.keep Kq5) hk) hZ (hw _ (List.mem_of_getElem? (i := 63) rfl)) (hw _ (List.mem_of_getElem? (i := 2) rfl)) (by decide) (by decide)) q6a q6b q6c (g := (mkF m 169 #[s0, s1, .val (.long j2), .second, s4, s5, .val (.int i6), .val (.ref o7), s8, s9, s10, s11] [(.ref bq5), (.ref o7)])) rfl (by rw [hml]; rfl) (Steps.refl _) (argsL := [(.ref bq5)]) (rest := []) (lenOf pd_0_6 rfl) rfl (by show 2 * 0 + _ ≤ _; exact Nat.le_of_eq rfl) (hb hby at_169) (fun _ _ => ⟨rfl, rfl, (show cells + 2 + 1 ≤ 56 by omega), (show slots + 5 + 10 ≤ 192 by omega)⟩)
  dsimp only [Pt.U, Pt.locs, Pt.cells, Pt.slots] at X6 l6 y6 z6 st6 hQ6
  subst l6 y6 z6
  obtain ⟨rfl, N6q, Oq6, Lq6⟩ := hQ6
  have N6 := Fr.app N5 N6q
  refine ⟨T6, _, _, X6, rfl, N6, Oq6, Lq6, fun target kt => ?_⟩
  show Steps p.tables e below (T0.setTop (mkF m 154 #[s0, s1, .val (.long j2), .second, s4, s5, .val (.int i6), .val (.ref o7), s8, s9, s10, s11] [])) _
  refine XS.iload X0.here hx rfl (hb hby at_154) rfl ?_
  show Steps p.tables e below (T0.setTop (mkF m 156 #[s0, s1, .val (.long j2), .second, s4, s5, .val (.int i6), .val (.ref o7), s8, s9, s10, s11] [(.int i6)])) _
  refine XS.bipush X0.here hx rfl (hb hby at_156) ?_
  show Steps p.tables e below (T0.setTop (mkF m 158 #[s0, s1, .val (.long j2), .second, s4, s5, .val (.int i6), .val (.ref o7), s8, s9, s10, s11] [(.int (6 : Int32)), (.int i6)])) _
  refine XS.icmpNo X0.here hx rfl (hb hby at_158) rfl (tlt hc158).2.2.2 ?_
  show Steps p.tables e below (T0.setTop (mkF m 161 #[s0, s1, .val (.long j2), .second, s4, s5, .val (.int i6), .val (.ref o7), s8, s9, s10, s11] [])) _
  refine XS.aload X0.here hx rfl (hb hby at_161) rfl rfl ?_
  show Steps p.tables e below (T0.setTop (mkF m 163 #[s0, s1, .val (.long j2), .second, s4, s5, .val (.int i6), .val (.ref o7), s8, s9, s10, s11] [(.ref o7)])) _
  refine XS.lloadN X0.here hx rfl (hb hby at_163) rfl ?_
  show Steps p.tables e below (T0.setTop (mkF m 164 #[s0, s1, .val (.long j2), .second, s4, s5, .val (.int i6), .val (.ref o7), s8, s9, s10, s11] [(.long j2), (.ref o7)])) _
  refine XS.bipush X0.here hx rfl (hb hby at_164) ?_
  show Steps p.tables e below (T0.setTop (mkF m 166 #[s0, s1, .val (.long j2), .second, s4, s5, .val (.int i6), .val (.ref o7), s8, s9, s10, s11] [(.int (6 : Int32)), (.long j2), (.ref o7)])) _
  refine st5 _ ?_
  show Steps p.tables e below (T5.setTop (mkF m 169 #[s0, s1, .val (.long j2), .second, s4, s5, .val (.int i6), .val (.ref o7), s8, s9, s10, s11] [(.ref bq5), (.ref o7)])) _
  refine st6.trans ?_
  show Steps p.tables e below (T6.setTop (mkF m 174 #[s0, s1, .val (.long j2), .second, s4, s5, .val (.int i6), .val (.ref o7), s8, s9, s10, s11] [(.int (1 : Int32))])) _
  refine XS.pop X6.here hx rfl (hb hby at_174) rfl rfl ?_
  exact kt
set_option maxRecDepth 65536 in
set_option maxHeartbeats 40000000 in
theorem own_k6 {p : Program} {l : Launch} {e : Env} {R : Room} {s : State} {m : MethodId} {args : Array Value} {below : List Frame} {meth : Method} {c : Code} {T0 : State} {locs : List Loc} {cells slots : Nat} {Z : State} {a0 : Array Value} {h0 : Heap} (s0 : Slot) (s1 : Slot) (s2 : Slot) (s3 : Slot) (s4 : Slot) (s5 : Slot) (i6 : Int32) (s7 : Slot) (s8 : Slot) (s9 : Slot) (s10 : Slot) (s11 : Slot)
    (X0 : Stand p l e R s m args below meth c T0 locs cells slots) (hx : p.tables.exec = Jvm.exec) (hZ : Z.Warmed39 s.vm) (hw : ∀ d ∈ tables_1, d.before a0 Z = true) (hby : c.code = code) (hml : c.maxLocals = 12) (hown : s.vm.findClass "com/example/ordinal_lock/ordinallock/protocol/WithinLimitTurnPinLaw" = some m.cls) (e0 : T0.heap = h0) (hc158 : ¬ ((6 : Int32) < i6)) :
    ∃ (T' : State), Stand p l e R s m args below meth c T' locs cells slots ∧ T'.heap = h0 ∧
      ∀ target, Steps p.tables e below (T'.setTop (mkF m 175 #[s0, s1, s2, s3, s4, s5, .val (.int i6), s7, s8, s9, s10, s11] [])) target → Steps p.tables e below (T0.setTop (mkF m 154 #[s0, s1, s2, s3, s4, s5, .val (.int i6), s7, s8, s9, s10, s11] [])) target := by

  refine ⟨T0, X0, e0, fun target kt => ?_⟩
  show Steps p.tables e below (T0.setTop (mkF m 154 #[s0, s1, s2, s3, s4, s5, .val (.int i6), s7, s8, s9, s10, s11] [])) _
  refine XS.iload X0.here hx rfl (hb hby at_154) rfl ?_
  show Steps p.tables e below (T0.setTop (mkF m 156 #[s0, s1, s2, s3, s4, s5, .val (.int i6), s7, s8, s9, s10, s11] [(.int i6)])) _
  refine XS.bipush X0.here hx rfl (hb hby at_156) ?_
  show Steps p.tables e below (T0.setTop (mkF m 158 #[s0, s1, s2, s3, s4, s5, .val (.int i6), s7, s8, s9, s10, s11] [(.int (6 : Int32)), (.int i6)])) _
  refine XS.icmpYes X0.here hx rfl (pc0 := 158) (pc' := 175) rfl (hb hby at_158) rfl (flt hc158).2.2.2 (by decide) (by decide) ?_
  exact kt
set_option maxRecDepth 65536 in
set_option maxHeartbeats 40000000 in
theorem own_s7 {p : Program} {l : Launch} {e : Env} {s : State} {m : MethodId} {args : Array Value} {below : List Frame} {meth : Method} {c : Code} {T0 : State} {locs : List Loc} {Z : State} {a0 : Array Value} {h0 : Heap} {n0 : Nat} {cells slots : Nat} (s0 : Slot) (s1 : Slot) (j2 : Int64) (s4 : Slot) (s5 : Slot) (i6 : Int32) (o7 : Addr) (s8 : Slot) (s9 : Slot) (s10 : Slot) (s11 : Slot) (d0 : Addr) (cl_d0 : Cell) (cs : Int32) (k : Nat)
    (X0 : Stand p l e room_1 s m args below meth c T0 locs cells slots) (hx : p.tables.exec = Jvm.exec) (hZ : Z.Warmed39 s.vm) (hw : ∀ d ∈ tables_1, d.before a0 Z = true) (hby : c.code = code) (hml : c.maxLocals = 12) (hown : s.vm.findClass "com/example/ordinal_lock/ordinallock/protocol/WithinLimitTurnPinLaw" = some m.cls) (e0 : T0.heap = h0) (N0 : Fr n0 locs) (O0 : Old Z n0 h0) (SD : Sta Z Z.heap "java/util/ArrayList" "DEFAULTCAPACITY_EMPTY_ELEMENTDATA" "[Ljava/lang/Object;" (.ref d0)) (AD : Arr Z Z.heap d0 cl_d0 (.object "java/lang/Object")) (S_d0 : cl_d0.slots.size = (0 : Int32).toNatClampNeg) (SC : Sta Z Z.heap "java/lang/String" "COMPACT_STRINGS" "Z" (.int cs)) (hcs : ¬ (cs = (0 : Int32))) (g_o7 : n0 ≤ o7) (HL : own_L Z h0 n0 o7 d0 k) (hk : k < 10) (hcl : cells + 3 ≤ 56) (hsl : slots + 15 ≤ 192) (hc179 : (7 : Int32) < i6) :
    ∃ (T' : State) (h' : Heap) (locs' : List Loc), Stand p l e room_1 s m args below meth c T' locs' (cells + 3) (slots + 15) ∧ T'.heap = h' ∧ Fr n0 locs' ∧ Old Z n0 h' ∧ own_L Z h' n0 o7 d0 (k + 1) ∧
      ∀ target, Steps p.tables e below (T'.setTop (mkF m 196 #[s0, s1, .val (.long j2), .second, s4, s5, .val (.int i6), .val (.ref o7), s8, s9, s10, s11] [])) target → Steps p.tables e below (T0.setTop (mkF m 175 #[s0, s1, .val (.long j2), .second, s4, s5, .val (.int i6), .val (.ref o7), s8, s9, s10, s11] [])) target := by
  -- pc 187: com/example/ordinal_lock/ordinallock/protocol/WithinLimitTurnPinLaw.ch by its contract rm5
  obtain ⟨_, _, ⟨T5, L5, k5, n5⟩, -, X5, ⟨Lc5, hQ5, l5, y5, z5⟩, st5⟩ := Jvm.LawKit.callS X0 hx (y := (⟨"com/example/ordinal_lock/ordinallock/protocol/WithinLimitTurnPinLaw", "ch", "(JI)Ljava/lang/String;"⟩ : MethodName)) hown (mvT hZ (hw _ (List.mem_of_getElem? (i := 26) rfl))) (mvT hZ (hw _ (List.mem_of_getElem? (i := 27) rfl))) (mvT hZ (hw _ (List.mem_of_getElem? (i := 28) rfl))) (mvT hZ (hw _ (List.mem_of_getElem? (i := 29) rfl))) (by decide) (backOf (W := 1) (rm5 l Z a0 hw [] j2 (7 : Int32) cs h0 n0 (own_osz O0) O0 SC hcs) hZ (hw _ (List.mem_of_getElem? (i := 29) rfl)) (hw _ (List.mem_of_getElem? (i := 28) rfl)) (by decide) (by decide)) (g := (mkF m 187 #[s0, s1, .val (.long j2), .second, s4, s5, .val (.int i6), .val (.ref o7), s8, s9, s10, s11] [(.int (7 : Int32)), (.long j2), (.ref o7)])) rfl (by rw [hml]; rfl) (argsL := [(.long j2), (.int (7 : Int32))]) (rest := [(.ref o7)]) (lenOf pd_0_1 rfl) rfl (by show 2 * 0 + _ ≤ _; exact Nat.le_of_eq rfl) (hb hby at_187) (fun _ _ => ⟨rfl, e0, (show cells + 0 + 2 ≤ 56 by omega), (show slots + 0 + 5 ≤ 192 by omega)⟩)
  dsimp only [Pt.U, Pt.locs, Pt.cells, Pt.slots] at X5 l5 y5 z5 st5 hQ5
  subst l5 y5 z5
  obtain ⟨bq5, rfl, N5q, Kq5, Ex5⟩ := hQ5
  have N5 := Fr.app N0 N5q
  -- pc 190: java/util/List.add by the contract of the body that the receiver's class selects, rm10
  obtain ⟨cq6, kq6, q6a, q6b, q6c⟩ := isOf hZ rfl (HL.1.keep Kq5)
  obtain ⟨_, _, ⟨T6, L6, k6, n6⟩, -, X6, ⟨Lc6, hQ6, l6, y6, z6⟩, st6⟩ := X5.interfaceBack hx (xi := (⟨"java/util/List", "add", "(Ljava/lang/Object;)Z"⟩ : MethodName)) (y := (⟨"java/util/ArrayList", "add", "(Ljava/lang/Object;)Z"⟩ : MethodName)) hown (mvT hZ (hw _ (List.mem_of_getElem? (i := 55) rfl))) (mvT hZ (hw _ (List.mem_of_getElem? (i := 56) rfl))) (mvT hZ (hw _ (List.mem_of_getElem? (i := 57) rfl))) (mvT hZ (hw _ (List.mem_of_getElem? (i := 58) rfl))) (mvT hZ (hw _ (List.mem_of_getElem? (i := 59) rfl))) (mvT hZ (hw _ (List.mem_of_getElem? (i := 60) rfl))) (mvT hZ (hw _ (List.mem_of_getElem? (i := 61) rfl))) (mvT hZ (hw _ (List.mem_of_getElem? (i := 62) rfl))) (by decide) (backOf (W := 0) (rm10 l Z a0 hw [] o7 bq5 d0 cl_d0 k T5.heap n0 (O0.keep Kq5 (fun _ q_ => absurd q_ List.not_mem_nil)) SD AD S_d0 g_o7 (Ins.of_exa Ex5 (hw _ (List.mem_of_getElem? (i := 89) rfl))) (HL.keep Kq5) hk) hZ (hw _ (List.mem_of_getElem? (i := 63) rfl)) (hw _ (List.mem_of_getElem? (i := 2) rfl)) (by decide) (by decide)) q6a q6b q6c (g := (mkF m 190 #[s0, s1, .val (.long j2), .second, s4, s5, .val (.int i6), .val (.ref o7), s8, s9, s10, s11] [(.ref bq5), (.ref o7)])) rfl (by rw [hml]; rfl) (Steps.refl _) (argsL := [(.ref bq5)]) (rest := []) (lenOf pd_0_6 rfl) rfl (by show 2 * 0 + _ ≤ _; exact Nat.le_of_eq rfl) (hb hby at_190) (fun _ _ => ⟨rfl, rfl, (show cells + 2 + 1 ≤ 56 by omega), (show slots + 5 + 10 ≤ 192 by omega)⟩)
  dsimp only [Pt.U, Pt.locs, Pt.cells, Pt.slots] at X6 l6 y6 z6 st6 hQ6
  subst l6 y6 z6
  obtain ⟨rfl, N6q, Oq6, Lq6⟩ := hQ6
  have N6 := Fr.app N5 N6q
  refine ⟨T6, _, _, X6, rfl, N6, Oq6, Lq6, fun target kt => ?_⟩
  show Steps p.tables e below (T0.setTop (mkF m 175 #[s0, s1, .val (.long j2), .second, s4, s5, .val (.int i6), .val (.ref o7), s8, s9, s10, s11] [])) _
  refine XS.iload X0.here hx rfl (hb hby at_175) rfl ?_
  show Steps p.tables e below (T0.setTop (mkF m 177 #[s0, s1, .val (.long j2), .second, s4, s5, .val (.int i6), .val (.ref o7), s8, s9, s10, s11] [(.int i6)])) _
  refine XS.bipush X0.here hx rfl (hb hby at_177) ?_
  show Steps p.tables e below (T0.setTop (mkF m 179 #[s0, s1, .val (.long j2), .second, s4, s5, .val (.int i6), .val (.ref o7), s8, s9, s10, s11] [(.int (7 : Int32)), (.int i6)])) _
  refine XS.icmpNo X0.here hx rfl (hb hby at_179) rfl (tlt hc179).2.2.2 ?_
  show Steps p.tables e below (T0.setTop (mkF m 182 #[s0, s1, .val (.long j2), .second, s4, s5, .val (.int i6), .val (.ref o7), s8, s9, s10, s11] [])) _
  refine XS.aload X0.here hx rfl (hb hby at_182) rfl rfl ?_
  show Steps p.tables e below (T0.setTop (mkF m 184 #[s0, s1, .val (.long j2), .second, s4, s5, .val (.int i6), .val (.ref o7), s8, s9, s10, s11] [(.ref o7)])) _
  refine XS.lloadN X0.here hx rfl (hb hby at_184) rfl ?_
  show Steps p.tables e below (T0.setTop (mkF m 185 #[s0, s1, .val (.long j2), .second, s4, s5, .val (.int i6), .val (.ref o7), s8, s9, s10, s11] [(.long j2), (.ref o7)])) _
  refine XS.bipush X0.here hx rfl (hb hby at_185) ?_
  show Steps p.tables e below (T0.setTop (mkF m 187 #[s0, s1, .val (.long j2), .second, s4, s5, .val (.int i6), .val (.ref o7), s8, s9, s10, s11] [(.int (7 : Int32)), (.long j2), (.ref o7)])) _
  refine st5 _ ?_
  show Steps p.tables e below (T5.setTop (mkF m 190 #[s0, s1, .val (.long j2), .second, s4, s5, .val (.int i6), .val (.ref o7), s8, s9, s10, s11] [(.ref bq5), (.ref o7)])) _
  refine st6.trans ?_
  show Steps p.tables e below (T6.setTop (mkF m 195 #[s0, s1, .val (.long j2), .second, s4, s5, .val (.int i6), .val (.ref o7), s8, s9, s10, s11] [(.int (1 : Int32))])) _
  refine XS.pop X6.here hx rfl (hb hby at_195) rfl rfl ?_
  exact kt
set_option maxRecDepth 65536 in
set_option maxHeartbeats 40000000 in
theorem own_k7 {p : Program} {l : Launch} {e : Env} {R : Room} {s : State} {m : MethodId} {args : Array Value} {below : List Frame} {meth : Method} {c : Code} {T0 : State} {locs : List Loc} {cells slots : Nat} {Z : State} {a0 : Array Value} {h0 : Heap} (s0 : Slot) (s1 : Slot) (s2 : Slot) (s3 : Slot) (s4 : Slot) (s5 : Slot) (i6 : Int32) (s7 : Slot) (s8 : Slot) (s9 : Slot) (s10 : Slot) (s11 : Slot)
    (X0 : Stand p l e R s m args below meth c T0 locs cells slots) (hx : p.tables.exec = Jvm.exec) (hZ : Z.Warmed39 s.vm) (hw : ∀ d ∈ tables_1, d.before a0 Z = true) (hby : c.code = code) (hml : c.maxLocals = 12) (hown : s.vm.findClass "com/example/ordinal_lock/ordinallock/protocol/WithinLimitTurnPinLaw" = some m.cls) (e0 : T0.heap = h0) (hc179 : ¬ ((7 : Int32) < i6)) :
    ∃ (T' : State), Stand p l e R s m args below meth c T' locs cells slots ∧ T'.heap = h0 ∧
      ∀ target, Steps p.tables e below (T'.setTop (mkF m 196 #[s0, s1, s2, s3, s4, s5, .val (.int i6), s7, s8, s9, s10, s11] [])) target → Steps p.tables e below (T0.setTop (mkF m 175 #[s0, s1, s2, s3, s4, s5, .val (.int i6), s7, s8, s9, s10, s11] [])) target := by

  refine ⟨T0, X0, e0, fun target kt => ?_⟩
  show Steps p.tables e below (T0.setTop (mkF m 175 #[s0, s1, s2, s3, s4, s5, .val (.int i6), s7, s8, s9, s10, s11] [])) _
  refine XS.iload X0.here hx rfl (hb hby at_175) rfl ?_
  show Steps p.tables e below (T0.setTop (mkF m 177 #[s0, s1, s2, s3, s4, s5, .val (.int i6), s7, s8, s9, s10, s11] [(.int i6)])) _
  refine XS.bipush X0.here hx rfl (hb hby at_177) ?_
  show Steps p.tables e below (T0.setTop (mkF m 179 #[s0, s1, s2, s3, s4, s5, .val (.int i6), s7, s8, s9, s10, s11] [(.int (7 : Int32)), (.int i6)])) _
  refine XS.icmpYes X0.here hx rfl (pc0 := 179) (pc' := 196) rfl (hb hby at_179) rfl (flt hc179).2.2.2 (by decide) (by decide) ?_
  exact kt
set_option maxRecDepth 65536 in
set_option maxHeartbeats 40000000 in
theorem own_g0 {p : Program} {l : Launch} {e : Env} {s : State} {m : MethodId} {args : Array Value} {below : List Frame} {meth : Method} {c : Code} {T0 : State} {locs : List Loc} {Z : State} {a0 : Array Value} {h0 : Heap} {n0 : Nat} (s0 s1 : Slot) (j2 : Int64) (s4 s5 : Slot) (o7 : Addr) (s8 s9 s10 s11 : Slot) (d0 : Addr) (cl_d0 : Cell) (cs : Int32) (nn : Nat) (hnn : nn ≤ 8)
    (X0 : Stand p l e room_1 s m args below meth c T0 locs 1 3) (hx : p.tables.exec = Jvm.exec) (hZ : Z.Warmed39 s.vm) (hw : ∀ d ∈ tables_1, d.before a0 Z = true) (hby : c.code = code) (hml : c.maxLocals = 12) (hown : s.vm.findClass "com/example/ordinal_lock/ordinallock/protocol/WithinLimitTurnPinLaw" = some m.cls) (e0 : T0.heap = h0) (N0 : Fr n0 locs) (O0 : Old Z n0 h0) (SD : Sta Z Z.heap "java/util/ArrayList" "DEFAULTCAPACITY_EMPTY_ELEMENTDATA" "[Ljava/lang/Object;" (.ref d0)) (AD : Arr Z Z.heap d0 cl_d0 (.object "java/lang/Object")) (S_d0 : cl_d0.slots.size = (0 : Int32).toNatClampNeg) (SC : Sta Z Z.heap "java/lang/String" "COMPACT_STRINGS" "Z" (.int cs)) (hcs : ¬ (cs = (0 : Int32))) (g_o7 : n0 ≤ o7) (HL : own_L Z h0 n0 o7 d0 (min nn 0)) :
    ∃ (T' : State) (h' : Heap) (locs' : List Loc), Stand p l e room_1 s m args below meth c T' locs' 4 18 ∧ T'.heap = h' ∧ Fr n0 locs' ∧ Old Z n0 h' ∧ own_L Z h' n0 o7 d0 (min nn 1) ∧
      ∀ target, Steps p.tables e below (T'.setTop (mkF m 59 #[s0, s1, .val (.long j2), .second, s4, s5, .val (.int (Int32.ofNat nn)), .val (.ref o7), s8, s9, s10, s11] [])) target → Steps p.tables e below (T0.setTop (mkF m 41 #[s0, s1, .val (.long j2), .second, s4, s5, .val (.int (Int32.ofNat nn)), .val (.ref o7), s8, s9, s10, s11] [])) target := by
  have q : (0 : Int32) < Int32.ofNat nn ↔ 0 < nn := own_lt 0 nn (by decide) (by omega)
  by_cases h : 0 < nn
  · have h1 : min nn 0 = 0 := by omega
    have h2 : min nn 1 = 0 + 1 := by omega
    rw [h1] at HL
    rw [h2]
    exact own_s0 s0 s1 j2 s4 s5 (Int32.ofNat nn) o7 s8 s9 s10 s11 d0 cl_d0 cs 0 X0 hx hZ hw hby hml hown e0 N0 O0 SD AD S_d0 SC hcs g_o7 HL (by decide) (by decide) (by decide) (q.mpr h)
  · have h1 : min nn 1 = min nn 0 := by omega
    obtain ⟨T', X', e', st'⟩ := own_k0 s0 s1 (.val (.long j2)) .second s4 s5 (Int32.ofNat nn) (.val (.ref o7)) s8 s9 s10 s11 X0 hx hZ hw hby hml hown e0 (fun z => h (q.mp z))
    exact ⟨T', h0, locs, X'.mono (by decide) (by decide), e', N0, O0, by rw [h1]; exact HL, st'⟩
set_option maxRecDepth 65536 in
set_option maxHeartbeats 40000000 in
theorem own_g1 {p : Program} {l : Launch} {e : Env} {s : State} {m : MethodId} {args : Array Value} {below : List Frame} {meth : Method} {c : Code} {T0 : State} {locs : List Loc} {Z : State} {a0 : Array Value} {h0 : Heap} {n0 : Nat} (s0 s1 : Slot) (j2 : Int64) (s4 s5 : Slot) (o7 : Addr) (s8 s9 s10 s11 : Slot) (d0 : Addr) (cl_d0 : Cell) (cs : Int32) (nn : Nat) (hnn : nn ≤ 8)
    (X0 : Stand p l e room_1 s m args below meth c T0 locs 4 18) (hx : p.tables.exec = Jvm.exec) (hZ : Z.Warmed39 s.vm) (hw : ∀ d ∈ tables_1, d.before a0 Z = true) (hby : c.code = code) (hml : c.maxLocals = 12) (hown : s.vm.findClass "com/example/ordinal_lock/ordinallock/protocol/WithinLimitTurnPinLaw" = some m.cls) (e0 : T0.heap = h0) (N0 : Fr n0 locs) (O0 : Old Z n0 h0) (SD : Sta Z Z.heap "java/util/ArrayList" "DEFAULTCAPACITY_EMPTY_ELEMENTDATA" "[Ljava/lang/Object;" (.ref d0)) (AD : Arr Z Z.heap d0 cl_d0 (.object "java/lang/Object")) (S_d0 : cl_d0.slots.size = (0 : Int32).toNatClampNeg) (SC : Sta Z Z.heap "java/lang/String" "COMPACT_STRINGS" "Z" (.int cs)) (hcs : ¬ (cs = (0 : Int32))) (g_o7 : n0 ≤ o7) (HL : own_L Z h0 n0 o7 d0 (min nn 1)) :
    ∃ (T' : State) (h' : Heap) (locs' : List Loc), Stand p l e room_1 s m args below meth c T' locs' 7 33 ∧ T'.heap = h' ∧ Fr n0 locs' ∧ Old Z n0 h' ∧ own_L Z h' n0 o7 d0 (min nn 2) ∧
      ∀ target, Steps p.tables e below (T'.setTop (mkF m 78 #[s0, s1, .val (.long j2), .second, s4, s5, .val (.int (Int32.ofNat nn)), .val (.ref o7), s8, s9, s10, s11] [])) target → Steps p.tables e below (T0.setTop (mkF m 59 #[s0, s1, .val (.long j2), .second, s4, s5, .val (.int (Int32.ofNat nn)), .val (.ref o7), s8, s9, s10, s11] [])) target := by
  have q : (1 : Int32) < Int32.ofNat nn ↔ 1 < nn := own_lt 1 nn (by decide) (by omega)
  by_cases h : 1 < nn
  · have h1 : min nn 1 = 1 := by omega
    have h2 : min nn 2 = 1 + 1 := by omega
    rw [h1] at HL
    rw [h2]
    exact own_s1 s0 s1 j2 s4 s5 (Int32.ofNat nn) o7 s8 s9 s10 s11 d0 cl_d0 cs 1 X0 hx hZ hw hby hml hown e0 N0 O0 SD AD S_d0 SC hcs g_o7 HL (by decide) (by decide) (by decide) (q.mpr h)
  · have h1 : min nn 2 = min nn 1 := by omega
    obtain ⟨T', X', e', st'⟩ := own_k1 s0 s1 (.val (.long j2)) .second s4 s5 (Int32.ofNat nn) (.val (.ref o7)) s8 s9 s10 s11 X0 hx hZ hw hby hml hown e0 (fun z => h (q.mp z))
    exact ⟨T', h0, locs, X'.mono (by decide) (by decide), e', N0, O0, by rw [h1]; exact HL, st'⟩
set_option maxRecDepth 65536 in
set_option maxHeartbeats 40000000 in
theorem own_g2 {p : Program} {l : Launch} {e : Env} {s : State} {m : MethodId} {args : Array Value} {below : List Frame} {meth : Method} {c : Code} {T0 : State} {locs : List Loc} {Z : State} {a0 : Array Value} {h0 : Heap} {n0 : Nat} (s0 s1 : Slot) (j2 : Int64) (s4 s5 : Slot) (o7 : Addr) (s8 s9 s10 s11 : Slot) (d0 : Addr) (cl_d0 : Cell) (cs : Int32) (nn : Nat) (hnn : nn ≤ 8)
    (X0 : Stand p l e room_1 s m args below meth c T0 locs 7 33) (hx : p.tables.exec = Jvm.exec) (hZ : Z.Warmed39 s.vm) (hw : ∀ d ∈ tables_1, d.before a0 Z = true) (hby : c.code = code) (hml : c.maxLocals = 12) (hown : s.vm.findClass "com/example/ordinal_lock/ordinallock/protocol/WithinLimitTurnPinLaw" = some m.cls) (e0 : T0.heap = h0) (N0 : Fr n0 locs) (O0 : Old Z n0 h0) (SD : Sta Z Z.heap "java/util/ArrayList" "DEFAULTCAPACITY_EMPTY_ELEMENTDATA" "[Ljava/lang/Object;" (.ref d0)) (AD : Arr Z Z.heap d0 cl_d0 (.object "java/lang/Object")) (S_d0 : cl_d0.slots.size = (0 : Int32).toNatClampNeg) (SC : Sta Z Z.heap "java/lang/String" "COMPACT_STRINGS" "Z" (.int cs)) (hcs : ¬ (cs = (0 : Int32))) (g_o7 : n0 ≤ o7) (HL : own_L Z h0 n0 o7 d0 (min nn 2)) :
    ∃ (T' : State) (h' : Heap) (locs' : List Loc), Stand p l e room_1 s m args below meth c T' locs' 10 48 ∧ T'.heap = h' ∧ Fr n0 locs' ∧ Old Z n0 h' ∧ own_L Z h' n0 o7 d0 (min nn 3) ∧
      ∀ target, Steps p.tables e below (T'.setTop (mkF m 97 #[s0, s1, .val (.long j2), .second, s4, s5, .val (.int (Int32.ofNat nn)), .val (.ref o7), s8, s9, s10, s11] [])) target → Steps p.tables e below (T0.setTop (mkF m 78 #[s0, s1, .val (.long j2), .second, s4, s5, .val (.int (Int32.ofNat nn)), .val (.ref o7), s8, s9, s10, s11] [])) target := by
  have q : (2 : Int32) < Int32.ofNat nn ↔ 2 < nn := own_lt 2 nn (by decide) (by omega)
  by_cases h : 2 < nn
  · have h1 : min nn 2 = 2 := by omega
    have h2 : min nn 3 = 2 + 1 := by omega
    rw [h1] at HL
    rw [h2]
    exact own_s2 s0 s1 j2 s4 s5 (Int32.ofNat nn) o7 s8 s9 s10 s11 d0 cl_d0 cs 2 X0 hx hZ hw hby hml hown e0 N0 O0 SD AD S_d0 SC hcs g_o7 HL (by decide) (by decide) (by decide) (q.mpr h)
  · have h1 : min nn 3 = min nn 2 := by omega
    obtain ⟨T', X', e', st'⟩ := own_k2 s0 s1 (.val (.long j2)) .second s4 s5 (Int32.ofNat nn) (.val (.ref o7)) s8 s9 s10 s11 X0 hx hZ hw hby hml hown e0 (fun z => h (q.mp z))
    exact ⟨T', h0, locs, X'.mono (by decide) (by decide), e', N0, O0, by rw [h1]; exact HL, st'⟩
set_option maxRecDepth 65536 in
set_option maxHeartbeats 40000000 in
theorem own_g3 {p : Program} {l : Launch} {e : Env} {s : State} {m : MethodId} {args : Array Value} {below : List Frame} {meth : Method} {c : Code} {T0 : State} {locs : List Loc} {Z : State} {a0 : Array Value} {h0 : Heap} {n0 : Nat} (s0 s1 : Slot) (j2 : Int64) (s4 s5 : Slot) (o7 : Addr) (s8 s9 s10 s11 : Slot) (d0 : Addr) (cl_d0 : Cell) (cs : Int32) (nn : Nat) (hnn : nn ≤ 8)
    (X0 : Stand p l e room_1 s m args below meth c T0 locs 10 48) (hx : p.tables.exec = Jvm.exec) (hZ : Z.Warmed39 s.vm) (hw : ∀ d ∈ tables_1, d.before a0 Z = true) (hby : c.code = code) (hml : c.maxLocals = 12) (hown : s.vm.findClass "com/example/ordinal_lock/ordinallock/protocol/WithinLimitTurnPinLaw" = some m.cls) (e0 : T0.heap = h0) (N0 : Fr n0 locs) (O0 : Old Z n0 h0) (SD : Sta Z Z.heap "java/util/ArrayList" "DEFAULTCAPACITY_EMPTY_ELEMENTDATA" "[Ljava/lang/Object;" (.ref d0)) (AD : Arr Z Z.heap d0 cl_d0 (.object "java/lang/Object")) (S_d0 : cl_d0.slots.size = (0 : Int32).toNatClampNeg) (SC : Sta Z Z.heap "java/lang/String" "COMPACT_STRINGS" "Z" (.int cs)) (hcs : ¬ (cs = (0 : Int32))) (g_o7 : n0 ≤ o7) (HL : own_L Z h0 n0 o7 d0 (min nn 3)) :
    ∃ (T' : State) (h' : Heap) (locs' : List Loc), Stand p l e room_1 s m args below meth c T' locs' 13 63 ∧ T'.heap = h' ∧ Fr n0 locs' ∧ Old Z n0 h' ∧ own_L Z h' n0 o7 d0 (min nn 4) ∧
      ∀ target, Steps p.tables e below (T'.setTop (mkF m 116 #[s0, s1, .val (.long j2), .second, s4, s5, .val (.int (Int32.ofNat nn)), .val (.ref o7), s8, s9, s10, s11] [])) target → Steps p.tables e below (T0.setTop (mkF m 97 #[s0, s1, .val (.long j2), .second, s4, s5, .val (.int (Int32.ofNat nn)), .val (.ref o7), s8, s9, s10, s11] [])) target := by
  have q : (3 : Int32) < Int32.ofNat nn ↔ 3 < nn := own_lt 3 nn (by decide) (by omega)
  by_cases h : 3 < nn
  · have h1 : min nn 3 = 3 := by omega
    have h2 : min nn 4 = 3 + 1 := by omega
    rw [h1] at HL
    rw [h2]
    exact own_s3 s0 s1 j2 s4 s5 (Int32.ofNat nn) o7 s8 s9 s10 s11 d0 cl_d0 cs 3 X0 hx hZ hw hby hml hown e0 N0 O0 SD AD S_d0 SC hcs g_o7 HL (by decide) (by decide) (by decide) (q.mpr h)
  · have h1 : min nn 4 = min nn 3 := by omega
    obtain ⟨T', X', e', st'⟩ := own_k3 s0 s1 (.val (.long j2)) .second s4 s5 (Int32.ofNat nn) (.val (.ref o7)) s8 s9 s10 s11 X0 hx hZ hw hby hml hown e0 (fun z => h (q.mp z))
    exact ⟨T', h0, locs, X'.mono (by decide) (by decide), e', N0, O0, by rw [h1]; exact HL, st'⟩
set_option maxRecDepth 65536 in
set_option maxHeartbeats 40000000 in
theorem own_g4 {p : Program} {l : Launch} {e : Env} {s : State} {m : MethodId} {args : Array Value} {below : List Frame} {meth : Method} {c : Code} {T0 : State} {locs : List Loc} {Z : State} {a0 : Array Value} {h0 : Heap} {n0 : Nat} (s0 s1 : Slot) (j2 : Int64) (s4 s5 : Slot) (o7 : Addr) (s8 s9 s10 s11 : Slot) (d0 : Addr) (cl_d0 : Cell) (cs : Int32) (nn : Nat) (hnn : nn ≤ 8)
    (X0 : Stand p l e room_1 s m args below meth c T0 locs 13 63) (hx : p.tables.exec = Jvm.exec) (hZ : Z.Warmed39 s.vm) (hw : ∀ d ∈ tables_1, d.before a0 Z = true) (hby : c.code = code) (hml : c.maxLocals = 12) (hown : s.vm.findClass "com/example/ordinal_lock/ordinallock/protocol/WithinLimitTurnPinLaw" = some m.cls) (e0 : T0.heap = h0) (N0 : Fr n0 locs) (O0 : Old Z n0 h0) (SD : Sta Z Z.heap "java/util/ArrayList" "DEFAULTCAPACITY_EMPTY_ELEMENTDATA" "[Ljava/lang/Object;" (.ref d0)) (AD : Arr Z Z.heap d0 cl_d0 (.object "java/lang/Object")) (S_d0 : cl_d0.slots.size = (0 : Int32).toNatClampNeg) (SC : Sta Z Z.heap "java/lang/String" "COMPACT_STRINGS" "Z" (.int cs)) (hcs : ¬ (cs = (0 : Int32))) (g_o7 : n0 ≤ o7) (HL : own_L Z h0 n0 o7 d0 (min nn 4)) :
    ∃ (T' : State) (h' : Heap) (locs' : List Loc), Stand p l e room_1 s m args below meth c T' locs' 16 78 ∧ T'.heap = h' ∧ Fr n0 locs' ∧ Old Z n0 h' ∧ own_L Z h' n0 o7 d0 (min nn 5) ∧
      ∀ target, Steps p.tables e below (T'.setTop (mkF m 135 #[s0, s1, .val (.long j2), .second, s4, s5, .val (.int (Int32.ofNat nn)), .val (.ref o7), s8, s9, s10, s11] [])) target → Steps p.tables e below (T0.setTop (mkF m 116 #[s0, s1, .val (.long j2), .second, s4, s5, .val (.int (Int32.ofNat nn)), .val (.ref o7), s8, s9, s10, s11] [])) target := by
  have q : (4 : Int32) < Int32.ofNat nn ↔ 4 < nn := own_lt 4 nn (by decide) (by omega)
  by_cases h : 4 < nn
  · have h1 : min nn 4 = 4 := by omega
    have h2 : min nn 5 = 4 + 1 := by omega
    rw [h1] at HL
    rw [h2]
    exact own_s4 s0 s1 j2 s4 s5 (Int32.ofNat nn) o7 s8 s9 s10 s11 d0 cl_d0 cs 4 X0 hx hZ hw hby hml hown e0 N0 O0 SD AD S_d0 SC hcs g_o7 HL (by decide) (by decide) (by decide) (q.mpr h)
  · have h1 : min nn 5 = min nn 4 := by omega
    obtain ⟨T', X', e', st'⟩ := own_k4 s0 s1 (.val (.long j2)) .second s4 s5 (Int32.ofNat nn) (.val (.ref o7)) s8 s9 s10 s11 X0 hx hZ hw hby hml hown e0 (fun z => h (q.mp z))
    exact ⟨T', h0, locs, X'.mono (by decide) (by decide), e', N0, O0, by rw [h1]; exact HL, st'⟩
set_option maxRecDepth 65536 in
set_option maxHeartbeats 40000000 in
theorem own_g5 {p : Program} {l : Launch} {e : Env} {s : State} {m : MethodId} {args : Array Value} {below : List Frame} {meth : Method} {c : Code} {T0 : State} {locs : List Loc} {Z : State} {a0 : Array Value} {h0 : Heap} {n0 : Nat} (s0 s1 : Slot) (j2 : Int64) (s4 s5 : Slot) (o7 : Addr) (s8 s9 s10 s11 : Slot) (d0 : Addr) (cl_d0 : Cell) (cs : Int32) (nn : Nat) (hnn : nn ≤ 8)
    (X0 : Stand p l e room_1 s m args below meth c T0 locs 16 78) (hx : p.tables.exec = Jvm.exec) (hZ : Z.Warmed39 s.vm) (hw : ∀ d ∈ tables_1, d.before a0 Z = true) (hby : c.code = code) (hml : c.maxLocals = 12) (hown : s.vm.findClass "com/example/ordinal_lock/ordinallock/protocol/WithinLimitTurnPinLaw" = some m.cls) (e0 : T0.heap = h0) (N0 : Fr n0 locs) (O0 : Old Z n0 h0) (SD : Sta Z Z.heap "java/util/ArrayList" "DEFAULTCAPACITY_EMPTY_ELEMENTDATA" "[Ljava/lang/Object;" (.ref d0)) (AD : Arr Z Z.heap d0 cl_d0 (.object "java/lang/Object")) (S_d0 : cl_d0.slots.size = (0 : Int32).toNatClampNeg) (SC : Sta Z Z.heap "java/lang/String" "COMPACT_STRINGS" "Z" (.int cs)) (hcs : ¬ (cs = (0 : Int32))) (g_o7 : n0 ≤ o7) (HL : own_L Z h0 n0 o7 d0 (min nn 5)) :
    ∃ (T' : State) (h' : Heap) (locs' : List Loc), Stand p l e room_1 s m args below meth c T' locs' 19 93 ∧ T'.heap = h' ∧ Fr n0 locs' ∧ Old Z n0 h' ∧ own_L Z h' n0 o7 d0 (min nn 6) ∧
      ∀ target, Steps p.tables e below (T'.setTop (mkF m 154 #[s0, s1, .val (.long j2), .second, s4, s5, .val (.int (Int32.ofNat nn)), .val (.ref o7), s8, s9, s10, s11] [])) target → Steps p.tables e below (T0.setTop (mkF m 135 #[s0, s1, .val (.long j2), .second, s4, s5, .val (.int (Int32.ofNat nn)), .val (.ref o7), s8, s9, s10, s11] [])) target := by
  have q : (5 : Int32) < Int32.ofNat nn ↔ 5 < nn := own_lt 5 nn (by decide) (by omega)
  by_cases h : 5 < nn
  · have h1 : min nn 5 = 5 := by omega
    have h2 : min nn 6 = 5 + 1 := by omega
    rw [h1] at HL
    rw [h2]
    exact own_s5 s0 s1 j2 s4 s5 (Int32.ofNat nn) o7 s8 s9 s10 s11 d0 cl_d0 cs 5 X0 hx hZ hw hby hml hown e0 N0 O0 SD AD S_d0 SC hcs g_o7 HL (by decide) (by decide) (by decide) (q.mpr h)
  · have h1 : min nn 6 = min nn 5 := by omega
    obtain ⟨T', X', e', st'⟩ := own_k5 s0 s1 (.val (.long j2)) .second s4 s5 (Int32.ofNat nn) (.val (.ref o7)) s8 s9 s10 s11 X0 hx hZ hw hby hml hown e0 (fun z => h (q.mp z))
    exact ⟨T', h0, locs, X'.mono (by decide) (by decide), e', N0, O0, by rw [h1]; exact HL, st'⟩
set_option maxRecDepth 65536 in
set_option maxHeartbeats 40000000 in
theorem own_g6 {p : Program} {l : Launch} {e : Env} {s : State} {m : MethodId} {args : Array Value} {below : List Frame} {meth : Method} {c : Code} {T0 : State} {locs : List Loc} {Z : State} {a0 : Array Value} {h0 : Heap} {n0 : Nat} (s0 s1 : Slot) (j2 : Int64) (s4 s5 : Slot) (o7 : Addr) (s8 s9 s10 s11 : Slot) (d0 : Addr) (cl_d0 : Cell) (cs : Int32) (nn : Nat) (hnn : nn ≤ 8)
    (X0 : Stand p l e room_1 s m args below meth c T0 locs 19 93) (hx : p.tables.exec = Jvm.exec) (hZ : Z.Warmed39 s.vm) (hw : ∀ d ∈ tables_1, d.before a0 Z = true) (hby : c.code = code) (hml : c.maxLocals = 12) (hown : s.vm.findClass "com/example/ordinal_lock/ordinallock/protocol/WithinLimitTurnPinLaw" = some m.cls) (e0 : T0.heap = h0) (N0 : Fr n0 locs) (O0 : Old Z n0 h0) (SD : Sta Z Z.heap "java/util/ArrayList" "DEFAULTCAPACITY_EMPTY_ELEMENTDATA" "[Ljava/lang/Object;" (.ref d0)) (AD : Arr Z Z.heap d0 cl_d0 (.object "java/lang/Object")) (S_d0 : cl_d0.slots.size = (0 : Int32).toNatClampNeg) (SC : Sta Z Z.heap "java/lang/String" "COMPACT_STRINGS" "Z" (.int cs)) (hcs : ¬ (cs = (0 : Int32))) (g_o7 : n0 ≤ o7) (HL : own_L Z h0 n0 o7 d0 (min nn 6)) :
    ∃ (T' : State) (h' : Heap) (locs' : List Loc), Stand p l e room_1 s m args below meth c T' locs' 22 108 ∧ T'.heap = h' ∧ Fr n0 locs' ∧ Old Z n0 h' ∧ own_L Z h' n0 o7 d0 (min nn 7) ∧
      ∀ target, Steps p.tables e below (T'.setTop (mkF m 175 #[s0, s1, .val (.long j2), .second, s4, s5, .val (.int (Int32.ofNat nn)), .val (.ref o7), s8, s9, s10, s11] [])) target → Steps p.tables e below (T0.setTop (mkF m 154 #[s0, s1, .val (.long j2), .second, s4, s5, .val (.int (Int32.ofNat nn)), .val (.ref o7), s8, s9, s10, s11] [])) target := by
  have q : (6 : Int32) < Int32.ofNat nn ↔ 6 < nn := own_lt 6 nn (by decide) (by omega)
  by_cases h : 6 < nn
  · have h1 : min nn 6 = 6 := by omega
    have h2 : min nn 7 = 6 + 1 := by omega
    rw [h1] at HL
    rw [h2]
    exact own_s6 s0 s1 j2 s4 s5 (Int32.ofNat nn) o7 s8 s9 s10 s11 d0 cl_d0 cs 6 X0 hx hZ hw hby hml hown e0 N0 O0 SD AD S_d0 SC hcs g_o7 HL (by decide) (by decide) (by decide) (q.mpr h)
  · have h1 : min nn 7 = min nn 6 := by omega
    obtain ⟨T', X', e', st'⟩ := own_k6 s0 s1 (.val (.long j2)) .second s4 s5 (Int32.ofNat nn) (.val (.ref o7)) s8 s9 s10 s11 X0 hx hZ hw hby hml hown e0 (fun z => h (q.mp z))
    exact ⟨T', h0, locs, X'.mono (by decide) (by decide), e', N0, O0, by rw [h1]; exact HL, st'⟩
set_option maxRecDepth 65536 in
set_option maxHeartbeats 40000000 in
theorem own_g7 {p : Program} {l : Launch} {e : Env} {s : State} {m : MethodId} {args : Array Value} {below : List Frame} {meth : Method} {c : Code} {T0 : State} {locs : List Loc} {Z : State} {a0 : Array Value} {h0 : Heap} {n0 : Nat} (s0 s1 : Slot) (j2 : Int64) (s4 s5 : Slot) (o7 : Addr) (s8 s9 s10 s11 : Slot) (d0 : Addr) (cl_d0 : Cell) (cs : Int32) (nn : Nat) (hnn : nn ≤ 8)
    (X0 : Stand p l e room_1 s m args below meth c T0 locs 22 108) (hx : p.tables.exec = Jvm.exec) (hZ : Z.Warmed39 s.vm) (hw : ∀ d ∈ tables_1, d.before a0 Z = true) (hby : c.code = code) (hml : c.maxLocals = 12) (hown : s.vm.findClass "com/example/ordinal_lock/ordinallock/protocol/WithinLimitTurnPinLaw" = some m.cls) (e0 : T0.heap = h0) (N0 : Fr n0 locs) (O0 : Old Z n0 h0) (SD : Sta Z Z.heap "java/util/ArrayList" "DEFAULTCAPACITY_EMPTY_ELEMENTDATA" "[Ljava/lang/Object;" (.ref d0)) (AD : Arr Z Z.heap d0 cl_d0 (.object "java/lang/Object")) (S_d0 : cl_d0.slots.size = (0 : Int32).toNatClampNeg) (SC : Sta Z Z.heap "java/lang/String" "COMPACT_STRINGS" "Z" (.int cs)) (hcs : ¬ (cs = (0 : Int32))) (g_o7 : n0 ≤ o7) (HL : own_L Z h0 n0 o7 d0 (min nn 7)) :
    ∃ (T' : State) (h' : Heap) (locs' : List Loc), Stand p l e room_1 s m args below meth c T' locs' 25 123 ∧ T'.heap = h' ∧ Fr n0 locs' ∧ Old Z n0 h' ∧ own_L Z h' n0 o7 d0 (min nn 8) ∧
      ∀ target, Steps p.tables e below (T'.setTop (mkF m 196 #[s0, s1, .val (.long j2), .second, s4, s5, .val (.int (Int32.ofNat nn)), .val (.ref o7), s8, s9, s10, s11] [])) target → Steps p.tables e below (T0.setTop (mkF m 175 #[s0, s1, .val (.long j2), .second, s4, s5, .val (.int (Int32.ofNat nn)), .val (.ref o7), s8, s9, s10, s11] [])) target := by
  have q : (7 : Int32) < Int32.ofNat nn ↔ 7 < nn := own_lt 7 nn (by decide) (by omega)
  by_cases h : 7 < nn
  · have h1 : min nn 7 = 7 := by omega
    have h2 : min nn 8 = 7 + 1 := by omega
    rw [h1] at HL
    rw [h2]
    exact own_s7 s0 s1 j2 s4 s5 (Int32.ofNat nn) o7 s8 s9 s10 s11 d0 cl_d0 cs 7 X0 hx hZ hw hby hml hown e0 N0 O0 SD AD S_d0 SC hcs g_o7 HL (by decide) (by decide) (by decide) (q.mpr h)
  · have h1 : min nn 8 = min nn 7 := by omega
    obtain ⟨T', X', e', st'⟩ := own_k7 s0 s1 (.val (.long j2)) .second s4 s5 (Int32.ofNat nn) (.val (.ref o7)) s8 s9 s10 s11 X0 hx hZ hw hby hml hown e0 (fun z => h (q.mp z))
    exact ⟨T', h0, locs, X'.mono (by decide) (by decide), e', N0, O0, by rw [h1]; exact HL, st'⟩
set_option maxRecDepth 65536 in
set_option maxHeartbeats 40000000 in
theorem own_n1 {p : Program} {l : Launch} {e : Env} {s : State} {m : MethodId} {args : Array Value} {below : List Frame} {meth : Method} {c : Code} {T0 : State} {locs : List Loc} {Z : State} {a0 : Array Value} {h0 : Heap} {n0 : Nat} {cells slots : Nat} (s0 : Slot) (s5 : Slot) (s6 : Slot) (s8 : Slot) (s9 : Slot) (s10 : Slot) (s11 : Slot) (i1 : Int32) (j2 : Int64) (i4 : Int32) (o7 : Addr) (d0 : Addr) (cl_d0 : Cell) (cs : Int32) (k : Nat)
    (X0 : Stand p l e room_1 s m args below meth c T0 locs cells slots) (hx : p.tables.exec = Jvm.exec) (hZ : Z.Warmed39 s.vm) (hw : ∀ d ∈ tables_1, d.before a0 Z = true) (hby : c.code = code) (hml : c.maxLocals = 12) (hown : s.vm.findClass "com/example/ordinal_lock/ordinallock/protocol/WithinLimitTurnPinLaw" = some m.cls) (e0 : T0.heap = h0) (N0 : Fr n0 locs) (O0 : Old Z n0 h0) (SD : Sta Z Z.heap "java/util/ArrayList" "DEFAULTCAPACITY_EMPTY_ELEMENTDATA" "[Ljava/lang/Object;" (.ref d0)) (AD : Arr Z Z.heap d0 cl_d0 (.object "java/lang/Object")) (S_d0 : cl_d0.slots.size = (0 : Int32).toNatClampNeg) (SC : Sta Z Z.heap "java/lang/String" "COMPACT_STRINGS" "Z" (.int cs)) (hcs : ¬ (cs = (0 : Int32))) (g_o7 : n0 ≤ o7) (HL : own_L Z h0 n0 o7 d0 k) (hcl : cells + 2 ≤ 56) (hsl : slots + 5 ≤ 192) (hc200 : ¬ ((i1 &&& (32 : Int32)) = (0 : Int32))) :
    ∃ (T' : State) (h' : Heap) (locs' : List Loc) (b : Addr), Stand p l e room_1 s m args below meth c T' locs' (cells + 2) (slots + 5) ∧ T'.heap = h' ∧ Fr n0 locs' ∧ Old Z n0 h' ∧ own_L Z h' n0 o7 d0 k ∧
      ∀ target, Steps p.tables e below (T'.setTop (mkF m 221 #[s0, .val (.int i1), .val (.long j2), .second, .val (.int i4), s5, s6, .val (.ref o7), s8, s9, s10, s11] [(.ref b)])) target → Steps p.tables e below (T0.setTop (mkF m 196 #[s0, .val (.int i1), .val (.long j2), .second, .val (.int i4), s5, s6, .val (.ref o7), s8, s9, s10, s11] [])) target := by
  -- pc 205: com/example/ordinal_lock/ordinallock/protocol/WithinLimitTurnPinLaw.ch by its contract rm5
  obtain ⟨_, _, ⟨T5, L5, k5, n5⟩, -, X5, ⟨Lc5, hQ5, l5, y5, z5⟩, st5⟩ := Jvm.LawKit.callS X0 hx (y := (⟨"com/example/ordinal_lock/ordinallock/protocol/WithinLimitTurnPinLaw", "ch", "(JI)Ljava/lang/String;"⟩ : MethodName)) hown (mvT hZ (hw _ (List.mem_of_getElem? (i := 26) rfl))) (mvT hZ (hw _ (List.mem_of_getElem? (i := 27) rfl))) (mvT hZ (hw _ (List.mem_of_getElem? (i := 28) rfl))) (mvT hZ (hw _ (List.mem_of_getElem? (i := 29) rfl))) (by decide) (backOf (W := 0) (rm5 l Z a0 hw [] j2 (0 : Int32) cs h0 n0 (own_osz O0) O0 SC hcs) hZ (hw _ (List.mem_of_getElem? (i := 29) rfl)) (hw _ (List.mem_of_getElem? (i := 28) rfl)) (by decide) (by decide)) (g := (mkF m 205 #[s0, .val (.int i1), .val (.long j2), .second, .val (.int i4), s5, s6, .val (.ref o7), s8, s9, s10, s11] [(.int (0 : Int32)), (.long j2)])) rfl (by rw [hml]; rfl) (argsL := [(.long j2), (.int (0 : Int32))]) (rest := []) (lenOf pd_0_1 rfl) rfl (by show 2 * 0 + _ ≤ _; exact Nat.le_of_eq rfl) (hb hby at_205) (fun _ _ => ⟨rfl, e0, (show cells + 0 + 2 ≤ 56 by omega), (show slots + 0 + 5 ≤ 192 by omega)⟩)
  dsimp only [Pt.U, Pt.locs, Pt.cells, Pt.slots] at X5 l5 y5 z5 st5 hQ5
  subst l5 y5 z5
  obtain ⟨bq5, rfl, N5q, Kq5, Ex5⟩ := hQ5
  have N5 := Fr.app N0 N5q
  refine ⟨T5, _, _, bq5, X5, rfl, N5, (O0.keep Kq5 (fun _ q_ => absurd q_ List.not_mem_nil)), HL.keep Kq5, fun target kt => ?_⟩
  show Steps p.tables e below (T0.setTop (mkF m 196 #[s0, .val (.int i1), .val (.long j2), .second, .val (.int i4), s5, s6, .val (.ref o7), s8, s9, s10, s11] [])) _
  refine XS.iloadN X0.here hx rfl (hb hby at_196) rfl ?_
  show Steps p.tables e below (T0.setTop (mkF m 197 #[s0, .val (.int i1), .val (.long j2), .second, .val (.int i4), s5, s6, .val (.ref o7), s8, s9, s10, s11] [(.int i1)])) _
  refine XS.bipush X0.here hx rfl (hb hby at_197) ?_
  show Steps p.tables e below (T0.setTop (mkF m 199 #[s0, .val (.int i1), .val (.long j2), .second, .val (.int i4), s5, s6, .val (.ref o7), s8, s9, s10, s11] [(.int (32 : Int32)), (.int i1)])) _
  refine XS.iand X0.here hx rfl (hb hby at_199) rfl ?_
  show Steps p.tables e below (T0.setTop (mkF m 200 #[s0, .val (.int i1), .val (.long j2), .second, .val (.int i4), s5, s6, .val (.ref o7), s8, s9, s10, s11] [(.int (i1 &&& (32 : Int32)))])) _
  refine XS.ifNo X0.here hx rfl (hb hby at_200) rfl ((if0 _ _).trans (feq hc200).1) ?_
  show Steps p.tables e below (T0.setTop (mkF m 203 #[s0, .val (.int i1), .val (.long j2), .second, .val (.int i4), s5, s6, .val (.ref o7), s8, s9, s10, s11] [])) _
  refine XS.lloadN X0.here hx rfl (hb hby at_203) rfl ?_
  show Steps p.tables e below (T0.setTop (mkF m 204 #[s0, .val (.int i1), .val (.long j2), .second, .val (.int i4), s5, s6, .val (.ref o7), s8, s9, s10, s11] [(.long j2)])) _
  refine XS.iconst X0.here hx rfl (hb hby at_204) ?_
  show Steps p.tables e below (T0.setTop (mkF m 205 #[s0, .val (.int i1), .val (.long j2), .second, .val (.int i4), s5, s6, .val (.ref o7), s8, s9, s10, s11] [(.int (0 : Int32)), (.long j2)])) _
  refine st5 _ ?_
  show Steps p.tables e below (T5.setTop (mkF m 208 #[s0, .val (.int i1), .val (.long j2), .second, .val (.int i4), s5, s6, .val (.ref o7), s8, s9, s10, s11] [(.ref bq5)])) _
  refine XS.goto X5.here hx rfl (pc0 := 208) (pc' := 221) rfl (hb hby at_208) (by decide) (by decide) ?_
  exact kt
theorem pd_0_2 : parseMethodDescriptor "(C)Ljava/lang/String;" = some ⟨[.char], some (.object "java/lang/String")⟩ := by decide +kernel
set_option maxRecDepth 65536 in
set_option maxHeartbeats 40000000 in
theorem own_n2 {p : Program} {l : Launch} {e : Env} {s : State} {m : MethodId} {args : Array Value} {below : List Frame} {meth : Method} {c : Code} {T0 : State} {locs : List Loc} {Z : State} {a0 : Array Value} {h0 : Heap} {n0 : Nat} {cells slots : Nat} (s0 : Slot) (s5 : Slot) (s6 : Slot) (s8 : Slot) (s9 : Slot) (s10 : Slot) (s11 : Slot) (i1 : Int32) (j2 : Int64) (i4 : Int32) (o7 : Addr) (d0 : Addr) (cl_d0 : Cell) (cs : Int32) (k : Nat)
    (X0 : Stand p l e room_1 s m args below meth c T0 locs cells slots) (hx : p.tables.exec = Jvm.exec) (hZ : Z.Warmed39 s.vm) (hw : ∀ d ∈ tables_1, d.before a0 Z = true) (hby : c.code = code) (hml : c.maxLocals = 12) (hown : s.vm.findClass "com/example/ordinal_lock/ordinallock/protocol/WithinLimitTurnPinLaw" = some m.cls) (e0 : T0.heap = h0) (N0 : Fr n0 locs) (O0 : Old Z n0 h0) (SD : Sta Z Z.heap "java/util/ArrayList" "DEFAULTCAPACITY_EMPTY_ELEMENTDATA" "[Ljava/lang/Object;" (.ref d0)) (AD : Arr Z Z.heap d0 cl_d0 (.object "java/lang/Object")) (S_d0 : cl_d0.slots.size = (0 : Int32).toNatClampNeg) (SC : Sta Z Z.heap "java/lang/String" "COMPACT_STRINGS" "Z" (.int cs)) (hcs : ¬ (cs = (0 : Int32))) (g_o7 : n0 ≤ o7) (HL : own_L Z h0 n0 o7 d0 k) (hcl : cells + 2 ≤ 56) (hsl : slots + 5 ≤ 192) (hc200 : (i1 &&& (32 : Int32)) = (0 : Int32)) :
    ∃ (T' : State) (h' : Heap) (locs' : List Loc) (b : Addr), Stand p l e room_1 s m args below meth c T' locs' (cells + 2) (slots + 5) ∧ T'.heap = h' ∧ Fr n0 locs' ∧ Old Z n0 h' ∧ own_L Z h' n0 o7 d0 k ∧
      ∀ target, Steps p.tables e below (T'.setTop (mkF m 221 #[s0, .val (.int i1), .val (.long j2), .second, .val (.int i4), s5, s6, .val (.ref o7), s8, s9, s10, s11] [(.ref b)])) target → Steps p.tables e below (T0.setTop (mkF m 196 #[s0, .val (.int i1), .val (.long j2), .second, .val (.int i4), s5, s6, .val (.ref o7), s8, s9, s10, s11] [])) target := by
  -- pc 218: java/lang/String.valueOf by its contract rm6
  obtain ⟨_, _, ⟨T5, L5, k5, n5⟩, -, X5, ⟨Lc5, hQ5, l5, y5, z5⟩, st5⟩ := Jvm.LawKit.callS X0 hx (y := (⟨"java/lang/String", "valueOf", "(C)Ljava/lang/String;"⟩ : MethodName)) hown (mvT hZ (hw _ (List.mem_of_getElem? (i := 31) rfl))) (mvT hZ (hw _ (List.mem_of_getElem? (i := 32) rfl))) (mvT hZ (hw _ (List.mem_of_getElem? (i := 33) rfl))) (mvT hZ (hw _ (List.mem_of_getElem? (i := 34) rfl))) (by decide) (backOf (W := 0) (rm6 l Z a0 hw [] ((i4 &&& (255 : Int32)).toUInt32.toUInt16.toUInt32.toInt32) cs h0 n0 (own_osz O0) O0 SC (own_char32 _) hcs) hZ (hw _ (List.mem_of_getElem? (i := 34) rfl)) (hw _ (List.mem_of_getElem? (i := 33) rfl)) (by decide) (by decide)) (g := (mkF m 218 #[s0, .val (.int i1), .val (.long j2), .second, .val (.int i4), s5, s6, .val (.ref o7), s8, s9, s10, s11] [(.int ((i4 &&& (255 : Int32)).toUInt32.toUInt16.toUInt32.toInt32))])) rfl (by rw [hml]; rfl) (argsL := [(.int ((i4 &&& (255 : Int32)).toUInt32.toUInt16.toUInt32.toInt32))]) (rest := []) (lenOf pd_0_2 rfl) rfl (by show 2 * 0 + _ ≤ _; exact Nat.le_of_eq rfl) (hb hby at_218) (fun _ _ => ⟨rfl, e0, (show cells + 0 + 2 ≤ 56 by omega), (show slots + 0 + 5 ≤ 192 by omega)⟩)
  dsimp only [Pt.U, Pt.locs, Pt.cells, Pt.slots] at X5 l5 y5 z5 st5 hQ5
  subst l5 y5 z5
  obtain ⟨bq5, rfl, N5q, Kq5, Ex5⟩ := hQ5
  have N5 := Fr.app N0 N5q
  refine ⟨T5, _, _, bq5, X5, rfl, N5, (O0.keep Kq5 (fun _ q_ => absurd q_ List.not_mem_nil)), HL.keep Kq5, fun target kt => ?_⟩
  show Steps p.tables e below (T0.setTop (mkF m 196 #[s0, .val (.int i1), .val (.long j2), .second, .val (.int i4), s5, s6, .val (.ref o7), s8, s9, s10, s11] [])) _
  refine XS.iloadN X0.here hx rfl (hb hby at_196) rfl ?_
  show Steps p.tables e below (T0.setTop (mkF m 197 #[s0, .val (.int i1), .val (.long j2), .second, .val (.int i4), s5, s6, .val (.ref o7), s8, s9, s10, s11] [(.int i1)])) _
  refine XS.bipush X0.here hx rfl (hb hby at_197) ?_
  show Steps p.tables e below (T0.setTop (mkF m 199 #[s0, .val (.int i1), .val (.long j2), .second, .val (.int i4), s5, s6, .val (.ref o7), s8, s9, s10, s11] [(.int (32 : Int32)), (.int i1)])) _
  refine XS.iand X0.here hx rfl (hb hby at_199) rfl ?_
  show Steps p.tables e below (T0.setTop (mkF m 200 #[s0, .val (.int i1), .val (.long j2), .second, .val (.int i4), s5, s6, .val (.ref o7), s8, s9, s10, s11] [(.int (i1 &&& (32 : Int32)))])) _
  refine XS.ifYes X0.here hx rfl (pc0 := 200) (pc' := 211) rfl (hb hby at_200) rfl ((if0 _ _).trans (teq hc200).1) (by decide) (by decide) ?_
  show Steps p.tables e below (T0.setTop (mkF m 211 #[s0, .val (.int i1), .val (.long j2), .second, .val (.int i4), s5, s6, .val (.ref o7), s8, s9, s10, s11] [])) _
  refine XS.iload X0.here hx rfl (hb hby at_211) rfl ?_
  show Steps p.tables e below (T0.setTop (mkF m 213 #[s0, .val (.int i1), .val (.long j2), .second, .val (.int i4), s5, s6, .val (.ref o7), s8, s9, s10, s11] [(.int i4)])) _
  refine XS.sipush X0.here hx rfl (hb hby at_213) ?_
  show Steps p.tables e below (T0.setTop (mkF m 216 #[s0, .val (.int i1), .val (.long j2), .second, .val (.int i4), s5, s6, .val (.ref o7), s8, s9, s10, s11] [(.int (255 : Int32)), (.int i4)])) _
  refine XS.iand X0.here hx rfl (hb hby at_216) rfl ?_
  show Steps p.tables e below (T0.setTop (mkF m 217 #[s0, .val (.int i1), .val (.long j2), .second, .val (.int i4), s5, s6, .val (.ref o7), s8, s9, s10, s11] [(.int (i4 &&& (255 : Int32)))])) _
  refine XS.i2c X0.here hx rfl (hb hby at_217) rfl ?_
  show Steps p.tables e below (T0.setTop (mkF m 218 #[s0, .val (.int i1), .val (.long j2), .second, .val (.int i4), s5, s6, .val (.ref o7), s8, s9, s10, s11] [(.int ((i4 &&& (255 : Int32)).toUInt32.toUInt16.toUInt32.toInt32))])) _
  refine st5 _ ?_
  exact kt
set_option maxRecDepth 65536 in
set_option maxHeartbeats 40000000 in
theorem own_n {p : Program} {l : Launch} {e : Env} {s : State} {m : MethodId} {args : Array Value} {below : List Frame} {meth : Method} {c : Code} {T0 : State} {locs : List Loc} {Z : State} {a0 : Array Value} {h0 : Heap} {n0 : Nat} {cells slots : Nat} (s0 : Slot) (s5 : Slot) (s6 : Slot) (s8 : Slot) (s9 : Slot) (s10 : Slot) (s11 : Slot) (i1 : Int32) (j2 : Int64) (i4 : Int32) (o7 : Addr) (d0 : Addr) (cl_d0 : Cell) (cs : Int32) (k : Nat)
    (X0 : Stand p l e room_1 s m args below meth c T0 locs cells slots) (hx : p.tables.exec = Jvm.exec) (hZ : Z.Warmed39 s.vm) (hw : ∀ d ∈ tables_1, d.before a0 Z = true) (hby : c.code = code) (hml : c.maxLocals = 12) (hown : s.vm.findClass "com/example/ordinal_lock/ordinallock/protocol/WithinLimitTurnPinLaw" = some m.cls) (e0 : T0.heap = h0) (N0 : Fr n0 locs) (O0 : Old Z n0 h0) (SD : Sta Z Z.heap "java/util/ArrayList" "DEFAULTCAPACITY_EMPTY_ELEMENTDATA" "[Ljava/lang/Object;" (.ref d0)) (AD : Arr Z Z.heap d0 cl_d0 (.object "java/lang/Object")) (S_d0 : cl_d0.slots.size = (0 : Int32).toNatClampNeg) (SC : Sta Z Z.heap "java/lang/String" "COMPACT_STRINGS" "Z" (.int cs)) (hcs : ¬ (cs = (0 : Int32))) (g_o7 : n0 ≤ o7) (HL : own_L Z h0 n0 o7 d0 k) (hcl : cells + 2 ≤ 56) (hsl : slots + 5 ≤ 192) :
    ∃ (T' : State) (h' : Heap) (locs' : List Loc) (b : Addr), Stand p l e room_1 s m args below meth c T' locs' (cells + 2) (slots + 5) ∧ T'.heap = h' ∧ Fr n0 locs' ∧ Old Z n0 h' ∧ own_L Z h' n0 o7 d0 k ∧
      ∀ target, Steps p.tables e below (T'.setTop (mkF m 221 #[s0, .val (.int i1), .val (.long j2), .second, .val (.int i4), s5, s6, .val (.ref o7), s8, s9, s10, s11] [(.ref b)])) target → Steps p.tables e below (T0.setTop (mkF m 196 #[s0, .val (.int i1), .val (.long j2), .second, .val (.int i4), s5, s6, .val (.ref o7), s8, s9, s10, s11] [])) target := by
  by_cases h : (i1 &&& (32 : Int32)) = (0 : Int32)
  · exact own_n2 s0 s5 s6 s8 s9 s10 s11 i1 j2 i4 o7 d0 cl_d0 cs k X0 hx hZ hw hby hml hown e0 N0 O0 SD AD S_d0 SC hcs g_o7 HL hcl hsl h
  · exact own_n1 s0 s5 s6 s8 s9 s10 s11 i1 j2 i4 o7 d0 cl_d0 cs k X0 hx hZ hw hby hml hown e0 N0 O0 SD AD S_d0 SC hcs g_o7 HL hcl hsl h
def own_lim (l k : Int32) : Int32 := if (k &&& (16 : Int32)) = (0 : Int32) then ((1 : Int32) + (l &&& (7 : Int32))) else own_max (1 : Int32) l
theorem own_lim1 (l k : Int32) : ¬ (own_lim l k < (1 : Int32)) := by
  unfold own_lim
  split
  · obtain ⟨n, h, e⟩ := own_and l 3 (by decide) 7 rfl
    rw [e]
    have all : ∀ n : Fin 8, ¬ ((1 : Int32) + Int32.ofNat n.val < (1 : Int32)) := by decide
    exact all ⟨n, h⟩
  · unfold own_max
    split
    · rename_i h
      rw [Int32.lt_iff_toInt_lt] at h ⊢
      omega
    · decide
theorem own_num (k : Int32) : ∃ n : Nat, n ≤ 8 ∧ ((k &&& (15 : Int32)) - ((k &&& (15 : Int32)) / (9 : Int32)) * (9 : Int32)) = Int32.ofNat n := by
  obtain ⟨n, h, e⟩ := own_and k 4 (by decide) 15 rfl
  rw [e]
  have all : ∀ n : Fin 16, (Int32.ofNat n.val - (Int32.ofNat n.val / (9 : Int32)) * (9 : Int32)) = Int32.ofNat (n.val % 9) := by decide +kernel
  exact ⟨n % 9, by omega, all ⟨n, h⟩⟩
set_option maxRecDepth 65536 in
set_option maxHeartbeats 40000000 in
theorem own_l1 {p : Program} {l : Launch} {e : Env} {s : State} {m : MethodId} {args : Array Value} {below : List Frame} {meth : Method} {c : Code} {T0 : State} {locs : List Loc} {Z : State} {a0 : Array Value} {h0 : Heap} {n0 : Nat} {cells slots : Nat} (s2 : Slot) (s3 : Slot) (s4 : Slot) (s5 : Slot) (s6 : Slot) (s7 : Slot) (s8 : Slot) (s9 : Slot) (s10 : Slot) (s11 : Slot) (i0 : Int32) (i1 : Int32)
    (X0 : Stand p l e room_1 s m args below meth c T0 locs cells slots) (hx : p.tables.exec = Jvm.exec) (hZ : Z.Warmed39 s.vm) (hw : ∀ d ∈ tables_1, d.before a0 Z = true) (hby : c.code = code) (hml : c.maxLocals = 12) (hown : s.vm.findClass "com/example/ordinal_lock/ordinallock/protocol/WithinLimitTurnPinLaw" = some m.cls) (e0 : T0.heap = h0) (N0 : Fr n0 locs) (Z0 : n0 ≤ h0.size) (hcl : cells ≤ 56) (hsl : slots ≤ 192) (hc4 : (i1 &&& (16 : Int32)) = (0 : Int32)) :
    ∃ (T' : State) (h' : Heap) (locs' : List Loc), Stand p l e room_1 s m args below meth c T' locs' (cells + 0) (slots + 0) ∧ T'.heap = h' ∧ Fr n0 locs' ∧ h' = h0 ∧
      ∀ target, Steps p.tables e below (T'.setTop (mkF m 21 #[.val (.int i0), .val (.int i1), s2, s3, s4, s5, s6, s7, s8, s9, s10, s11] [(.int ((1 : Int32) + (i0 &&& (7 : Int32))))])) target → Steps p.tables e below (T0.setTop (mkF m 0 #[.val (.int i0), .val (.int i1), s2, s3, s4, s5, s6, s7, s8, s9, s10, s11] [])) target := by

  refine ⟨T0, _, _, X0, e0, N0, rfl, fun target kt => ?_⟩
  show Steps p.tables e below (T0.setTop (mkF m 0 #[.val (.int i0), .val (.int i1), s2, s3, s4, s5, s6, s7, s8, s9, s10, s11] [])) _
  refine XS.iloadN X0.here hx rfl (hb hby at_0) rfl ?_
  show Steps p.tables e below (T0.setTop (mkF m 1 #[.val (.int i0), .val (.int i1), s2, s3, s4, s5, s6, s7, s8, s9, s10, s11] [(.int i1)])) _
  refine XS.bipush X0.here hx rfl (hb hby at_1) ?_
  show Steps p.tables e below (T0.setTop (mkF m 3 #[.val (.int i0), .val (.int i1), s2, s3, s4, s5, s6, s7, s8, s9, s10, s11] [(.int (16 : Int32)), (.int i1)])) _
  refine XS.iand X0.here hx rfl (hb hby at_3) rfl ?_
  show Steps p.tables e below (T0.setTop (mkF m 4 #[.val (.int i0), .val (.int i1), s2, s3, s4, s5, s6, s7, s8, s9, s10, s11] [(.int (i1 &&& (16 : Int32)))])) _
  refine XS.ifYes X0.here hx rfl (pc0 := 4) (pc' := 15) rfl (hb hby at_4) rfl ((if0 _ _).trans (teq hc4).1) (by decide) (by decide) ?_
  show Steps p.tables e below (T0.setTop (mkF m 15 #[.val (.int i0), .val (.int i1), s2, s3, s4, s5, s6, s7, s8, s9, s10, s11] [])) _
  refine XS.iconst X0.here hx rfl (hb hby at_15) ?_
  show Steps p.tables e below (T0.setTop (mkF m 16 #[.val (.int i0), .val (.int i1), s2, s3, s4, s5, s6, s7, s8, s9, s10, s11] [(.int (1 : Int32))])) _
  refine XS.iloadN X0.here hx rfl (hb hby at_16) rfl ?_
  show Steps p.tables e below (T0.setTop (mkF m 17 #[.val (.int i0), .val (.int i1), s2, s3, s4, s5, s6, s7, s8, s9, s10, s11] [(.int i0), (.int (1 : Int32))])) _
  refine XS.bipush X0.here hx rfl (hb hby at_17) ?_
  show Steps p.tables e below (T0.setTop (mkF m 19 #[.val (.int i0), .val (.int i1), s2, s3, s4, s5, s6, s7, s8, s9, s10, s11] [(.int (7 : Int32)), (.int i0), (.int (1 : Int32))])) _
  refine XS.iand X0.here hx rfl (hb hby at_19) rfl ?_
  show Steps p.tables e below (T0.setTop (mkF m 20 #[.val (.int i0), .val (.int i1), s2, s3, s4, s5, s6, s7, s8, s9, s10, s11] [(.int (i0 &&& (7 : Int32))), (.int (1 : Int32))])) _
  refine XS.iadd X0.here hx rfl (hb hby at_20) rfl ?_
  exact kt
theorem pd_0_10 : parseMethodDescriptor "(II)I" = some ⟨[.int, .int], some .int⟩ := by decide +kernel
set_option maxRecDepth 65536 in
set_option maxHeartbeats 40000000 in
theorem own_l2 {p : Program} {l : Launch} {e : Env} {s : State} {m : MethodId} {args : Array Value} {below : List Frame} {meth : Method} {c : Code} {T0 : State} {locs : List Loc} {Z : State} {a0 : Array Value} {h0 : Heap} {n0 : Nat} {cells slots : Nat} (s2 : Slot) (s3 : Slot) (s4 : Slot) (s5 : Slot) (s6 : Slot) (s7 : Slot) (s8 : Slot) (s9 : Slot) (s10 : Slot) (s11 : Slot) (i0 : Int32) (i1 : Int32)
    (X0 : Stand p l e room_1 s m args below meth c T0 locs cells slots) (hx : p.tables.exec = Jvm.exec) (hZ : Z.Warmed39 s.vm) (hw : ∀ d ∈ tables_1, d.before a0 Z = true) (hby : c.code = code) (hml : c.maxLocals = 12) (hown : s.vm.findClass "com/example/ordinal_lock/ordinallock/protocol/WithinLimitTurnPinLaw" = some m.cls) (e0 : T0.heap = h0) (N0 : Fr n0 locs) (Z0 : n0 ≤ h0.size) (hcl : cells ≤ 56) (hsl : slots ≤ 192) (hc4 : ¬ ((i1 &&& (16 : Int32)) = (0 : Int32))) :
    ∃ (T' : State) (h' : Heap) (locs' : List Loc), Stand p l e room_1 s m args below meth c T' locs' (cells + 0) (slots + 0) ∧ T'.heap = h' ∧ Fr n0 locs' ∧ h' = h0 ∧
      ∀ target, Steps p.tables e below (T'.setTop (mkF m 21 #[.val (.int i0), .val (.int i1), s2, s3, s4, s5, s6, s7, s8, s9, s10, s11] [(.int (own_max (1 : Int32) i0))])) target → Steps p.tables e below (T0.setTop (mkF m 0 #[.val (.int i0), .val (.int i1), s2, s3, s4, s5, s6, s7, s8, s9, s10, s11] [])) target := by
  -- pc 9: java/lang/Math.max by its contract rm14
  obtain ⟨_, _, ⟨T5, L5, k5, n5⟩, -, X5, ⟨Lc5, hQ5, l5, y5, z5⟩, st5⟩ := Jvm.LawKit.callS X0 hx (y := (⟨"java/lang/Math", "max", "(II)I"⟩ : MethodName)) hown (mvT hZ (hw _ (List.mem_of_getElem? (i := 136) rfl))) (mvT hZ (hw _ (List.mem_of_getElem? (i := 84) rfl))) (mvT hZ (hw _ (List.mem_of_getElem? (i := 85) rfl))) (mvT hZ (hw _ (List.mem_of_getElem? (i := 86) rfl))) (by decide) (backOf (W := 0) (rm14 l Z a0 hw [] (1 : Int32) i0  h0 n0 Z0) hZ (hw _ (List.mem_of_getElem? (i := 86) rfl)) (hw _ (List.mem_of_getElem? (i := 85) rfl)) (by decide) (by decide)) (g := (mkF m 9 #[.val (.int i0), .val (.int i1), s2, s3, s4, s5, s6, s7, s8, s9, s10, s11] [(.int i0), (.int (1 : Int32))])) rfl (by rw [hml]; rfl) (argsL := [(.int (1 : Int32)), (.int i0)]) (rest := []) (lenOf pd_0_10 rfl) rfl (by show 2 * 0 + _ ≤ _; exact Nat.le_of_eq rfl) (hb hby at_9) (fun _ _ => ⟨rfl, e0, (show cells + 0 + 0 ≤ 56 by omega), (show slots + 0 + 0 ≤ 192 by omega)⟩)
  dsimp only [Pt.U, Pt.locs, Pt.cells, Pt.slots] at X5 l5 y5 z5 st5 hQ5
  subst l5 y5 z5
  obtain ⟨rfl, N5q, e5⟩ := hQ5
  have N5 := Fr.app N0 N5q
  refine ⟨T5, _, _, X5, e5, N5, rfl, fun target kt => ?_⟩
  show Steps p.tables e below (T0.setTop (mkF m 0 #[.val (.int i0), .val (.int i1), s2, s3, s4, s5, s6, s7, s8, s9, s10, s11] [])) _
  refine XS.iloadN X0.here hx rfl (hb hby at_0) rfl ?_
  show Steps p.tables e below (T0.setTop (mkF m 1 #[.val (.int i0), .val (.int i1), s2, s3, s4, s5, s6, s7, s8, s9, s10, s11] [(.int i1)])) _
  refine XS.bipush X0.here hx rfl (hb hby at_1) ?_
  show Steps p.tables e below (T0.setTop (mkF m 3 #[.val (.int i0), .val (.int i1), s2, s3, s4, s5, s6, s7, s8, s9, s10, s11] [(.int (16 : Int32)), (.int i1)])) _
  refine XS.iand X0.here hx rfl (hb hby at_3) rfl ?_
  show Steps p.tables e below (T0.setTop (mkF m 4 #[.val (.int i0), .val (.int i1), s2, s3, s4, s5, s6, s7, s8, s9, s10, s11] [(.int (i1 &&& (16 : Int32)))])) _
  refine XS.ifNo X0.here hx rfl (hb hby at_4) rfl ((if0 _ _).trans (feq hc4).1) ?_
  show Steps p.tables e below (T0.setTop (mkF m 7 #[.val (.int i0), .val (.int i1), s2, s3, s4, s5, s6, s7, s8, s9, s10, s11] [])) _
  refine XS.iconst X0.here hx rfl (hb hby at_7) ?_
  show Steps p.tables e below (T0.setTop (mkF m 8 #[.val (.int i0), .val (.int i1), s2, s3, s4, s5, s6, s7, s8, s9, s10, s11] [(.int (1 : Int32))])) _
  refine XS.iloadN X0.here hx rfl (hb hby at_8) rfl ?_
  show Steps p.tables e below (T0.setTop (mkF m 9 #[.val (.int i0), .val (.int i1), s2, s3, s4, s5, s6, s7, s8, s9, s10, s11] [(.int i0), (.int (1 : Int32))])) _
  refine st5 _ ?_
  show Steps p.tables e below (T5.setTop (mkF m 12 #[.val (.int i0), .val (.int i1), s2, s3, s4, s5, s6, s7, s8, s9, s10, s11] [(.int (own_max (1 : Int32) i0))])) _
  refine XS.goto X5.here hx rfl (pc0 := 12) (pc' := 21) rfl (hb hby at_12) (by decide) (by decide) ?_
  exact kt
set_option maxRecDepth 65536 in
set_option maxHeartbeats 40000000 in
theorem own_l {p : Program} {l : Launch} {e : Env} {s : State} {m : MethodId} {args : Array Value} {below : List Frame} {meth : Method} {c : Code} {T0 : State} {locs : List Loc} {Z : State} {a0 : Array Value} {h0 : Heap} {n0 : Nat} {cells slots : Nat} (s2 : Slot) (s3 : Slot) (s4 : Slot) (s5 : Slot) (s6 : Slot) (s7 : Slot) (s8 : Slot) (s9 : Slot) (s10 : Slot) (s11 : Slot) (i0 : Int32) (i1 : Int32)
    (X0 : Stand p l e room_1 s m args below meth c T0 locs cells slots) (hx : p.tables.exec = Jvm.exec) (hZ : Z.Warmed39 s.vm) (hw : ∀ d ∈ tables_1, d.before a0 Z = true) (hby : c.code = code) (hml : c.maxLocals = 12) (hown : s.vm.findClass "com/example/ordinal_lock/ordinallock/protocol/WithinLimitTurnPinLaw" = some m.cls) (e0 : T0.heap = h0) (N0 : Fr n0 locs) (Z0 : n0 ≤ h0.size) (hcl : cells ≤ 56) (hsl : slots ≤ 192) :
    ∃ (T' : State) (h' : Heap) (locs' : List Loc), Stand p l e room_1 s m args below meth c T' locs' (cells + 0) (slots + 0) ∧ T'.heap = h' ∧ Fr n0 locs' ∧ h' = h0 ∧
      ∀ target, Steps p.tables e below (T'.setTop (mkF m 21 #[.val (.int i0), .val (.int i1), s2, s3, s4, s5, s6, s7, s8, s9, s10, s11] [(.int (own_lim i0 i1))])) target → Steps p.tables e below (T0.setTop (mkF m 0 #[.val (.int i0), .val (.int i1), s2, s3, s4, s5, s6, s7, s8, s9, s10, s11] [])) target := by
  unfold own_lim
  by_cases h : (i1 &&& (16 : Int32)) = (0 : Int32)
  · rw [if_pos h]
    exact own_l1 s2 s3 s4 s5 s6 s7 s8 s9 s10 s11 i0 i1 X0 hx hZ hw hby hml hown e0 N0 Z0 hcl hsl h
  · rw [if_neg h]
    exact own_l2 s2 s3 s4 s5 s6 s7 s8 s9 s10 s11 i0 i1 X0 hx hZ hw hby hml hown e0 N0 Z0 hcl hsl h
theorem pn_0 : plainName "com/example/ordinal_lock/ordinallock/protocol/WithinLimitTurnPinLaw" = true := by first | (simp [plainName, overriddenIn]; done) | decide +kernel
theorem pd_0_0 : parseMethodDescriptor "()V" = some ⟨[], none⟩ := by decide +kernel
theorem pd_0_11 : parseMethodDescriptor "(I)V" = some ⟨[.int], none⟩ := by decide +kernel
theorem pd_0_12 : parseMethodDescriptor "(Ljava/util/List;Ljava/lang/String;)Lcom/example/ordinal_lock/ordinallock/protocol/TurnRule$Turn;" = some ⟨[(.object "java/util/List"), (.object "java/lang/String")], some (.object "com/example/ordinal_lock/ordinallock/protocol/TurnRule$Turn")⟩ := by decide +kernel
theorem pd_0_14 : parseMethodDescriptor "()Z" = some ⟨[], some .boolean⟩ := by decide +kernel
theorem pd_0_15 : parseMethodDescriptor "()Ljava/lang/String;" = some ⟨[], some (.object "java/lang/String")⟩ := by decide +kernel
theorem ef_0 (m : MethodId) (x0 : Int32) (x1 : Int32) (x2 : Int64) (x3 : Int32) : entryFrame m #[(.int x0), (.int x1), (.long x2), (.int x3)] maxLocals = mkF m 0 #[.val (.int x0), .val (.int x1), .val (.long x2), .second, .val (.int x3), .unset, .unset, .unset, .unset, .unset, .unset, .unset] [] := by first | (simp [entryFrame, mkF, argsToLocals, Value.category, maxLocals]; done) | rfl
def Q0 (Z : State) (p1 : Int32) (p2 : Int32) (q3 : Int64) (p4 : Int32) (nn : Nat) (d0 : Addr) (cl_d0 : Cell) (cs : Int32) (tu : Addr) (h0 : Heap) (n0 : Nat) (v : Option Value) (h : Heap) (L : List Loc) : Prop := v = some (.int (1 : Int32)) ∧ Fr n0 L
set_option maxRecDepth 65536 in
set_option maxHeartbeats 40000000 in
theorem rm0a (l : Launch) (Z : State) (a0 : Array Value) (hw : ∀ d ∈ tables_1, d.before a0 Z = true) (ws : List Jvm.Cond) (p1 : Int32) (p2 : Int32) (q3 : Int64) (p4 : Int32) (nn : Nat) (d0 : Addr) (cl_d0 : Cell) (cs : Int32) (tu : Addr) (h0 : Heap) (n0 : Nat) (Z0 : n0 ≤ h0.size) (O0 : Old Z n0 h0) (SD : Sta Z Z.heap "java/util/ArrayList" "DEFAULTCAPACITY_EMPTY_ELEMENTDATA" "[Ljava/lang/Object;" (.ref d0)) (AD : Arr Z Z.heap d0 cl_d0 (.object "java/lang/Object")) (S_d0 : cl_d0.slots.size = (0 : Int32).toNatClampNeg) (SC : Sta Z Z.heap "java/lang/String" "COMPACT_STRINGS" "Z" (.int cs)) (hcs : ¬ (cs = (0 : Int32))) (hnn : nn ≤ 8) (hvn : ((p2 &&& (15 : Int32)) - ((p2 &&& (15 : Int32)) / (9 : Int32)) * (9 : Int32)) = Int32.ofNat nn) (ST : Sta Z Z.heap "com/example/ordinal_lock/ordinallock/protocol/TurnRule$Turn" "COME" "Lcom/example/ordinal_lock/ordinallock/protocol/TurnRule$Turn;" (.ref tu)) (EC : Exa Z Z.heap tu "com/example/ordinal_lock/ordinallock/protocol/TurnRule$Turn") (FC : Fld Z Z.heap tu "com/example/ordinal_lock/ordinallock/protocol/TurnRule$Turn" "come" "Z" (.int (1 : Int32))) (FN : Fld Z Z.heap tu "com/example/ordinal_lock/ordinallock/protocol/TurnRule$Turn" "nodeAhead" "Ljava/lang/String;" .null) (hlim : ¬ (own_lim p1 p2 < Int32.ofNat nn)) :
    MetFree l x (head1 (Jvm.Cond.code x code maxLocals ret :: ws) room_1) (fun a U => a = #[(.int p1), (.int p2), (.long q3), (.int p4)] ∧ Z.Warmed39 U.vm ∧ U.heap = h0) (fun _ _ _ _ _ => True) (fun _ U o U' => ∃ v L, o = .returned v ∧ Q0 Z p1 p2 q3 p4 nn d0 cl_d0 cs tu h0 n0 v U'.heap L ∧ FrameEnd U o U' L room_1.cells room_1.slots) := by
  refine MetFree.of_bodySF (plainFor_of_name pn_0) hisR ?_
  intro p e s m args below meth c s₁ Bd hml0 hP hK
  obtain ⟨rfl, hZ, hh⟩ := hP
  have hx := Bd.exec
  have hby := Bd.bytes
  have hml : c.maxLocals = 12 := hml0
  have hown : s.vm.findClass "com/example/ordinal_lock/ordinallock/protocol/WithinLimitTurnPinLaw" = some m.cls := findClass_of_methodNamed Bd.named
  have hnm := (name_of_methodNamed Bd.named Bd.method).1
  have X0 : Stand p l e room_1 s m #[(.int p1), (.int p2), (.long q3), (.int p4)] below meth c s₁ [] 0 0 := Stand.of_body Bd
  have e0 : s₁.heap = h0 := by rw [← hh, Bd.state]; rfl
  have N0 := Fr.nil n0
  have pre0 : ∀ t, Steps p.tables e below (s₁.setTop (mkF m 0 #[.val (.int p1), .val (.int p2), .val (.long q3), .second, .val (.int p4), .unset, .unset, .unset, .unset, .unset, .unset, .unset] [])) t → Steps p.tables e below (s₁.setTop (entryFrame m #[(.int p1), (.int p2), (.long q3), (.int p4)] maxLocals)) t := fun t k => castTop (ef_0 m p1 p2 q3 p4) k
  obtain ⟨Tl, hl, Ll, Xl, el, Nl, hhl, stl⟩ := own_l (.val (.long q3)) .second (.val (.int p4)) .unset .unset .unset .unset .unset .unset .unset p1 p2 X0 hx hZ hw hby hml hown e0 N0 Z0 (by decide) (by decide)
  rw [hhl] at el
  obtain ⟨lim, h_lim⟩ : ∃ z : Int32, z = (own_lim p1 p2) := ⟨_, rfl⟩
  have h_lim1 : ¬ (lim < (1 : Int32)) := by rw [h_lim]; exact own_lim1 _ _
  rw [← h_lim] at hlim
  obtain ⟨T5, h5, X5, e5, E5, A5, D5, -, st5⟩ := newO Xl hx hZ hown (hw _ (List.mem_of_getElem? (i := 0) rfl)) (hw _ (List.mem_of_getElem? (i := 1) rfl)) (hw _ (List.mem_of_getElem? (i := 2) rfl)) el (g := (mkF m 32 #[.val (.int p1), .val (.int p2), .val (.long q3), .second, .val (.int p4), .val (.int lim), .val (.int (Int32.ofNat nn)), .unset, .unset, .unset, .unset, .unset] [])) rfl (hb hby at_32) (by decide) (by decide)
  obtain ⟨b5, g5⟩ : ∃ z, z = h0.size := ⟨_, rfl⟩
  rw [← g5] at A5 D5 st5
  have F_modCount_b5 : Fld Z h5 b5 "java/util/AbstractList" "modCount" "I" (.int (0 : Int32)) := D5 (Or.inl (hw _ (List.mem_of_getElem? (i := 22) rfl))) (ty := .int) (by decide)
  have F_elementData_b5 : Fld Z h5 b5 "java/util/ArrayList" "elementData" "[Ljava/lang/Object;" .null := D5 (Or.inl (hw _ (List.mem_of_getElem? (i := 25) rfl))) (ty := (.array (.object "java/lang/Object"))) (by decide)
  have F_size_b5 : Fld Z h5 b5 "java/util/ArrayList" "size" "I" (.int (0 : Int32)) := D5 (Or.inl (hw _ (List.mem_of_getElem? (i := 67) rfl))) (ty := .int) (by decide)
  have E_b5 := A5
  have g_b5 : n0 ≤ b5 := Nat.le_trans Z0 (Nat.le_of_eq g5.symm)
  have sz_b5 : h0.size ≤ b5 := (Nat.le_trans (Keep.refl h0 []).1 (Nat.le_of_eq g5.symm))
  obtain ⟨_, _, ⟨T6, L6, k6, n6⟩, -, X6, ⟨Lc6, hQ6, l6, y6, z6⟩, st6⟩ := X5.specialBack hx (y := (⟨"java/util/ArrayList", "<init>", "()V"⟩ : MethodName)) rfl hown (mvT hZ (hw _ (List.mem_of_getElem? (i := 3) rfl))) (mvT hZ (hw _ (List.mem_of_getElem? (i := 4) rfl))) (mvT hZ (hw _ (List.mem_of_getElem? (i := 5) rfl))) (by decide) (backOf (W := 1) (rm1 l Z a0 hw [] b5 d0 h5 n0 (own_osz (O0.ext E5)) (O0.ext E5) SD E_b5 F_modCount_b5 F_size_b5 F_elementData_b5 g_b5) hZ (hw _ (List.mem_of_getElem? (i := 5) rfl)) (hw _ (List.mem_of_getElem? (i := 2) rfl)) (by decide) (by decide)) (g := (mkF m 36 #[.val (.int p1), .val (.int p2), .val (.long q3), .second, .val (.int p4), .val (.int lim), .val (.int (Int32.ofNat nn)), .unset, .unset, .unset, .unset, .unset] [(.ref b5), (.ref b5)])) rfl (by rw [hml]; rfl) (Steps.refl _) (a := b5) (argsL := []) (rest := [(.ref b5)]) (lenOf pd_0_0 rfl) rfl (by show 2 * 0 + _ ≤ _; exact Nat.le_of_eq rfl) (hb hby at_36) (fun _ _ => ⟨rfl, e5, (by decide : 1 + 0 ≤ _), (by decide : 3 + 0 ≤ _)⟩)
  dsimp only [Pt.U, Pt.locs, Pt.cells, Pt.slots] at X6 l6 y6 z6 st6 hQ6
  subst l6 y6 z6
  obtain ⟨rfl, N6q, Oq6, Lq6⟩ := hQ6
  have N6 := Fr.app Nl N6q
  obtain ⟨Tg0, hg0, Lg0, Xg0, eg0, Ng0, Og0, HLg0, stg0⟩ := own_g0 (.val (.int p1)) (.val (.int p2)) q3 (.val (.int p4)) (.val (.int lim)) b5 .unset .unset .unset .unset d0 cl_d0 cs nn hnn X6 hx hZ hw hby hml hown rfl N6 Oq6 SD AD S_d0 SC hcs g_b5 (by rw [show min nn 0 = 0 by omega]; exact Lq6)
  obtain ⟨Tg1, hg1, Lg1, Xg1, eg1, Ng1, Og1, HLg1, stg1⟩ := own_g1 (.val (.int p1)) (.val (.int p2)) q3 (.val (.int p4)) (.val (.int lim)) b5 .unset .unset .unset .unset d0 cl_d0 cs nn hnn Xg0 hx hZ hw hby hml hown eg0 Ng0 Og0 SD AD S_d0 SC hcs g_b5 HLg0
  obtain ⟨Tg2, hg2, Lg2, Xg2, eg2, Ng2, Og2, HLg2, stg2⟩ := own_g2 (.val (.int p1)) (.val (.int p2)) q3 (.val (.int p4)) (.val (.int lim)) b5 .unset .unset .unset .unset d0 cl_d0 cs nn hnn Xg1 hx hZ hw hby hml hown eg1 Ng1 Og1 SD AD S_d0 SC hcs g_b5 HLg1
  obtain ⟨Tg3, hg3, Lg3, Xg3, eg3, Ng3, Og3, HLg3, stg3⟩ := own_g3 (.val (.int p1)) (.val (.int p2)) q3 (.val (.int p4)) (.val (.int lim)) b5 .unset .unset .unset .unset d0 cl_d0 cs nn hnn Xg2 hx hZ hw hby hml hown eg2 Ng2 Og2 SD AD S_d0 SC hcs g_b5 HLg2
  obtain ⟨Tg4, hg4, Lg4, Xg4, eg4, Ng4, Og4, HLg4, stg4⟩ := own_g4 (.val (.int p1)) (.val (.int p2)) q3 (.val (.int p4)) (.val (.int lim)) b5 .unset .unset .unset .unset d0 cl_d0 cs nn hnn Xg3 hx hZ hw hby hml hown eg3 Ng3 Og3 SD AD S_d0 SC hcs g_b5 HLg3
  obtain ⟨Tg5, hg5, Lg5, Xg5, eg5, Ng5, Og5, HLg5, stg5⟩ := own_g5 (.val (.int p1)) (.val (.int p2)) q3 (.val (.int p4)) (.val (.int lim)) b5 .unset .unset .unset .unset d0 cl_d0 cs nn hnn Xg4 hx hZ hw hby hml hown eg4 Ng4 Og4 SD AD S_d0 SC hcs g_b5 HLg4
  obtain ⟨Tg6, hg6, Lg6, Xg6, eg6, Ng6, Og6, HLg6, stg6⟩ := own_g6 (.val (.int p1)) (.val (.int p2)) q3 (.val (.int p4)) (.val (.int lim)) b5 .unset .unset .unset .unset d0 cl_d0 cs nn hnn Xg5 hx hZ hw hby hml hown eg5 Ng5 Og5 SD AD S_d0 SC hcs g_b5 HLg5
  obtain ⟨Tg7, hg7, Lg7, Xg7, eg7, Ng7, Og7, HLg7, stg7⟩ := own_g7 (.val (.int p1)) (.val (.int p2)) q3 (.val (.int p4)) (.val (.int lim)) b5 .unset .unset .unset .unset d0 cl_d0 cs nn hnn Xg6 hx hZ hw hby hml hown eg6 Ng6 Og6 SD AD S_d0 SC hcs g_b5 HLg6
  obtain ⟨Tn, hn, Ln, bn, Xn, en, Nn, On, HLn, stn⟩ := own_n (.val (.int p1)) (.val (.int lim)) (.val (.int (Int32.ofNat nn))) .unset .unset .unset .unset p2 q3 p4 b5 d0 cl_d0 cs (min nn 8) Xg7 hx hZ hw hby hml hown eg7 Ng7 Og7 SD AD S_d0 SC hcs g_b5 HLg7 (by decide) (by decide)
  obtain ⟨T7, h7, X7, e7, E7, A7, D7, -, st7⟩ := newO Xn hx hZ hown (hw _ (List.mem_of_getElem? (i := 90) rfl)) (hw _ (List.mem_of_getElem? (i := 91) rfl)) (hw _ (List.mem_of_getElem? (i := 92) rfl)) en (g := (mkF m 223 #[.val (.int p1), .val (.int p2), .val (.long q3), .second, .val (.int p4), .val (.int lim), .val (.int (Int32.ofNat nn)), .val (.ref b5), .val (.ref bn), .unset, .unset, .unset] [])) rfl (hb hby at_223) (by decide) (by decide)
  obtain ⟨b7, g7⟩ : ∃ z, z = hn.size := ⟨_, rfl⟩
  rw [← g7] at A7 D7 st7
  have F_limit_b7 : Fld Z h7 b7 "com/example/ordinal_lock/ordinallock/protocol/TurnRule$WithinLimit" "limit" "I" (.int (0 : Int32)) := D7 (Or.inr (hw _ (List.mem_of_getElem? (i := 103) rfl))) (ty := .int) (by decide)
  have E_b7 := A7
  have g_b7 : n0 ≤ b7 := Nat.le_trans (own_osz On) (Nat.le_of_eq g7.symm)
  obtain ⟨_, _, ⟨T8, L8, k8, n8⟩, -, X8, ⟨Lc8, hQ8, l8, y8, z8⟩, st8⟩ := X7.specialBack hx (y := (⟨"com/example/ordinal_lock/ordinallock/protocol/TurnRule$WithinLimit", "<init>", "(I)V"⟩ : MethodName)) rfl hown (mvT hZ (hw _ (List.mem_of_getElem? (i := 93) rfl))) (mvT hZ (hw _ (List.mem_of_getElem? (i := 94) rfl))) (mvT hZ (hw _ (List.mem_of_getElem? (i := 95) rfl))) (by decide) (backOf (W := 1) (rm15 l Z a0 hw [] b7 lim (.int (0 : Int32)) h7 n0 (own_osz (On.ext E7)) E_b7 F_limit_b7 g_b7 h_lim1) hZ (hw _ (List.mem_of_getElem? (i := 95) rfl)) (hw _ (List.mem_of_getElem? (i := 92) rfl)) (by decide) (by decide)) (g := (mkF m 229 #[.val (.int p1), .val (.int p2), .val (.long q3), .second, .val (.int p4), .val (.int lim), .val (.int (Int32.ofNat nn)), .val (.ref b5), .val (.ref bn), .unset, .unset, .unset] [(.int lim), (.ref b7), (.ref b7)])) rfl (by rw [hml]; rfl) (Steps.refl _) (a := b7) (argsL := [(.int lim)]) (rest := [(.ref b7)]) (lenOf pd_0_11 rfl) rfl (by show 2 * 0 + _ ≤ _; exact Nat.le_of_eq rfl) (hb hby at_229) (fun _ _ => ⟨rfl, e7, (by decide : 28 + 0 ≤ _), (by decide : 129 + 0 ≤ _)⟩)
  dsimp only [Pt.U, Pt.locs, Pt.cells, Pt.slots] at X8 l8 y8 z8 st8 hQ8
  subst l8 y8 z8
  obtain ⟨rfl, N8q, Kq8, Ex8, Fl8⟩ := hQ8
  have N8 := Fr.app Nn N8q
  have HLz : own_L Z T8.heap n0 b5 d0 nn := by
    have q := HLn.keep (((Keep.refl hn []).ext E7).trans Kq8 (fun x_ q_ => Or.inr ((List.mem_singleton.mp q_).symm ▸ Nat.le_of_eq g7.symm)))
    rw [show min nn 8 = nn by omega] at q
    exact q
  have hc271 : (1 : Int32) = (if ¬ (lim < (Int32.ofNat nn)) then (1 : Int32) else 0) := by rw [if_pos hlim]
  obtain ⟨cq9, kq9, q9a, q9b, q9c⟩ := isOf hZ rfl Ex8
  obtain ⟨_, _, ⟨T9, L9, k9, n9⟩, -, X9, ⟨Lc9, hQ9, l9, y9, z9⟩, st9⟩ := X8.virtualBack hx (y := (⟨"com/example/ordinal_lock/ordinallock/protocol/TurnRule$WithinLimit", "turn", "(Ljava/util/List;Ljava/lang/String;)Lcom/example/ordinal_lock/ordinallock/protocol/TurnRule$Turn;"⟩ : MethodName)) (z := (⟨"com/example/ordinal_lock/ordinallock/protocol/TurnRule$WithinLimit", "turn", "(Ljava/util/List;Ljava/lang/String;)Lcom/example/ordinal_lock/ordinallock/protocol/TurnRule$Turn;"⟩ : MethodName)) hown (mvT hZ (hw _ (List.mem_of_getElem? (i := 104) rfl))) (mvT hZ (hw _ (List.mem_of_getElem? (i := 105) rfl))) (notFace_of_selects (args := #[]) (mvT hZ (hw _ (List.mem_of_getElem? (i := 107) rfl)))) (mvT hZ (hw _ (List.mem_of_getElem? (i := 107) rfl))) (mvT hZ (hw _ (List.mem_of_getElem? (i := 106) rfl))) (by decide) (backOf (W := 0) (rm17a l Z a0 hw [] b7 b5 bn (Int32.ofNat nn) lim tu T8.heap n0 (own_osz ((On.ext E7).keep Kq8 (fun x_ q_ => (List.mem_singleton.mp q_).symm ▸ g_b7))) ((On.ext E7).keep Kq8 (fun x_ q_ => (List.mem_singleton.mp q_).symm ▸ g_b7)) ST HLz.2.2.1 HLz.1 Fl8 hlim) hZ (hw _ (List.mem_of_getElem? (i := 108) rfl)) (hw _ (List.mem_of_getElem? (i := 92) rfl)) (by decide) (by decide)) q9a q9c (g := (mkF m 240 #[.val (.int p1), .val (.int p2), .val (.long q3), .second, .val (.int p4), .val (.int lim), .val (.int (Int32.ofNat nn)), .val (.ref b5), .val (.ref bn), .val (.ref b7), .unset, .unset] [(.ref bn), (.ref b5), (.ref b7)])) rfl (by rw [hml]; rfl) (Steps.refl _) (argsL := [(.ref b5), (.ref bn)]) (rest := []) (lenOf pd_0_12 rfl) rfl (by show 2 * 0 + _ ≤ _; exact Nat.le_of_eq rfl) (hb hby at_240) (fun _ _ => ⟨rfl, rfl, (by decide : 28 + 0 ≤ _), (by decide : 129 + 0 ≤ _)⟩)
  dsimp only [Pt.U, Pt.locs, Pt.cells, Pt.slots] at X9 l9 y9 z9 st9 hQ9
  subst l9 y9 z9
  obtain ⟨rfl, N9q, e9⟩ := hQ9
  have N9 := Fr.app N8 N9q
  obtain ⟨cq10, kq10, q10a, q10b, q10c⟩ := isOf hZ e9 (EC.ext ((On.ext E7).keep Kq8 (fun x_ q_ => (List.mem_singleton.mp q_).symm ▸ g_b7)).2)
  obtain ⟨_, _, ⟨T10, L10, k10, n10⟩, -, X10, ⟨Lc10, hQ10, l10, y10, z10⟩, st10⟩ := X9.virtualBack hx (y := (⟨"com/example/ordinal_lock/ordinallock/protocol/TurnRule$Turn", "come", "()Z"⟩ : MethodName)) (z := (⟨"com/example/ordinal_lock/ordinallock/protocol/TurnRule$Turn", "come", "()Z"⟩ : MethodName)) hown (mvT hZ (hw _ (List.mem_of_getElem? (i := 120) rfl))) (mvT hZ (hw _ (List.mem_of_getElem? (i := 121) rfl))) (notFace_of_selects (args := #[]) (mvT hZ (hw _ (List.mem_of_getElem? (i := 123) rfl)))) (mvT hZ (hw _ (List.mem_of_getElem? (i := 123) rfl))) (mvT hZ (hw _ (List.mem_of_getElem? (i := 122) rfl))) (by decide) (backOf (W := 0) (rm19a l Z a0 hw [] tu  T8.heap n0 (own_osz ((On.ext E7).keep Kq8 (fun x_ q_ => (List.mem_singleton.mp q_).symm ▸ g_b7))) (FC.ext ((On.ext E7).keep Kq8 (fun x_ q_ => (List.mem_singleton.mp q_).symm ▸ g_b7)).2)) hZ (hw _ (List.mem_of_getElem? (i := 124) rfl)) (hw _ (List.mem_of_getElem? (i := 118) rfl)) (by decide) (by decide)) q10a q10c (g := (mkF m 266 #[.val (.int p1), .val (.int p2), .val (.long q3), .second, .val (.int p4), .val (.int lim), .val (.int (Int32.ofNat nn)), .val (.ref b5), .val (.ref bn), .val (.ref b7), .val (.ref tu), .val (.int (if ¬ (lim < (Int32.ofNat nn)) then (1 : Int32) else 0))] [(.ref tu)])) rfl (by rw [hml]; rfl) (Steps.refl _) (argsL := []) (rest := []) (lenOf pd_0_14 rfl) rfl (by show 2 * 0 + _ ≤ _; exact Nat.le_of_eq rfl) (hb hby at_266) (fun _ _ => ⟨rfl, e9, (by decide : 28 + 0 ≤ _), (by decide : 129 + 0 ≤ _)⟩)
  dsimp only [Pt.U, Pt.locs, Pt.cells, Pt.slots] at X10 l10 y10 z10 st10 hQ10
  subst l10 y10 z10
  obtain ⟨rfl, N10q, e10⟩ := hQ10
  have N10 := Fr.app N9 N10q
  obtain ⟨cq11, kq11, q11a, q11b, q11c⟩ := isOf hZ e10 (EC.ext ((On.ext E7).keep Kq8 (fun x_ q_ => (List.mem_singleton.mp q_).symm ▸ g_b7)).2)
  obtain ⟨_, _, ⟨T11, L11, k11, n11⟩, -, X11, ⟨Lc11, hQ11, l11, y11, z11⟩, st11⟩ := X10.virtualBack hx (y := (⟨"com/example/ordinal_lock/ordinallock/protocol/TurnRule$Turn", "nodeAhead", "()Ljava/lang/String;"⟩ : MethodName)) (z := (⟨"com/example/ordinal_lock/ordinallock/protocol/TurnRule$Turn", "nodeAhead", "()Ljava/lang/String;"⟩ : MethodName)) hown (mvT hZ (hw _ (List.mem_of_getElem? (i := 127) rfl))) (mvT hZ (hw _ (List.mem_of_getElem? (i := 128) rfl))) (notFace_of_selects (args := #[]) (mvT hZ (hw _ (List.mem_of_getElem? (i := 130) rfl)))) (mvT hZ (hw _ (List.mem_of_getElem? (i := 130) rfl))) (mvT hZ (hw _ (List.mem_of_getElem? (i := 129) rfl))) (by decide) (backOf (W := 0) (rm20 l Z a0 hw [] tu  T8.heap n0 (own_osz ((On.ext E7).keep Kq8 (fun x_ q_ => (List.mem_singleton.mp q_).symm ▸ g_b7))) (FN.ext ((On.ext E7).keep Kq8 (fun x_ q_ => (List.mem_singleton.mp q_).symm ▸ g_b7)).2)) hZ (hw _ (List.mem_of_getElem? (i := 131) rfl)) (hw _ (List.mem_of_getElem? (i := 118) rfl)) (by decide) (by decide)) q11a q11c (g := (mkF m 276 #[.val (.int p1), .val (.int p2), .val (.long q3), .second, .val (.int p4), .val (.int lim), .val (.int (Int32.ofNat nn)), .val (.ref b5), .val (.ref bn), .val (.ref b7), .val (.ref tu), .val (.int (if ¬ (lim < (Int32.ofNat nn)) then (1 : Int32) else 0))] [(.ref tu)])) rfl (by rw [hml]; rfl) (Steps.refl _) (argsL := []) (rest := []) (lenOf pd_0_15 rfl) rfl (by show 2 * 0 + _ ≤ _; exact Nat.le_of_eq rfl) (hb hby at_276) (fun _ _ => ⟨rfl, e10, (by decide : 28 + 0 ≤ _), (by decide : 129 + 0 ≤ _)⟩)
  dsimp only [Pt.U, Pt.locs, Pt.cells, Pt.slots] at X11 l11 y11 z11 st11 hQ11
  subst l11 y11 z11
  obtain ⟨rfl, N11q, e11⟩ := hQ11
  have N11 := Fr.app N10 N11q
  obtain ⟨fs, hr, hrun, hended, hW, hsame⟩ := X11.leave (v := some (.int (1 : Int32))) (fun h => by rw [Bd.returns] at h; cases h)
  refine ⟨_, _, pre0 _ ?_, hrun, hended, _, _, rfl, ?_, ⟨_, rfl⟩, hW, hsame.mono (by decide) (by decide)⟩
  · show Steps p.tables e below (s₁.setTop (mkF m 0 #[.val (.int p1), .val (.int p2), .val (.long q3), .second, .val (.int p4), .unset, .unset, .unset, .unset, .unset, .unset, .unset] [])) _
    refine stl _ ?_
    show Steps p.tables e below (Tl.setTop (mkF m 21 #[.val (.int p1), .val (.int p2), .val (.long q3), .second, .val (.int p4), .unset, .unset, .unset, .unset, .unset, .unset, .unset] [(.int (own_lim p1 p2))])) _
    refine XS.istore Xl.here hx rfl (hb hby at_21) (x := lim) (rest := []) (by subst h_lim; rfl) (l' := #[.val (.int p1), .val (.int p2), .val (.long q3), .second, .val (.int p4), .val (.int lim), .unset, .unset, .unset, .unset, .unset, .unset]) rfl ?_
    show Steps p.tables e below (Tl.setTop (mkF m 23 #[.val (.int p1), .val (.int p2), .val (.long q3), .second, .val (.int p4), .val (.int lim), .unset, .unset, .unset, .unset, .unset, .unset] [])) _
    refine XS.iloadN Xl.here hx rfl (hb hby at_23) rfl ?_
    show Steps p.tables e below (Tl.setTop (mkF m 24 #[.val (.int p1), .val (.int p2), .val (.long q3), .second, .val (.int p4), .val (.int lim), .unset, .unset, .unset, .unset, .unset, .unset] [(.int p2)])) _
    refine XS.bipush Xl.here hx rfl (hb hby at_24) ?_
    show Steps p.tables e below (Tl.setTop (mkF m 26 #[.val (.int p1), .val (.int p2), .val (.long q3), .second, .val (.int p4), .val (.int lim), .unset, .unset, .unset, .unset, .unset, .unset] [(.int (15 : Int32)), (.int p2)])) _
    refine XS.iand Xl.here hx rfl (hb hby at_26) rfl ?_
    show Steps p.tables e below (Tl.setTop (mkF m 27 #[.val (.int p1), .val (.int p2), .val (.long q3), .second, .val (.int p4), .val (.int lim), .unset, .unset, .unset, .unset, .unset, .unset] [(.int (p2 &&& (15 : Int32)))])) _
    refine XS.bipush Xl.here hx rfl (hb hby at_27) ?_
    show Steps p.tables e below (Tl.setTop (mkF m 29 #[.val (.int p1), .val (.int p2), .val (.long q3), .second, .val (.int p4), .val (.int lim), .unset, .unset, .unset, .unset, .unset, .unset] [(.int (9 : Int32)), (.int (p2 &&& (15 : Int32)))])) _
    refine XS.irem Xl.here hx rfl (hb hby at_29) rfl (by decide) ?_
    show Steps p.tables e below (Tl.setTop (mkF m 30 #[.val (.int p1), .val (.int p2), .val (.long q3), .second, .val (.int p4), .val (.int lim), .unset, .unset, .unset, .unset, .unset, .unset] [(.int ((p2 &&& (15 : Int32)) - ((p2 &&& (15 : Int32)) / (9 : Int32)) * (9 : Int32)))])) _
    refine XS.istore Xl.here hx rfl (hb hby at_30) (x := (Int32.ofNat nn)) (rest := []) (congrArg (fun z => Value.int z :: []) hvn) (l' := #[.val (.int p1), .val (.int p2), .val (.long q3), .second, .val (.int p4), .val (.int lim), .val (.int (Int32.ofNat nn)), .unset, .unset, .unset, .unset, .unset]) rfl ?_
    show Steps p.tables e below (Tl.setTop (mkF m 32 #[.val (.int p1), .val (.int p2), .val (.long q3), .second, .val (.int p4), .val (.int lim), .val (.int (Int32.ofNat nn)), .unset, .unset, .unset, .unset, .unset] [])) _
    refine st5 _ ?_
    show Steps p.tables e below (T5.setTop (mkF m 35 #[.val (.int p1), .val (.int p2), .val (.long q3), .second, .val (.int p4), .val (.int lim), .val (.int (Int32.ofNat nn)), .unset, .unset, .unset, .unset, .unset] [(.ref b5)])) _
    refine XS.dup X5.here hx rfl (hb hby at_35) rfl rfl ?_
    show Steps p.tables e below (T5.setTop (mkF m 36 #[.val (.int p1), .val (.int p2), .val (.long q3), .second, .val (.int p4), .val (.int lim), .val (.int (Int32.ofNat nn)), .unset, .unset, .unset, .unset, .unset] [(.ref b5), (.ref b5)])) _
    refine st6.trans ?_
    show Steps p.tables e below (T6.setTop (mkF m 39 #[.val (.int p1), .val (.int p2), .val (.long q3), .second, .val (.int p4), .val (.int lim), .val (.int (Int32.ofNat nn)), .unset, .unset, .unset, .unset, .unset] [(.ref b5)])) _
    refine XS.astore X6.here hx rfl (hb hby at_39) rfl rfl (l' := #[.val (.int p1), .val (.int p2), .val (.long q3), .second, .val (.int p4), .val (.int lim), .val (.int (Int32.ofNat nn)), .val (.ref b5), .unset, .unset, .unset, .unset]) rfl ?_
    show Steps p.tables e below (T6.setTop (mkF m 41 #[.val (.int p1), .val (.int p2), .val (.long q3), .second, .val (.int p4), .val (.int lim), .val (.int (Int32.ofNat nn)), .val (.ref b5), .unset, .unset, .unset, .unset] [])) _
    refine stg0 _ ?_
    show Steps p.tables e below (Tg0.setTop (mkF m 59 #[.val (.int p1), .val (.int p2), .val (.long q3), .second, .val (.int p4), .val (.int lim), .val (.int (Int32.ofNat nn)), .val (.ref b5), .unset, .unset, .unset, .unset] [])) _
    refine stg1 _ ?_
    show Steps p.tables e below (Tg1.setTop (mkF m 78 #[.val (.int p1), .val (.int p2), .val (.long q3), .second, .val (.int p4), .val (.int lim), .val (.int (Int32.ofNat nn)), .val (.ref b5), .unset, .unset, .unset, .unset] [])) _
    refine stg2 _ ?_
    show Steps p.tables e below (Tg2.setTop (mkF m 97 #[.val (.int p1), .val (.int p2), .val (.long q3), .second, .val (.int p4), .val (.int lim), .val (.int (Int32.ofNat nn)), .val (.ref b5), .unset, .unset, .unset, .unset] [])) _
    refine stg3 _ ?_
    show Steps p.tables e below (Tg3.setTop (mkF m 116 #[.val (.int p1), .val (.int p2), .val (.long q3), .second, .val (.int p4), .val (.int lim), .val (.int (Int32.ofNat nn)), .val (.ref b5), .unset, .unset, .unset, .unset] [])) _
    refine stg4 _ ?_
    show Steps p.tables e below (Tg4.setTop (mkF m 135 #[.val (.int p1), .val (.int p2), .val (.long q3), .second, .val (.int p4), .val (.int lim), .val (.int (Int32.ofNat nn)), .val (.ref b5), .unset, .unset, .unset, .unset] [])) _
    refine stg5 _ ?_
    show Steps p.tables e below (Tg5.setTop (mkF m 154 #[.val (.int p1), .val (.int p2), .val (.long q3), .second, .val (.int p4), .val (.int lim), .val (.int (Int32.ofNat nn)), .val (.ref b5), .unset, .unset, .unset, .unset] [])) _
    refine stg6 _ ?_
    show Steps p.tables e below (Tg6.setTop (mkF m 175 #[.val (.int p1), .val (.int p2), .val (.long q3), .second, .val (.int p4), .val (.int lim), .val (.int (Int32.ofNat nn)), .val (.ref b5), .unset, .unset, .unset, .unset] [])) _
    refine stg7 _ ?_
    show Steps p.tables e below (Tg7.setTop (mkF m 196 #[.val (.int p1), .val (.int p2), .val (.long q3), .second, .val (.int p4), .val (.int lim), .val (.int (Int32.ofNat nn)), .val (.ref b5), .unset, .unset, .unset, .unset] [])) _
    refine stn _ ?_
    show Steps p.tables e below (Tn.setTop (mkF m 221 #[.val (.int p1), .val (.int p2), .val (.long q3), .second, .val (.int p4), .val (.int lim), .val (.int (Int32.ofNat nn)), .val (.ref b5), .unset, .unset, .unset, .unset] [(.ref bn)])) _
    refine XS.astore Xn.here hx rfl (hb hby at_221) rfl rfl (l' := #[.val (.int p1), .val (.int p2), .val (.long q3), .second, .val (.int p4), .val (.int lim), .val (.int (Int32.ofNat nn)), .val (.ref b5), .val (.ref bn), .unset, .unset, .unset]) rfl ?_
    show Steps p.tables e below (Tn.setTop (mkF m 223 #[.val (.int p1), .val (.int p2), .val (.long q3), .second, .val (.int p4), .val (.int lim), .val (.int (Int32.ofNat nn)), .val (.ref b5), .val (.ref bn), .unset, .unset, .unset] [])) _
    refine st7 _ ?_
    show Steps p.tables e below (T7.setTop (mkF m 226 #[.val (.int p1), .val (.int p2), .val (.long q3), .second, .val (.int p4), .val (.int lim), .val (.int (Int32.ofNat nn)), .val (.ref b5), .val (.ref bn), .unset, .unset, .unset] [(.ref b7)])) _
    refine XS.dup X7.here hx rfl (hb hby at_226) rfl rfl ?_
    show Steps p.tables e below (T7.setTop (mkF m 227 #[.val (.int p1), .val (.int p2), .val (.long q3), .second, .val (.int p4), .val (.int lim), .val (.int (Int32.ofNat nn)), .val (.ref b5), .val (.ref bn), .unset, .unset, .unset] [(.ref b7), (.ref b7)])) _
    refine XS.iload X7.here hx rfl (hb hby at_227) rfl ?_
    show Steps p.tables e below (T7.setTop (mkF m 229 #[.val (.int p1), .val (.int p2), .val (.long q3), .second, .val (.int p4), .val (.int lim), .val (.int (Int32.ofNat nn)), .val (.ref b5), .val (.ref bn), .unset, .unset, .unset] [(.int lim), (.ref b7), (.ref b7)])) _
    refine st8.trans ?_
    show Steps p.tables e below (T8.setTop (mkF m 232 #[.val (.int p1), .val (.int p2), .val (.long q3), .second, .val (.int p4), .val (.int lim), .val (.int (Int32.ofNat nn)), .val (.ref b5), .val (.ref bn), .unset, .unset, .unset] [(.ref b7)])) _
    refine XS.astore X8.here hx rfl (hb hby at_232) rfl rfl (l' := #[.val (.int p1), .val (.int p2), .val (.long q3), .second, .val (.int p4), .val (.int lim), .val (.int (Int32.ofNat nn)), .val (.ref b5), .val (.ref bn), .val (.ref b7), .unset, .unset]) rfl ?_
    show Steps p.tables e below (T8.setTop (mkF m 234 #[.val (.int p1), .val (.int p2), .val (.long q3), .second, .val (.int p4), .val (.int lim), .val (.int (Int32.ofNat nn)), .val (.ref b5), .val (.ref bn), .val (.ref b7), .unset, .unset] [])) _
    refine XS.aload X8.here hx rfl (hb hby at_234) rfl rfl ?_
    show Steps p.tables e below (T8.setTop (mkF m 236 #[.val (.int p1), .val (.int p2), .val (.long q3), .second, .val (.int p4), .val (.int lim), .val (.int (Int32.ofNat nn)), .val (.ref b5), .val (.ref bn), .val (.ref b7), .unset, .unset] [(.ref b7)])) _
    refine XS.aload X8.here hx rfl (hb hby at_236) rfl rfl ?_
    show Steps p.tables e below (T8.setTop (mkF m 238 #[.val (.int p1), .val (.int p2), .val (.long q3), .second, .val (.int p4), .val (.int lim), .val (.int (Int32.ofNat nn)), .val (.ref b5), .val (.ref bn), .val (.ref b7), .unset, .unset] [(.ref b5), (.ref b7)])) _
    refine XS.aload X8.here hx rfl (hb hby at_238) rfl rfl ?_
    show Steps p.tables e below (T8.setTop (mkF m 240 #[.val (.int p1), .val (.int p2), .val (.long q3), .second, .val (.int p4), .val (.int lim), .val (.int (Int32.ofNat nn)), .val (.ref b5), .val (.ref bn), .val (.ref b7), .unset, .unset] [(.ref bn), (.ref b5), (.ref b7)])) _
    refine st9.trans ?_
    show Steps p.tables e below (T9.setTop (mkF m 243 #[.val (.int p1), .val (.int p2), .val (.long q3), .second, .val (.int p4), .val (.int lim), .val (.int (Int32.ofNat nn)), .val (.ref b5), .val (.ref bn), .val (.ref b7), .unset, .unset] [(.ref tu)])) _
    refine XS.astore X9.here hx rfl (hb hby at_243) rfl rfl (l' := #[.val (.int p1), .val (.int p2), .val (.long q3), .second, .val (.int p4), .val (.int lim), .val (.int (Int32.ofNat nn)), .val (.ref b5), .val (.ref bn), .val (.ref b7), .val (.ref tu), .unset]) rfl ?_
    show Steps p.tables e below (T9.setTop (mkF m 245 #[.val (.int p1), .val (.int p2), .val (.long q3), .second, .val (.int p4), .val (.int lim), .val (.int (Int32.ofNat nn)), .val (.ref b5), .val (.ref bn), .val (.ref b7), .val (.ref tu), .unset] [])) _
    refine XS.iload X9.here hx rfl (hb hby at_245) rfl ?_
    show Steps p.tables e below (T9.setTop (mkF m 247 #[.val (.int p1), .val (.int p2), .val (.long q3), .second, .val (.int p4), .val (.int lim), .val (.int (Int32.ofNat nn)), .val (.ref b5), .val (.ref bn), .val (.ref b7), .val (.ref tu), .unset] [(.int (Int32.ofNat nn))])) _
    refine XS.iload X9.here hx rfl (hb hby at_247) rfl ?_
    show Steps p.tables e below (T9.setTop (mkF m 249 #[.val (.int p1), .val (.int p2), .val (.long q3), .second, .val (.int p4), .val (.int lim), .val (.int (Int32.ofNat nn)), .val (.ref b5), .val (.ref bn), .val (.ref b7), .val (.ref tu), .unset] [(.int lim), (.int (Int32.ofNat nn))])) _
    refine own_tic_gt X9.here hx (hb hby at_249) (hb hby at_252) (hb hby at_253) (hb hby at_256) ?_
    show Steps p.tables e below (T9.setTop (mkF m 257 #[.val (.int p1), .val (.int p2), .val (.long q3), .second, .val (.int p4), .val (.int lim), .val (.int (Int32.ofNat nn)), .val (.ref b5), .val (.ref bn), .val (.ref b7), .val (.ref tu), .unset] [(.int (if ¬ (lim < (Int32.ofNat nn)) then (1 : Int32) else 0))])) _
    refine XS.istore X9.here hx rfl (hb hby at_257) rfl (l' := #[.val (.int p1), .val (.int p2), .val (.long q3), .second, .val (.int p4), .val (.int lim), .val (.int (Int32.ofNat nn)), .val (.ref b5), .val (.ref bn), .val (.ref b7), .val (.ref tu), .val (.int (if ¬ (lim < (Int32.ofNat nn)) then (1 : Int32) else 0))]) rfl ?_
    show Steps p.tables e below (T9.setTop (mkF m 259 #[.val (.int p1), .val (.int p2), .val (.long q3), .second, .val (.int p4), .val (.int lim), .val (.int (Int32.ofNat nn)), .val (.ref b5), .val (.ref bn), .val (.ref b7), .val (.ref tu), .val (.int (if ¬ (lim < (Int32.ofNat nn)) then (1 : Int32) else 0))] [])) _
    refine XS.aload X9.here hx rfl (hb hby at_259) rfl rfl ?_
    show Steps p.tables e below (T9.setTop (mkF m 261 #[.val (.int p1), .val (.int p2), .val (.long q3), .second, .val (.int p4), .val (.int lim), .val (.int (Int32.ofNat nn)), .val (.ref b5), .val (.ref bn), .val (.ref b7), .val (.ref tu), .val (.int (if ¬ (lim < (Int32.ofNat nn)) then (1 : Int32) else 0))] [(.ref tu)])) _
    refine XS.ifnullNo X9.here hx rfl (hb hby at_261) rfl ?_
    show Steps p.tables e below (T9.setTop (mkF m 264 #[.val (.int p1), .val (.int p2), .val (.long q3), .second, .val (.int p4), .val (.int lim), .val (.int (Int32.ofNat nn)), .val (.ref b5), .val (.ref bn), .val (.ref b7), .val (.ref tu), .val (.int (if ¬ (lim < (Int32.ofNat nn)) then (1 : Int32) else 0))] [])) _
    refine XS.aload X9.here hx rfl (hb hby at_264) rfl rfl ?_
    show Steps p.tables e below (T9.setTop (mkF m 266 #[.val (.int p1), .val (.int p2), .val (.long q3), .second, .val (.int p4), .val (.int lim), .val (.int (Int32.ofNat nn)), .val (.ref b5), .val (.ref bn), .val (.ref b7), .val (.ref tu), .val (.int (if ¬ (lim < (Int32.ofNat nn)) then (1 : Int32) else 0))] [(.ref tu)])) _
    refine st10.trans ?_
    show Steps p.tables e below (T10.setTop (mkF m 269 #[.val (.int p1), .val (.int p2), .val (.long q3), .second, .val (.int p4), .val (.int lim), .val (.int (Int32.ofNat nn)), .val (.ref b5), .val (.ref bn), .val (.ref b7), .val (.ref tu), .val (.int (if ¬ (lim < (Int32.ofNat nn)) then (1 : Int32) else 0))] [(.int (1 : Int32))])) _
    refine XS.iload X10.here hx rfl (hb hby at_269) rfl ?_
    show Steps p.tables e below (T10.setTop (mkF m 271 #[.val (.int p1), .val (.int p2), .val (.long q3), .second, .val (.int p4), .val (.int lim), .val (.int (Int32.ofNat nn)), .val (.ref b5), .val (.ref bn), .val (.ref b7), .val (.ref tu), .val (.int (if ¬ (lim < (Int32.ofNat nn)) then (1 : Int32) else 0))] [(.int (if ¬ (lim < (Int32.ofNat nn)) then (1 : Int32) else 0)), (.int (1 : Int32))])) _
    refine XS.icmpNo X10.here hx rfl (hb hby at_271) rfl (teq hc271).2 ?_
    show Steps p.tables e below (T10.setTop (mkF m 274 #[.val (.int p1), .val (.int p2), .val (.long q3), .second, .val (.int p4), .val (.int lim), .val (.int (Int32.ofNat nn)), .val (.ref b5), .val (.ref bn), .val (.ref b7), .val (.ref tu), .val (.int (if ¬ (lim < (Int32.ofNat nn)) then (1 : Int32) else 0))] [])) _
    refine XS.aload X10.here hx rfl (hb hby at_274) rfl rfl ?_
    show Steps p.tables e below (T10.setTop (mkF m 276 #[.val (.int p1), .val (.int p2), .val (.long q3), .second, .val (.int p4), .val (.int lim), .val (.int (Int32.ofNat nn)), .val (.ref b5), .val (.ref bn), .val (.ref b7), .val (.ref tu), .val (.int (if ¬ (lim < (Int32.ofNat nn)) then (1 : Int32) else 0))] [(.ref tu)])) _
    refine st11.trans ?_
    show Steps p.tables e below (T11.setTop (mkF m 279 #[.val (.int p1), .val (.int p2), .val (.long q3), .second, .val (.int p4), .val (.int lim), .val (.int (Int32.ofNat nn)), .val (.ref b5), .val (.ref bn), .val (.ref b7), .val (.ref tu), .val (.int (if ¬ (lim < (Int32.ofNat nn)) then (1 : Int32) else 0))] [.null])) _
    refine XS.ifnonnullNo X11.here hx rfl (hb hby at_279) rfl ?_
    show Steps p.tables e below (T11.setTop (mkF m 282 #[.val (.int p1), .val (.int p2), .val (.long q3), .second, .val (.int p4), .val (.int lim), .val (.int (Int32.ofNat nn)), .val (.ref b5), .val (.ref bn), .val (.ref b7), .val (.ref tu), .val (.int (if ¬ (lim < (Int32.ofNat nn)) then (1 : Int32) else 0))] [])) _
    refine XS.iconst X11.here hx rfl (hb hby at_282) ?_
    show Steps p.tables e below (T11.setTop (mkF m 283 #[.val (.int p1), .val (.int p2), .val (.long q3), .second, .val (.int p4), .val (.int lim), .val (.int (Int32.ofNat nn)), .val (.ref b5), .val (.ref bn), .val (.ref b7), .val (.ref tu), .val (.int (if ¬ (lim < (Int32.ofNat nn)) then (1 : Int32) else 0))] [(.int (1 : Int32))])) _
    refine XS.goto X11.here hx rfl (pc0 := 283) (pc' := 287) rfl (hb hby at_283) (by decide) (by decide) ?_
    show Steps p.tables e below (T11.setTop (mkF m 287 #[.val (.int p1), .val (.int p2), .val (.long q3), .second, .val (.int p4), .val (.int lim), .val (.int (Int32.ofNat nn)), .val (.ref b5), .val (.ref bn), .val (.ref b7), .val (.ref tu), .val (.int (if ¬ (lim < (Int32.ofNat nn)) then (1 : Int32) else 0))] [(.int (1 : Int32))])) _
    exact retN X11 hx (t := .boolean) Bd.returns (by simp) (hb hby at_287) hr
  · show Q0 Z p1 p2 q3 p4 nn d0 cl_d0 cs tu h0 n0 _ T11.heap _
    rw [e11]
    exact ⟨rfl, N11⟩

set_option maxRecDepth 65536 in
set_option maxHeartbeats 40000000 in
theorem rm0b (l : Launch) (Z : State) (a0 : Array Value) (hw : ∀ d ∈ tables_1, d.before a0 Z = true) (ws : List Jvm.Cond) (p1 : Int32) (p2 : Int32) (q3 : Int64) (p4 : Int32) (nn : Nat) (d0 : Addr) (cl_d0 : Cell) (cs : Int32) (tu : Addr) (h0 : Heap) (n0 : Nat) (Z0 : n0 ≤ h0.size) (O0 : Old Z n0 h0) (SD : Sta Z Z.heap "java/util/ArrayList" "DEFAULTCAPACITY_EMPTY_ELEMENTDATA" "[Ljava/lang/Object;" (.ref d0)) (AD : Arr Z Z.heap d0 cl_d0 (.object "java/lang/Object")) (S_d0 : cl_d0.slots.size = (0 : Int32).toNatClampNeg) (SC : Sta Z Z.heap "java/lang/String" "COMPACT_STRINGS" "Z" (.int cs)) (hcs : ¬ (cs = (0 : Int32))) (hnn : nn ≤ 8) (hvn : ((p2 &&& (15 : Int32)) - ((p2 &&& (15 : Int32)) / (9 : Int32)) * (9 : Int32)) = Int32.ofNat nn) (ST : Sta Z Z.heap "com/example/ordinal_lock/ordinallock/protocol/TurnRule$Turn" "AWAIT_CHILDREN" "Lcom/example/ordinal_lock/ordinallock/protocol/TurnRule$Turn;" (.ref tu)) (EC : Exa Z Z.heap tu "com/example/ordinal_lock/ordinallock/protocol/TurnRule$Turn") (FC : Fld Z Z.heap tu "com/example/ordinal_lock/ordinallock/protocol/TurnRule$Turn" "come" "Z" (.int (0 : Int32))) (FN : Fld Z Z.heap tu "com/example/ordinal_lock/ordinallock/protocol/TurnRule$Turn" "nodeAhead" "Ljava/lang/String;" .null) (hlim : own_lim p1 p2 < Int32.ofNat nn) :
    MetFree l x (head1 (Jvm.Cond.code x code maxLocals ret :: ws) room_1) (fun a U => a = #[(.int p1), (.int p2), (.long q3), (.int p4)] ∧ Z.Warmed39 U.vm ∧ U.heap = h0) (fun _ _ _ _ _ => True) (fun _ U o U' => ∃ v L, o = .returned v ∧ Q0 Z p1 p2 q3 p4 nn d0 cl_d0 cs tu h0 n0 v U'.heap L ∧ FrameEnd U o U' L room_1.cells room_1.slots) := by
  refine MetFree.of_bodySF (plainFor_of_name pn_0) hisR ?_
  intro p e s m args below meth c s₁ Bd hml0 hP hK
  obtain ⟨rfl, hZ, hh⟩ := hP
  have hx := Bd.exec
  have hby := Bd.bytes
  have hml : c.maxLocals = 12 := hml0
  have hown : s.vm.findClass "com/example/ordinal_lock/ordinallock/protocol/WithinLimitTurnPinLaw" = some m.cls := findClass_of_methodNamed Bd.named
  have hnm := (name_of_methodNamed Bd.named Bd.method).1
  have X0 : Stand p l e room_1 s m #[(.int p1), (.int p2), (.long q3), (.int p4)] below meth c s₁ [] 0 0 := Stand.of_body Bd
  have e0 : s₁.heap = h0 := by rw [← hh, Bd.state]; rfl
  have N0 := Fr.nil n0
  have pre0 : ∀ t, Steps p.tables e below (s₁.setTop (mkF m 0 #[.val (.int p1), .val (.int p2), .val (.long q3), .second, .val (.int p4), .unset, .unset, .unset, .unset, .unset, .unset, .unset] [])) t → Steps p.tables e below (s₁.setTop (entryFrame m #[(.int p1), (.int p2), (.long q3), (.int p4)] maxLocals)) t := fun t k => castTop (ef_0 m p1 p2 q3 p4) k
  obtain ⟨Tl, hl, Ll, Xl, el, Nl, hhl, stl⟩ := own_l (.val (.long q3)) .second (.val (.int p4)) .unset .unset .unset .unset .unset .unset .unset p1 p2 X0 hx hZ hw hby hml hown e0 N0 Z0 (by decide) (by decide)
  rw [hhl] at el
  obtain ⟨lim, h_lim⟩ : ∃ z : Int32, z = (own_lim p1 p2) := ⟨_, rfl⟩
  have h_lim1 : ¬ (lim < (1 : Int32)) := by rw [h_lim]; exact own_lim1 _ _
  rw [← h_lim] at hlim
  obtain ⟨T5, h5, X5, e5, E5, A5, D5, -, st5⟩ := newO Xl hx hZ hown (hw _ (List.mem_of_getElem? (i := 0) rfl)) (hw _ (List.mem_of_getElem? (i := 1) rfl)) (hw _ (List.mem_of_getElem? (i := 2) rfl)) el (g := (mkF m 32 #[.val (.int p1), .val (.int p2), .val (.long q3), .second, .val (.int p4), .val (.int lim), .val (.int (Int32.ofNat nn)), .unset, .unset, .unset, .unset, .unset] [])) rfl (hb hby at_32) (by decide) (by decide)
  obtain ⟨b5, g5⟩ : ∃ z, z = h0.size := ⟨_, rfl⟩
  rw [← g5] at A5 D5 st5
  have F_modCount_b5 : Fld Z h5 b5 "java/util/AbstractList" "modCount" "I" (.int (0 : Int32)) := D5 (Or.inl (hw _ (List.mem_of_getElem? (i := 22) rfl))) (ty := .int) (by decide)
  have F_elementData_b5 : Fld Z h5 b5 "java/util/ArrayList" "elementData" "[Ljava/lang/Object;" .null := D5 (Or.inl (hw _ (List.mem_of_getElem? (i := 25) rfl))) (ty := (.array (.object "java/lang/Object"))) (by decide)
  have F_size_b5 : Fld Z h5 b5 "java/util/ArrayList" "size" "I" (.int (0 : Int32)) := D5 (Or.inl (hw _ (List.mem_of_getElem? (i := 67) rfl))) (ty := .int) (by decide)
  have E_b5 := A5
  have g_b5 : n0 ≤ b5 := Nat.le_trans Z0 (Nat.le_of_eq g5.symm)
  have sz_b5 : h0.size ≤ b5 := (Nat.le_trans (Keep.refl h0 []).1 (Nat.le_of_eq g5.symm))
  obtain ⟨_, _, ⟨T6, L6, k6, n6⟩, -, X6, ⟨Lc6, hQ6, l6, y6, z6⟩, st6⟩ := X5.specialBack hx (y := (⟨"java/util/ArrayList", "<init>", "()V"⟩ : MethodName)) rfl hown (mvT hZ (hw _ (List.mem_of_getElem? (i := 3) rfl))) (mvT hZ (hw _ (List.mem_of_getElem? (i := 4) rfl))) (mvT hZ (hw _ (List.mem_of_getElem? (i := 5) rfl))) (by decide) (backOf (W := 1) (rm1 l Z a0 hw [] b5 d0 h5 n0 (own_osz (O0.ext E5)) (O0.ext E5) SD E_b5 F_modCount_b5 F_size_b5 F_elementData_b5 g_b5) hZ (hw _ (List.mem_of_getElem? (i := 5) rfl)) (hw _ (List.mem_of_getElem? (i := 2) rfl)) (by decide) (by decide)) (g := (mkF m 36 #[.val (.int p1), .val (.int p2), .val (.long q3), .second, .val (.int p4), .val (.int lim), .val (.int (Int32.ofNat nn)), .unset, .unset, .unset, .unset, .unset] [(.ref b5), (.ref b5)])) rfl (by rw [hml]; rfl) (Steps.refl _) (a := b5) (argsL := []) (rest := [(.ref b5)]) (lenOf pd_0_0 rfl) rfl (by show 2 * 0 + _ ≤ _; exact Nat.le_of_eq rfl) (hb hby at_36) (fun _ _ => ⟨rfl, e5, (by decide : 1 + 0 ≤ _), (by decide : 3 + 0 ≤ _)⟩)
  dsimp only [Pt.U, Pt.locs, Pt.cells, Pt.slots] at X6 l6 y6 z6 st6 hQ6
  subst l6 y6 z6
  obtain ⟨rfl, N6q, Oq6, Lq6⟩ := hQ6
  have N6 := Fr.app Nl N6q
  obtain ⟨Tg0, hg0, Lg0, Xg0, eg0, Ng0, Og0, HLg0, stg0⟩ := own_g0 (.val (.int p1)) (.val (.int p2)) q3 (.val (.int p4)) (.val (.int lim)) b5 .unset .unset .unset .unset d0 cl_d0 cs nn hnn X6 hx hZ hw hby hml hown rfl N6 Oq6 SD AD S_d0 SC hcs g_b5 (by rw [show min nn 0 = 0 by omega]; exact Lq6)
  obtain ⟨Tg1, hg1, Lg1, Xg1, eg1, Ng1, Og1, HLg1, stg1⟩ := own_g1 (.val (.int p1)) (.val (.int p2)) q3 (.val (.int p4)) (.val (.int lim)) b5 .unset .unset .unset .unset d0 cl_d0 cs nn hnn Xg0 hx hZ hw hby hml hown eg0 Ng0 Og0 SD AD S_d0 SC hcs g_b5 HLg0
  obtain ⟨Tg2, hg2, Lg2, Xg2, eg2, Ng2, Og2, HLg2, stg2⟩ := own_g2 (.val (.int p1)) (.val (.int p2)) q3 (.val (.int p4)) (.val (.int lim)) b5 .unset .unset .unset .unset d0 cl_d0 cs nn hnn Xg1 hx hZ hw hby hml hown eg1 Ng1 Og1 SD AD S_d0 SC hcs g_b5 HLg1
  obtain ⟨Tg3, hg3, Lg3, Xg3, eg3, Ng3, Og3, HLg3, stg3⟩ := own_g3 (.val (.int p1)) (.val (.int p2)) q3 (.val (.int p4)) (.val (.int lim)) b5 .unset .unset .unset .unset d0 cl_d0 cs nn hnn Xg2 hx hZ hw hby hml hown eg2 Ng2 Og2 SD AD S_d0 SC hcs g_b5 HLg2
  obtain ⟨Tg4, hg4, Lg4, Xg4, eg4, Ng4, Og4, HLg4, stg4⟩ := own_g4 (.val (.int p1)) (.val (.int p2)) q3 (.val (.int p4)) (.val (.int lim)) b5 .unset .unset .unset .unset d0 cl_d0 cs nn hnn Xg3 hx hZ hw hby hml hown eg3 Ng3 Og3 SD AD S_d0 SC hcs g_b5 HLg3
  obtain ⟨Tg5, hg5, Lg5, Xg5, eg5, Ng5, Og5, HLg5, stg5⟩ := own_g5 (.val (.int p1)) (.val (.int p2)) q3 (.val (.int p4)) (.val (.int lim)) b5 .unset .unset .unset .unset d0 cl_d0 cs nn hnn Xg4 hx hZ hw hby hml hown eg4 Ng4 Og4 SD AD S_d0 SC hcs g_b5 HLg4
  obtain ⟨Tg6, hg6, Lg6, Xg6, eg6, Ng6, Og6, HLg6, stg6⟩ := own_g6 (.val (.int p1)) (.val (.int p2)) q3 (.val (.int p4)) (.val (.int lim)) b5 .unset .unset .unset .unset d0 cl_d0 cs nn hnn Xg5 hx hZ hw hby hml hown eg5 Ng5 Og5 SD AD S_d0 SC hcs g_b5 HLg5
  obtain ⟨Tg7, hg7, Lg7, Xg7, eg7, Ng7, Og7, HLg7, stg7⟩ := own_g7 (.val (.int p1)) (.val (.int p2)) q3 (.val (.int p4)) (.val (.int lim)) b5 .unset .unset .unset .unset d0 cl_d0 cs nn hnn Xg6 hx hZ hw hby hml hown eg6 Ng6 Og6 SD AD S_d0 SC hcs g_b5 HLg6
  obtain ⟨Tn, hn, Ln, bn, Xn, en, Nn, On, HLn, stn⟩ := own_n (.val (.int p1)) (.val (.int lim)) (.val (.int (Int32.ofNat nn))) .unset .unset .unset .unset p2 q3 p4 b5 d0 cl_d0 cs (min nn 8) Xg7 hx hZ hw hby hml hown eg7 Ng7 Og7 SD AD S_d0 SC hcs g_b5 HLg7 (by decide) (by decide)
  obtain ⟨T7, h7, X7, e7, E7, A7, D7, -, st7⟩ := newO Xn hx hZ hown (hw _ (List.mem_of_getElem? (i := 90) rfl)) (hw _ (List.mem_of_getElem? (i := 91) rfl)) (hw _ (List.mem_of_getElem? (i := 92) rfl)) en (g := (mkF m 223 #[.val (.int p1), .val (.int p2), .val (.long q3), .second, .val (.int p4), .val (.int lim), .val (.int (Int32.ofNat nn)), .val (.ref b5), .val (.ref bn), .unset, .unset, .unset] [])) rfl (hb hby at_223) (by decide) (by decide)
  obtain ⟨b7, g7⟩ : ∃ z, z = hn.size := ⟨_, rfl⟩
  rw [← g7] at A7 D7 st7
  have F_limit_b7 : Fld Z h7 b7 "com/example/ordinal_lock/ordinallock/protocol/TurnRule$WithinLimit" "limit" "I" (.int (0 : Int32)) := D7 (Or.inr (hw _ (List.mem_of_getElem? (i := 103) rfl))) (ty := .int) (by decide)
  have E_b7 := A7
  have g_b7 : n0 ≤ b7 := Nat.le_trans (own_osz On) (Nat.le_of_eq g7.symm)
  obtain ⟨_, _, ⟨T8, L8, k8, n8⟩, -, X8, ⟨Lc8, hQ8, l8, y8, z8⟩, st8⟩ := X7.specialBack hx (y := (⟨"com/example/ordinal_lock/ordinallock/protocol/TurnRule$WithinLimit", "<init>", "(I)V"⟩ : MethodName)) rfl hown (mvT hZ (hw _ (List.mem_of_getElem? (i := 93) rfl))) (mvT hZ (hw _ (List.mem_of_getElem? (i := 94) rfl))) (mvT hZ (hw _ (List.mem_of_getElem? (i := 95) rfl))) (by decide) (backOf (W := 1) (rm15 l Z a0 hw [] b7 lim (.int (0 : Int32)) h7 n0 (own_osz (On.ext E7)) E_b7 F_limit_b7 g_b7 h_lim1) hZ (hw _ (List.mem_of_getElem? (i := 95) rfl)) (hw _ (List.mem_of_getElem? (i := 92) rfl)) (by decide) (by decide)) (g := (mkF m 229 #[.val (.int p1), .val (.int p2), .val (.long q3), .second, .val (.int p4), .val (.int lim), .val (.int (Int32.ofNat nn)), .val (.ref b5), .val (.ref bn), .unset, .unset, .unset] [(.int lim), (.ref b7), (.ref b7)])) rfl (by rw [hml]; rfl) (Steps.refl _) (a := b7) (argsL := [(.int lim)]) (rest := [(.ref b7)]) (lenOf pd_0_11 rfl) rfl (by show 2 * 0 + _ ≤ _; exact Nat.le_of_eq rfl) (hb hby at_229) (fun _ _ => ⟨rfl, e7, (by decide : 28 + 0 ≤ _), (by decide : 129 + 0 ≤ _)⟩)
  dsimp only [Pt.U, Pt.locs, Pt.cells, Pt.slots] at X8 l8 y8 z8 st8 hQ8
  subst l8 y8 z8
  obtain ⟨rfl, N8q, Kq8, Ex8, Fl8⟩ := hQ8
  have N8 := Fr.app Nn N8q
  have HLz : own_L Z T8.heap n0 b5 d0 nn := by
    have q := HLn.keep (((Keep.refl hn []).ext E7).trans Kq8 (fun x_ q_ => Or.inr ((List.mem_singleton.mp q_).symm ▸ Nat.le_of_eq g7.symm)))
    rw [show min nn 8 = nn by omega] at q
    exact q
  have hc271 : (0 : Int32) = (if ¬ (lim < (Int32.ofNat nn)) then (1 : Int32) else 0) := by rw [if_neg (fun q => q hlim)]
  obtain ⟨cq9, kq9, q9a, q9b, q9c⟩ := isOf hZ rfl Ex8
  obtain ⟨_, _, ⟨T9, L9, k9, n9⟩, -, X9, ⟨Lc9, hQ9, l9, y9, z9⟩, st9⟩ := X8.virtualBack hx (y := (⟨"com/example/ordinal_lock/ordinallock/protocol/TurnRule$WithinLimit", "turn", "(Ljava/util/List;Ljava/lang/String;)Lcom/example/ordinal_lock/ordinallock/protocol/TurnRule$Turn;"⟩ : MethodName)) (z := (⟨"com/example/ordinal_lock/ordinallock/protocol/TurnRule$WithinLimit", "turn", "(Ljava/util/List;Ljava/lang/String;)Lcom/example/ordinal_lock/ordinallock/protocol/TurnRule$Turn;"⟩ : MethodName)) hown (mvT hZ (hw _ (List.mem_of_getElem? (i := 104) rfl))) (mvT hZ (hw _ (List.mem_of_getElem? (i := 105) rfl))) (notFace_of_selects (args := #[]) (mvT hZ (hw _ (List.mem_of_getElem? (i := 107) rfl)))) (mvT hZ (hw _ (List.mem_of_getElem? (i := 107) rfl))) (mvT hZ (hw _ (List.mem_of_getElem? (i := 106) rfl))) (by decide) (backOf (W := 0) (rm17b l Z a0 hw [] b7 b5 bn (Int32.ofNat nn) lim tu T8.heap n0 (own_osz ((On.ext E7).keep Kq8 (fun x_ q_ => (List.mem_singleton.mp q_).symm ▸ g_b7))) ((On.ext E7).keep Kq8 (fun x_ q_ => (List.mem_singleton.mp q_).symm ▸ g_b7)) ST HLz.2.2.1 HLz.1 Fl8 hlim) hZ (hw _ (List.mem_of_getElem? (i := 108) rfl)) (hw _ (List.mem_of_getElem? (i := 92) rfl)) (by decide) (by decide)) q9a q9c (g := (mkF m 240 #[.val (.int p1), .val (.int p2), .val (.long q3), .second, .val (.int p4), .val (.int lim), .val (.int (Int32.ofNat nn)), .val (.ref b5), .val (.ref bn), .val (.ref b7), .unset, .unset] [(.ref bn), (.ref b5), (.ref b7)])) rfl (by rw [hml]; rfl) (Steps.refl _) (argsL := [(.ref b5), (.ref bn)]) (rest := []) (lenOf pd_0_12 rfl) rfl (by show 2 * 0 + _ ≤ _; exact Nat.le_of_eq rfl) (hb hby at_240) (fun _ _ => ⟨rfl, rfl, (by decide : 28 + 0 ≤ _), (by decide : 129 + 0 ≤ _)⟩)
  dsimp only [Pt.U, Pt.locs, Pt.cells, Pt.slots] at X9 l9 y9 z9 st9 hQ9
  subst l9 y9 z9
  obtain ⟨rfl, N9q, e9⟩ := hQ9
  have N9 := Fr.app N8 N9q
  obtain ⟨cq10, kq10, q10a, q10b, q10c⟩ := isOf hZ e9 (EC.ext ((On.ext E7).keep Kq8 (fun x_ q_ => (List.mem_singleton.mp q_).symm ▸ g_b7)).2)
  obtain ⟨_, _, ⟨T10, L10, k10, n10⟩, -, X10, ⟨Lc10, hQ10, l10, y10, z10⟩, st10⟩ := X9.virtualBack hx (y := (⟨"com/example/ordinal_lock/ordinallock/protocol/TurnRule$Turn", "come", "()Z"⟩ : MethodName)) (z := (⟨"com/example/ordinal_lock/ordinallock/protocol/TurnRule$Turn", "come", "()Z"⟩ : MethodName)) hown (mvT hZ (hw _ (List.mem_of_getElem? (i := 120) rfl))) (mvT hZ (hw _ (List.mem_of_getElem? (i := 121) rfl))) (notFace_of_selects (args := #[]) (mvT hZ (hw _ (List.mem_of_getElem? (i := 123) rfl)))) (mvT hZ (hw _ (List.mem_of_getElem? (i := 123) rfl))) (mvT hZ (hw _ (List.mem_of_getElem? (i := 122) rfl))) (by decide) (backOf (W := 0) (rm19b l Z a0 hw [] tu  T8.heap n0 (own_osz ((On.ext E7).keep Kq8 (fun x_ q_ => (List.mem_singleton.mp q_).symm ▸ g_b7))) (FC.ext ((On.ext E7).keep Kq8 (fun x_ q_ => (List.mem_singleton.mp q_).symm ▸ g_b7)).2)) hZ (hw _ (List.mem_of_getElem? (i := 124) rfl)) (hw _ (List.mem_of_getElem? (i := 118) rfl)) (by decide) (by decide)) q10a q10c (g := (mkF m 266 #[.val (.int p1), .val (.int p2), .val (.long q3), .second, .val (.int p4), .val (.int lim), .val (.int (Int32.ofNat nn)), .val (.ref b5), .val (.ref bn), .val (.ref b7), .val (.ref tu), .val (.int (if ¬ (lim < (Int32.ofNat nn)) then (1 : Int32) else 0))] [(.ref tu)])) rfl (by rw [hml]; rfl) (Steps.refl _) (argsL := []) (rest := []) (lenOf pd_0_14 rfl) rfl (by show 2 * 0 + _ ≤ _; exact Nat.le_of_eq rfl) (hb hby at_266) (fun _ _ => ⟨rfl, e9, (by decide : 28 + 0 ≤ _), (by decide : 129 + 0 ≤ _)⟩)
  dsimp only [Pt.U, Pt.locs, Pt.cells, Pt.slots] at X10 l10 y10 z10 st10 hQ10
  subst l10 y10 z10
  obtain ⟨rfl, N10q, e10⟩ := hQ10
  have N10 := Fr.app N9 N10q
  obtain ⟨cq11, kq11, q11a, q11b, q11c⟩ := isOf hZ e10 (EC.ext ((On.ext E7).keep Kq8 (fun x_ q_ => (List.mem_singleton.mp q_).symm ▸ g_b7)).2)
  obtain ⟨_, _, ⟨T11, L11, k11, n11⟩, -, X11, ⟨Lc11, hQ11, l11, y11, z11⟩, st11⟩ := X10.virtualBack hx (y := (⟨"com/example/ordinal_lock/ordinallock/protocol/TurnRule$Turn", "nodeAhead", "()Ljava/lang/String;"⟩ : MethodName)) (z := (⟨"com/example/ordinal_lock/ordinallock/protocol/TurnRule$Turn", "nodeAhead", "()Ljava/lang/String;"⟩ : MethodName)) hown (mvT hZ (hw _ (List.mem_of_getElem? (i := 127) rfl))) (mvT hZ (hw _ (List.mem_of_getElem? (i := 128) rfl))) (notFace_of_selects (args := #[]) (mvT hZ (hw _ (List.mem_of_getElem? (i := 130) rfl)))) (mvT hZ (hw _ (List.mem_of_getElem? (i := 130) rfl))) (mvT hZ (hw _ (List.mem_of_getElem? (i := 129) rfl))) (by decide) (backOf (W := 0) (rm20 l Z a0 hw [] tu  T8.heap n0 (own_osz ((On.ext E7).keep Kq8 (fun x_ q_ => (List.mem_singleton.mp q_).symm ▸ g_b7))) (FN.ext ((On.ext E7).keep Kq8 (fun x_ q_ => (List.mem_singleton.mp q_).symm ▸ g_b7)).2)) hZ (hw _ (List.mem_of_getElem? (i := 131) rfl)) (hw _ (List.mem_of_getElem? (i := 118) rfl)) (by decide) (by decide)) q11a q11c (g := (mkF m 276 #[.val (.int p1), .val (.int p2), .val (.long q3), .second, .val (.int p4), .val (.int lim), .val (.int (Int32.ofNat nn)), .val (.ref b5), .val (.ref bn), .val (.ref b7), .val (.ref tu), .val (.int (if ¬ (lim < (Int32.ofNat nn)) then (1 : Int32) else 0))] [(.ref tu)])) rfl (by rw [hml]; rfl) (Steps.refl _) (argsL := []) (rest := []) (lenOf pd_0_15 rfl) rfl (by show 2 * 0 + _ ≤ _; exact Nat.le_of_eq rfl) (hb hby at_276) (fun _ _ => ⟨rfl, e10, (by decide : 28 + 0 ≤ _), (by decide : 129 + 0 ≤ _)⟩)
  dsimp only [Pt.U, Pt.locs, Pt.cells, Pt.slots] at X11 l11 y11 z11 st11 hQ11
  subst l11 y11 z11
  obtain ⟨rfl, N11q, e11⟩ := hQ11
  have N11 := Fr.app N10 N11q
  obtain ⟨fs, hr, hrun, hended, hW, hsame⟩ := X11.leave (v := some (.int (1 : Int32))) (fun h => by rw [Bd.returns] at h; cases h)
  refine ⟨_, _, pre0 _ ?_, hrun, hended, _, _, rfl, ?_, ⟨_, rfl⟩, hW, hsame.mono (by decide) (by decide)⟩
  · show Steps p.tables e below (s₁.setTop (mkF m 0 #[.val (.int p1), .val (.int p2), .val (.long q3), .second, .val (.int p4), .unset, .unset, .unset, .unset, .unset, .unset, .unset] [])) _
    refine stl _ ?_
    show Steps p.tables e below (Tl.setTop (mkF m 21 #[.val (.int p1), .val (.int p2), .val (.long q3), .second, .val (.int p4), .unset, .unset, .unset, .unset, .unset, .unset, .unset] [(.int (own_lim p1 p2))])) _
    refine XS.istore Xl.here hx rfl (hb hby at_21) (x := lim) (rest := []) (by subst h_lim; rfl) (l' := #[.val (.int p1), .val (.int p2), .val (.long q3), .second, .val (.int p4), .val (.int lim), .unset, .unset, .unset, .unset, .unset, .unset]) rfl ?_
    show Steps p.tables e below (Tl.setTop (mkF m 23 #[.val (.int p1), .val (.int p2), .val (.long q3), .second, .val (.int p4), .val (.int lim), .unset, .unset, .unset, .unset, .unset, .unset] [])) _
    refine XS.iloadN Xl.here hx rfl (hb hby at_23) rfl ?_
    show Steps p.tables e below (Tl.setTop (mkF m 24 #[.val (.int p1), .val (.int p2), .val (.long q3), .second, .val (.int p4), .val (.int lim), .unset, .unset, .unset, .unset, .unset, .unset] [(.int p2)])) _
    refine XS.bipush Xl.here hx rfl (hb hby at_24) ?_
    show Steps p.tables e below (Tl.setTop (mkF m 26 #[.val (.int p1), .val (.int p2), .val (.long q3), .second, .val (.int p4), .val (.int lim), .unset, .unset, .unset, .unset, .unset, .unset] [(.int (15 : Int32)), (.int p2)])) _
    refine XS.iand Xl.here hx rfl (hb hby at_26) rfl ?_
    show Steps p.tables e below (Tl.setTop (mkF m 27 #[.val (.int p1), .val (.int p2), .val (.long q3), .second, .val (.int p4), .val (.int lim), .unset, .unset, .unset, .unset, .unset, .unset] [(.int (p2 &&& (15 : Int32)))])) _
    refine XS.bipush Xl.here hx rfl (hb hby at_27) ?_
    show Steps p.tables e below (Tl.setTop (mkF m 29 #[.val (.int p1), .val (.int p2), .val (.long q3), .second, .val (.int p4), .val (.int lim), .unset, .unset, .unset, .unset, .unset, .unset] [(.int (9 : Int32)), (.int (p2 &&& (15 : Int32)))])) _
    refine XS.irem Xl.here hx rfl (hb hby at_29) rfl (by decide) ?_
    show Steps p.tables e below (Tl.setTop (mkF m 30 #[.val (.int p1), .val (.int p2), .val (.long q3), .second, .val (.int p4), .val (.int lim), .unset, .unset, .unset, .unset, .unset, .unset] [(.int ((p2 &&& (15 : Int32)) - ((p2 &&& (15 : Int32)) / (9 : Int32)) * (9 : Int32)))])) _
    refine XS.istore Xl.here hx rfl (hb hby at_30) (x := (Int32.ofNat nn)) (rest := []) (congrArg (fun z => Value.int z :: []) hvn) (l' := #[.val (.int p1), .val (.int p2), .val (.long q3), .second, .val (.int p4), .val (.int lim), .val (.int (Int32.ofNat nn)), .unset, .unset, .unset, .unset, .unset]) rfl ?_
    show Steps p.tables e below (Tl.setTop (mkF m 32 #[.val (.int p1), .val (.int p2), .val (.long q3), .second, .val (.int p4), .val (.int lim), .val (.int (Int32.ofNat nn)), .unset, .unset, .unset, .unset, .unset] [])) _
    refine st5 _ ?_
    show Steps p.tables e below (T5.setTop (mkF m 35 #[.val (.int p1), .val (.int p2), .val (.long q3), .second, .val (.int p4), .val (.int lim), .val (.int (Int32.ofNat nn)), .unset, .unset, .unset, .unset, .unset] [(.ref b5)])) _
    refine XS.dup X5.here hx rfl (hb hby at_35) rfl rfl ?_
    show Steps p.tables e below (T5.setTop (mkF m 36 #[.val (.int p1), .val (.int p2), .val (.long q3), .second, .val (.int p4), .val (.int lim), .val (.int (Int32.ofNat nn)), .unset, .unset, .unset, .unset, .unset] [(.ref b5), (.ref b5)])) _
    refine st6.trans ?_
    show Steps p.tables e below (T6.setTop (mkF m 39 #[.val (.int p1), .val (.int p2), .val (.long q3), .second, .val (.int p4), .val (.int lim), .val (.int (Int32.ofNat nn)), .unset, .unset, .unset, .unset, .unset] [(.ref b5)])) _
    refine XS.astore X6.here hx rfl (hb hby at_39) rfl rfl (l' := #[.val (.int p1), .val (.int p2), .val (.long q3), .second, .val (.int p4), .val (.int lim), .val (.int (Int32.ofNat nn)), .val (.ref b5), .unset, .unset, .unset, .unset]) rfl ?_
    show Steps p.tables e below (T6.setTop (mkF m 41 #[.val (.int p1), .val (.int p2), .val (.long q3), .second, .val (.int p4), .val (.int lim), .val (.int (Int32.ofNat nn)), .val (.ref b5), .unset, .unset, .unset, .unset] [])) _
    refine stg0 _ ?_
    show Steps p.tables e below (Tg0.setTop (mkF m 59 #[.val (.int p1), .val (.int p2), .val (.long q3), .second, .val (.int p4), .val (.int lim), .val (.int (Int32.ofNat nn)), .val (.ref b5), .unset, .unset, .unset, .unset] [])) _
    refine stg1 _ ?_
    show Steps p.tables e below (Tg1.setTop (mkF m 78 #[.val (.int p1), .val (.int p2), .val (.long q3), .second, .val (.int p4), .val (.int lim), .val (.int (Int32.ofNat nn)), .val (.ref b5), .unset, .unset, .unset, .unset] [])) _
    refine stg2 _ ?_
    show Steps p.tables e below (Tg2.setTop (mkF m 97 #[.val (.int p1), .val (.int p2), .val (.long q3), .second, .val (.int p4), .val (.int lim), .val (.int (Int32.ofNat nn)), .val (.ref b5), .unset, .unset, .unset, .unset] [])) _
    refine stg3 _ ?_
    show Steps p.tables e below (Tg3.setTop (mkF m 116 #[.val (.int p1), .val (.int p2), .val (.long q3), .second, .val (.int p4), .val (.int lim), .val (.int (Int32.ofNat nn)), .val (.ref b5), .unset, .unset, .unset, .unset] [])) _
    refine stg4 _ ?_
    show Steps p.tables e below (Tg4.setTop (mkF m 135 #[.val (.int p1), .val (.int p2), .val (.long q3), .second, .val (.int p4), .val (.int lim), .val (.int (Int32.ofNat nn)), .val (.ref b5), .unset, .unset, .unset, .unset] [])) _
    refine stg5 _ ?_
    show Steps p.tables e below (Tg5.setTop (mkF m 154 #[.val (.int p1), .val (.int p2), .val (.long q3), .second, .val (.int p4), .val (.int lim), .val (.int (Int32.ofNat nn)), .val (.ref b5), .unset, .unset, .unset, .unset] [])) _
    refine stg6 _ ?_
    show Steps p.tables e below (Tg6.setTop (mkF m 175 #[.val (.int p1), .val (.int p2), .val (.long q3), .second, .val (.int p4), .val (.int lim), .val (.int (Int32.ofNat nn)), .val (.ref b5), .unset, .unset, .unset, .unset] [])) _
    refine stg7 _ ?_
    show Steps p.tables e below (Tg7.setTop (mkF m 196 #[.val (.int p1), .val (.int p2), .val (.long q3), .second, .val (.int p4), .val (.int lim), .val (.int (Int32.ofNat nn)), .val (.ref b5), .unset, .unset, .unset, .unset] [])) _
    refine stn _ ?_
    show Steps p.tables e below (Tn.setTop (mkF m 221 #[.val (.int p1), .val (.int p2), .val (.long q3), .second, .val (.int p4), .val (.int lim), .val (.int (Int32.ofNat nn)), .val (.ref b5), .unset, .unset, .unset, .unset] [(.ref bn)])) _
    refine XS.astore Xn.here hx rfl (hb hby at_221) rfl rfl (l' := #[.val (.int p1), .val (.int p2), .val (.long q3), .second, .val (.int p4), .val (.int lim), .val (.int (Int32.ofNat nn)), .val (.ref b5), .val (.ref bn), .unset, .unset, .unset]) rfl ?_
    show Steps p.tables e below (Tn.setTop (mkF m 223 #[.val (.int p1), .val (.int p2), .val (.long q3), .second, .val (.int p4), .val (.int lim), .val (.int (Int32.ofNat nn)), .val (.ref b5), .val (.ref bn), .unset, .unset, .unset] [])) _
    refine st7 _ ?_
    show Steps p.tables e below (T7.setTop (mkF m 226 #[.val (.int p1), .val (.int p2), .val (.long q3), .second, .val (.int p4), .val (.int lim), .val (.int (Int32.ofNat nn)), .val (.ref b5), .val (.ref bn), .unset, .unset, .unset] [(.ref b7)])) _
    refine XS.dup X7.here hx rfl (hb hby at_226) rfl rfl ?_
    show Steps p.tables e below (T7.setTop (mkF m 227 #[.val (.int p1), .val (.int p2), .val (.long q3), .second, .val (.int p4), .val (.int lim), .val (.int (Int32.ofNat nn)), .val (.ref b5), .val (.ref bn), .unset, .unset, .unset] [(.ref b7), (.ref b7)])) _
    refine XS.iload X7.here hx rfl (hb hby at_227) rfl ?_
    show Steps p.tables e below (T7.setTop (mkF m 229 #[.val (.int p1), .val (.int p2), .val (.long q3), .second, .val (.int p4), .val (.int lim), .val (.int (Int32.ofNat nn)), .val (.ref b5), .val (.ref bn), .unset, .unset, .unset] [(.int lim), (.ref b7), (.ref b7)])) _
    refine st8.trans ?_
    show Steps p.tables e below (T8.setTop (mkF m 232 #[.val (.int p1), .val (.int p2), .val (.long q3), .second, .val (.int p4), .val (.int lim), .val (.int (Int32.ofNat nn)), .val (.ref b5), .val (.ref bn), .unset, .unset, .unset] [(.ref b7)])) _
    refine XS.astore X8.here hx rfl (hb hby at_232) rfl rfl (l' := #[.val (.int p1), .val (.int p2), .val (.long q3), .second, .val (.int p4), .val (.int lim), .val (.int (Int32.ofNat nn)), .val (.ref b5), .val (.ref bn), .val (.ref b7), .unset, .unset]) rfl ?_
    show Steps p.tables e below (T8.setTop (mkF m 234 #[.val (.int p1), .val (.int p2), .val (.long q3), .second, .val (.int p4), .val (.int lim), .val (.int (Int32.ofNat nn)), .val (.ref b5), .val (.ref bn), .val (.ref b7), .unset, .unset] [])) _
    refine XS.aload X8.here hx rfl (hb hby at_234) rfl rfl ?_
    show Steps p.tables e below (T8.setTop (mkF m 236 #[.val (.int p1), .val (.int p2), .val (.long q3), .second, .val (.int p4), .val (.int lim), .val (.int (Int32.ofNat nn)), .val (.ref b5), .val (.ref bn), .val (.ref b7), .unset, .unset] [(.ref b7)])) _
    refine XS.aload X8.here hx rfl (hb hby at_236) rfl rfl ?_
    show Steps p.tables e below (T8.setTop (mkF m 238 #[.val (.int p1), .val (.int p2), .val (.long q3), .second, .val (.int p4), .val (.int lim), .val (.int (Int32.ofNat nn)), .val (.ref b5), .val (.ref bn), .val (.ref b7), .unset, .unset] [(.ref b5), (.ref b7)])) _
    refine XS.aload X8.here hx rfl (hb hby at_238) rfl rfl ?_
    show Steps p.tables e below (T8.setTop (mkF m 240 #[.val (.int p1), .val (.int p2), .val (.long q3), .second, .val (.int p4), .val (.int lim), .val (.int (Int32.ofNat nn)), .val (.ref b5), .val (.ref bn), .val (.ref b7), .unset, .unset] [(.ref bn), (.ref b5), (.ref b7)])) _
    refine st9.trans ?_
    show Steps p.tables e below (T9.setTop (mkF m 243 #[.val (.int p1), .val (.int p2), .val (.long q3), .second, .val (.int p4), .val (.int lim), .val (.int (Int32.ofNat nn)), .val (.ref b5), .val (.ref bn), .val (.ref b7), .unset, .unset] [(.ref tu)])) _
    refine XS.astore X9.here hx rfl (hb hby at_243) rfl rfl (l' := #[.val (.int p1), .val (.int p2), .val (.long q3), .second, .val (.int p4), .val (.int lim), .val (.int (Int32.ofNat nn)), .val (.ref b5), .val (.ref bn), .val (.ref b7), .val (.ref tu), .unset]) rfl ?_
    show Steps p.tables e below (T9.setTop (mkF m 245 #[.val (.int p1), .val (.int p2), .val (.long q3), .second, .val (.int p4), .val (.int lim), .val (.int (Int32.ofNat nn)), .val (.ref b5), .val (.ref bn), .val (.ref b7), .val (.ref tu), .unset] [])) _
    refine XS.iload X9.here hx rfl (hb hby at_245) rfl ?_
    show Steps p.tables e below (T9.setTop (mkF m 247 #[.val (.int p1), .val (.int p2), .val (.long q3), .second, .val (.int p4), .val (.int lim), .val (.int (Int32.ofNat nn)), .val (.ref b5), .val (.ref bn), .val (.ref b7), .val (.ref tu), .unset] [(.int (Int32.ofNat nn))])) _
    refine XS.iload X9.here hx rfl (hb hby at_247) rfl ?_
    show Steps p.tables e below (T9.setTop (mkF m 249 #[.val (.int p1), .val (.int p2), .val (.long q3), .second, .val (.int p4), .val (.int lim), .val (.int (Int32.ofNat nn)), .val (.ref b5), .val (.ref bn), .val (.ref b7), .val (.ref tu), .unset] [(.int lim), (.int (Int32.ofNat nn))])) _
    refine own_tic_gt X9.here hx (hb hby at_249) (hb hby at_252) (hb hby at_253) (hb hby at_256) ?_
    show Steps p.tables e below (T9.setTop (mkF m 257 #[.val (.int p1), .val (.int p2), .val (.long q3), .second, .val (.int p4), .val (.int lim), .val (.int (Int32.ofNat nn)), .val (.ref b5), .val (.ref bn), .val (.ref b7), .val (.ref tu), .unset] [(.int (if ¬ (lim < (Int32.ofNat nn)) then (1 : Int32) else 0))])) _
    refine XS.istore X9.here hx rfl (hb hby at_257) rfl (l' := #[.val (.int p1), .val (.int p2), .val (.long q3), .second, .val (.int p4), .val (.int lim), .val (.int (Int32.ofNat nn)), .val (.ref b5), .val (.ref bn), .val (.ref b7), .val (.ref tu), .val (.int (if ¬ (lim < (Int32.ofNat nn)) then (1 : Int32) else 0))]) rfl ?_
    show Steps p.tables e below (T9.setTop (mkF m 259 #[.val (.int p1), .val (.int p2), .val (.long q3), .second, .val (.int p4), .val (.int lim), .val (.int (Int32.ofNat nn)), .val (.ref b5), .val (.ref bn), .val (.ref b7), .val (.ref tu), .val (.int (if ¬ (lim < (Int32.ofNat nn)) then (1 : Int32) else 0))] [])) _
    refine XS.aload X9.here hx rfl (hb hby at_259) rfl rfl ?_
    show Steps p.tables e below (T9.setTop (mkF m 261 #[.val (.int p1), .val (.int p2), .val (.long q3), .second, .val (.int p4), .val (.int lim), .val (.int (Int32.ofNat nn)), .val (.ref b5), .val (.ref bn), .val (.ref b7), .val (.ref tu), .val (.int (if ¬ (lim < (Int32.ofNat nn)) then (1 : Int32) else 0))] [(.ref tu)])) _
    refine XS.ifnullNo X9.here hx rfl (hb hby at_261) rfl ?_
    show Steps p.tables e below (T9.setTop (mkF m 264 #[.val (.int p1), .val (.int p2), .val (.long q3), .second, .val (.int p4), .val (.int lim), .val (.int (Int32.ofNat nn)), .val (.ref b5), .val (.ref bn), .val (.ref b7), .val (.ref tu), .val (.int (if ¬ (lim < (Int32.ofNat nn)) then (1 : Int32) else 0))] [])) _
    refine XS.aload X9.here hx rfl (hb hby at_264) rfl rfl ?_
    show Steps p.tables e below (T9.setTop (mkF m 266 #[.val (.int p1), .val (.int p2), .val (.long q3), .second, .val (.int p4), .val (.int lim), .val (.int (Int32.ofNat nn)), .val (.ref b5), .val (.ref bn), .val (.ref b7), .val (.ref tu), .val (.int (if ¬ (lim < (Int32.ofNat nn)) then (1 : Int32) else 0))] [(.ref tu)])) _
    refine st10.trans ?_
    show Steps p.tables e below (T10.setTop (mkF m 269 #[.val (.int p1), .val (.int p2), .val (.long q3), .second, .val (.int p4), .val (.int lim), .val (.int (Int32.ofNat nn)), .val (.ref b5), .val (.ref bn), .val (.ref b7), .val (.ref tu), .val (.int (if ¬ (lim < (Int32.ofNat nn)) then (1 : Int32) else 0))] [(.int (0 : Int32))])) _
    refine XS.iload X10.here hx rfl (hb hby at_269) rfl ?_
    show Steps p.tables e below (T10.setTop (mkF m 271 #[.val (.int p1), .val (.int p2), .val (.long q3), .second, .val (.int p4), .val (.int lim), .val (.int (Int32.ofNat nn)), .val (.ref b5), .val (.ref bn), .val (.ref b7), .val (.ref tu), .val (.int (if ¬ (lim < (Int32.ofNat nn)) then (1 : Int32) else 0))] [(.int (if ¬ (lim < (Int32.ofNat nn)) then (1 : Int32) else 0)), (.int (0 : Int32))])) _
    refine XS.icmpNo X10.here hx rfl (hb hby at_271) rfl (teq hc271).2 ?_
    show Steps p.tables e below (T10.setTop (mkF m 274 #[.val (.int p1), .val (.int p2), .val (.long q3), .second, .val (.int p4), .val (.int lim), .val (.int (Int32.ofNat nn)), .val (.ref b5), .val (.ref bn), .val (.ref b7), .val (.ref tu), .val (.int (if ¬ (lim < (Int32.ofNat nn)) then (1 : Int32) else 0))] [])) _
    refine XS.aload X10.here hx rfl (hb hby at_274) rfl rfl ?_
    show Steps p.tables e below (T10.setTop (mkF m 276 #[.val (.int p1), .val (.int p2), .val (.long q3), .second, .val (.int p4), .val (.int lim), .val (.int (Int32.ofNat nn)), .val (.ref b5), .val (.ref bn), .val (.ref b7), .val (.ref tu), .val (.int (if ¬ (lim < (Int32.ofNat nn)) then (1 : Int32) else 0))] [(.ref tu)])) _
    refine st11.trans ?_
    show Steps p.tables e below (T11.setTop (mkF m 279 #[.val (.int p1), .val (.int p2), .val (.long q3), .second, .val (.int p4), .val (.int lim), .val (.int (Int32.ofNat nn)), .val (.ref b5), .val (.ref bn), .val (.ref b7), .val (.ref tu), .val (.int (if ¬ (lim < (Int32.ofNat nn)) then (1 : Int32) else 0))] [.null])) _
    refine XS.ifnonnullNo X11.here hx rfl (hb hby at_279) rfl ?_
    show Steps p.tables e below (T11.setTop (mkF m 282 #[.val (.int p1), .val (.int p2), .val (.long q3), .second, .val (.int p4), .val (.int lim), .val (.int (Int32.ofNat nn)), .val (.ref b5), .val (.ref bn), .val (.ref b7), .val (.ref tu), .val (.int (if ¬ (lim < (Int32.ofNat nn)) then (1 : Int32) else 0))] [])) _
    refine XS.iconst X11.here hx rfl (hb hby at_282) ?_
    show Steps p.tables e below (T11.setTop (mkF m 283 #[.val (.int p1), .val (.int p2), .val (.long q3), .second, .val (.int p4), .val (.int lim), .val (.int (Int32.ofNat nn)), .val (.ref b5), .val (.ref bn), .val (.ref b7), .val (.ref tu), .val (.int (if ¬ (lim < (Int32.ofNat nn)) then (1 : Int32) else 0))] [(.int (1 : Int32))])) _
    refine XS.goto X11.here hx rfl (pc0 := 283) (pc' := 287) rfl (hb hby at_283) (by decide) (by decide) ?_
    show Steps p.tables e below (T11.setTop (mkF m 287 #[.val (.int p1), .val (.int p2), .val (.long q3), .second, .val (.int p4), .val (.int lim), .val (.int (Int32.ofNat nn)), .val (.ref b5), .val (.ref bn), .val (.ref b7), .val (.ref tu), .val (.int (if ¬ (lim < (Int32.ofNat nn)) then (1 : Int32) else 0))] [(.int (1 : Int32))])) _
    exact retN X11 hx (t := .boolean) Bd.returns (by simp) (hb hby at_287) hr
  · show Q0 Z p1 p2 q3 p4 nn d0 cl_d0 cs tu h0 n0 _ T11.heap _
    rw [e11]
    exact ⟨rfl, N11⟩
theorem own_fint {s : State} {args : Array Value} {t : Term} {x : Addr} {C n d : String} {k : Int32} (ht : t.eval args s none [] s = some (.ref x)) (h : (Cond.eq (.field t C n d) (.int k)).value args s none s [] = some true) : Fld s s.heap x C n d (.int k) := by
  obtain ⟨u, y, eu, ey, k1, k2⟩ := cmp_v (Or.inl h)
  obtain rfl : y = .int k := Option.some.inj (ey.symm.trans (Term.int_eval k))
  obtain ⟨z, rfl⟩ := k2
  obtain rfl : z = k := gotT (Cond.eq_ints eu (Term.int_eval k)) h
  exact Fld.start ((fld_at ht).symm.trans eu)
theorem own_len {s : State} {args : Array Value} {t : Term} {x : Addr} {cl : Cell} {ty : FieldType} (ht : t.eval args s none [] s = some (.ref x)) (A : Arr s s.heap x cl ty) (h : (Cond.eq (.length t) (.int 0)).value args s none s [] = some true) : cl.slots.size = (0 : Int32).toNatClampNeg := by
  obtain ⟨u, y, eu, ey, k1, k2⟩ := cmp_v (Or.inl h)
  obtain rfl : y = .int 0 := Option.some.inj (ey.symm.trans (Term.int_eval 0))
  obtain ⟨z, rfl⟩ := k2
  obtain rfl : z = 0 := gotT (Cond.eq_ints eu (Term.int_eval 0)) h
  obtain ⟨b, cell, e1, e2, hl, e3⟩ := Jvm.Lib.length_spec eu
  obtain rfl : b = x := Value.ref.inj (Option.some.inj (e1.symm.trans ht))
  obtain rfl : cell = cl := Option.some.inj (e2.symm.trans (Arr.fin (Vm.Alike.refl _) A))
  have hz : cell.slots.size.toInt32 = 0 := (Value.int.inj e3).symm
  have q := len_toInt hl
  rw [hz] at q
  have h0 : (0 : Int32).toInt = 0 := rfl
  show cell.slots.size = 0
  omega
set_option maxRecDepth 65536 in
set_option maxHeartbeats 40000000 in
theorem comes_1 {Post : Tables → Env → Array Value → State → Outcome → State → Prop} (hpost : ∀ tb e args s v u, (limb_1_1.after args s (.returned v) u = true ∧ limb_1_2.after args s (.returned v) u = true ∧ True) → FrameEnd s (.returned v) u (Jvm.fieldLocs frame_1_writes args s ++ Jvm.arrayLocs frame_1_arrays args s ++ Jvm.staticLocs frame_1_statics s) 56 192 → Post tb e args s (.returned v) u) :
    ArmFor flags0 classFile x code maxLocals ret World_1 tables_1 room_1 Calls_1 rest_1 Pre_1 Post := by
  intro l hfl _ _ p e ha hc hk s m args below hf hA hF happ hP
  obtain ⟨hcalls, hrest, hpre⟩ := hP
  obtain ⟨-, -, -, hnamed, -, -, -, hat⟩ := (Spec.applies_iff hf).mp happ
  obtain ⟨hg, hn⟩ := and_e (Cond.before_iff.mp (show (Jvm.Cond.and given_1 narrow_1).before args s = true from hpre))
  obtain ⟨g12, g13⟩ := and_e hg
  obtain ⟨g14, g15⟩ := and_e g13
  obtain ⟨g16, g17⟩ := and_e g15
  obtain ⟨g18, g19⟩ := and_e g17
  obtain ⟨w0, w1, w2, w3, rfl⟩ : ∃ w0 w1 w2 w3 : Value, args = #[w0, w1, w2, w3] := by
    have hs : args.size = 4 := by simpa [Cond.value, given_1] using g12
    obtain ⟨L⟩ := args
    match L, hs with
    | [w0, w1, w2, w3], _ => exact ⟨w0, w1, w2, w3, rfl⟩
  have hw := fun d (hd : d ∈ tables_1) => atoms_spec (ws := Jvm.Cond.code x code maxLocals ret :: tables_1) hat d (List.mem_cons_of_mem _ hd)
  have hfit : Fit s := fun {y c} hc i hi => by
    obtain ⟨ha, rfl⟩ := Array.getElem?_eq_some_iff.mp hc
    have q := List.all_eq_true.mp ((Array.all_eq_true_iff_forall_mem.mp hF) _ (Array.getElem_mem ha)) i (List.mem_range.mpr hi)
    simpa [Array.getElem?_eq_getElem hi] using q
  obtain ⟨hsets, hown0⟩ := atoms_of _ (rest_1_c_eq ▸ (show rest_1_c.before _ s = true from hrest))
  have hr0 := Cond.before_iff.mp hown0
  obtain ⟨i0, ei0⟩ := is_v g14
  obtain rfl : w0 = (.int i0) := Option.some.inj ei0
  obtain ⟨i1, ei1⟩ := is_v g16
  obtain rfl : w1 = (.int i1) := Option.some.inj ei1
  obtain ⟨i2, ei2⟩ := isL_v g18
  obtain rfl : w2 = (.long i2) := Option.some.inj ei2
  obtain ⟨i3, ei3⟩ := is_v g19
  obtain rfl : w3 = (.int i3) := Option.some.inj ei3
  obtain ⟨a1, n1⟩ := and_e hn
  obtain ⟨a2, n2⟩ := and_e n1
  obtain ⟨a3, n3⟩ := and_e n2
  obtain ⟨a4, n4⟩ := and_e n3
  obtain ⟨a5, a6⟩ := and_e n4
  obtain ⟨tA, eA⟩ := exa_v a1
  have EA : Exa s s.heap tA "com/example/ordinal_lock/ordinallock/protocol/TurnRule$Turn" := Exa.start eA a1
  have CA := own_fint eA a2
  have NA : Fld s s.heap tA "com/example/ordinal_lock/ordinallock/protocol/TurnRule$Turn" "nodeAhead" "Ljava/lang/String;" .null := Fld.start ((fld_at eA).symm.trans (null_v a3))
  have SA : Sta s s.heap "com/example/ordinal_lock/ordinallock/protocol/TurnRule$Turn" "AWAIT_CHILDREN" "Lcom/example/ordinal_lock/ordinallock/protocol/TurnRule$Turn;" (.ref tA) := Sta.start eA (Or.inr ⟨(hw _ (List.mem_of_getElem? (i := 118) rfl)), (hw _ (List.mem_of_getElem? (i := 119) rfl))⟩)
  obtain ⟨tC, eC⟩ := exa_v a4
  have EC : Exa s s.heap tC "com/example/ordinal_lock/ordinallock/protocol/TurnRule$Turn" := Exa.start eC a4
  have CC := own_fint eC a5
  have NC : Fld s s.heap tC "com/example/ordinal_lock/ordinallock/protocol/TurnRule$Turn" "nodeAhead" "Ljava/lang/String;" .null := Fld.start ((fld_at eC).symm.trans (null_v a6))
  have SC0 : Sta s s.heap "com/example/ordinal_lock/ordinallock/protocol/TurnRule$Turn" "COME" "Lcom/example/ordinal_lock/ordinallock/protocol/TurnRule$Turn;" (.ref tC) := Sta.start eC (Or.inr ⟨(hw _ (List.mem_of_getElem? (i := 118) rfl)), (hw _ (List.mem_of_getElem? (i := 135) rfl))⟩)
  obtain ⟨d0, eD⟩ := arr_v (Cond.before_iff.mp (hsets _ (List.mem_of_getElem? (i := 6) rfl)))
  obtain ⟨cl, AD⟩ := Arr.start eD (Cond.before_iff.mp (hsets _ (List.mem_of_getElem? (i := 6) rfl)))
  have SD : Sta s s.heap "java/util/ArrayList" "DEFAULTCAPACITY_EMPTY_ELEMENTDATA" "[Ljava/lang/Object;" (.ref d0) := Sta.start eD (Or.inr ⟨(hw _ (List.mem_of_getElem? (i := 2) rfl)), (hsets _ (List.mem_of_getElem? (i := 2) rfl))⟩)
  have S_d0 : cl.slots.size = (0 : Int32).toNatClampNeg := own_len eD AD (Cond.before_iff.mp (hsets _ (List.mem_of_getElem? (i := 8) rfl)))
  obtain ⟨cs, ecs⟩ := is_v (Cond.before_iff.mp (hsets _ (List.mem_of_getElem? (i := 10) rfl)))
  have SC : Sta s s.heap "java/lang/String" "COMPACT_STRINGS" "Z" (.int cs) := Sta.start ecs (Or.inl (hsets _ (List.mem_of_getElem? (i := 9) rfl)))
  have hcs : ¬ (cs = (0 : Int32)) := gotF (Cond.eq_ints ecs (Term.int_eval (0))) (not_v (Cond.before_iff.mp (hsets _ (List.mem_of_getElem? (i := 11) rfl))))
  obtain ⟨nn, hnn, hvn⟩ := own_num i1
  by_cases hlim : own_lim i0 i1 < Int32.ofNat nn
  · skip
    obtain ⟨n, o, h1, h2, h3, _, L, rfl, ⟨rfl, N⟩, hq⟩ := rm0b l s _ hw tables_1 i0 i1 i2 i3 nn d0 cl cs tA s.heap s.heap.size (Nat.le_refl _) (Old.start s) SD AD S_d0 SC hcs hnn hvn SA EA CA NA hlim p e ha hc hk s m _ below hf ((Spec.applies_iff_loose hf).mp happ).1 ⟨rfl, State.Warmed39.refl s, rfl⟩ trivial
    refine ⟨n, _, h1, h2, h3, hpost _ _ _ _ _ _ ⟨Cond.after_iff.mpr rfl, Cond.after_iff.mpr (eq_i res_at (Term.int_eval (1)) rfl), trivial⟩ ⟨hq.1, hq.2.1, (hq.2.2.sift fun y hy => Or.inr (N y hy)).mono (by decide) (by decide)⟩⟩
  · skip
    obtain ⟨n, o, h1, h2, h3, _, L, rfl, ⟨rfl, N⟩, hq⟩ := rm0a l s _ hw tables_1 i0 i1 i2 i3 nn d0 cl cs tC s.heap s.heap.size (Nat.le_refl _) (Old.start s) SD AD S_d0 SC hcs hnn hvn SC0 EC CC NC hlim p e ha hc hk s m _ below hf ((Spec.applies_iff_loose hf).mp happ).1 ⟨rfl, State.Warmed39.refl s, rfl⟩ trivial
    refine ⟨n, _, h1, h2, h3, hpost _ _ _ _ _ _ ⟨Cond.after_iff.mpr rfl, Cond.after_iff.mpr (eq_i res_at (Term.int_eval (1)) rfl), trivial⟩ ⟨hq.1, hq.2.1, (hq.2.2.sift fun y hy => Or.inr (N y hy)).mono (by decide) (by decide)⟩⟩
theorem main_1_1 : Claimed_1_1 := comes_1 fun _ _ _ _ _ _ h hF => ⟨h.1, hF⟩
theorem main_1_2 : Claimed_1_2 := comes_1 fun _ _ _ _ _ _ h hF => ⟨h.2.1, hF⟩
end Jvm.Pilot.@@N@@
namespace Jvm.Pilot.@@N@@
open Jvm Jvm.ClassFile Sem Op Lib Jvm.Free Jvm.Stand Jvm.Pilot.@@N@@.Jvm.D
/-! MADE BY PROGRAM (witnessworld.py) out of the Statement's table words and the real class files: 30 classes; the members and pool entries that the words name. The judged class is class 1, her method 2. -/
namespace start1
open Jvm.ClassFile
def u (s : String) : CpInfo := .utf8 (stringToUtf16 s)
/-- a pool by its gaps: so many unusable entries, then the entry; so many at the end -/
def gap : Nat → List CpInfo → List CpInfo
  | 0, r => r
  | n + 1, r => .unusable :: gap n r
def poolList (es : List (Nat × CpInfo)) (last : Nat) : List CpInfo := es.foldr (fun e r => gap e.1 (e.2 :: r)) (gap last [])
def pool (es : List (Nat × CpInfo)) (last : Nat) : Array CpInfo := ⟨poolList es last⟩
def fileOf (pool : Array CpInfo) (this : Nat) (attrs : Array Attribute := #[]) (ms : Array MethodInfo := #[]) (fl : Nat := 33) (sup : Nat := 0) (ifs : Array Nat := #[]) (fds : Array FieldInfo := #[]) : ClassFile where
  minorVersion := 0
  majorVersion := 65
  constantPool := pool
  accessFlags := fl
  thisClass := this
  superClass := sup
  interfaces := ifs
  fields := fds
  methods := ms
  attributes := attrs
def plain (name : String) (sup : Option ClassId) : Class where
  name := name
  kind := .ordinary
  loader := none
  accessFlags := 33
  super := sup
  interfaces := #[]
  cf := none
  fields := #[]
  methods := #[]
  instanceTypes := #[]
  staticTypes := #[]
  resolved := #[]
  callSites := []
  init := .initialized
  statics := none
  mirror := none

def pool0 : Array CpInfo := pool [(5, u "<init>"), (0, u "()V"), (1, .class_ 10), (1, u "java/lang/Object")] 113

def k0c0 : Code := { maxStack := 0, maxLocals := 1, code := object_method_1_code, exceptionTable := #[], attributes := #[] }
def k0m0 : Method := { name := "<init>", desc := "()V", sig := { parameters := [], returnType := none }, accessFlags := 1, code := some k0c0 }
/-- java/lang/Object -/
def k0 : Class := { plain "java/lang/Object" none with
  accessFlags := 33
  interfaces := #[]
  cf := some (fileOf pool0 8 #[] #[{ accessFlags := 1, nameIndex := 5, descriptorIndex := 6, attributes := #[] }] 33 0 #[] #[])
  fields := #[]
  methods := #[k0m0]
  instanceTypes := #[]
  staticTypes := #[]
  resolved := Array.replicate 124 none
  statics := none }

def pool1 : Array CpInfo := pool [(2, .class_ 4), (0, .nameAndType 5 6), (0, u "java/lang/Object"), (0, u "<init>"), (0, u "()V"), (0, .long 255), (1, .methodref 10 11), (0, .class_ 12), (0, .nameAndType 13 14), (0, u "java/lang/String"), (0, u "valueOf"), (0, u "(C)Ljava/lang/String;"), (0, .methodref 16 17), (0, .class_ 18), (0, .nameAndType 19 20), (0, u "java/lang/Math"), (0, u "max"), (0, u "(II)I"), (0, .class_ 22), (0, u "java/util/ArrayList"), (0, .methodref 21 3), (0, .methodref 25 26), (0, .class_ 27), (0, .nameAndType 28 29), (0, u "com/example/ordinal_lock/ordinallock/protocol/WithinLimitTurnPinLaw"), (0, u "ch"), (0, u "(JI)Ljava/lang/String;"), (0, .interfaceMethodref 31 32), (0, .class_ 33), (0, .nameAndType 34 35), (0, u "java/util/List"), (0, u "add"), (0, u "(Ljava/lang/Object;)Z"), (0, .class_ 37), (0, u "com/example/ordinal_lock/ordinallock/protocol/TurnRule$WithinLimit"), (0, .methodref 36 39), (0, .nameAndType 5 40), (0, u "(I)V"), (0, .methodref 36 42), (0, .nameAndType 43 44), (0, u "turn"), (0, u "(Ljava/util/List;Ljava/lang/String;)Lcom/example/ordinal_lock/ordinallock/protocol/TurnRule$Turn;"), (0, .methodref 46 47), (0, .class_ 48), (0, .nameAndType 49 50), (0, u "com/example/ordinal_lock/ordinallock/protocol/TurnRule$Turn"), (0, u "come"), (0, u "()Z"), (0, .methodref 46 52), (0, .nameAndType 53 54), (0, u "nodeAhead"), (0, u "()Ljava/lang/String;"), (2, u "law"), (0, u "(IIJI)Z")] 8

def k1m0 : Method := { name := "<init>", desc := "()V", sig := { parameters := [], returnType := none }, accessFlags := 1, code := none }
def k1c1 : Code := { maxStack := 4, maxLocals := 3, code := method_2_code, exceptionTable := #[], attributes := #[] }
def k1m1 : Method := { name := "ch", desc := "(JI)Ljava/lang/String;", sig := { parameters := [.long, .int], returnType := some (.object "java/lang/String") }, accessFlags := 10, code := some k1c1 }
def k1c2 : Code := { maxStack := 4, maxLocals := 12, code := code, exceptionTable := #[], attributes := #[] }
def k1m2 : Method := { name := "law", desc := "(IIJI)Z", sig := { parameters := [.int, .int, .long, .int], returnType := some .boolean }, accessFlags := 9, code := some k1c2 }
/-- com/example/ordinal_lock/ordinallock/protocol/WithinLimitTurnPinLaw -/
def k1 : Class := { plain "com/example/ordinal_lock/ordinallock/protocol/WithinLimitTurnPinLaw" (some 0) with
  accessFlags := 49
  interfaces := #[]
  cf := some (fileOf pool1 25 #[] #[{ accessFlags := 1, nameIndex := 5, descriptorIndex := 6, attributes := #[] }, { accessFlags := 10, nameIndex := 28, descriptorIndex := 29, attributes := #[] }, { accessFlags := 9, nameIndex := 57, descriptorIndex := 58, attributes := #[] }] 49 2 #[] #[])
  fields := #[]
  methods := #[k1m0, k1m1, k1m2]
  instanceTypes := #[]
  staticTypes := #[]
  resolved := Array.replicate 67 none
  statics := none }

def pool2 : Array CpInfo := pool [(8, .class_ 10), (1, u "java/lang/Iterable"), (24, .class_ 36), (0, u "java/lang/Object")] 25

/-- java/lang/Iterable -/
def k2 : Class := { plain "java/lang/Iterable" (some 0) with
  accessFlags := 1537
  interfaces := #[]
  cf := some (fileOf pool2 8 #[] #[] 1537 35 #[] #[])
  fields := #[]
  methods := #[]
  instanceTypes := #[]
  staticTypes := #[]
  resolved := Array.replicate 62 none
  statics := none }

def pool3 : Array CpInfo := pool [(10, .class_ 12), (1, u "java/util/Collection"), (47, .class_ 61), (0, u "java/lang/Object"), (0, .class_ 63), (0, u "java/lang/Iterable")] 51

/-- java/util/Collection -/
def k3 : Class := { plain "java/util/Collection" (some 0) with
  accessFlags := 1537
  interfaces := #[2]
  cf := some (fileOf pool3 10 #[] #[] 1537 60 #[62] #[])
  fields := #[]
  methods := #[]
  instanceTypes := #[]
  staticTypes := #[]
  resolved := Array.replicate 115 none
  statics := none }

def pool4 : Array CpInfo := pool [(1, .methodref 2 3), (0, .class_ 4), (0, .nameAndType 5 6), (0, u "java/lang/Object"), (0, u "<init>"), (0, u "()V"), (1, .class_ 10), (1, u "java/util/AbstractCollection"), (66, .class_ 78), (0, u "java/util/Collection")] 81

def k4c0 : Code := { maxStack := 1, maxLocals := 1, code := jdk_22_method_1_code, exceptionTable := #[], attributes := #[] }
def k4m0 : Method := { name := "<init>", desc := "()V", sig := { parameters := [], returnType := none }, accessFlags := 4, code := some k4c0 }
/-- java/util/AbstractCollection -/
def k4 : Class := { plain "java/util/AbstractCollection" (some 0) with
  accessFlags := 1057
  interfaces := #[3]
  cf := some (fileOf pool4 8 #[] #[{ accessFlags := 4, nameIndex := 5, descriptorIndex := 6, attributes := #[] }] 1057 2 #[77] #[])
  fields := #[]
  methods := #[k4m0]
  instanceTypes := #[]
  staticTypes := #[]
  resolved := Array.replicate 160 none
  statics := none }

def pool5 : Array CpInfo := pool [(8, .class_ 10), (1, u "java/util/SequencedCollection"), (15, .class_ 27), (0, u "java/lang/Object"), (0, .class_ 29), (0, u "java/util/Collection")] 27

/-- java/util/SequencedCollection -/
def k5 : Class := { plain "java/util/SequencedCollection" (some 0) with
  accessFlags := 1537
  interfaces := #[3]
  cf := some (fileOf pool5 8 #[] #[] 1537 26 #[28] #[])
  fields := #[]
  methods := #[]
  instanceTypes := #[]
  staticTypes := #[]
  resolved := Array.replicate 57 none
  statics := none }

def pool6 : Array CpInfo := pool [(8, .class_ 10), (1, u "java/util/List"), (49, u "add"), (3, u "(Ljava/lang/Object;)Z"), (14, u "size"), (0, u "()I"), (22, .class_ 104), (0, u "java/lang/Object"), (15, .class_ 121), (0, u "java/util/SequencedCollection")] 129

def k6m0 : Method := { name := "size", desc := "()I", sig := { parameters := [], returnType := some .int }, accessFlags := 1025, code := none }
def k6m1 : Method := { name := "add", desc := "(Ljava/lang/Object;)Z", sig := { parameters := [(.object "java/lang/Object")], returnType := some .boolean }, accessFlags := 1025, code := none }
/-- java/util/List -/
def k6 : Class := { plain "java/util/List" (some 0) with
  accessFlags := 1537
  interfaces := #[5]
  cf := some (fileOf pool6 8 #[] #[{ accessFlags := 1025, nameIndex := 79, descriptorIndex := 80, attributes := #[] }, { accessFlags := 1025, nameIndex := 60, descriptorIndex := 64, attributes := #[] }] 1537 103 #[120] #[])
  fields := #[]
  methods := #[k6m0, k6m1]
  instanceTypes := #[]
  staticTypes := #[]
  resolved := Array.replicate 251 none
  statics := none }

def pool7 : Array CpInfo := pool [(1, .methodref 2 3), (0, .class_ 4), (0, .nameAndType 5 6), (0, u "java/util/AbstractCollection"), (0, u "<init>"), (0, u "()V"), (0, .fieldref 8 9), (0, .class_ 10), (0, .nameAndType 11 12), (0, u "java/util/AbstractList"), (0, u "modCount"), (0, u "I"), (64, .class_ 78), (0, u "java/util/AbstractList$Itr"), (3, .class_ 83), (0, u "java/util/AbstractList$ListItr"), (9, .class_ 94), (0, u "java/util/AbstractList$RandomAccessSubList"), (3, .class_ 99), (0, u "java/util/AbstractList$SubList"), (33, .class_ 134), (0, u "java/util/List"), (73, .class_ 209), (0, u "java/util/AbstractList$SubList$1"), (0, .class_ 211), (0, u "java/util/AbstractList$RandomAccessSpliterator")] 6

def k7c0 : Code := { maxStack := 2, maxLocals := 1, code := jdk_39_method_1_code, exceptionTable := #[], attributes := #[] }
def k7m0 : Method := { name := "<init>", desc := "()V", sig := { parameters := [], returnType := none }, accessFlags := 4, code := some k7c0 }
/-- java/util/AbstractList -/
def k7 : Class := { plain "java/util/AbstractList" (some 4) with
  accessFlags := 1057
  interfaces := #[6]
  cf := some (fileOf pool7 8 #[.nestMembers #[93, 98, 208, 210, 82, 77]] #[{ accessFlags := 4, nameIndex := 5, descriptorIndex := 6, attributes := #[] }] 1057 2 #[133] #[{ accessFlags := 132, nameIndex := 11, descriptorIndex := 12, attributes := #[] }])
  fields := #[{ name := "modCount", type := .int, accessFlags := 132, slot := 0, constantValue := 0 }]
  methods := #[k7m0]
  instanceTypes := #[.int]
  staticTypes := #[]
  resolved := Array.replicate 218 none
  statics := none }

def pool8 : Array CpInfo := pool [(1, .class_ 2), (0, u "java/util/RandomAccess"), (0, .class_ 4), (0, u "java/lang/Object")] 2

/-- java/util/RandomAccess -/
def k8 : Class := { plain "java/util/RandomAccess" (some 0) with
  accessFlags := 1537
  interfaces := #[]
  cf := some (fileOf pool8 1 #[] #[] 1537 3 #[] #[])
  fields := #[]
  methods := #[]
  instanceTypes := #[]
  staticTypes := #[]
  resolved := Array.replicate 7 none
  statics := none }

def pool9 : Array CpInfo := pool [(1, .class_ 2), (0, u "java/lang/Cloneable"), (0, .class_ 4), (0, u "java/lang/Object")] 2

/-- java/lang/Cloneable -/
def k9 : Class := { plain "java/lang/Cloneable" (some 0) with
  accessFlags := 1537
  interfaces := #[]
  cf := some (fileOf pool9 1 #[] #[] 1537 3 #[] #[])
  fields := #[]
  methods := #[]
  instanceTypes := #[]
  staticTypes := #[]
  resolved := Array.replicate 7 none
  statics := none }

def pool10 : Array CpInfo := pool [(1, .class_ 2), (0, u "java/io/Serializable"), (0, .class_ 4), (0, u "java/lang/Object")] 2

/-- java/io/Serializable -/
def k10 : Class := { plain "java/io/Serializable" (some 0) with
  accessFlags := 1537
  interfaces := #[]
  cf := some (fileOf pool10 1 #[] #[] 1537 3 #[] #[])
  fields := #[]
  methods := #[]
  instanceTypes := #[]
  staticTypes := #[]
  resolved := Array.replicate 7 none
  statics := none }

def pool11 : Array CpInfo := pool [(1, .methodref 2 3), (0, .class_ 4), (0, .nameAndType 5 6), (0, u "java/util/AbstractList"), (0, u "<init>"), (0, u "()V"), (0, .class_ 8), (0, u "java/lang/Object"), (0, .fieldref 10 11), (0, .class_ 12), (0, .nameAndType 13 14), (0, u "java/util/ArrayList"), (0, u "elementData"), (0, u "[Ljava/lang/Object;"), (2, u "EMPTY_ELEMENTDATA"), (21, .fieldref 10 40), (0, .nameAndType 41 14), (0, u "DEFAULTCAPACITY_EMPTY_ELEMENTDATA"), (5, u "()[Ljava/lang/Object;"), (0, .fieldref 10 49), (0, .nameAndType 50 51), (0, u "size"), (0, u "I"), (11, .fieldref 10 64), (0, .nameAndType 65 51), (0, u "modCount"), (3, .methodref 10 70), (0, .nameAndType 71 72), (0, u "grow"), (0, u "(I)[Ljava/lang/Object;"), (6, .methodref 80 81), (0, .class_ 82), (0, .nameAndType 83 84), (0, u "java/lang/Math"), (0, u "max"), (0, u "(II)I"), (11, u "(Ljava/lang/Object;)Z"), (32, .methodref 10 130), (0, .nameAndType 71 47), (0, .methodref 10 132), (0, .nameAndType 133 134), (0, u "add"), (0, u "(Ljava/lang/Object;[Ljava/lang/Object;I)V"), (13, .class_ 149), (0, u "java/util/List"), (36, u "()I"), (75, .class_ 263), (0, u "java/util/ArrayList$ListItr"), (3, .class_ 268), (0, u "java/util/ArrayList$Itr"), (7, .class_ 277), (0, u "java/util/ArrayList$SubList"), (12, .class_ 291), (0, u "java/util/ArrayList$ArrayListSpliterator"), (37, .class_ 330), (0, u "java/util/RandomAccess"), (0, .class_ 332), (0, u "java/lang/Cloneable"), (0, .class_ 334), (0, u "java/io/Serializable"), (0, u "serialVersionUID"), (0, u "J"), (3, u "DEFAULT_CAPACITY"), (159, .class_ 501), (0, u "java/util/ArrayList$SubList$2"), (0, .class_ 503), (0, u "java/util/ArrayList$SubList$1")] 5

def k11c0 : Code := { maxStack := 2, maxLocals := 1, code := jdk_38_method_2_code, exceptionTable := #[], attributes := #[] }
def k11m0 : Method := { name := "<init>", desc := "()V", sig := { parameters := [], returnType := none }, accessFlags := 1, code := some k11c0 }
def k11c1 : Code := { maxStack := 4, maxLocals := 4, code := jdk_38_method_6_code, exceptionTable := #[], attributes := #[] }
def k11m1 : Method := { name := "grow", desc := "(I)[Ljava/lang/Object;", sig := { parameters := [.int], returnType := some (.array (.object "java/lang/Object")) }, accessFlags := 2, code := some k11c1 }
def k11c2 : Code := { maxStack := 3, maxLocals := 1, code := jdk_38_method_7_code, exceptionTable := #[], attributes := #[] }
def k11m2 : Method := { name := "grow", desc := "()[Ljava/lang/Object;", sig := { parameters := [], returnType := some (.array (.object "java/lang/Object")) }, accessFlags := 2, code := some k11c2 }
def k11c3 : Code := { maxStack := 1, maxLocals := 1, code := jdk_38_method_8_code, exceptionTable := #[], attributes := #[] }
def k11m3 : Method := { name := "size", desc := "()I", sig := { parameters := [], returnType := some .int }, accessFlags := 1, code := some k11c3 }
def k11c4 : Code := { maxStack := 3, maxLocals := 4, code := jdk_38_method_24_code, exceptionTable := #[], attributes := #[] }
def k11m4 : Method := { name := "add", desc := "(Ljava/lang/Object;[Ljava/lang/Object;I)V", sig := { parameters := [(.object "java/lang/Object"), (.array (.object "java/lang/Object")), .int], returnType := none }, accessFlags := 2, code := some k11c4 }
def k11c5 : Code := { maxStack := 4, maxLocals := 2, code := jdk_38_method_25_code, exceptionTable := #[], attributes := #[] }
def k11m5 : Method := { name := "add", desc := "(Ljava/lang/Object;)Z", sig := { parameters := [(.object "java/lang/Object")], returnType := some .boolean }, accessFlags := 1, code := some k11c5 }
/-- java/util/ArrayList -/
def k11 : Class := { plain "java/util/ArrayList" (some 7) with
  accessFlags := 33
  interfaces := #[6, 8, 9, 10]
  cf := some (fileOf pool11 10 #[.nestMembers #[290, 276, 500, 502, 262, 267]] #[{ accessFlags := 1, nameIndex := 5, descriptorIndex := 6, attributes := #[] }, { accessFlags := 2, nameIndex := 71, descriptorIndex := 72, attributes := #[] }, { accessFlags := 2, nameIndex := 71, descriptorIndex := 47, attributes := #[] }, { accessFlags := 1, nameIndex := 50, descriptorIndex := 186, attributes := #[] }, { accessFlags := 2, nameIndex := 133, descriptorIndex := 134, attributes := #[] }, { accessFlags := 1, nameIndex := 133, descriptorIndex := 96, attributes := #[] }] 33 2 #[148, 329, 331, 333] #[{ accessFlags := 26, nameIndex := 335, descriptorIndex := 336, attributes := #[] }, { accessFlags := 26, nameIndex := 340, descriptorIndex := 51, attributes := #[] }, { accessFlags := 26, nameIndex := 17, descriptorIndex := 14, attributes := #[] }, { accessFlags := 26, nameIndex := 41, descriptorIndex := 14, attributes := #[] }, { accessFlags := 128, nameIndex := 13, descriptorIndex := 14, attributes := #[] }, { accessFlags := 2, nameIndex := 50, descriptorIndex := 51, attributes := #[] }])
  fields := #[{ name := "serialVersionUID", type := .long, accessFlags := 26, slot := 0, constantValue := 0 }, { name := "DEFAULT_CAPACITY", type := .int, accessFlags := 26, slot := 1, constantValue := 0 }, { name := "EMPTY_ELEMENTDATA", type := (.array (.object "java/lang/Object")), accessFlags := 26, slot := 2, constantValue := 0 }, { name := "DEFAULTCAPACITY_EMPTY_ELEMENTDATA", type := (.array (.object "java/lang/Object")), accessFlags := 26, slot := 3, constantValue := 0 }, { name := "elementData", type := (.array (.object "java/lang/Object")), accessFlags := 128, slot := 1, constantValue := 0 }, { name := "size", type := .int, accessFlags := 2, slot := 2, constantValue := 0 }]
  methods := #[k11m0, k11m1, k11m2, k11m3, k11m4, k11m5]
  instanceTypes := #[.int, (.array (.object "java/lang/Object")), .int]
  staticTypes := #[.long, .int, (.array (.object "java/lang/Object")), (.array (.object "java/lang/Object"))]
  resolved := Array.replicate 509 none
  statics := some 0 }

def pool12 : Array CpInfo := pool [(1, .class_ 2), (0, u "java/lang/Comparable"), (0, .class_ 4), (0, u "java/lang/Object")] 7

/-- java/lang/Comparable -/
def k12 : Class := { plain "java/lang/Comparable" (some 0) with
  accessFlags := 1537
  interfaces := #[]
  cf := some (fileOf pool12 1 #[] #[] 1537 3 #[] #[])
  fields := #[]
  methods := #[]
  instanceTypes := #[]
  staticTypes := #[]
  resolved := Array.replicate 12 none
  statics := none }

def pool13 : Array CpInfo := pool [(2, .class_ 4), (1, u "java/lang/CharSequence"), (42, .class_ 48), (0, u "java/lang/CharSequence$1CodePointIterator"), (10, .class_ 60), (0, u "java/lang/CharSequence$1CharIterator"), (5, .class_ 67), (0, u "java/lang/Object")] 63

/-- java/lang/CharSequence -/
def k13 : Class := { plain "java/lang/CharSequence" (some 0) with
  accessFlags := 1537
  interfaces := #[]
  cf := some (fileOf pool13 2 #[.nestMembers #[47, 59]] #[] 1537 66 #[] #[])
  fields := #[]
  methods := #[]
  instanceTypes := #[]
  staticTypes := #[]
  resolved := Array.replicate 131 none
  statics := none }

def pool14 : Array CpInfo := pool [(1, .class_ 2), (0, u "java/lang/constant/Constable"), (0, .class_ 4), (0, u "java/lang/Object")] 6

/-- java/lang/constant/Constable -/
def k14 : Class := { plain "java/lang/constant/Constable" (some 0) with
  accessFlags := 1537
  interfaces := #[]
  cf := some (fileOf pool14 1 #[] #[] 1537 3 #[] #[])
  fields := #[]
  methods := #[]
  instanceTypes := #[]
  staticTypes := #[]
  resolved := Array.replicate 11 none
  statics := none }

def pool15 : Array CpInfo := pool [(1, .class_ 2), (0, u "java/lang/constant/ConstantDesc"), (0, .class_ 4), (0, u "java/lang/Object")] 32

/-- java/lang/constant/ConstantDesc -/
def k15 : Class := { plain "java/lang/constant/ConstantDesc" (some 0) with
  accessFlags := 1537
  interfaces := #[]
  cf := some (fileOf pool15 1 #[] #[] 1537 3 #[] #[])
  fields := #[]
  methods := #[]
  instanceTypes := #[]
  staticTypes := #[]
  resolved := Array.replicate 37 none
  statics := none }

def pool16 : Array CpInfo := pool [(1, .methodref 2 3), (0, .class_ 4), (0, .nameAndType 5 6), (0, u "java/lang/Object"), (0, u "<init>"), (0, u "()V"), (2, .fieldref 10 11), (0, .class_ 12), (0, .nameAndType 13 14), (0, u "java/lang/String"), (0, u "value"), (0, u "[B"), (0, .fieldref 10 16), (0, .nameAndType 17 18), (0, u "coder"), (0, u "B"), (2, u "hash"), (0, u "I"), (2, u "hashIsZero"), (0, u "Z"), (11, .fieldref 10 39), (0, .nameAndType 40 26), (0, u "COMPACT_STRINGS"), (12, u "toBytes"), (53, .class_ 109), (1, u "java/lang/StringLatin1"), (99, .methodref 10 210), (0, .nameAndType 5 211), (0, u "([BB)V"), (157, u "(C)Z"), (205, .class_ 576), (0, u "java/lang/CharSequence"), (22, u "CASE_INSENSITIVE_ORDER"), (0, u "Ljava/util/Comparator;"), (181, u "valueOf"), (0, u "(C)Ljava/lang/String;"), (231, .methodref 107 1016), (0, .nameAndType 1017 369), (0, u "canEncode"), (0, .methodref 107 1019), (0, .nameAndType 53 1020), (0, u "(C)[B"), (80, u "serialPersistentFields"), (0, u "[Ljava/io/ObjectStreamField;"), (0, .class_ 1104), (0, u "java/lang/String$CaseInsensitiveComparator"), (1, .class_ 1107), (0, u "java/io/Serializable"), (0, .class_ 1109), (0, u "java/lang/Comparable"), (0, .class_ 1111), (0, u "java/lang/constant/Constable"), (0, .class_ 1113), (0, u "java/lang/constant/ConstantDesc"), (2, u "serialVersionUID"), (0, u "J"), (3, u "REPL"), (0, u "C"), (2, u "LATIN1"), (1, u "UTF16")] 323

def k16m0 : Method := { name := "<init>", desc := "()V", sig := { parameters := [], returnType := none }, accessFlags := 1, code := none }
def k16c1 : Code := { maxStack := 4, maxLocals := 1, code := jdk_42_method_139_code, exceptionTable := #[], attributes := #[] }
def k16m1 : Method := { name := "valueOf", desc := "(C)Ljava/lang/String;", sig := { parameters := [.char], returnType := some (.object "java/lang/String") }, accessFlags := 9, code := some k16c1 }
def k16c2 : Code := { maxStack := 2, maxLocals := 3, code := jdk_42_method_151_code, exceptionTable := #[], attributes := #[] }
def k16m2 : Method := { name := "<init>", desc := "([BB)V", sig := { parameters := [(.array .byte), .byte], returnType := none }, accessFlags := 0, code := some k16c2 }
/-- java/lang/String -/
def k16 : Class := { plain "java/lang/String" (some 0) with
  accessFlags := 49
  interfaces := #[10, 12, 13, 14, 15]
  cf := some (fileOf pool16 10 #[.nestMembers #[1103]] #[{ accessFlags := 1, nameIndex := 5, descriptorIndex := 6, attributes := #[] }, { accessFlags := 9, nameIndex := 782, descriptorIndex := 783, attributes := #[] }, { accessFlags := 0, nameIndex := 5, descriptorIndex := 211, attributes := #[] }] 49 2 #[1106, 1108, 575, 1110, 1112] #[{ accessFlags := 18, nameIndex := 13, descriptorIndex := 14, attributes := #[] }, { accessFlags := 18, nameIndex := 17, descriptorIndex := 18, attributes := #[] }, { accessFlags := 2, nameIndex := 21, descriptorIndex := 22, attributes := #[] }, { accessFlags := 2, nameIndex := 25, descriptorIndex := 26, attributes := #[] }, { accessFlags := 26, nameIndex := 1116, descriptorIndex := 1117, attributes := #[] }, { accessFlags := 24, nameIndex := 40, descriptorIndex := 26, attributes := #[] }, { accessFlags := 26, nameIndex := 1101, descriptorIndex := 1102, attributes := #[] }, { accessFlags := 26, nameIndex := 1121, descriptorIndex := 1122, attributes := #[] }, { accessFlags := 25, nameIndex := 599, descriptorIndex := 600, attributes := #[] }, { accessFlags := 24, nameIndex := 1125, descriptorIndex := 18, attributes := #[] }, { accessFlags := 24, nameIndex := 1127, descriptorIndex := 18, attributes := #[] }])
  fields := #[{ name := "value", type := (.array .byte), accessFlags := 18, slot := 0, constantValue := 0 }, { name := "coder", type := .byte, accessFlags := 18, slot := 1, constantValue := 0 }, { name := "hash", type := .int, accessFlags := 2, slot := 2, constantValue := 0 }, { name := "hashIsZero", type := .boolean, accessFlags := 2, slot := 3, constantValue := 0 }, { name := "serialVersionUID", type := .long, accessFlags := 26, slot := 0, constantValue := 0 }, { name := "COMPACT_STRINGS", type := .boolean, accessFlags := 24, slot := 1, constantValue := 0 }, { name := "serialPersistentFields", type := (.array (.object "java/io/ObjectStreamField")), accessFlags := 26, slot := 2, constantValue := 0 }, { name := "REPL", type := .char, accessFlags := 26, slot := 3, constantValue := 0 }, { name := "CASE_INSENSITIVE_ORDER", type := (.object "java/util/Comparator"), accessFlags := 25, slot := 4, constantValue := 0 }, { name := "LATIN1", type := .byte, accessFlags := 24, slot := 5, constantValue := 0 }, { name := "UTF16", type := .byte, accessFlags := 24, slot := 6, constantValue := 0 }]
  methods := #[k16m0, k16m1, k16m2]
  instanceTypes := #[(.array .byte), .byte, .int, .boolean]
  staticTypes := #[.long, .boolean, (.array (.object "java/io/ObjectStreamField")), .char, (.object "java/util/Comparator"), .byte, .byte]
  resolved := Array.replicate 1451 none
  statics := some 1 }

def pool17 : Array CpInfo := pool [(4, .class_ 6), (1, u "java/lang/Object"), (0, u "<init>"), (0, u "()V"), (5, .class_ 16), (1, u "java/lang/StringLatin1"), (73, u "canEncode"), (14, u "(C)Z"), (15, u "$assertionsDisabled"), (0, u "Z"), (98, .class_ 223), (1, u "java/lang/StringLatin1$LinesSpliterator"), (156, u "toBytes"), (1, u "(C)[B"), (7, .class_ 391), (0, u "java/lang/StringLatin1$CharsSpliterator")] 3

def k17m0 : Method := { name := "<init>", desc := "()V", sig := { parameters := [], returnType := none }, accessFlags := 0, code := none }
def k17c1 : Code := { maxStack := 2, maxLocals := 1, code := jdk_43_method_3_code, exceptionTable := #[], attributes := #[] }
def k17m1 : Method := { name := "canEncode", desc := "(C)Z", sig := { parameters := [.char], returnType := some .boolean }, accessFlags := 9, code := some k17c1 }
def k17c2 : Code := { maxStack := 4, maxLocals := 1, code := jdk_43_method_46_code, exceptionTable := #[], attributes := #[] }
def k17m2 : Method := { name := "toBytes", desc := "(C)[B", sig := { parameters := [.char], returnType := some (.array .byte) }, accessFlags := 9, code := some k17c2 }
/-- java/lang/StringLatin1 -/
def k17 : Class := { plain "java/lang/StringLatin1" (some 0) with
  accessFlags := 48
  interfaces := #[]
  cf := some (fileOf pool17 14 #[.nestMembers #[390, 221]] #[{ accessFlags := 0, nameIndex := 7, descriptorIndex := 8, attributes := #[] }, { accessFlags := 9, nameIndex := 90, descriptorIndex := 105, attributes := #[] }, { accessFlags := 9, nameIndex := 380, descriptorIndex := 382, attributes := #[] }] 48 4 #[] #[{ accessFlags := 4120, nameIndex := 121, descriptorIndex := 122, attributes := #[] }])
  fields := #[{ name := "$assertionsDisabled", type := .boolean, accessFlags := 4120, slot := 0, constantValue := 0 }]
  methods := #[k17m0, k17m1, k17m2]
  instanceTypes := #[]
  staticTypes := #[.boolean]
  resolved := Array.replicate 395 none
  statics := none }

def pool18 : Array CpInfo := pool [(1, .class_ 2), (0, u "java/lang/Math"), (1, .class_ 6), (1, u "java/lang/Object"), (0, u "<init>"), (0, u "()V"), (89, .class_ 100), (1, u "java/lang/Math$RandomNumberGeneratorHolder"), (71, u "negativeZeroFloatBits"), (0, u "J"), (2, u "negativeZeroDoubleBits"), (21, u "max"), (46, u "$assertionsDisabled"), (0, u "Z"), (88, u "(II)I"), (2, u "twoToTheDoubleScaleDown"), (0, u "D"), (4, u "twoToTheDoubleScaleUp"), (9, u "E"), (3, u "PI"), (2, u "TAU"), (2, u "DEGREES_TO_RADIANS"), (0, u "RADIANS_TO_DEGREES")] 94

def k18m0 : Method := { name := "<init>", desc := "()V", sig := { parameters := [], returnType := none }, accessFlags := 2, code := none }
def k18c1 : Code := { maxStack := 2, maxLocals := 2, code := jdk_29_method_65_code, exceptionTable := #[], attributes := #[] }
def k18m1 : Method := { name := "max", desc := "(II)I", sig := { parameters := [.int, .int], returnType := some .int }, accessFlags := 9, code := some k18c1 }
/-- java/lang/Math -/
def k18 : Class := { plain "java/lang/Math" (some 0) with
  accessFlags := 49
  interfaces := #[]
  cf := some (fileOf pool18 1 #[.nestMembers #[98]] #[{ accessFlags := 2, nameIndex := 7, descriptorIndex := 8, attributes := #[] }, { accessFlags := 9, nameIndex := 198, descriptorIndex := 335, attributes := #[] }] 49 4 #[] #[{ accessFlags := 25, nameIndex := 354, descriptorIndex := 339, attributes := #[] }, { accessFlags := 25, nameIndex := 358, descriptorIndex := 339, attributes := #[] }, { accessFlags := 25, nameIndex := 361, descriptorIndex := 339, attributes := #[] }, { accessFlags := 26, nameIndex := 364, descriptorIndex := 339, attributes := #[] }, { accessFlags := 26, nameIndex := 365, descriptorIndex := 339, attributes := #[] }, { accessFlags := 26, nameIndex := 172, descriptorIndex := 173, attributes := #[] }, { accessFlags := 26, nameIndex := 176, descriptorIndex := 173, attributes := #[] }, { accessFlags := 8, nameIndex := 344, descriptorIndex := 339, attributes := #[] }, { accessFlags := 8, nameIndex := 338, descriptorIndex := 339, attributes := #[] }, { accessFlags := 4120, nameIndex := 245, descriptorIndex := 246, attributes := #[] }])
  fields := #[{ name := "E", type := .double, accessFlags := 25, slot := 0, constantValue := 0 }, { name := "PI", type := .double, accessFlags := 25, slot := 1, constantValue := 0 }, { name := "TAU", type := .double, accessFlags := 25, slot := 2, constantValue := 0 }, { name := "DEGREES_TO_RADIANS", type := .double, accessFlags := 26, slot := 3, constantValue := 0 }, { name := "RADIANS_TO_DEGREES", type := .double, accessFlags := 26, slot := 4, constantValue := 0 }, { name := "negativeZeroFloatBits", type := .long, accessFlags := 26, slot := 5, constantValue := 0 }, { name := "negativeZeroDoubleBits", type := .long, accessFlags := 26, slot := 6, constantValue := 0 }, { name := "twoToTheDoubleScaleUp", type := .double, accessFlags := 8, slot := 7, constantValue := 0 }, { name := "twoToTheDoubleScaleDown", type := .double, accessFlags := 8, slot := 8, constantValue := 0 }, { name := "$assertionsDisabled", type := .boolean, accessFlags := 4120, slot := 9, constantValue := 0 }]
  methods := #[k18m0, k18m1]
  instanceTypes := #[]
  staticTypes := #[.double, .double, .double, .double, .double, .long, .long, .double, .double, .boolean]
  resolved := Array.replicate 460 none
  statics := none }

def pool19 : Array CpInfo := pool [(1, .methodref 2 3), (0, .class_ 4), (0, .nameAndType 5 6), (0, u "java/lang/Object"), (0, u "<init>"), (0, u "()V"), (0, .class_ 8), (0, u "java/lang/Record")] 13

def k19c0 : Code := { maxStack := 1, maxLocals := 1, code := jdk_30_method_1_code, exceptionTable := #[], attributes := #[] }
def k19m0 : Method := { name := "<init>", desc := "()V", sig := { parameters := [], returnType := none }, accessFlags := 4, code := some k19c0 }
/-- java/lang/Record -/
def k19 : Class := { plain "java/lang/Record" (some 0) with
  accessFlags := 1057
  interfaces := #[]
  cf := some (fileOf pool19 7 #[] #[{ accessFlags := 4, nameIndex := 5, descriptorIndex := 6, attributes := #[] }] 1057 2 #[] #[])
  fields := #[]
  methods := #[k19m0]
  instanceTypes := #[]
  staticTypes := #[]
  resolved := Array.replicate 22 none
  statics := none }

def pool20 : Array CpInfo := pool [(1, .class_ 2), (0, u "com/example/ordinal_lock/ordinallock/protocol/TurnRule$NoneAhead"), (17, .class_ 22), (1, u "com/example/ordinal_lock/ordinallock/protocol/TurnRule"), (0, u "MUTEX"), (0, u "Lcom/example/ordinal_lock/ordinallock/protocol/TurnRule;"), (2, u "WRITE"), (2, u "READ"), (7, .class_ 39), (0, u "java/lang/Object"), (15, .class_ 56), (0, u "com/example/ordinal_lock/ordinallock/protocol/TurnRule$WithinLimit"), (0, .class_ 58), (0, u "com/example/ordinal_lock/ordinallock/protocol/TurnRule$Turn")] 4

/-- com/example/ordinal_lock/ordinallock/protocol/TurnRule -/
def k20 : Class := { plain "com/example/ordinal_lock/ordinallock/protocol/TurnRule" (some 0) with
  accessFlags := 1537
  interfaces := #[]
  cf := some (fileOf pool20 20 #[.nestMembers #[55, 1, 57]] #[] 1537 38 #[] #[{ accessFlags := 25, nameIndex := 23, descriptorIndex := 24, attributes := #[] }, { accessFlags := 25, nameIndex := 27, descriptorIndex := 24, attributes := #[] }, { accessFlags := 25, nameIndex := 30, descriptorIndex := 24, attributes := #[] }])
  fields := #[{ name := "MUTEX", type := (.object "com/example/ordinal_lock/ordinallock/protocol/TurnRule"), accessFlags := 25, slot := 0, constantValue := 0 }, { name := "WRITE", type := (.object "com/example/ordinal_lock/ordinallock/protocol/TurnRule"), accessFlags := 25, slot := 1, constantValue := 0 }, { name := "READ", type := (.object "com/example/ordinal_lock/ordinallock/protocol/TurnRule"), accessFlags := 25, slot := 2, constantValue := 0 }]
  methods := #[]
  instanceTypes := #[]
  staticTypes := #[(.object "com/example/ordinal_lock/ordinallock/protocol/TurnRule"), (.object "com/example/ordinal_lock/ordinallock/protocol/TurnRule"), (.object "com/example/ordinal_lock/ordinallock/protocol/TurnRule")]
  resolved := Array.replicate 63 none
  statics := none }

def pool21 : Array CpInfo := pool [(1, .methodref 2 3), (0, .class_ 4), (0, .nameAndType 5 6), (0, u "java/lang/Record"), (0, u "<init>"), (0, u "()V"), (9, .fieldref 17 18), (0, .class_ 19), (0, .nameAndType 20 21), (0, u "com/example/ordinal_lock/ordinallock/protocol/TurnRule$WithinLimit"), (0, u "limit"), (0, u "I"), (6, .interfaceMethodref 29 30), (0, .class_ 31), (0, .nameAndType 32 33), (0, u "java/util/List"), (0, u "size"), (0, u "()I"), (0, .fieldref 35 36), (0, .class_ 37), (0, .nameAndType 38 39), (0, u "com/example/ordinal_lock/ordinallock/protocol/TurnRule$Turn"), (0, u "COME"), (0, u "Lcom/example/ordinal_lock/ordinallock/protocol/TurnRule$Turn;"), (0, .fieldref 35 41), (0, .nameAndType 42 39), (0, u "AWAIT_CHILDREN"), (12, .class_ 56), (0, u "com/example/ordinal_lock/ordinallock/protocol/TurnRule"), (0, u "(I)V"), (8, u "turn"), (0, u "(Ljava/util/List;Ljava/lang/String;)Lcom/example/ordinal_lock/ordinallock/protocol/TurnRule$Turn;")] 34

def k21c0 : Code := { maxStack := 3, maxLocals := 2, code := prog_8_method_1_code, exceptionTable := #[], attributes := #[] }
def k21m0 : Method := { name := "<init>", desc := "(I)V", sig := { parameters := [.int], returnType := none }, accessFlags := 1, code := some k21c0 }
def k21c1 : Code := { maxStack := 2, maxLocals := 3, code := prog_8_method_4_code, exceptionTable := #[], attributes := #[] }
def k21m1 : Method := { name := "turn", desc := "(Ljava/util/List;Ljava/lang/String;)Lcom/example/ordinal_lock/ordinallock/protocol/TurnRule$Turn;", sig := { parameters := [(.object "java/util/List"), (.object "java/lang/String")], returnType := some (.object "com/example/ordinal_lock/ordinallock/protocol/TurnRule$Turn") }, accessFlags := 1, code := some k21c1 }
/-- com/example/ordinal_lock/ordinallock/protocol/TurnRule$WithinLimit -/
def k21 : Class := { plain "com/example/ordinal_lock/ordinallock/protocol/TurnRule$WithinLimit" (some 19) with
  accessFlags := 49
  interfaces := #[20]
  cf := some (fileOf pool21 17 #[.nestHost 55] #[{ accessFlags := 1, nameIndex := 5, descriptorIndex := 57, attributes := #[] }, { accessFlags := 1, nameIndex := 66, descriptorIndex := 67, attributes := #[] }] 49 2 #[55] #[{ accessFlags := 18, nameIndex := 20, descriptorIndex := 21, attributes := #[] }])
  fields := #[{ name := "limit", type := .int, accessFlags := 18, slot := 0, constantValue := 0 }]
  methods := #[k21m0, k21m1]
  instanceTypes := #[.int]
  staticTypes := #[]
  resolved := Array.replicate 102 none
  statics := none }

def pool22 : Array CpInfo := pool [(2, .class_ 4), (1, u "java/lang/Record"), (2, .fieldref 8 9), (0, .class_ 10), (0, .nameAndType 11 12), (0, u "com/example/ordinal_lock/ordinallock/protocol/TurnRule$Turn"), (0, u "come"), (0, u "Z"), (0, .fieldref 8 14), (0, .nameAndType 15 16), (0, u "nodeAhead"), (0, u "Ljava/lang/String;"), (17, u "COME"), (0, u "Lcom/example/ordinal_lock/ordinallock/protocol/TurnRule$Turn;"), (2, u "AWAIT_CHILDREN"), (5, u "()Ljava/lang/String;"), (2, u "()Z"), (4, .class_ 53), (0, u "com/example/ordinal_lock/ordinallock/protocol/TurnRule")] 20

def k22c0 : Code := { maxStack := 1, maxLocals := 1, code := prog_7_method_6_code, exceptionTable := #[], attributes := #[] }
def k22m0 : Method := { name := "come", desc := "()Z", sig := { parameters := [], returnType := some .boolean }, accessFlags := 1, code := some k22c0 }
def k22c1 : Code := { maxStack := 1, maxLocals := 1, code := prog_7_method_7_code, exceptionTable := #[], attributes := #[] }
def k22m1 : Method := { name := "nodeAhead", desc := "()Ljava/lang/String;", sig := { parameters := [], returnType := some (.object "java/lang/String") }, accessFlags := 1, code := some k22c1 }
/-- com/example/ordinal_lock/ordinallock/protocol/TurnRule$Turn -/
def k22 : Class := { plain "com/example/ordinal_lock/ordinallock/protocol/TurnRule$Turn" (some 19) with
  accessFlags := 49
  interfaces := #[]
  cf := some (fileOf pool22 8 #[.nestHost 52] #[{ accessFlags := 1, nameIndex := 11, descriptorIndex := 47, attributes := #[] }, { accessFlags := 1, nameIndex := 15, descriptorIndex := 44, attributes := #[] }] 49 2 #[] #[{ accessFlags := 18, nameIndex := 11, descriptorIndex := 12, attributes := #[] }, { accessFlags := 18, nameIndex := 15, descriptorIndex := 16, attributes := #[] }, { accessFlags := 25, nameIndex := 34, descriptorIndex := 35, attributes := #[] }, { accessFlags := 25, nameIndex := 38, descriptorIndex := 35, attributes := #[] }])
  fields := #[{ name := "come", type := .boolean, accessFlags := 18, slot := 0, constantValue := 0 }, { name := "nodeAhead", type := (.object "java/lang/String"), accessFlags := 18, slot := 1, constantValue := 0 }, { name := "COME", type := (.object "com/example/ordinal_lock/ordinallock/protocol/TurnRule$Turn"), accessFlags := 25, slot := 0, constantValue := 0 }, { name := "AWAIT_CHILDREN", type := (.object "com/example/ordinal_lock/ordinallock/protocol/TurnRule$Turn"), accessFlags := 25, slot := 1, constantValue := 0 }]
  methods := #[k22m0, k22m1]
  instanceTypes := #[.boolean, (.object "java/lang/String")]
  staticTypes := #[(.object "com/example/ordinal_lock/ordinallock/protocol/TurnRule$Turn"), (.object "com/example/ordinal_lock/ordinallock/protocol/TurnRule$Turn")]
  resolved := Array.replicate 74 none
  statics := some 2 }

def pool23 : Array CpInfo := pool [(2, .class_ 4), (1, u "java/lang/Object"), (0, u "<init>"), (0, u "()V"), (17, .class_ 26), (1, u "jdk/internal/util/Preconditions"), (28, .class_ 56), (0, u "jdk/internal/util/Preconditions$4"), (57, .class_ 115), (0, u "jdk/internal/util/Preconditions$1"), (7, u "SIOOBE_FORMATTER"), (0, u "Ljava/util/function/BiFunction;"), (0, .class_ 126), (0, u "jdk/internal/util/Preconditions$2"), (3, u "AIOOBE_FORMATTER"), (0, .class_ 132), (0, u "jdk/internal/util/Preconditions$3"), (3, u "IOOBE_FORMATTER")] 57

def k23m0 : Method := { name := "<init>", desc := "()V", sig := { parameters := [], returnType := none }, accessFlags := 1, code := none }
/-- jdk/internal/util/Preconditions -/
def k23 : Class := { plain "jdk/internal/util/Preconditions" (some 0) with
  accessFlags := 33
  interfaces := #[]
  cf := some (fileOf pool23 24 #[.nestMembers #[55, 131, 125, 114]] #[{ accessFlags := 1, nameIndex := 5, descriptorIndex := 6, attributes := #[] }] 33 2 #[] #[{ accessFlags := 25, nameIndex := 123, descriptorIndex := 124, attributes := #[] }, { accessFlags := 25, nameIndex := 130, descriptorIndex := 124, attributes := #[] }, { accessFlags := 25, nameIndex := 136, descriptorIndex := 124, attributes := #[] }])
  fields := #[{ name := "SIOOBE_FORMATTER", type := (.object "java/util/function/BiFunction"), accessFlags := 25, slot := 0, constantValue := 0 }, { name := "AIOOBE_FORMATTER", type := (.object "java/util/function/BiFunction"), accessFlags := 25, slot := 1, constantValue := 0 }, { name := "IOOBE_FORMATTER", type := (.object "java/util/function/BiFunction"), accessFlags := 25, slot := 2, constantValue := 0 }]
  methods := #[k23m0]
  instanceTypes := #[]
  staticTypes := #[(.object "java/util/function/BiFunction"), (.object "java/util/function/BiFunction"), (.object "java/util/function/BiFunction")]
  resolved := Array.replicate 194 none
  statics := some 3 }

def pool24 : Array CpInfo := pool [(9, u "<init>"), (6, .class_ 18), (1, u "java/lang/Object"), (0, u "()V"), (1, .class_ 23), (1, u "jdk/internal/util/ArraysSupport"), (0, u "LOG2_ARRAY_LONG_INDEX_SCALE"), (0, u "I"), (2, u "U"), (0, u "Ljdk/internal/misc/Unsafe;"), (8, u "BIG_ENDIAN"), (0, u "Z"), (8, u "LOG2_BYTE_BIT_SIZE"), (4, u "LOG2_ARRAY_INT_INDEX_SCALE"), (54, u "JLA"), (0, u "Ljdk/internal/access/JavaLangAccess;"), (11, u "LOG2_ARRAY_BOOLEAN_INDEX_SCALE"), (9, u "LOG2_ARRAY_BYTE_INDEX_SCALE"), (5, u "LOG2_ARRAY_CHAR_INDEX_SCALE"), (5, u "LOG2_ARRAY_SHORT_INDEX_SCALE"), (18, u "LOG2_ARRAY_FLOAT_INDEX_SCALE"), (24, u "LOG2_ARRAY_DOUBLE_INDEX_SCALE"), (89, u "T_BOOLEAN"), (2, u "T_CHAR"), (1, u "T_FLOAT"), (1, u "T_DOUBLE"), (1, u "T_BYTE"), (1, u "T_SHORT"), (1, u "T_INT"), (1, u "T_LONG"), (1, u "SOFT_MAX_ARRAY_LENGTH")] 83

def k24m0 : Method := { name := "<init>", desc := "()V", sig := { parameters := [], returnType := none }, accessFlags := 2, code := none }
/-- jdk/internal/util/ArraysSupport -/
def k24 : Class := { plain "jdk/internal/util/ArraysSupport" (some 0) with
  accessFlags := 33
  interfaces := #[]
  cf := some (fileOf pool24 21 #[] #[{ accessFlags := 2, nameIndex := 9, descriptorIndex := 19, attributes := #[] }] 33 16 #[] #[{ accessFlags := 24, nameIndex := 28, descriptorIndex := 29, attributes := #[] }, { accessFlags := 26, nameIndex := 38, descriptorIndex := 39, attributes := #[] }, { accessFlags := 25, nameIndex := 121, descriptorIndex := 25, attributes := #[] }, { accessFlags := 25, nameIndex := 131, descriptorIndex := 25, attributes := #[] }, { accessFlags := 25, nameIndex := 137, descriptorIndex := 25, attributes := #[] }, { accessFlags := 25, nameIndex := 143, descriptorIndex := 25, attributes := #[] }, { accessFlags := 25, nameIndex := 53, descriptorIndex := 25, attributes := #[] }, { accessFlags := 25, nameIndex := 24, descriptorIndex := 25, attributes := #[] }, { accessFlags := 25, nameIndex := 162, descriptorIndex := 25, attributes := #[] }, { accessFlags := 25, nameIndex := 187, descriptorIndex := 25, attributes := #[] }, { accessFlags := 26, nameIndex := 48, descriptorIndex := 25, attributes := #[] }, { accessFlags := 25, nameIndex := 277, descriptorIndex := 25, attributes := #[] }, { accessFlags := 25, nameIndex := 280, descriptorIndex := 25, attributes := #[] }, { accessFlags := 25, nameIndex := 282, descriptorIndex := 25, attributes := #[] }, { accessFlags := 25, nameIndex := 284, descriptorIndex := 25, attributes := #[] }, { accessFlags := 25, nameIndex := 286, descriptorIndex := 25, attributes := #[] }, { accessFlags := 25, nameIndex := 288, descriptorIndex := 25, attributes := #[] }, { accessFlags := 25, nameIndex := 290, descriptorIndex := 25, attributes := #[] }, { accessFlags := 25, nameIndex := 292, descriptorIndex := 25, attributes := #[] }, { accessFlags := 26, nameIndex := 108, descriptorIndex := 109, attributes := #[] }, { accessFlags := 25, nameIndex := 294, descriptorIndex := 25, attributes := #[] }])
  fields := #[{ name := "U", type := (.object "jdk/internal/misc/Unsafe"), accessFlags := 24, slot := 0, constantValue := 0 }, { name := "BIG_ENDIAN", type := .boolean, accessFlags := 26, slot := 1, constantValue := 0 }, { name := "LOG2_ARRAY_BOOLEAN_INDEX_SCALE", type := .int, accessFlags := 25, slot := 2, constantValue := 0 }, { name := "LOG2_ARRAY_BYTE_INDEX_SCALE", type := .int, accessFlags := 25, slot := 3, constantValue := 0 }, { name := "LOG2_ARRAY_CHAR_INDEX_SCALE", type := .int, accessFlags := 25, slot := 4, constantValue := 0 }, { name := "LOG2_ARRAY_SHORT_INDEX_SCALE", type := .int, accessFlags := 25, slot := 5, constantValue := 0 }, { name := "LOG2_ARRAY_INT_INDEX_SCALE", type := .int, accessFlags := 25, slot := 6, constantValue := 0 }, { name := "LOG2_ARRAY_LONG_INDEX_SCALE", type := .int, accessFlags := 25, slot := 7, constantValue := 0 }, { name := "LOG2_ARRAY_FLOAT_INDEX_SCALE", type := .int, accessFlags := 25, slot := 8, constantValue := 0 }, { name := "LOG2_ARRAY_DOUBLE_INDEX_SCALE", type := .int, accessFlags := 25, slot := 9, constantValue := 0 }, { name := "LOG2_BYTE_BIT_SIZE", type := .int, accessFlags := 26, slot := 10, constantValue := 0 }, { name := "T_BOOLEAN", type := .int, accessFlags := 25, slot := 11, constantValue := 0 }, { name := "T_CHAR", type := .int, accessFlags := 25, slot := 12, constantValue := 0 }, { name := "T_FLOAT", type := .int, accessFlags := 25, slot := 13, constantValue := 0 }, { name := "T_DOUBLE", type := .int, accessFlags := 25, slot := 14, constantValue := 0 }, { name := "T_BYTE", type := .int, accessFlags := 25, slot := 15, constantValue := 0 }, { name := "T_SHORT", type := .int, accessFlags := 25, slot := 16, constantValue := 0 }, { name := "T_INT", type := .int, accessFlags := 25, slot := 17, constantValue := 0 }, { name := "T_LONG", type := .int, accessFlags := 25, slot := 18, constantValue := 0 }, { name := "JLA", type := (.object "jdk/internal/access/JavaLangAccess"), accessFlags := 26, slot := 19, constantValue := 0 }, { name := "SOFT_MAX_ARRAY_LENGTH", type := .int, accessFlags := 25, slot := 20, constantValue := 0 }]
  methods := #[k24m0]
  instanceTypes := #[]
  staticTypes := #[(.object "jdk/internal/misc/Unsafe"), .boolean, .int, .int, .int, .int, .int, .int, .int, .int, .int, .int, .int, .int, .int, .int, .int, .int, .int, (.object "jdk/internal/access/JavaLangAccess"), .int]
  resolved := Array.replicate 378 none
  statics := none }

/-- the primitive byte -/
def k25 : Class := { plain "byte" none with kind := .primitive 'B', accessFlags := 0x411 }
/-- [B -/
def k26 : Class := { plain "[B" (some 0) with kind := .array 25 .byte, interfaces := #[9, 10], accessFlags := 1041 }

/-- the primitive int -/
def k27 : Class := { plain "int" none with kind := .primitive 'I', accessFlags := 0x411 }
/-- [I -/
def k28 : Class := { plain "[I" (some 0) with kind := .array 27 .int, interfaces := #[9, 10], accessFlags := 1041 }

/-- [Ljava/lang/Object; -/
def k29 : Class := { plain "[Ljava/lang/Object;" (some 0) with kind := .array 0 (.object "java/lang/Object"), interfaces := #[9, 10], accessFlags := 1041 }

def heap : Heap := #[{ cls := 11, slots := #[.long 0, .int 0, .ref 6, .ref 7], vm := .statics 11 },
  { cls := 16, slots := #[.long 0, .int 1, .null, .int 0, .null, .int 0, .int 0], vm := .statics 16 },
  { cls := 22, slots := #[.ref 4, .ref 5], vm := .statics 22 },
  { cls := 23, slots := #[.null, .null, .null], vm := .statics 23 },
  { cls := 22, slots := #[.int 1, .null], vm := .none },
  { cls := 22, slots := #[.int 0, .null], vm := .none },
  { cls := 29, slots := #[], vm := .none },
  { cls := 29, slots := #[], vm := .none }]
def classes : Array Class := #[k0, k1, k2, k3, k4, k5, k6, k7, k8, k9, k10, k11, k12, k13, k14, k15, k16, k17, k18, k19, k20, k21, k22, k23, k24, k25, k26, k27, k28, k29]
def interned : List (Array UInt16 × Addr) := []
def slotsUsed : Nat := 20
def theMethod : MethodId := ⟨1, 2⟩
def args0 : Array Value := #[.int 5, .int 3, .long 5, .int 7]
def aboutOver (below : List Frame) : State where
  vm := { classes := classes, interned := interned.toArray }
  heap := heap
  slotsUsed := slotsUsed
  threads := #[{ frames := .invoking theMethod args0 :: below }]
def below0 : List Frame := [.native { method := ⟨0, 0⟩, args := #[] }]
def about1 : State := aboutOver below0
def p0 : Program := .bare "" "" ""
def e0 : Env := launch0.env 0 0 0
theorem w_frames : about1.frames = Frame.invoking theMethod args0 :: below0 := rfl
set_option maxRecDepth 65536 in
theorem w_args : argsFit about1.vm theMethod args0 = true := by decide +kernel
set_option maxRecDepth 65536 in
theorem w_heap : heapFits about1 = true := by decide +kernel
set_option maxRecDepth 65536 in
theorem w_runnable : about1.curStatus? = some .runnable := by decide +kernel
set_option maxRecDepth 65536 in
theorem w_alone : about1.alone = true := by decide +kernel
set_option maxRecDepth 65536 in
theorem w_named : about1.methodNamed? x = some theMethod := by decide +kernel
set_option maxRecDepth 65536 in
theorem w_hears : about1.hears theMethod below0 = true := by decide +kernel
set_option maxRecDepth 65536 in
theorem w_ripe : about1.ripe theMethod args0 below0 = true := by decide +kernel
theorem w_running : about1.status = .running := rfl
set_option maxRecDepth 65536 in
theorem w_room : about1.hasRoom e0.platform room_1 = true :=
  launch0.hasRoom_least _ room_1 (by decide +kernel) (by decide +kernel) (by decide +kernel) (by decide +kernel) (by decide +kernel) (by decide +kernel)
theorem allAtoms_all (ts : List Jvm.Cond) (a : Array Jvm.Value) (st : Jvm.State) : (allAtoms ts).before a st = ts.all (fun c => c.before a st) := by
  induction ts with
  | nil => rfl
  | cons c t ih =>
    show (Jvm.Cond.and c (allAtoms t)).before a st = _
    rw [Jvm.Cond.before_and, ih, List.all_cons]
def words1 : List Jvm.Cond := Jvm.Cond.code x code maxLocals ret :: tables_1
/-- a 'code' word, met by the world's own term for the bytes: nothing is compared byte by byte -/
theorem code_word {y : MethodName} {bytes : ByteArray} {mx : Nat} {rt : Option FieldType} {a : Array Value} {s : State} {m : MethodId} {meth : Method} {c : Code} (h1 : s.methodNamed? y = some m) (h2 : s.vm.method? m = some meth) (h3 : meth.code = some c) (h4 : c.code = bytes)
    (h5 : (c.maxLocals == mx && c.exceptionTable.isEmpty && decide (c.maxStack ≤ mostOperands) && decide (meth.sig.returnType = rt) && !meth.locks && decide (parseMethodDescriptor y.desc = some meth.sig)) = true) : (Jvm.Cond.code y bytes mx rt).before a s = true := by
  simp only [Bool.and_eq_true, beq_iff_eq, Bool.not_eq_true', decide_eq_true_eq] at h5
  obtain ⟨⟨⟨⟨⟨g1, g2⟩, g3⟩, g4⟩, g5⟩, g6⟩ := h5
  simp [Cond.before, Cond.holds, Cond.value, h1, h2, h3, h4, g1, g2, g3, g4, g5, g6]
def isCode : Jvm.Cond → Bool
  | .code _ _ _ _ => true
  | _ => false
theorem all_split {L : List Jvm.Cond} {P : Jvm.Cond → Bool} (h1 : L.all (fun c => isCode c || P c) = true) (h2 : ∀ c ∈ L.filter isCode, P c = true) : L.all P = true := by
  refine List.all_eq_true.mpr fun c hc => ?_
  have h := List.all_eq_true.mp h1 c hc
  rcases Bool.eq_false_or_eq_true (isCode c) with hi | hi
  · exact h2 c (List.mem_filter.mpr ⟨hc, hi⟩)
  · simpa [hi] using h
set_option maxRecDepth 65536 in
theorem w_c0 : (Jvm.Cond.code x code maxLocals ret).before args0 about1 = true := code_word (m := ⟨1, 2⟩) (meth := k1m2) (c := k1c2) (by decide +kernel) rfl rfl rfl (by decide +kernel)
set_option maxRecDepth 65536 in
theorem w_c1 : (Jvm.Cond.code ({ cls := "java/util/ArrayList", name := "<init>", desc := "()V" } : Jvm.MethodName) jdk_38_method_2_code (1 : Nat) (Option.none : Option Jvm.ClassFile.FieldType)).before args0 about1 = true := code_word (m := ⟨11, 0⟩) (meth := k11m0) (c := k11c0) (by decide +kernel) rfl rfl rfl (by decide +kernel)
set_option maxRecDepth 65536 in
theorem w_c2 : (Jvm.Cond.code ({ cls := "java/util/AbstractList", name := "<init>", desc := "()V" } : Jvm.MethodName) jdk_39_method_1_code (1 : Nat) (Option.none : Option Jvm.ClassFile.FieldType)).before args0 about1 = true := code_word (m := ⟨7, 0⟩) (meth := k7m0) (c := k7c0) (by decide +kernel) rfl rfl rfl (by decide +kernel)
set_option maxRecDepth 65536 in
theorem w_c3 : (Jvm.Cond.code ({ cls := "java/util/AbstractCollection", name := "<init>", desc := "()V" } : Jvm.MethodName) jdk_22_method_1_code (1 : Nat) (Option.none : Option Jvm.ClassFile.FieldType)).before args0 about1 = true := code_word (m := ⟨4, 0⟩) (meth := k4m0) (c := k4c0) (by decide +kernel) rfl rfl rfl (by decide +kernel)
set_option maxRecDepth 65536 in
theorem w_c4 : (Jvm.Cond.code ({ cls := "java/lang/Object", name := "<init>", desc := "()V" } : Jvm.MethodName) object_method_1_code (1 : Nat) (Option.none : Option Jvm.ClassFile.FieldType)).before args0 about1 = true := code_word (m := ⟨0, 0⟩) (meth := k0m0) (c := k0c0) (by decide +kernel) rfl rfl rfl (by decide +kernel)
set_option maxRecDepth 65536 in
theorem w_c5 : (Jvm.Cond.code ({ cls := "com/example/ordinal_lock/ordinallock/protocol/WithinLimitTurnPinLaw", name := "ch", desc := "(JI)Ljava/lang/String;" } : Jvm.MethodName) method_2_code (3 : Nat) (Option.some (Jvm.ClassFile.FieldType.object "java/lang/String"))).before args0 about1 = true := code_word (m := ⟨1, 1⟩) (meth := k1m1) (c := k1c1) (by decide +kernel) rfl rfl rfl (by decide +kernel)
set_option maxRecDepth 65536 in
theorem w_c6 : (Jvm.Cond.code ({ cls := "java/lang/String", name := "valueOf", desc := "(C)Ljava/lang/String;" } : Jvm.MethodName) jdk_42_method_139_code (1 : Nat) (Option.some (Jvm.ClassFile.FieldType.object "java/lang/String"))).before args0 about1 = true := code_word (m := ⟨16, 1⟩) (meth := k16m1) (c := k16c1) (by decide +kernel) rfl rfl rfl (by decide +kernel)
set_option maxRecDepth 65536 in
theorem w_c7 : (Jvm.Cond.code ({ cls := "java/lang/StringLatin1", name := "canEncode", desc := "(C)Z" } : Jvm.MethodName) jdk_43_method_3_code (1 : Nat) (Option.some Jvm.ClassFile.FieldType.boolean)).before args0 about1 = true := code_word (m := ⟨17, 1⟩) (meth := k17m1) (c := k17c1) (by decide +kernel) rfl rfl rfl (by decide +kernel)
set_option maxRecDepth 65536 in
theorem w_c8 : (Jvm.Cond.code ({ cls := "java/lang/StringLatin1", name := "toBytes", desc := "(C)[B" } : Jvm.MethodName) jdk_43_method_46_code (1 : Nat) (Option.some (Jvm.ClassFile.FieldType.array Jvm.ClassFile.FieldType.byte))).before args0 about1 = true := code_word (m := ⟨17, 2⟩) (meth := k17m2) (c := k17c2) (by decide +kernel) rfl rfl rfl (by decide +kernel)
set_option maxRecDepth 65536 in
theorem w_c9 : (Jvm.Cond.code ({ cls := "java/lang/String", name := "<init>", desc := "([BB)V" } : Jvm.MethodName) jdk_42_method_151_code (3 : Nat) (Option.none : Option Jvm.ClassFile.FieldType)).before args0 about1 = true := code_word (m := ⟨16, 2⟩) (meth := k16m2) (c := k16c2) (by decide +kernel) rfl rfl rfl (by decide +kernel)
set_option maxRecDepth 65536 in
theorem w_c10 : (Jvm.Cond.code ({ cls := "java/util/ArrayList", name := "add", desc := "(Ljava/lang/Object;)Z" } : Jvm.MethodName) jdk_38_method_25_code (2 : Nat) (Option.some Jvm.ClassFile.FieldType.boolean)).before args0 about1 = true := code_word (m := ⟨11, 5⟩) (meth := k11m5) (c := k11c5) (by decide +kernel) rfl rfl rfl (by decide +kernel)
set_option maxRecDepth 65536 in
theorem w_c11 : (Jvm.Cond.code ({ cls := "java/util/ArrayList", name := "add", desc := "(Ljava/lang/Object;[Ljava/lang/Object;I)V" } : Jvm.MethodName) jdk_38_method_24_code (4 : Nat) (Option.none : Option Jvm.ClassFile.FieldType)).before args0 about1 = true := code_word (m := ⟨11, 4⟩) (meth := k11m4) (c := k11c4) (by decide +kernel) rfl rfl rfl (by decide +kernel)
set_option maxRecDepth 65536 in
theorem w_c12 : (Jvm.Cond.code ({ cls := "java/util/ArrayList", name := "grow", desc := "()[Ljava/lang/Object;" } : Jvm.MethodName) jdk_38_method_7_code (1 : Nat) (Option.some (Jvm.ClassFile.FieldType.array (Jvm.ClassFile.FieldType.object "java/lang/Object")))).before args0 about1 = true := code_word (m := ⟨11, 2⟩) (meth := k11m2) (c := k11c2) (by decide +kernel) rfl rfl rfl (by decide +kernel)
set_option maxRecDepth 65536 in
theorem w_c13 : (Jvm.Cond.code ({ cls := "java/util/ArrayList", name := "grow", desc := "(I)[Ljava/lang/Object;" } : Jvm.MethodName) jdk_38_method_6_code (4 : Nat) (Option.some (Jvm.ClassFile.FieldType.array (Jvm.ClassFile.FieldType.object "java/lang/Object")))).before args0 about1 = true := code_word (m := ⟨11, 1⟩) (meth := k11m1) (c := k11c1) (by decide +kernel) rfl rfl rfl (by decide +kernel)
set_option maxRecDepth 65536 in
theorem w_c14 : (Jvm.Cond.code ({ cls := "java/lang/Math", name := "max", desc := "(II)I" } : Jvm.MethodName) jdk_29_method_65_code (2 : Nat) (Option.some Jvm.ClassFile.FieldType.int)).before args0 about1 = true := code_word (m := ⟨18, 1⟩) (meth := k18m1) (c := k18c1) (by decide +kernel) rfl rfl rfl (by decide +kernel)
set_option maxRecDepth 65536 in
theorem w_c15 : (Jvm.Cond.code ({ cls := "com/example/ordinal_lock/ordinallock/protocol/TurnRule$WithinLimit", name := "<init>", desc := "(I)V" } : Jvm.MethodName) prog_8_method_1_code (2 : Nat) (Option.none : Option Jvm.ClassFile.FieldType)).before args0 about1 = true := code_word (m := ⟨21, 0⟩) (meth := k21m0) (c := k21c0) (by decide +kernel) rfl rfl rfl (by decide +kernel)
set_option maxRecDepth 65536 in
theorem w_c16 : (Jvm.Cond.code ({ cls := "java/lang/Record", name := "<init>", desc := "()V" } : Jvm.MethodName) jdk_30_method_1_code (1 : Nat) (Option.none : Option Jvm.ClassFile.FieldType)).before args0 about1 = true := code_word (m := ⟨19, 0⟩) (meth := k19m0) (c := k19c0) (by decide +kernel) rfl rfl rfl (by decide +kernel)
set_option maxRecDepth 65536 in
theorem w_c17 : (Jvm.Cond.code ({ cls := "com/example/ordinal_lock/ordinallock/protocol/TurnRule$WithinLimit", name := "turn", desc := "(Ljava/util/List;Ljava/lang/String;)Lcom/example/ordinal_lock/ordinallock/protocol/TurnRule$Turn;" } : Jvm.MethodName) prog_8_method_4_code (3 : Nat) (Option.some (Jvm.ClassFile.FieldType.object "com/example/ordinal_lock/ordinallock/protocol/TurnRule$Turn"))).before args0 about1 = true := code_word (m := ⟨21, 1⟩) (meth := k21m1) (c := k21c1) (by decide +kernel) rfl rfl rfl (by decide +kernel)
set_option maxRecDepth 65536 in
theorem w_c18 : (Jvm.Cond.code ({ cls := "java/util/ArrayList", name := "size", desc := "()I" } : Jvm.MethodName) jdk_38_method_8_code (1 : Nat) (Option.some Jvm.ClassFile.FieldType.int)).before args0 about1 = true := code_word (m := ⟨11, 3⟩) (meth := k11m3) (c := k11c3) (by decide +kernel) rfl rfl rfl (by decide +kernel)
set_option maxRecDepth 65536 in
theorem w_c19 : (Jvm.Cond.code ({ cls := "com/example/ordinal_lock/ordinallock/protocol/TurnRule$Turn", name := "come", desc := "()Z" } : Jvm.MethodName) prog_7_method_6_code (1 : Nat) (Option.some Jvm.ClassFile.FieldType.boolean)).before args0 about1 = true := code_word (m := ⟨22, 0⟩) (meth := k22m0) (c := k22c0) (by decide +kernel) rfl rfl rfl (by decide +kernel)
set_option maxRecDepth 65536 in
theorem w_c20 : (Jvm.Cond.code ({ cls := "com/example/ordinal_lock/ordinallock/protocol/TurnRule$Turn", name := "nodeAhead", desc := "()Ljava/lang/String;" } : Jvm.MethodName) prog_7_method_7_code (1 : Nat) (Option.some (Jvm.ClassFile.FieldType.object "java/lang/String"))).before args0 about1 = true := code_word (m := ⟨22, 1⟩) (meth := k22m1) (c := k22c1) (by decide +kernel) rfl rfl rfl (by decide +kernel)
def codes1 : List Jvm.Cond := [Jvm.Cond.code x code maxLocals ret, Jvm.Cond.code ({ cls := "java/util/ArrayList", name := "<init>", desc := "()V" } : Jvm.MethodName) jdk_38_method_2_code (1 : Nat) (Option.none : Option Jvm.ClassFile.FieldType), Jvm.Cond.code ({ cls := "java/util/AbstractList", name := "<init>", desc := "()V" } : Jvm.MethodName) jdk_39_method_1_code (1 : Nat) (Option.none : Option Jvm.ClassFile.FieldType), Jvm.Cond.code ({ cls := "java/util/AbstractCollection", name := "<init>", desc := "()V" } : Jvm.MethodName) jdk_22_method_1_code (1 : Nat) (Option.none : Option Jvm.ClassFile.FieldType), Jvm.Cond.code ({ cls := "java/lang/Object", name := "<init>", desc := "()V" } : Jvm.MethodName) object_method_1_code (1 : Nat) (Option.none : Option Jvm.ClassFile.FieldType), Jvm.Cond.code ({ cls := "com/example/ordinal_lock/ordinallock/protocol/WithinLimitTurnPinLaw", name := "ch", desc := "(JI)Ljava/lang/String;" } : Jvm.MethodName) method_2_code (3 : Nat) (Option.some (Jvm.ClassFile.FieldType.object "java/lang/String")), Jvm.Cond.code ({ cls := "java/lang/String", name := "valueOf", desc := "(C)Ljava/lang/String;" } : Jvm.MethodName) jdk_42_method_139_code (1 : Nat) (Option.some (Jvm.ClassFile.FieldType.object "java/lang/String")), Jvm.Cond.code ({ cls := "java/lang/StringLatin1", name := "canEncode", desc := "(C)Z" } : Jvm.MethodName) jdk_43_method_3_code (1 : Nat) (Option.some Jvm.ClassFile.FieldType.boolean), Jvm.Cond.code ({ cls := "java/lang/StringLatin1", name := "toBytes", desc := "(C)[B" } : Jvm.MethodName) jdk_43_method_46_code (1 : Nat) (Option.some (Jvm.ClassFile.FieldType.array Jvm.ClassFile.FieldType.byte)), Jvm.Cond.code ({ cls := "java/lang/String", name := "<init>", desc := "([BB)V" } : Jvm.MethodName) jdk_42_method_151_code (3 : Nat) (Option.none : Option Jvm.ClassFile.FieldType), Jvm.Cond.code ({ cls := "java/util/ArrayList", name := "add", desc := "(Ljava/lang/Object;)Z" } : Jvm.MethodName) jdk_38_method_25_code (2 : Nat) (Option.some Jvm.ClassFile.FieldType.boolean), Jvm.Cond.code ({ cls := "java/util/ArrayList", name := "add", desc := "(Ljava/lang/Object;[Ljava/lang/Object;I)V" } : Jvm.MethodName) jdk_38_method_24_code (4 : Nat) (Option.none : Option Jvm.ClassFile.FieldType), Jvm.Cond.code ({ cls := "java/util/ArrayList", name := "grow", desc := "()[Ljava/lang/Object;" } : Jvm.MethodName) jdk_38_method_7_code (1 : Nat) (Option.some (Jvm.ClassFile.FieldType.array (Jvm.ClassFile.FieldType.object "java/lang/Object"))), Jvm.Cond.code ({ cls := "java/util/ArrayList", name := "grow", desc := "(I)[Ljava/lang/Object;" } : Jvm.MethodName) jdk_38_method_6_code (4 : Nat) (Option.some (Jvm.ClassFile.FieldType.array (Jvm.ClassFile.FieldType.object "java/lang/Object"))), Jvm.Cond.code ({ cls := "java/lang/Math", name := "max", desc := "(II)I" } : Jvm.MethodName) jdk_29_method_65_code (2 : Nat) (Option.some Jvm.ClassFile.FieldType.int), Jvm.Cond.code ({ cls := "com/example/ordinal_lock/ordinallock/protocol/TurnRule$WithinLimit", name := "<init>", desc := "(I)V" } : Jvm.MethodName) prog_8_method_1_code (2 : Nat) (Option.none : Option Jvm.ClassFile.FieldType), Jvm.Cond.code ({ cls := "java/lang/Record", name := "<init>", desc := "()V" } : Jvm.MethodName) jdk_30_method_1_code (1 : Nat) (Option.none : Option Jvm.ClassFile.FieldType), Jvm.Cond.code ({ cls := "com/example/ordinal_lock/ordinallock/protocol/TurnRule$WithinLimit", name := "turn", desc := "(Ljava/util/List;Ljava/lang/String;)Lcom/example/ordinal_lock/ordinallock/protocol/TurnRule$Turn;" } : Jvm.MethodName) prog_8_method_4_code (3 : Nat) (Option.some (Jvm.ClassFile.FieldType.object "com/example/ordinal_lock/ordinallock/protocol/TurnRule$Turn")), Jvm.Cond.code ({ cls := "java/util/ArrayList", name := "size", desc := "()I" } : Jvm.MethodName) jdk_38_method_8_code (1 : Nat) (Option.some Jvm.ClassFile.FieldType.int), Jvm.Cond.code ({ cls := "com/example/ordinal_lock/ordinallock/protocol/TurnRule$Turn", name := "come", desc := "()Z" } : Jvm.MethodName) prog_7_method_6_code (1 : Nat) (Option.some Jvm.ClassFile.FieldType.boolean), Jvm.Cond.code ({ cls := "com/example/ordinal_lock/ordinallock/protocol/TurnRule$Turn", name := "nodeAhead", desc := "()Ljava/lang/String;" } : Jvm.MethodName) prog_7_method_7_code (1 : Nat) (Option.some (Jvm.ClassFile.FieldType.object "java/lang/String"))]
set_option maxRecDepth 65536 in
theorem codes_eq : words1.filter isCode = codes1 := rfl
theorem w_codes : ∀ c ∈ words1.filter isCode, c.before args0 about1 = true := by
  rw [codes_eq]
  intro c hc
  simp only [codes1, List.mem_cons, List.not_mem_nil, or_false] at hc
  rcases hc with rfl | rfl | rfl | rfl | rfl | rfl | rfl | rfl | rfl | rfl | rfl | rfl | rfl | rfl | rfl | rfl | rfl | rfl | rfl | rfl | rfl
  · exact w_c0
  · exact w_c1
  · exact w_c2
  · exact w_c3
  · exact w_c4
  · exact w_c5
  · exact w_c6
  · exact w_c7
  · exact w_c8
  · exact w_c9
  · exact w_c10
  · exact w_c11
  · exact w_c12
  · exact w_c13
  · exact w_c14
  · exact w_c15
  · exact w_c16
  · exact w_c17
  · exact w_c18
  · exact w_c19
  · exact w_c20
set_option maxRecDepth 65536 in
theorem w_t1 : (words1.take 24).all (fun c => isCode c || c.before args0 about1) = true := by decide +kernel
set_option maxRecDepth 65536 in
theorem w_t2 : ((words1.drop 24).take 24).all (fun c => isCode c || c.before args0 about1) = true := by decide +kernel
set_option maxRecDepth 65536 in
theorem w_t3 : (((words1.drop 24).drop 24).take 24).all (fun c => isCode c || c.before args0 about1) = true := by decide +kernel
set_option maxRecDepth 65536 in
theorem w_t4 : ((((words1.drop 24).drop 24).drop 24).take 24).all (fun c => isCode c || c.before args0 about1) = true := by decide +kernel
set_option maxRecDepth 65536 in
theorem w_t5 : (((((words1.drop 24).drop 24).drop 24).drop 24).take 24).all (fun c => isCode c || c.before args0 about1) = true := by decide +kernel
set_option maxRecDepth 65536 in
theorem w_t6 : (((((words1.drop 24).drop 24).drop 24).drop 24).drop 24).all (fun c => isCode c || c.before args0 about1) = true := by decide +kernel
theorem w_tables : (allAtoms (Jvm.Cond.code x code maxLocals ret :: tables_1)).before args0 about1 = true := by
  rw [allAtoms_all]
  show words1.all (fun c => c.before args0 about1) = true
  refine all_split ?_ w_codes
  rw [← List.take_append_drop 24 words1, List.all_append, w_t1, ← List.take_append_drop 24 (words1.drop 24), List.all_append, w_t2, ← List.take_append_drop 24 ((words1.drop 24).drop 24), List.all_append, w_t3, ← List.take_append_drop 24 (((words1.drop 24).drop 24).drop 24), List.all_append, w_t4, ← List.take_append_drop 24 ((((words1.drop 24).drop 24).drop 24).drop 24), List.all_append, w_t5, w_t6]
  rfl
set_option maxRecDepth 65536 in
theorem w_rest : rest_1_c.before args0 about1 = true := by decide +kernel
set_option maxRecDepth 65536 in
theorem w_case : (Jvm.Cond.and given_1 narrow_1).before args0 about1 = true := by decide +kernel
theorem w_applies : (headSpec (Jvm.Cond.code x code maxLocals ret :: tables_1) room_1).applies x e0.platform about1 = true :=
  (Spec.applies_iff w_frames).mpr ⟨w_running, w_runnable, w_alone, w_named, w_hears, w_ripe, w_room, w_tables⟩
theorem atStart : AtStart classFile x code maxLocals ret World_1 tables_1 room_1 Calls_1 rest_1 Pre_1 launch0 p0 e0 about1 theMethod args0 below0 :=
  ⟨lists_1, trivial, launch0.admits_env _ _ _, launch0.least_env, fairChoices_fair.cas, fairChoices_fair.clock, w_frames, w_args, w_heap, w_applies, trivial, w_rest, w_case⟩
end start1
theorem witness_1 : WitnessClaimed_1 := ⟨start1.p0, start1.e0, start1.about1, start1.theMethod, start1.args0, start1.below0, start1.atStart⟩
end Jvm.Pilot.@@N@@
