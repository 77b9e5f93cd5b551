import JvmDerived
import JvmDerived.Pilot.@@N@@Statement
import JvmDerived.Pilot.@@N@@Code
set_option linter.unusedVariables false
set_option linter.unusedSimpArgs false
namespace Jvm.RoadKit
open Sem ClassFile Op Lib Jvm.Stand Jvm.Free Jvm.LawKit
section New
variable {p : Program} {l : Launch} {e : Env} {R : Room} {s : State} {m : MethodId} {args : Array Value} {below : List Frame} {meth : Method} {c : Code} {T : State} {locs : List Loc} {cells slots : Nat}
theorem retI (X : Stand p l e R s m args below meth c T locs cells slots) (hx : p.tables.exec = Jvm.exec) {pc : Nat} {Ls : Array Slot} {z : Int32} {rest : List Value} (hret : meth.sig.returnType = some .int) (hd : decode c.code pc = .ok (.ireturn, 1)) {fs : List Frame}
    (hl : ∀ (f : JFrame) (acts : List Action), f.method = m → f.locked = none → f.entered = [] → (doReturn e (T.setTop f) acts (some (.int z))).1 = T.setFrames fs) : Steps p.tables e below (T.setTop (mkF m pc Ls (.int z :: rest))) (T.setFrames fs) := by
  have hm' : T.vm.method? m = some meth := X.method'
  have hn : narrow .int (.int z) = .int z := rfl
  show Steps p.tables e below (T.setTop { method := m, pc := pc, locals := Ls, stack := _ :: rest, locked := none }) _
  jvm_step X.here [X.here.top, hx, hd, hm', hret, hn]
  first | (intro acts; rw [hl _ acts rfl rfl rfl]) | rw [hl _ _ rfl rfl rfl]
  exact Steps.refl _
theorem retL (X : Stand p l e R s m args below meth c T locs cells slots) (hx : p.tables.exec = Jvm.exec) {pc : Nat} {Ls : Array Slot} {z : Int64} {rest : List Value} (hret : meth.sig.returnType = some .long) (hd : decode c.code pc = .ok (.lreturn, 1)) {fs : List Frame}
    (hl : ∀ (f : JFrame) (acts : List Action), f.method = m → f.locked = none → f.entered = [] → (doReturn e (T.setTop f) acts (some (.long z))).1 = T.setFrames fs) : Steps p.tables e below (T.setTop (mkF m pc Ls (.long z :: rest))) (T.setFrames fs) := by
  have hm' : T.vm.method? m = some meth := X.method'
  have hn : narrow .long (.long z) = .long z := rfl
  show Steps p.tables e below (T.setTop { method := m, pc := pc, locals := Ls, stack := _ :: rest, locked := none }) _
  jvm_step X.here [X.here.top, hx, hd, hm', hret, hn]
  first | (intro acts; rw [hl _ acts rfl rfl rfl]) | rw [hl _ _ rfl rfl rfl]
  exact Steps.refl _
end New
end Jvm.RoadKit
namespace Jvm.Pilot.@@N@@
open Jvm Jvm.ClassFile Sem Op Lib Jvm.Free Jvm.Stand Jvm.LawKit Jvm.RoadKit Bundle Jvm.Pilot.@@N@@.Jvm.D

theorem own_tif {tb : Tables} [Ours tb] {e : Env} {below : List Frame} {T target : State} {m : MethodId} {c : Code} {cd : ClassFile.Cond} {pc : Nat} {Ls : Array Slot} {v : Int32} {rest : List Value} (h : At T m c below) (hx : tb.exec = Jvm.exec)
    (d0 : decode c.code pc = .ok (.ifCond cd 7, 3)) (d1 : decode c.code (pc + 3) = .ok (.iconst 1, 1)) (d2 : decode c.code (pc + 4) = .ok (.goto 4, 3)) (d3 : decode c.code (pc + 7) = .ok (.iconst 0, 1))
    (hr : Steps tb e below (T.setTop (mkF m (pc + 8) Ls (.int (if ifCond.holds cd v = true then 0 else 1) :: rest))) target) :
    Steps tb e below (T.setTop (mkF m pc Ls (.int v :: rest))) target := by
  rcases Bool.eq_false_or_eq_true (ifCond.holds cd v) with hc | hc
  · rw [hc, if_pos rfl] at hr
    refine XS.ifYes h hx rfl (pc0 := pc) (pc' := pc + 7) rfl d0 rfl hc (by omega) (by omega) ?_
    refine XS.iconst h hx rfl d3 ?_
    exact hr
  · rw [hc, if_neg (by decide)] at hr
    refine XS.ifNo h hx rfl d0 rfl hc ?_
    refine XS.iconst h hx rfl d1 ?_
    refine XS.goto h hx rfl (pc0 := pc + 4) (pc' := pc + 8) rfl d2 (by omega) (by omega) ?_
    exact hr
theorem own_tic {tb : Tables} [Ours tb] {e : Env} {below : List Frame} {T target : State} {m : MethodId} {c : Code} {cd : ClassFile.Cond} {pc : Nat} {Ls : Array Slot} {v w : Int32} {rest : List Value} (h : At T m c below) (hx : tb.exec = Jvm.exec)
    (d0 : decode c.code pc = .ok (.if_icmp cd 7, 3)) (d1 : decode c.code (pc + 3) = .ok (.iconst 1, 1)) (d2 : decode c.code (pc + 4) = .ok (.goto 4, 3)) (d3 : decode c.code (pc + 7) = .ok (.iconst 0, 1))
    (hr : Steps tb e below (T.setTop (mkF m (pc + 8) Ls (.int (if if_icmp.holds cd v w = true then 0 else 1) :: rest))) target) :
    Steps tb e below (T.setTop (mkF m pc Ls (.int w :: .int v :: rest))) target := by
  rcases Bool.eq_false_or_eq_true (if_icmp.holds cd v w) with hc | hc
  · rw [hc, if_pos rfl] at hr
    refine XS.icmpYes h hx rfl (pc0 := pc) (pc' := pc + 7) rfl d0 rfl hc (by omega) (by omega) ?_
    refine XS.iconst h hx rfl d3 ?_
    exact hr
  · rw [hc, if_neg (by decide)] at hr
    refine XS.icmpNo h hx rfl d0 rfl hc ?_
    refine XS.iconst h hx rfl d1 ?_
    refine XS.goto h hx rfl (pc0 := pc + 4) (pc' := pc + 8) rfl d2 (by omega) (by omega) ?_
    exact hr
theorem own_tif_ne {tb : Tables} [Ours tb] {e : Env} {below : List Frame} {T target : State} {m : MethodId} {c : Code} {pc : Nat} {Ls : Array Slot} {v : Int32} {rest : List Value} (h : At T m c below) (hx : tb.exec = Jvm.exec)
    (d0 : decode c.code pc = .ok (.ifCond .ne 7, 3)) (d1 : decode c.code (pc + 3) = .ok (.iconst 1, 1)) (d2 : decode c.code (pc + 4) = .ok (.goto 4, 3)) (d3 : decode c.code (pc + 7) = .ok (.iconst 0, 1))
    (hr : Steps tb e below (T.setTop (mkF m (pc + 8) Ls (.int (if v = (0 : Int32) then (1 : Int32) else 0) :: rest))) target) :
    Steps tb e below (T.setTop (mkF m pc Ls (.int v :: rest))) target := by
  refine own_tif h hx d0 d1 d2 d3 ?_
  by_cases hb : v = (0 : Int32)
  · have hh : ifCond.holds .ne v = false := (if0 _ _).trans (teq hb).2
    rw [if_pos hb] at hr; rw [hh]; exact hr
  · have hh : ifCond.holds .ne v = true := (if0 _ _).trans (feq hb).2
    rw [if_neg hb] at hr; rw [hh]; exact hr

theorem own_narb (P : Prop) [Decidable P] : nar .boolean (if P then (1 : Int32) else 0) = (if P then (1 : Int32) else 0) := by
  by_cases h : P
  · rw [if_pos h]; rfl
  · rw [if_neg h]; rfl
def own_S (Z : State) (h : Heap) (o a b : Addr) (nw od : Value) (sz : Int32) (an ao bn bo : Value) : Prop :=
  Exa Z h o "com/example/idlewell/idlewell/engine/ObjectList" ∧ Exa Z h a "com/example/idlewell/idlewell/engine/PooledObject" ∧ Exa Z h b "com/example/idlewell/idlewell/engine/PooledObject" ∧ Fld Z h o "com/example/idlewell/idlewell/engine/ObjectList" "newest" "Lcom/example/idlewell/idlewell/engine/PooledObject;" nw ∧ Fld Z h o "com/example/idlewell/idlewell/engine/ObjectList" "oldest" "Lcom/example/idlewell/idlewell/engine/PooledObject;" od ∧ Fld Z h o "com/example/idlewell/idlewell/engine/ObjectList" "size" "I" (.int sz) ∧ Fld Z h a "com/example/idlewell/idlewell/engine/PooledObject" "newer" "Lcom/example/idlewell/idlewell/engine/PooledObject;" an ∧ Fld Z h a "com/example/idlewell/idlewell/engine/PooledObject" "older" "Lcom/example/idlewell/idlewell/engine/PooledObject;" ao ∧ Fld Z h b "com/example/idlewell/idlewell/engine/PooledObject" "newer" "Lcom/example/idlewell/idlewell/engine/PooledObject;" bn ∧ Fld Z h b "com/example/idlewell/idlewell/engine/PooledObject" "older" "Lcom/example/idlewell/idlewell/engine/PooledObject;" bo
theorem d1_0 : decode prog_16_method_1_code 0 = .ok (.aload_n 0, 1) := by decide +kernel
theorem d1_1 : decode prog_16_method_1_code 1 = .ok (.invokespecial 1, 3) := by decide +kernel
theorem d1_4 : decode prog_16_method_1_code 4 = .ok (.return_, 1) := by decide +kernel
theorem pn_1 : plainName "com/example/idlewell/idlewell/engine/ObjectList" = true := by first | (simp [plainName, overriddenIn]; done) | decide +kernel
theorem ef_1 (m : MethodId) (x0 : Addr) : entryFrame m #[(.ref x0)] 1 = mkF m 0 #[.val (.ref x0)] [] := by first | (simp [entryFrame, mkF, argsToLocals, Value.category]; done) | rfl
def Q1 (Z : State) (a1 : Addr) (h0 : Heap) (n0 : Nat) (v : Option Value) (h : Heap) (L : List Loc) : Prop := v = none ∧ Fr n0 L ∧ h = h0
set_option maxRecDepth 65536 in
set_option maxHeartbeats 40000000 in
theorem rm1 (l : Launch) (Z : State) (a0 : Array Value) (hw : ∀ d ∈ tables_1, d.before a0 Z = true) (ws : List Jvm.Cond) (a1 : Addr) (h0 : Heap) (n0 : Nat) (Z0 : n0 ≤ h0.size) :
    MetFree l (⟨"com/example/idlewell/idlewell/engine/ObjectList", "<init>", "()V"⟩ : MethodName) (head1 (Jvm.Cond.code (⟨"com/example/idlewell/idlewell/engine/ObjectList", "<init>", "()V"⟩ : MethodName) prog_16_method_1_code 1 none :: ws) ({ frames := 1, cells := 0, slots := 0, locals := 12 } : Room)) (fun a U => a = #[(.ref a1)] ∧ Z.Warmed39 U.vm ∧ U.heap = h0) (fun _ _ _ _ _ => True) (fun _ U o U' => ∃ v L, o = .returned v ∧ Q1 Z a1 h0 n0 v U'.heap L ∧ FrameEnd U o U' L ({ frames := 1, cells := 0, slots := 0, locals := 12 } : Room).cells ({ frames := 1, cells := 0, slots := 0, locals := 12 } : Room).slots) := by
  refine MetFree.of_bodySF (plainFor_of_name pn_1) hisR ?_
  intro p e s m args below meth c s₁ Bd hml0 hP hK
  obtain ⟨rfl, hZ, hh⟩ := hP
  have hx := Bd.exec
  have hby := Bd.bytes
  have hml : c.maxLocals = 1 := hml0
  have hown : s.vm.findClass "com/example/idlewell/idlewell/engine/ObjectList" = some m.cls := findClass_of_methodNamed Bd.named
  have hnm := (name_of_methodNamed Bd.named Bd.method).1
  have X0 : Stand p l e ({ frames := 1, cells := 0, slots := 0, locals := 12 } : Room) s m #[(.ref a1)] below meth c s₁ [] 0 0 := Stand.of_body Bd
  have e0 : s₁.heap = h0 := by rw [← hh, Bd.state]; rfl
  have N0 := Fr.nil n0
  have pre0 : ∀ t, Steps p.tables e below (s₁.setTop (mkF m 0 #[.val (.ref a1)] [])) t → Steps p.tables e below (s₁.setTop (entryFrame m #[(.ref a1)] 1)) t := fun t k => castTop (ef_1 m a1) k
  obtain ⟨T2, X2, e2, st2⟩ := initO X0 hx hZ hown (hw _ (List.mem_of_getElem? (i := 6) rfl)) (hw _ (List.mem_of_getElem? (i := 7) rfl)) (hw _ (List.mem_of_getElem? (i := 8) rfl)) e0 (g := (mkF m 1 #[.val (.ref a1)] [(.ref a1)])) rfl (by rw [hml]; rfl) rfl (hb hby d1_1) (by decide) (W := 0) (by show 2 * 0 + _ ≤ _; exact Nat.le_of_eq rfl) (by decide)
  obtain ⟨fs, hr, hrun, hended, hW, hsame⟩ := X2.leave (v := none) (fun _ => rfl)
  refine ⟨_, _, pre0 _ ?_, hrun, hended, _, _, rfl, ?_, ⟨_, rfl⟩, hW, hsame.mono (by decide) (by decide)⟩
  · show Steps p.tables e below (s₁.setTop (mkF m 0 #[.val (.ref a1)] [])) _
    refine XS.aloadN X0.here hx rfl (hb hby d1_0) rfl rfl ?_
    show Steps p.tables e below (s₁.setTop (mkF m 1 #[.val (.ref a1)] [(.ref a1)])) _
    refine st2 _ ?_
    show Steps p.tables e below (T2.setTop (mkF m 4 #[.val (.ref a1)] [])) _
    exact X2.returnOut hx Bd.returns (hb hby d1_4) hr
  · show Q1 Z a1 h0 n0 _ T2.heap _
    rw [e2]
    exact ⟨rfl, N0, rfl⟩
theorem d3_0 : decode prog_19_method_1_code 0 = .ok (.aload_n 0, 1) := by decide +kernel
theorem d3_1 : decode prog_19_method_1_code 1 = .ok (.invokespecial 1, 3) := by decide +kernel
theorem d3_4 : decode prog_19_method_1_code 4 = .ok (.aload_n 0, 1) := by decide +kernel
theorem d3_5 : decode prog_19_method_1_code 5 = .ok (.aload_n 1, 1) := by decide +kernel
theorem d3_6 : decode prog_19_method_1_code 6 = .ok (.putfield 7, 3) := by decide +kernel
theorem d3_9 : decode prog_19_method_1_code 9 = .ok (.aload_n 0, 1) := by decide +kernel
theorem d3_10 : decode prog_19_method_1_code 10 = .ok (.aload_n 2, 1) := by decide +kernel
theorem d3_11 : decode prog_19_method_1_code 11 = .ok (.putfield 13, 3) := by decide +kernel
theorem d3_14 : decode prog_19_method_1_code 14 = .ok (.aload_n 0, 1) := by decide +kernel
theorem d3_15 : decode prog_19_method_1_code 15 = .ok (.iload_n 3, 1) := by decide +kernel
theorem d3_16 : decode prog_19_method_1_code 16 = .ok (.ifCond .eq 14, 3) := by decide +kernel
theorem d3_30 : decode prog_19_method_1_code 30 = .ok (.aconst_null, 1) := by decide +kernel
theorem d3_31 : decode prog_19_method_1_code 31 = .ok (.putfield 22, 3) := by decide +kernel
theorem d3_34 : decode prog_19_method_1_code 34 = .ok (.return_, 1) := by decide +kernel
theorem pn_3 : plainName "com/example/idlewell/idlewell/engine/PooledObject" = true := by first | (simp [plainName, overriddenIn]; done) | decide +kernel
theorem ef_3 (m : MethodId) (x0 : Addr) (x3 : Int32) : entryFrame m #[(.ref x0), .null, .null, (.int x3)] 4 = mkF m 0 #[.val (.ref x0), .val .null, .val .null, .val (.int x3)] [] := by first | (simp [entryFrame, mkF, argsToLocals, Value.category]; done) | rfl
def Q3 (Z : State) (a1 : Addr) (p2 : Int32) (u_pool_a1 : Value) (u_object_a1 : Value) (u_slot_a1 : Value) (h0 : Heap) (n0 : Nat) (v : Option Value) (h : Heap) (L : List Loc) : Prop := v = none ∧ Fr n0 L ∧ Keep h0 h [a1] ∧ Exa Z h a1 "com/example/idlewell/idlewell/engine/PooledObject" ∧ Fld Z h a1 "com/example/idlewell/idlewell/engine/PooledObject" "newer" "Lcom/example/idlewell/idlewell/engine/PooledObject;" .null ∧ Fld Z h a1 "com/example/idlewell/idlewell/engine/PooledObject" "older" "Lcom/example/idlewell/idlewell/engine/PooledObject;" .null
set_option maxRecDepth 65536 in
set_option maxHeartbeats 40000000 in
theorem rm3 (l : Launch) (Z : State) (a0 : Array Value) (hw : ∀ d ∈ tables_1, d.before a0 Z = true) (ws : List Jvm.Cond) (a1 : Addr) (p2 : Int32) (u_pool_a1 : Value) (u_object_a1 : Value) (u_slot_a1 : Value) (h0 : Heap) (n0 : Nat) (Z0 : n0 ≤ h0.size) (E_a1 : Exa Z h0 a1 "com/example/idlewell/idlewell/engine/PooledObject") (Fpn : Fld Z h0 a1 "com/example/idlewell/idlewell/engine/PooledObject" "newer" "Lcom/example/idlewell/idlewell/engine/PooledObject;" .null) (Fpo : Fld Z h0 a1 "com/example/idlewell/idlewell/engine/PooledObject" "older" "Lcom/example/idlewell/idlewell/engine/PooledObject;" .null) (F_pool_a1 : Fld Z h0 a1 "com/example/idlewell/idlewell/engine/PooledObject" "pool" "Lcom/example/idlewell/idlewell/engine/BoundedPool;" u_pool_a1) (g_a1 : n0 ≤ a1) (F_object_a1 : Fld Z h0 a1 "com/example/idlewell/idlewell/engine/PooledObject" "object" "Ljava/lang/Object;" u_object_a1) (F_slot_a1 : Fld Z h0 a1 "com/example/idlewell/idlewell/engine/PooledObject" "slot" "Lcom/example/idlewell/idlewell/engine/ThreadSlot;" u_slot_a1) (hc16 : p2 = (0 : Int32)) :
    MetFree l (⟨"com/example/idlewell/idlewell/engine/PooledObject", "<init>", "(Lcom/example/idlewell/idlewell/engine/BoundedPool;Ljava/lang/Object;Z)V"⟩ : MethodName) (head1 (Jvm.Cond.code (⟨"com/example/idlewell/idlewell/engine/PooledObject", "<init>", "(Lcom/example/idlewell/idlewell/engine/BoundedPool;Ljava/lang/Object;Z)V"⟩ : MethodName) prog_19_method_1_code 4 none :: ws) ({ frames := 1, cells := 0, slots := 0, locals := 12 } : Room)) (fun a U => a = #[(.ref a1), .null, .null, (.int p2)] ∧ Z.Warmed39 U.vm ∧ U.heap = h0) (fun _ _ _ _ _ => True) (fun _ U o U' => ∃ v L, o = .returned v ∧ Q3 Z a1 p2 u_pool_a1 u_object_a1 u_slot_a1 h0 n0 v U'.heap L ∧ FrameEnd U o U' L ({ frames := 1, cells := 0, slots := 0, locals := 12 } : Room).cells ({ frames := 1, cells := 0, slots := 0, locals := 12 } : Room).slots) := by
  refine MetFree.of_bodySF (plainFor_of_name pn_3) hisR ?_
  intro p e s m args below meth c s₁ Bd hml0 hP hK
  obtain ⟨rfl, hZ, hh⟩ := hP
  have hx := Bd.exec
  have hby := Bd.bytes
  have hml : c.maxLocals = 4 := hml0
  have hown : s.vm.findClass "com/example/idlewell/idlewell/engine/PooledObject" = some m.cls := findClass_of_methodNamed Bd.named
  have hnm := (name_of_methodNamed Bd.named Bd.method).1
  have X0 : Stand p l e ({ frames := 1, cells := 0, slots := 0, locals := 12 } : Room) s m #[(.ref a1), .null, .null, (.int p2)] below meth c s₁ [] 0 0 := Stand.of_body Bd
  have e0 : s₁.heap = h0 := by rw [← hh, Bd.state]; rfl
  have N0 := Fr.nil n0
  have pre0 : ∀ t, Steps p.tables e below (s₁.setTop (mkF m 0 #[.val (.ref a1), .val .null, .val .null, .val (.int p2)] [])) t → Steps p.tables e below (s₁.setTop (entryFrame m #[(.ref a1), .null, .null, (.int p2)] 4)) t := fun t k => castTop (ef_3 m a1 p2) k
  obtain ⟨T3, X3, e3, st3⟩ := initO X0 hx hZ hown (hw _ (List.mem_of_getElem? (i := 15) rfl)) (hw _ (List.mem_of_getElem? (i := 7) rfl)) (hw _ (List.mem_of_getElem? (i := 8) rfl)) e0 (g := (mkF m 1 #[.val (.ref a1), .val .null, .val .null, .val (.int p2)] [(.ref a1)])) rfl (by rw [hml]; rfl) rfl (hb hby d3_1) (by decide) (W := 0) (by show 2 * 0 + _ ≤ _; exact Nat.le_of_eq rfl) (by decide)
  obtain ⟨T4, h4, X4, e4, W4, st4⟩ := putF X3 hx hZ hown (host := "") (Or.inl (hw _ (List.mem_of_getElem? (i := 16) rfl))) Via.refl e3 F_pool_a1 E_a1 (Or.inr ⟨(hw _ (List.mem_of_getElem? (i := 17) rfl)), rfl, hnm⟩) (hw _ (List.mem_of_getElem? (i := 10) rfl)) (ty := (.object "com/example/idlewell/idlewell/engine/BoundedPool")) (by decide) rfl rfl (g := (mkF m 6 #[.val (.ref a1), .val .null, .val .null, .val (.int p2)] [.null, (.ref a1)])) rfl rfl (hb hby d3_6)
  have Fw4 := F_pool_a1.same W4
  have K4 : Keep h0 h4 [a1] := (Keep.refl h0 [a1]).wr W4 (Or.inl (List.mem_of_getElem? (i := 0) rfl))
  have N4 := Fr.snoc X4 N0 g_a1
  obtain ⟨T5, h5, X5, e5, W5, st5⟩ := putF X4 hx hZ hown (host := "") (Or.inl (hw _ (List.mem_of_getElem? (i := 18) rfl))) Via.refl e4 (F_object_a1.other W4 (Or.inr (slot_ne (Or.inr (hw _ (List.mem_of_getElem? (i := 19) rfl))) (Or.inr (hw _ (List.mem_of_getElem? (i := 17) rfl))) (by decide) (t := (.object "java/lang/Object")) (t' := (.object "com/example/idlewell/idlewell/engine/BoundedPool")) (by decide) (by decide)))) (E_a1.wr W4) (Or.inr ⟨(hw _ (List.mem_of_getElem? (i := 19) rfl)), rfl, hnm⟩) (hw _ (List.mem_of_getElem? (i := 10) rfl)) (ty := (.object "java/lang/Object")) (by decide) rfl rfl (g := (mkF m 11 #[.val (.ref a1), .val .null, .val .null, .val (.int p2)] [.null, (.ref a1)])) rfl rfl (hb hby d3_11)
  have Fw5 := (F_object_a1.other W4 (Or.inr (slot_ne (Or.inr (hw _ (List.mem_of_getElem? (i := 19) rfl))) (Or.inr (hw _ (List.mem_of_getElem? (i := 17) rfl))) (by decide) (t := (.object "java/lang/Object")) (t' := (.object "com/example/idlewell/idlewell/engine/BoundedPool")) (by decide) (by decide)))).same W5
  have K5 : Keep h0 h5 [a1] := K4.wr W5 (Or.inl (List.mem_of_getElem? (i := 0) rfl))
  have N5 := Fr.snoc X5 N4 g_a1
  obtain ⟨T6, h6, X6, e6, W6, st6⟩ := putF X5 hx hZ hown (host := "") (Or.inl (hw _ (List.mem_of_getElem? (i := 20) rfl))) Via.refl e5 ((F_slot_a1.other W4 (Or.inr (slot_ne (Or.inr (hw _ (List.mem_of_getElem? (i := 21) rfl))) (Or.inr (hw _ (List.mem_of_getElem? (i := 17) rfl))) (by decide) (t := (.object "com/example/idlewell/idlewell/engine/ThreadSlot")) (t' := (.object "com/example/idlewell/idlewell/engine/BoundedPool")) (by decide) (by decide)))).other W5 (Or.inr (slot_ne (Or.inr (hw _ (List.mem_of_getElem? (i := 21) rfl))) (Or.inr (hw _ (List.mem_of_getElem? (i := 19) rfl))) (by decide) (t := (.object "com/example/idlewell/idlewell/engine/ThreadSlot")) (t' := (.object "java/lang/Object")) (by decide) (by decide)))) ((E_a1.wr W4).wr W5) (Or.inr ⟨(hw _ (List.mem_of_getElem? (i := 21) rfl)), rfl, hnm⟩) (hw _ (List.mem_of_getElem? (i := 10) rfl)) (ty := (.object "com/example/idlewell/idlewell/engine/ThreadSlot")) (by decide) rfl rfl (g := (mkF m 31 #[.val (.ref a1), .val .null, .val .null, .val (.int p2)] [.null, (.ref a1)])) rfl rfl (hb hby d3_31)
  have Fw6 := ((F_slot_a1.other W4 (Or.inr (slot_ne (Or.inr (hw _ (List.mem_of_getElem? (i := 21) rfl))) (Or.inr (hw _ (List.mem_of_getElem? (i := 17) rfl))) (by decide) (t := (.object "com/example/idlewell/idlewell/engine/ThreadSlot")) (t' := (.object "com/example/idlewell/idlewell/engine/BoundedPool")) (by decide) (by decide)))).other W5 (Or.inr (slot_ne (Or.inr (hw _ (List.mem_of_getElem? (i := 21) rfl))) (Or.inr (hw _ (List.mem_of_getElem? (i := 19) rfl))) (by decide) (t := (.object "com/example/idlewell/idlewell/engine/ThreadSlot")) (t' := (.object "java/lang/Object")) (by decide) (by decide)))).same W6
  have K6 : Keep h0 h6 [a1] := K5.wr W6 (Or.inl (List.mem_of_getElem? (i := 0) rfl))
  have N6 := Fr.snoc X6 N5 g_a1
  obtain ⟨fs, hr, hrun, hended, hW, hsame⟩ := X6.leave (v := none) (fun _ => rfl)
  refine ⟨_, _, pre0 _ ?_, hrun, hended, _, _, rfl, ?_, ⟨_, rfl⟩, hW, hsame.mono (by decide) (by decide)⟩
  · show Steps p.tables e below (s₁.setTop (mkF m 0 #[.val (.ref a1), .val .null, .val .null, .val (.int p2)] [])) _
    refine XS.aloadN X0.here hx rfl (hb hby d3_0) rfl rfl ?_
    show Steps p.tables e below (s₁.setTop (mkF m 1 #[.val (.ref a1), .val .null, .val .null, .val (.int p2)] [(.ref a1)])) _
    refine st3 _ ?_
    show Steps p.tables e below (T3.setTop (mkF m 4 #[.val (.ref a1), .val .null, .val .null, .val (.int p2)] [])) _
    refine XS.aloadN X3.here hx rfl (hb hby d3_4) rfl rfl ?_
    show Steps p.tables e below (T3.setTop (mkF m 5 #[.val (.ref a1), .val .null, .val .null, .val (.int p2)] [(.ref a1)])) _
    refine XS.aloadN X3.here hx rfl (hb hby d3_5) rfl rfl ?_
    show Steps p.tables e below (T3.setTop (mkF m 6 #[.val (.ref a1), .val .null, .val .null, .val (.int p2)] [.null, (.ref a1)])) _
    refine st4 _ ?_
    show Steps p.tables e below (T4.setTop (mkF m 9 #[.val (.ref a1), .val .null, .val .null, .val (.int p2)] [])) _
    refine XS.aloadN X4.here hx rfl (hb hby d3_9) rfl rfl ?_
    show Steps p.tables e below (T4.setTop (mkF m 10 #[.val (.ref a1), .val .null, .val .null, .val (.int p2)] [(.ref a1)])) _
    refine XS.aloadN X4.here hx rfl (hb hby d3_10) rfl rfl ?_
    show Steps p.tables e below (T4.setTop (mkF m 11 #[.val (.ref a1), .val .null, .val .null, .val (.int p2)] [.null, (.ref a1)])) _
    refine st5 _ ?_
    show Steps p.tables e below (T5.setTop (mkF m 14 #[.val (.ref a1), .val .null, .val .null, .val (.int p2)] [])) _
    refine XS.aloadN X5.here hx rfl (hb hby d3_14) rfl rfl ?_
    show Steps p.tables e below (T5.setTop (mkF m 15 #[.val (.ref a1), .val .null, .val .null, .val (.int p2)] [(.ref a1)])) _
    refine XS.iloadN X5.here hx rfl (hb hby d3_15) rfl ?_
    show Steps p.tables e below (T5.setTop (mkF m 16 #[.val (.ref a1), .val .null, .val .null, .val (.int p2)] [(.int p2), (.ref a1)])) _
    refine XS.ifYes X5.here hx rfl (pc0 := 16) (pc' := 30) rfl (hb hby d3_16) rfl ((if0 _ _).trans (teq hc16).1) (by decide) (by decide) ?_
    show Steps p.tables e below (T5.setTop (mkF m 30 #[.val (.ref a1), .val .null, .val .null, .val (.int p2)] [(.ref a1)])) _
    refine XS.aconstNull X5.here hx rfl (hb hby d3_30) ?_
    show Steps p.tables e below (T5.setTop (mkF m 31 #[.val (.ref a1), .val .null, .val .null, .val (.int p2)] [.null, (.ref a1)])) _
    refine st6 _ ?_
    show Steps p.tables e below (T6.setTop (mkF m 34 #[.val (.ref a1), .val .null, .val .null, .val (.int p2)] [])) _
    exact X6.returnOut hx Bd.returns (hb hby d3_34) hr
  · show Q3 Z a1 p2 u_pool_a1 u_object_a1 u_slot_a1 h0 n0 _ T6.heap _
    rw [e6]
    exact ⟨rfl, N6, K6, (((E_a1.wr W4).wr W5).wr W6), (((Fpn.other W4 (Or.inr (slot_ne (Or.inl (hw _ (List.mem_of_getElem? (i := 51) rfl))) (Or.inr (hw _ (List.mem_of_getElem? (i := 17) rfl))) (by decide) (t := (.object "com/example/idlewell/idlewell/engine/PooledObject")) (t' := (.object "com/example/idlewell/idlewell/engine/BoundedPool")) (by decide) (by decide)))).other W5 (Or.inr (slot_ne (Or.inl (hw _ (List.mem_of_getElem? (i := 51) rfl))) (Or.inr (hw _ (List.mem_of_getElem? (i := 19) rfl))) (by decide) (t := (.object "com/example/idlewell/idlewell/engine/PooledObject")) (t' := (.object "java/lang/Object")) (by decide) (by decide)))).other W6 (Or.inr (slot_ne (Or.inl (hw _ (List.mem_of_getElem? (i := 51) rfl))) (Or.inr (hw _ (List.mem_of_getElem? (i := 21) rfl))) (by decide) (t := (.object "com/example/idlewell/idlewell/engine/PooledObject")) (t' := (.object "com/example/idlewell/idlewell/engine/ThreadSlot")) (by decide) (by decide)))), (((Fpo.other W4 (Or.inr (slot_ne (Or.inl (hw _ (List.mem_of_getElem? (i := 49) rfl))) (Or.inr (hw _ (List.mem_of_getElem? (i := 17) rfl))) (by decide) (t := (.object "com/example/idlewell/idlewell/engine/PooledObject")) (t' := (.object "com/example/idlewell/idlewell/engine/BoundedPool")) (by decide) (by decide)))).other W5 (Or.inr (slot_ne (Or.inl (hw _ (List.mem_of_getElem? (i := 49) rfl))) (Or.inr (hw _ (List.mem_of_getElem? (i := 19) rfl))) (by decide) (t := (.object "com/example/idlewell/idlewell/engine/PooledObject")) (t' := (.object "java/lang/Object")) (by decide) (by decide)))).other W6 (Or.inr (slot_ne (Or.inl (hw _ (List.mem_of_getElem? (i := 49) rfl))) (Or.inr (hw _ (List.mem_of_getElem? (i := 21) rfl))) (by decide) (t := (.object "com/example/idlewell/idlewell/engine/PooledObject")) (t' := (.object "com/example/idlewell/idlewell/engine/ThreadSlot")) (by decide) (by decide))))⟩
theorem d4_0 : decode prog_16_method_3_code 0 = .ok (.aload_n 0, 1) := by decide +kernel
theorem d4_1 : decode prog_16_method_3_code 1 = .ok (.getfield 7, 3) := by decide +kernel
theorem d4_4 : decode prog_16_method_3_code 4 = .ok (.ifCond .ne 7, 3) := by decide +kernel
theorem d4_7 : decode prog_16_method_3_code 7 = .ok (.iconst 1, 1) := by decide +kernel
theorem d4_8 : decode prog_16_method_3_code 8 = .ok (.goto 4, 3) := by decide +kernel
theorem d4_11 : decode prog_16_method_3_code 11 = .ok (.iconst 0, 1) := by decide +kernel
theorem d4_12 : decode prog_16_method_3_code 12 = .ok (.ireturn, 1) := by decide +kernel
theorem pn_4 : plainName "com/example/idlewell/idlewell/engine/ObjectList" = true := by first | (simp [plainName, overriddenIn]; done) | decide +kernel
theorem ef_4 (m : MethodId) (x0 : Addr) : entryFrame m #[(.ref x0)] 1 = mkF m 0 #[.val (.ref x0)] [] := by first | (simp [entryFrame, mkF, argsToLocals, Value.category]; done) | rfl
def Q4 (Z : State) (a1 : Addr) (sz : Int32) (h0 : Heap) (n0 : Nat) (v : Option Value) (h : Heap) (L : List Loc) : Prop := v = some (.int (if sz = (0 : Int32) then (1 : Int32) else 0)) ∧ Fr n0 L ∧ h = h0
set_option maxRecDepth 65536 in
set_option maxHeartbeats 40000000 in
theorem rm4 (l : Launch) (Z : State) (a0 : Array Value) (hw : ∀ d ∈ tables_1, d.before a0 Z = true) (ws : List Jvm.Cond) (a1 : Addr) (sz : Int32) (h0 : Heap) (n0 : Nat) (Z0 : n0 ≤ h0.size) (F_size_a1 : Fld Z h0 a1 "com/example/idlewell/idlewell/engine/ObjectList" "size" "I" (.int sz)) :
    MetFree l (⟨"com/example/idlewell/idlewell/engine/ObjectList", "isEmpty", "()Z"⟩ : MethodName) (head1 (Jvm.Cond.code (⟨"com/example/idlewell/idlewell/engine/ObjectList", "isEmpty", "()Z"⟩ : MethodName) prog_16_method_3_code 1 (some .boolean) :: ws) ({ frames := 0, cells := 0, slots := 0, locals := 0 } : Room)) (fun a U => a = #[(.ref a1)] ∧ Z.Warmed39 U.vm ∧ U.heap = h0) (fun _ _ _ _ _ => True) (fun _ U o U' => ∃ v L, o = .returned v ∧ Q4 Z a1 sz h0 n0 v U'.heap L ∧ FrameEnd U o U' L ({ frames := 0, cells := 0, slots := 0, locals := 0 } : Room).cells ({ frames := 0, cells := 0, slots := 0, locals := 0 } : Room).slots) := by
  refine MetFree.of_bodySF (plainFor_of_name pn_4) hisR ?_
  intro p e s m args below meth c s₁ Bd hml0 hP hK
  obtain ⟨rfl, hZ, hh⟩ := hP
  have hx := Bd.exec
  have hby := Bd.bytes
  have hml : c.maxLocals = 1 := hml0
  have hown : s.vm.findClass "com/example/idlewell/idlewell/engine/ObjectList" = some m.cls := findClass_of_methodNamed Bd.named
  have hnm := (name_of_methodNamed Bd.named Bd.method).1
  have X0 : Stand p l e ({ frames := 0, cells := 0, slots := 0, locals := 0 } : Room) s m #[(.ref a1)] below meth c s₁ [] 0 0 := Stand.of_body Bd
  have e0 : s₁.heap = h0 := by rw [← hh, Bd.state]; rfl
  have N0 := Fr.nil n0
  have pre0 : ∀ t, Steps p.tables e below (s₁.setTop (mkF m 0 #[.val (.ref a1)] [])) t → Steps p.tables e below (s₁.setTop (entryFrame m #[(.ref a1)] 1)) t := fun t k => castTop (ef_4 m a1) k
  obtain ⟨T2, X2, e2, st2⟩ := getF X0 hx hZ hown (host := "") (Or.inl (hw _ (List.mem_of_getElem? (i := 27) rfl))) Via.refl e0 F_size_a1 (g := (mkF m 1 #[.val (.ref a1)] [(.ref a1)])) rfl rfl (hb hby d4_1)
  obtain ⟨fs, hr, hrun, hended, hW, hsame⟩ := X2.leave (v := some (.int (nar .boolean (if sz = (0 : Int32) then (1 : Int32) else 0)))) (fun h => by rw [Bd.returns] at h; cases h)
  refine ⟨_, _, pre0 _ ?_, hrun, hended, _, _, rfl, ?_, ⟨_, rfl⟩, hW, hsame.mono (by decide) (by decide)⟩
  · show Steps p.tables e below (s₁.setTop (mkF m 0 #[.val (.ref a1)] [])) _
    refine XS.aloadN X0.here hx rfl (hb hby d4_0) rfl rfl ?_
    show Steps p.tables e below (s₁.setTop (mkF m 1 #[.val (.ref a1)] [(.ref a1)])) _
    refine st2 _ ?_
    show Steps p.tables e below (T2.setTop (mkF m 4 #[.val (.ref a1)] [(.int sz)])) _
    refine own_tif_ne X2.here hx (hb hby d4_4) (hb hby d4_7) (hb hby d4_8) (hb hby d4_11) ?_
    show Steps p.tables e below (T2.setTop (mkF m 12 #[.val (.ref a1)] [(.int (if sz = (0 : Int32) then (1 : Int32) else 0))])) _
    exact retN X2 hx (t := .boolean) Bd.returns (by simp) (hb hby d4_12) hr
  · show Q4 Z a1 sz h0 n0 _ T2.heap _
    rw [e2]
    exact ⟨by rw [own_narb], N0, rfl⟩
theorem d5_0 : decode prog_16_method_4_code 0 = .ok (.aload_n 0, 1) := by decide +kernel
theorem d5_1 : decode prog_16_method_4_code 1 = .ok (.getfield 13, 3) := by decide +kernel
theorem d5_4 : decode prog_16_method_4_code 4 = .ok (.areturn, 1) := by decide +kernel
theorem pn_5 : plainName "com/example/idlewell/idlewell/engine/ObjectList" = true := by first | (simp [plainName, overriddenIn]; done) | decide +kernel
theorem ef_5 (m : MethodId) (x0 : Addr) : entryFrame m #[(.ref x0)] 1 = mkF m 0 #[.val (.ref x0)] [] := by first | (simp [entryFrame, mkF, argsToLocals, Value.category]; done) | rfl
def Q5n (Z : State) (a1 : Addr) (h0 : Heap) (n0 : Nat) (v : Option Value) (h : Heap) (L : List Loc) : Prop := v = some .null ∧ Fr n0 L ∧ h = h0
set_option maxRecDepth 65536 in
set_option maxHeartbeats 40000000 in
theorem rm5n (l : Launch) (Z : State) (a0 : Array Value) (hw : ∀ d ∈ tables_1, d.before a0 Z = true) (ws : List Jvm.Cond) (a1 : Addr) (h0 : Heap) (n0 : Nat) (Z0 : n0 ≤ h0.size) (F_newest_a1 : Fld Z h0 a1 "com/example/idlewell/idlewell/engine/ObjectList" "newest" "Lcom/example/idlewell/idlewell/engine/PooledObject;" .null) :
    MetFree l (⟨"com/example/idlewell/idlewell/engine/ObjectList", "newest", "()Lcom/example/idlewell/idlewell/engine/PooledObject;"⟩ : MethodName) (head1 (Jvm.Cond.code (⟨"com/example/idlewell/idlewell/engine/ObjectList", "newest", "()Lcom/example/idlewell/idlewell/engine/PooledObject;"⟩ : MethodName) prog_16_method_4_code 1 (some (.object "com/example/idlewell/idlewell/engine/PooledObject")) :: ws) ({ frames := 0, cells := 0, slots := 0, locals := 0 } : Room)) (fun a U => a = #[(.ref a1)] ∧ Z.Warmed39 U.vm ∧ U.heap = h0) (fun _ _ _ _ _ => True) (fun _ U o U' => ∃ v L, o = .returned v ∧ Q5n Z a1 h0 n0 v U'.heap L ∧ FrameEnd U o U' L ({ frames := 0, cells := 0, slots := 0, locals := 0 } : Room).cells ({ frames := 0, cells := 0, slots := 0, locals := 0 } : Room).slots) := by
  refine MetFree.of_bodySF (plainFor_of_name pn_5) hisR ?_
  intro p e s m args below meth c s₁ Bd hml0 hP hK
  obtain ⟨rfl, hZ, hh⟩ := hP
  have hx := Bd.exec
  have hby := Bd.bytes
  have hml : c.maxLocals = 1 := hml0
  have hown : s.vm.findClass "com/example/idlewell/idlewell/engine/ObjectList" = some m.cls := findClass_of_methodNamed Bd.named
  have hnm := (name_of_methodNamed Bd.named Bd.method).1
  have X0 : Stand p l e ({ frames := 0, cells := 0, slots := 0, locals := 0 } : Room) s m #[(.ref a1)] below meth c s₁ [] 0 0 := Stand.of_body Bd
  have e0 : s₁.heap = h0 := by rw [← hh, Bd.state]; rfl
  have N0 := Fr.nil n0
  have pre0 : ∀ t, Steps p.tables e below (s₁.setTop (mkF m 0 #[.val (.ref a1)] [])) t → Steps p.tables e below (s₁.setTop (entryFrame m #[(.ref a1)] 1)) t := fun t k => castTop (ef_5 m a1) k
  obtain ⟨T2, X2, e2, st2⟩ := getF X0 hx hZ hown (host := "") (Or.inl (hw _ (List.mem_of_getElem? (i := 34) rfl))) Via.refl e0 F_newest_a1 (g := (mkF m 1 #[.val (.ref a1)] [(.ref a1)])) rfl rfl (hb hby d5_1)
  obtain ⟨fs, hr, hrun, hended, hW, hsame⟩ := X2.leave (v := some .null) (fun h => by rw [Bd.returns] at h; cases h)
  refine ⟨_, _, pre0 _ ?_, hrun, hended, _, _, rfl, ?_, ⟨_, rfl⟩, hW, hsame.mono (by decide) (by decide)⟩
  · show Steps p.tables e below (s₁.setTop (mkF m 0 #[.val (.ref a1)] [])) _
    refine XS.aloadN X0.here hx rfl (hb hby d5_0) rfl rfl ?_
    show Steps p.tables e below (s₁.setTop (mkF m 1 #[.val (.ref a1)] [(.ref a1)])) _
    refine st2 _ ?_
    show Steps p.tables e below (T2.setTop (mkF m 4 #[.val (.ref a1)] [.null])) _
    jvm_step X2.here [X2.here.top, hx, (hb hby d5_4), X2.method', Bd.returns, Value.isRef, FieldType.isReference]
    first | (intro acts; rw [hr _ acts rfl rfl rfl]) | rw [hr _ _ rfl rfl rfl]
    exact Steps.refl _
  · show Q5n Z a1 h0 n0 _ T2.heap _
    rw [e2]
    exact ⟨rfl, N0, rfl⟩
def Q5r (Z : State) (a1 : Addr) (ar : Addr) (h0 : Heap) (n0 : Nat) (v : Option Value) (h : Heap) (L : List Loc) : Prop := v = some (.ref ar) ∧ Fr n0 L ∧ h = h0
set_option maxRecDepth 65536 in
set_option maxHeartbeats 40000000 in
theorem rm5r (l : Launch) (Z : State) (a0 : Array Value) (hw : ∀ d ∈ tables_1, d.before a0 Z = true) (ws : List Jvm.Cond) (a1 : Addr) (ar : Addr) (h0 : Heap) (n0 : Nat) (Z0 : n0 ≤ h0.size) (F_newest_a1 : Fld Z h0 a1 "com/example/idlewell/idlewell/engine/ObjectList" "newest" "Lcom/example/idlewell/idlewell/engine/PooledObject;" (.ref ar)) :
    MetFree l (⟨"com/example/idlewell/idlewell/engine/ObjectList", "newest", "()Lcom/example/idlewell/idlewell/engine/PooledObject;"⟩ : MethodName) (head1 (Jvm.Cond.code (⟨"com/example/idlewell/idlewell/engine/ObjectList", "newest", "()Lcom/example/idlewell/idlewell/engine/PooledObject;"⟩ : MethodName) prog_16_method_4_code 1 (some (.object "com/example/idlewell/idlewell/engine/PooledObject")) :: ws) ({ frames := 0, cells := 0, slots := 0, locals := 0 } : Room)) (fun a U => a = #[(.ref a1)] ∧ Z.Warmed39 U.vm ∧ U.heap = h0) (fun _ _ _ _ _ => True) (fun _ U o U' => ∃ v L, o = .returned v ∧ Q5r Z a1 ar h0 n0 v U'.heap L ∧ FrameEnd U o U' L ({ frames := 0, cells := 0, slots := 0, locals := 0 } : Room).cells ({ frames := 0, cells := 0, slots := 0, locals := 0 } : Room).slots) := by
  refine MetFree.of_bodySF (plainFor_of_name pn_5) hisR ?_
  intro p e s m args below meth c s₁ Bd hml0 hP hK
  obtain ⟨rfl, hZ, hh⟩ := hP
  have hx := Bd.exec
  have hby := Bd.bytes
  have hml : c.maxLocals = 1 := hml0
  have hown : s.vm.findClass "com/example/idlewell/idlewell/engine/ObjectList" = some m.cls := findClass_of_methodNamed Bd.named
  have hnm := (name_of_methodNamed Bd.named Bd.method).1
  have X0 : Stand p l e ({ frames := 0, cells := 0, slots := 0, locals := 0 } : Room) s m #[(.ref a1)] below meth c s₁ [] 0 0 := Stand.of_body Bd
  have e0 : s₁.heap = h0 := by rw [← hh, Bd.state]; rfl
  have N0 := Fr.nil n0
  have pre0 : ∀ t, Steps p.tables e below (s₁.setTop (mkF m 0 #[.val (.ref a1)] [])) t → Steps p.tables e below (s₁.setTop (entryFrame m #[(.ref a1)] 1)) t := fun t k => castTop (ef_5 m a1) k
  obtain ⟨T2, X2, e2, st2⟩ := getF X0 hx hZ hown (host := "") (Or.inl (hw _ (List.mem_of_getElem? (i := 34) rfl))) Via.refl e0 F_newest_a1 (g := (mkF m 1 #[.val (.ref a1)] [(.ref a1)])) rfl rfl (hb hby d5_1)
  obtain ⟨fs, hr, hrun, hended, hW, hsame⟩ := X2.leave (v := some (.ref ar)) (fun h => by rw [Bd.returns] at h; cases h)
  refine ⟨_, _, pre0 _ ?_, hrun, hended, _, _, rfl, ?_, ⟨_, rfl⟩, hW, hsame.mono (by decide) (by decide)⟩
  · show Steps p.tables e below (s₁.setTop (mkF m 0 #[.val (.ref a1)] [])) _
    refine XS.aloadN X0.here hx rfl (hb hby d5_0) rfl rfl ?_
    show Steps p.tables e below (s₁.setTop (mkF m 1 #[.val (.ref a1)] [(.ref a1)])) _
    refine st2 _ ?_
    show Steps p.tables e below (T2.setTop (mkF m 4 #[.val (.ref a1)] [(.ref ar)])) _
    jvm_step X2.here [X2.here.top, hx, (hb hby d5_4), X2.method', Bd.returns, Value.isRef, FieldType.isReference]
    first | (intro acts; rw [hr _ acts rfl rfl rfl]) | rw [hr _ _ rfl rfl rfl]
    exact Steps.refl _
  · show Q5r Z a1 ar h0 n0 _ T2.heap _
    rw [e2]
    exact ⟨rfl, N0, rfl⟩
theorem d7_0 : decode prog_16_method_7_code 0 = .ok (.aload_n 1, 1) := by decide +kernel
theorem d7_1 : decode prog_16_method_7_code 1 = .ok (.ifnonnull 10, 3) := by decide +kernel
theorem d7_4 : decode prog_16_method_7_code 4 = .ok (.aload_n 0, 1) := by decide +kernel
theorem d7_5 : decode prog_16_method_7_code 5 = .ok (.getfield 17, 3) := by decide +kernel
theorem d7_8 : decode prog_16_method_7_code 8 = .ok (.goto 7, 3) := by decide +kernel
theorem d7_15 : decode prog_16_method_7_code 15 = .ok (.astore_n 3, 1) := by decide +kernel
theorem d7_16 : decode prog_16_method_7_code 16 = .ok (.aload_n 2, 1) := by decide +kernel
theorem d7_17 : decode prog_16_method_7_code 17 = .ok (.aload_n 1, 1) := by decide +kernel
theorem d7_18 : decode prog_16_method_7_code 18 = .ok (.putfield 29, 3) := by decide +kernel
theorem d7_21 : decode prog_16_method_7_code 21 = .ok (.aload_n 2, 1) := by decide +kernel
theorem d7_22 : decode prog_16_method_7_code 22 = .ok (.aload_n 3, 1) := by decide +kernel
theorem d7_23 : decode prog_16_method_7_code 23 = .ok (.putfield 24, 3) := by decide +kernel
theorem d7_26 : decode prog_16_method_7_code 26 = .ok (.aload_n 1, 1) := by decide +kernel
theorem d7_27 : decode prog_16_method_7_code 27 = .ok (.ifnonnull 11, 3) := by decide +kernel
theorem d7_30 : decode prog_16_method_7_code 30 = .ok (.aload_n 0, 1) := by decide +kernel
theorem d7_31 : decode prog_16_method_7_code 31 = .ok (.aload_n 2, 1) := by decide +kernel
theorem d7_32 : decode prog_16_method_7_code 32 = .ok (.putfield 17, 3) := by decide +kernel
theorem d7_35 : decode prog_16_method_7_code 35 = .ok (.goto 8, 3) := by decide +kernel
theorem d7_43 : decode prog_16_method_7_code 43 = .ok (.aload_n 3, 1) := by decide +kernel
theorem d7_44 : decode prog_16_method_7_code 44 = .ok (.ifnonnull 11, 3) := by decide +kernel
theorem d7_47 : decode prog_16_method_7_code 47 = .ok (.aload_n 0, 1) := by decide +kernel
theorem d7_48 : decode prog_16_method_7_code 48 = .ok (.aload_n 2, 1) := by decide +kernel
theorem d7_49 : decode prog_16_method_7_code 49 = .ok (.putfield 13, 3) := by decide +kernel
theorem d7_52 : decode prog_16_method_7_code 52 = .ok (.goto 8, 3) := by decide +kernel
theorem d7_60 : decode prog_16_method_7_code 60 = .ok (.aload_n 0, 1) := by decide +kernel
theorem d7_61 : decode prog_16_method_7_code 61 = .ok (.dup, 1) := by decide +kernel
theorem d7_62 : decode prog_16_method_7_code 62 = .ok (.getfield 7, 3) := by decide +kernel
theorem d7_65 : decode prog_16_method_7_code 65 = .ok (.iconst 1, 1) := by decide +kernel
theorem d7_66 : decode prog_16_method_7_code 66 = .ok (.iadd, 1) := by decide +kernel
theorem d7_67 : decode prog_16_method_7_code 67 = .ok (.putfield 7, 3) := by decide +kernel
theorem d7_70 : decode prog_16_method_7_code 70 = .ok (.return_, 1) := by decide +kernel
theorem pn_7 : plainName "com/example/idlewell/idlewell/engine/ObjectList" = true := by first | (simp [plainName, overriddenIn]; done) | decide +kernel
theorem ef_7A (m : MethodId) (x0 : Addr) (x2 : Addr) : entryFrame m #[(.ref x0), .null, (.ref x2)] 4 = mkF m 0 #[.val (.ref x0), .val .null, .val (.ref x2), .unset] [] := by first | (simp [entryFrame, mkF, argsToLocals, Value.category]; done) | rfl
def Q7A (Z : State) (a1 : Addr) (a2 : Addr) (aq : Addr) (sz : Int32) (h0 : Heap) (n0 : Nat) (v : Option Value) (h : Heap) (L : List Loc) : Prop := v = none ∧ Fr n0 L ∧ Keep h0 h [a2, a1] ∧ own_S Z h a1 a2 aq (.ref a2) (.ref a2) (sz + (1 : Int32)) .null .null .null .null
set_option maxRecDepth 65536 in
set_option maxHeartbeats 40000000 in
theorem rm7A (l : Launch) (Z : State) (a0 : Array Value) (hw : ∀ d ∈ tables_1, d.before a0 Z = true) (ws : List Jvm.Cond) (a1 : Addr) (a2 : Addr) (aq : Addr) (sz : Int32) (h0 : Heap) (n0 : Nat) (Z0 : n0 ≤ h0.size) (HS : own_S Z h0 a1 a2 aq .null .null sz .null .null .null .null) (g_a1 : n0 ≤ a1) (g_a2 : n0 ≤ a2) (g_aq : n0 ≤ aq) (ne_a1_a2 : a1 ≠ a2) (ne_a1_aq : a1 ≠ aq) (ne_a2_aq : a2 ≠ aq) :
    MetFree l (⟨"com/example/idlewell/idlewell/engine/ObjectList", "addNewerThan", "(Lcom/example/idlewell/idlewell/engine/PooledObject;Lcom/example/idlewell/idlewell/engine/PooledObject;)V"⟩ : MethodName) (head1 (Jvm.Cond.code (⟨"com/example/idlewell/idlewell/engine/ObjectList", "addNewerThan", "(Lcom/example/idlewell/idlewell/engine/PooledObject;Lcom/example/idlewell/idlewell/engine/PooledObject;)V"⟩ : MethodName) prog_16_method_7_code 4 none :: ws) ({ frames := 0, cells := 0, slots := 0, locals := 0 } : Room)) (fun a U => a = #[(.ref a1), .null, (.ref a2)] ∧ Z.Warmed39 U.vm ∧ U.heap = h0) (fun _ _ _ _ _ => True) (fun _ U o U' => ∃ v L, o = .returned v ∧ Q7A Z a1 a2 aq sz h0 n0 v U'.heap L ∧ FrameEnd U o U' L ({ frames := 0, cells := 0, slots := 0, locals := 0 } : Room).cells ({ frames := 0, cells := 0, slots := 0, locals := 0 } : Room).slots) := by
  refine MetFree.of_bodySF (plainFor_of_name pn_7) hisR ?_
  intro p e s m args below meth c s₁ Bd hml0 hP hK
  obtain ⟨rfl, hZ, hh⟩ := hP
  have hx := Bd.exec
  have hby := Bd.bytes
  have hml : c.maxLocals = 4 := hml0
  have hown : s.vm.findClass "com/example/idlewell/idlewell/engine/ObjectList" = some m.cls := findClass_of_methodNamed Bd.named
  have hnm := (name_of_methodNamed Bd.named Bd.method).1
  have X0 : Stand p l e ({ frames := 0, cells := 0, slots := 0, locals := 0 } : Room) s m #[(.ref a1), .null, (.ref a2)] below meth c s₁ [] 0 0 := Stand.of_body Bd
  have e0 : s₁.heap = h0 := by rw [← hh, Bd.state]; rfl
  have N0 := Fr.nil n0
  obtain ⟨E_o, E_p, E_q, Fnw, Fod, Fsz, Fpn, Fpo, Fqn, Fqo⟩ := HS
  have pre0 : ∀ t, Steps p.tables e below (s₁.setTop (mkF m 0 #[.val (.ref a1), .val .null, .val (.ref a2), .unset] [])) t → Steps p.tables e below (s₁.setTop (entryFrame m #[(.ref a1), .null, (.ref a2)] 4)) t := fun t k => castTop (ef_7A m a1 a2) k
  obtain ⟨T3, X3, e3, st3⟩ := getF X0 hx hZ hown (host := "") (Or.inl (hw _ (List.mem_of_getElem? (i := 46) rfl))) Via.refl e0 Fod (g := (mkF m 5 #[.val (.ref a1), .val .null, .val (.ref a2), .unset] [(.ref a1)])) rfl rfl (hb hby d7_5)
  obtain ⟨T4, h4, X4, e4, W4, st4⟩ := putF X3 hx hZ hown (host := "") (Or.inl (hw _ (List.mem_of_getElem? (i := 48) rfl))) Via.refl e3 Fpo E_p (Or.inl (hw _ (List.mem_of_getElem? (i := 49) rfl))) (hw _ (List.mem_of_getElem? (i := 10) rfl)) (ty := (.object "com/example/idlewell/idlewell/engine/PooledObject")) (by decide) rfl rfl (g := (mkF m 18 #[.val (.ref a1), .val .null, .val (.ref a2), .val .null] [.null, (.ref a2)])) rfl rfl (hb hby d7_18)
  have Fw4 := Fpo.same W4
  have K4 : Keep h0 h4 [a2, a1] := (Keep.refl h0 [a2, a1]).wr W4 (Or.inl (List.mem_of_getElem? (i := 0) rfl))
  have N4 := Fr.snoc X4 N0 g_a2
  obtain ⟨T5, h5, X5, e5, W5, st5⟩ := putF X4 hx hZ hown (host := "") (Or.inl (hw _ (List.mem_of_getElem? (i := 50) rfl))) Via.refl e4 (Fpn.other W4 (Or.inr (slot_ne (Or.inl (hw _ (List.mem_of_getElem? (i := 51) rfl))) (Or.inl (hw _ (List.mem_of_getElem? (i := 49) rfl))) (by decide) (t := (.object "com/example/idlewell/idlewell/engine/PooledObject")) (t' := (.object "com/example/idlewell/idlewell/engine/PooledObject")) (by decide) (by decide)))) (E_p.wr W4) (Or.inl (hw _ (List.mem_of_getElem? (i := 51) rfl))) (hw _ (List.mem_of_getElem? (i := 10) rfl)) (ty := (.object "com/example/idlewell/idlewell/engine/PooledObject")) (by decide) rfl rfl (g := (mkF m 23 #[.val (.ref a1), .val .null, .val (.ref a2), .val .null] [.null, (.ref a2)])) rfl rfl (hb hby d7_23)
  have Fw5 := (Fpn.other W4 (Or.inr (slot_ne (Or.inl (hw _ (List.mem_of_getElem? (i := 51) rfl))) (Or.inl (hw _ (List.mem_of_getElem? (i := 49) rfl))) (by decide) (t := (.object "com/example/idlewell/idlewell/engine/PooledObject")) (t' := (.object "com/example/idlewell/idlewell/engine/PooledObject")) (by decide) (by decide)))).same W5
  have K5 : Keep h0 h5 [a2, a1] := K4.wr W5 (Or.inl (List.mem_of_getElem? (i := 0) rfl))
  have N5 := Fr.snoc X5 N4 g_a2
  obtain ⟨T6, h6, X6, e6, W6, st6⟩ := putF X5 hx hZ hown (host := "") (Or.inl (hw _ (List.mem_of_getElem? (i := 46) rfl))) Via.refl e5 ((Fod.other W4 (Or.inl ne_a1_a2)).other W5 (Or.inl ne_a1_a2)) ((E_o.wr W4).wr W5) (Or.inl (hw _ (List.mem_of_getElem? (i := 47) rfl))) (hw _ (List.mem_of_getElem? (i := 1) rfl)) (ty := (.object "com/example/idlewell/idlewell/engine/PooledObject")) (by decide) rfl rfl (g := (mkF m 32 #[.val (.ref a1), .val .null, .val (.ref a2), .val .null] [(.ref a2), (.ref a1)])) rfl rfl (hb hby d7_32)
  have Fw6 := ((Fod.other W4 (Or.inl ne_a1_a2)).other W5 (Or.inl ne_a1_a2)).same W6
  have K6 : Keep h0 h6 [a2, a1] := K5.wr W6 (Or.inl (List.mem_of_getElem? (i := 1) rfl))
  have N6 := Fr.snoc X6 N5 g_a1
  obtain ⟨T7, h7, X7, e7, W7, st7⟩ := putF X6 hx hZ hown (host := "") (Or.inl (hw _ (List.mem_of_getElem? (i := 34) rfl))) Via.refl e6 (((Fnw.other W4 (Or.inl ne_a1_a2)).other W5 (Or.inl ne_a1_a2)).other W6 (Or.inr (slot_ne (Or.inl (hw _ (List.mem_of_getElem? (i := 35) rfl))) (Or.inl (hw _ (List.mem_of_getElem? (i := 47) rfl))) (by decide) (t := (.object "com/example/idlewell/idlewell/engine/PooledObject")) (t' := (.object "com/example/idlewell/idlewell/engine/PooledObject")) (by decide) (by decide)))) (((E_o.wr W4).wr W5).wr W6) (Or.inl (hw _ (List.mem_of_getElem? (i := 35) rfl))) (hw _ (List.mem_of_getElem? (i := 1) rfl)) (ty := (.object "com/example/idlewell/idlewell/engine/PooledObject")) (by decide) rfl rfl (g := (mkF m 49 #[.val (.ref a1), .val .null, .val (.ref a2), .val .null] [(.ref a2), (.ref a1)])) rfl rfl (hb hby d7_49)
  have Fw7 := (((Fnw.other W4 (Or.inl ne_a1_a2)).other W5 (Or.inl ne_a1_a2)).other W6 (Or.inr (slot_ne (Or.inl (hw _ (List.mem_of_getElem? (i := 35) rfl))) (Or.inl (hw _ (List.mem_of_getElem? (i := 47) rfl))) (by decide) (t := (.object "com/example/idlewell/idlewell/engine/PooledObject")) (t' := (.object "com/example/idlewell/idlewell/engine/PooledObject")) (by decide) (by decide)))).same W7
  have K7 : Keep h0 h7 [a2, a1] := K6.wr W7 (Or.inl (List.mem_of_getElem? (i := 1) rfl))
  have N7 := Fr.snoc X7 N6 g_a1
  obtain ⟨T8, X8, e8, st8⟩ := getF X7 hx hZ hown (host := "") (Or.inl (hw _ (List.mem_of_getElem? (i := 27) rfl))) Via.refl e7 ((((Fsz.other W4 (Or.inl ne_a1_a2)).other W5 (Or.inl ne_a1_a2)).other W6 (Or.inr (slot_ne (Or.inl (hw _ (List.mem_of_getElem? (i := 28) rfl))) (Or.inl (hw _ (List.mem_of_getElem? (i := 47) rfl))) (by decide) (t := .int) (t' := (.object "com/example/idlewell/idlewell/engine/PooledObject")) (by decide) (by decide)))).other W7 (Or.inr (slot_ne (Or.inl (hw _ (List.mem_of_getElem? (i := 28) rfl))) (Or.inl (hw _ (List.mem_of_getElem? (i := 35) rfl))) (by decide) (t := .int) (t' := (.object "com/example/idlewell/idlewell/engine/PooledObject")) (by decide) (by decide)))) (g := (mkF m 62 #[.val (.ref a1), .val .null, .val (.ref a2), .val .null] [(.ref a1), (.ref a1)])) rfl rfl (hb hby d7_62)
  obtain ⟨T9, h9, X9, e9, W9, st9⟩ := putF X8 hx hZ hown (host := "") (Or.inl (hw _ (List.mem_of_getElem? (i := 27) rfl))) Via.refl e8 ((((Fsz.other W4 (Or.inl ne_a1_a2)).other W5 (Or.inl ne_a1_a2)).other W6 (Or.inr (slot_ne (Or.inl (hw _ (List.mem_of_getElem? (i := 28) rfl))) (Or.inl (hw _ (List.mem_of_getElem? (i := 47) rfl))) (by decide) (t := .int) (t' := (.object "com/example/idlewell/idlewell/engine/PooledObject")) (by decide) (by decide)))).other W7 (Or.inr (slot_ne (Or.inl (hw _ (List.mem_of_getElem? (i := 28) rfl))) (Or.inl (hw _ (List.mem_of_getElem? (i := 35) rfl))) (by decide) (t := .int) (t' := (.object "com/example/idlewell/idlewell/engine/PooledObject")) (by decide) (by decide)))) ((((E_o.wr W4).wr W5).wr W6).wr W7) (Or.inl (hw _ (List.mem_of_getElem? (i := 28) rfl))) (hw _ (List.mem_of_getElem? (i := 1) rfl)) (ty := .int) (by decide) rfl rfl (g := (mkF m 67 #[.val (.ref a1), .val .null, .val (.ref a2), .val .null] [(.int (sz + (1 : Int32))), (.ref a1)])) rfl rfl (hb hby d7_67)
  have Fw9 := ((((Fsz.other W4 (Or.inl ne_a1_a2)).other W5 (Or.inl ne_a1_a2)).other W6 (Or.inr (slot_ne (Or.inl (hw _ (List.mem_of_getElem? (i := 28) rfl))) (Or.inl (hw _ (List.mem_of_getElem? (i := 47) rfl))) (by decide) (t := .int) (t' := (.object "com/example/idlewell/idlewell/engine/PooledObject")) (by decide) (by decide)))).other W7 (Or.inr (slot_ne (Or.inl (hw _ (List.mem_of_getElem? (i := 28) rfl))) (Or.inl (hw _ (List.mem_of_getElem? (i := 35) rfl))) (by decide) (t := .int) (t' := (.object "com/example/idlewell/idlewell/engine/PooledObject")) (by decide) (by decide)))).same W9
  have K9 : Keep h0 h9 [a2, a1] := K7.wr W9 (Or.inl (List.mem_of_getElem? (i := 1) rfl))
  have N9 := Fr.snoc X9 N7 g_a1
  obtain ⟨fs, hr, hrun, hended, hW, hsame⟩ := X9.leave (v := none) (fun _ => rfl)
  refine ⟨_, _, pre0 _ ?_, hrun, hended, _, _, rfl, ?_, ⟨_, rfl⟩, hW, hsame.mono (by decide) (by decide)⟩
  · show Steps p.tables e below (s₁.setTop (mkF m 0 #[.val (.ref a1), .val .null, .val (.ref a2), .unset] [])) _
    refine XS.aloadN X0.here hx rfl (hb hby d7_0) rfl rfl ?_
    show Steps p.tables e below (s₁.setTop (mkF m 1 #[.val (.ref a1), .val .null, .val (.ref a2), .unset] [.null])) _
    refine XS.ifnonnullNo X0.here hx rfl (hb hby d7_1) rfl ?_
    show Steps p.tables e below (s₁.setTop (mkF m 4 #[.val (.ref a1), .val .null, .val (.ref a2), .unset] [])) _
    refine XS.aloadN X0.here hx rfl (hb hby d7_4) rfl rfl ?_
    show Steps p.tables e below (s₁.setTop (mkF m 5 #[.val (.ref a1), .val .null, .val (.ref a2), .unset] [(.ref a1)])) _
    refine st3 _ ?_
    show Steps p.tables e below (T3.setTop (mkF m 8 #[.val (.ref a1), .val .null, .val (.ref a2), .unset] [.null])) _
    refine XS.goto X3.here hx rfl (pc0 := 8) (pc' := 15) rfl (hb hby d7_8) (by decide) (by decide) ?_
    show Steps p.tables e below (T3.setTop (mkF m 15 #[.val (.ref a1), .val .null, .val (.ref a2), .unset] [.null])) _
    refine XS.astoreN X3.here hx rfl (hb hby d7_15) rfl rfl (l' := #[.val (.ref a1), .val .null, .val (.ref a2), .val .null]) rfl ?_
    show Steps p.tables e below (T3.setTop (mkF m 16 #[.val (.ref a1), .val .null, .val (.ref a2), .val .null] [])) _
    refine XS.aloadN X3.here hx rfl (hb hby d7_16) rfl rfl ?_
    show Steps p.tables e below (T3.setTop (mkF m 17 #[.val (.ref a1), .val .null, .val (.ref a2), .val .null] [(.ref a2)])) _
    refine XS.aloadN X3.here hx rfl (hb hby d7_17) rfl rfl ?_
    show Steps p.tables e below (T3.setTop (mkF m 18 #[.val (.ref a1), .val .null, .val (.ref a2), .val .null] [.null, (.ref a2)])) _
    refine st4 _ ?_
    show Steps p.tables e below (T4.setTop (mkF m 21 #[.val (.ref a1), .val .null, .val (.ref a2), .val .null] [])) _
    refine XS.aloadN X4.here hx rfl (hb hby d7_21) rfl rfl ?_
    show Steps p.tables e below (T4.setTop (mkF m 22 #[.val (.ref a1), .val .null, .val (.ref a2), .val .null] [(.ref a2)])) _
    refine XS.aloadN X4.here hx rfl (hb hby d7_22) rfl rfl ?_
    show Steps p.tables e below (T4.setTop (mkF m 23 #[.val (.ref a1), .val .null, .val (.ref a2), .val .null] [.null, (.ref a2)])) _
    refine st5 _ ?_
    show Steps p.tables e below (T5.setTop (mkF m 26 #[.val (.ref a1), .val .null, .val (.ref a2), .val .null] [])) _
    refine XS.aloadN X5.here hx rfl (hb hby d7_26) rfl rfl ?_
    show Steps p.tables e below (T5.setTop (mkF m 27 #[.val (.ref a1), .val .null, .val (.ref a2), .val .null] [.null])) _
    refine XS.ifnonnullNo X5.here hx rfl (hb hby d7_27) rfl ?_
    show Steps p.tables e below (T5.setTop (mkF m 30 #[.val (.ref a1), .val .null, .val (.ref a2), .val .null] [])) _
    refine XS.aloadN X5.here hx rfl (hb hby d7_30) rfl rfl ?_
    show Steps p.tables e below (T5.setTop (mkF m 31 #[.val (.ref a1), .val .null, .val (.ref a2), .val .null] [(.ref a1)])) _
    refine XS.aloadN X5.here hx rfl (hb hby d7_31) rfl rfl ?_
    show Steps p.tables e below (T5.setTop (mkF m 32 #[.val (.ref a1), .val .null, .val (.ref a2), .val .null] [(.ref a2), (.ref a1)])) _
    refine st6 _ ?_
    show Steps p.tables e below (T6.setTop (mkF m 35 #[.val (.ref a1), .val .null, .val (.ref a2), .val .null] [])) _
    refine XS.goto X6.here hx rfl (pc0 := 35) (pc' := 43) rfl (hb hby d7_35) (by decide) (by decide) ?_
    show Steps p.tables e below (T6.setTop (mkF m 43 #[.val (.ref a1), .val .null, .val (.ref a2), .val .null] [])) _
    refine XS.aloadN X6.here hx rfl (hb hby d7_43) rfl rfl ?_
    show Steps p.tables e below (T6.setTop (mkF m 44 #[.val (.ref a1), .val .null, .val (.ref a2), .val .null] [.null])) _
    refine XS.ifnonnullNo X6.here hx rfl (hb hby d7_44) rfl ?_
    show Steps p.tables e below (T6.setTop (mkF m 47 #[.val (.ref a1), .val .null, .val (.ref a2), .val .null] [])) _
    refine XS.aloadN X6.here hx rfl (hb hby d7_47) rfl rfl ?_
    show Steps p.tables e below (T6.setTop (mkF m 48 #[.val (.ref a1), .val .null, .val (.ref a2), .val .null] [(.ref a1)])) _
    refine XS.aloadN X6.here hx rfl (hb hby d7_48) rfl rfl ?_
    show Steps p.tables e below (T6.setTop (mkF m 49 #[.val (.ref a1), .val .null, .val (.ref a2), .val .null] [(.ref a2), (.ref a1)])) _
    refine st7 _ ?_
    show Steps p.tables e below (T7.setTop (mkF m 52 #[.val (.ref a1), .val .null, .val (.ref a2), .val .null] [])) _
    refine XS.goto X7.here hx rfl (pc0 := 52) (pc' := 60) rfl (hb hby d7_52) (by decide) (by decide) ?_
    show Steps p.tables e below (T7.setTop (mkF m 60 #[.val (.ref a1), .val .null, .val (.ref a2), .val .null] [])) _
    refine XS.aloadN X7.here hx rfl (hb hby d7_60) rfl rfl ?_
    show Steps p.tables e below (T7.setTop (mkF m 61 #[.val (.ref a1), .val .null, .val (.ref a2), .val .null] [(.ref a1)])) _
    refine XS.dup X7.here hx rfl (hb hby d7_61) rfl rfl ?_
    show Steps p.tables e below (T7.setTop (mkF m 62 #[.val (.ref a1), .val .null, .val (.ref a2), .val .null] [(.ref a1), (.ref a1)])) _
    refine st8 _ ?_
    show Steps p.tables e below (T8.setTop (mkF m 65 #[.val (.ref a1), .val .null, .val (.ref a2), .val .null] [(.int sz), (.ref a1)])) _
    refine XS.iconst X8.here hx rfl (hb hby d7_65) ?_
    show Steps p.tables e below (T8.setTop (mkF m 66 #[.val (.ref a1), .val .null, .val (.ref a2), .val .null] [(.int (1 : Int32)), (.int sz), (.ref a1)])) _
    refine XS.iadd X8.here hx rfl (hb hby d7_66) rfl ?_
    show Steps p.tables e below (T8.setTop (mkF m 67 #[.val (.ref a1), .val .null, .val (.ref a2), .val .null] [(.int (sz + (1 : Int32))), (.ref a1)])) _
    refine st9 _ ?_
    show Steps p.tables e below (T9.setTop (mkF m 70 #[.val (.ref a1), .val .null, .val (.ref a2), .val .null] [])) _
    exact X9.returnOut hx Bd.returns (hb hby d7_70) hr
  · show Q7A Z a1 a2 aq sz h0 n0 _ T9.heap _
    rw [e9]
    exact ⟨rfl, N9, K9, ⟨(((((E_o.wr W4).wr W5).wr W6).wr W7).wr W9), (((((E_p.wr W4).wr W5).wr W6).wr W7).wr W9), (((((E_q.wr W4).wr W5).wr W6).wr W7).wr W9), (Fw7.other W9 (Or.inr (slot_ne (Or.inl (hw _ (List.mem_of_getElem? (i := 35) rfl))) (Or.inl (hw _ (List.mem_of_getElem? (i := 28) rfl))) (by decide) (t := (.object "com/example/idlewell/idlewell/engine/PooledObject")) (t' := .int) (by decide) (by decide)))), ((Fw6.other W7 (Or.inr (slot_ne (Or.inl (hw _ (List.mem_of_getElem? (i := 47) rfl))) (Or.inl (hw _ (List.mem_of_getElem? (i := 35) rfl))) (by decide) (t := (.object "com/example/idlewell/idlewell/engine/PooledObject")) (t' := (.object "com/example/idlewell/idlewell/engine/PooledObject")) (by decide) (by decide)))).other W9 (Or.inr (slot_ne (Or.inl (hw _ (List.mem_of_getElem? (i := 47) rfl))) (Or.inl (hw _ (List.mem_of_getElem? (i := 28) rfl))) (by decide) (t := (.object "com/example/idlewell/idlewell/engine/PooledObject")) (t' := .int) (by decide) (by decide)))), Fw9, (((Fw5.other W6 (Or.inl (Ne.symm ne_a1_a2))).other W7 (Or.inl (Ne.symm ne_a1_a2))).other W9 (Or.inl (Ne.symm ne_a1_a2))), ((((Fw4.other W5 (Or.inr (slot_ne (Or.inl (hw _ (List.mem_of_getElem? (i := 49) rfl))) (Or.inl (hw _ (List.mem_of_getElem? (i := 51) rfl))) (by decide) (t := (.object "com/example/idlewell/idlewell/engine/PooledObject")) (t' := (.object "com/example/idlewell/idlewell/engine/PooledObject")) (by decide) (by decide)))).other W6 (Or.inl (Ne.symm ne_a1_a2))).other W7 (Or.inl (Ne.symm ne_a1_a2))).other W9 (Or.inl (Ne.symm ne_a1_a2))), (((((Fqn.other W4 (Or.inl (Ne.symm ne_a2_aq))).other W5 (Or.inl (Ne.symm ne_a2_aq))).other W6 (Or.inl (Ne.symm ne_a1_aq))).other W7 (Or.inl (Ne.symm ne_a1_aq))).other W9 (Or.inl (Ne.symm ne_a1_aq))), (((((Fqo.other W4 (Or.inl (Ne.symm ne_a2_aq))).other W5 (Or.inl (Ne.symm ne_a2_aq))).other W6 (Or.inl (Ne.symm ne_a1_aq))).other W7 (Or.inl (Ne.symm ne_a1_aq))).other W9 (Or.inl (Ne.symm ne_a1_aq)))⟩⟩
theorem d7_11 : decode prog_16_method_7_code 11 = .ok (.aload_n 1, 1) := by decide +kernel
theorem d7_12 : decode prog_16_method_7_code 12 = .ok (.getfield 24, 3) := by decide +kernel
theorem d7_38 : decode prog_16_method_7_code 38 = .ok (.aload_n 1, 1) := by decide +kernel
theorem d7_39 : decode prog_16_method_7_code 39 = .ok (.aload_n 2, 1) := by decide +kernel
theorem d7_40 : decode prog_16_method_7_code 40 = .ok (.putfield 24, 3) := by decide +kernel
theorem ef_7B (m : MethodId) (x0 : Addr) (x1 : Addr) (x2 : Addr) : entryFrame m #[(.ref x0), (.ref x1), (.ref x2)] 4 = mkF m 0 #[.val (.ref x0), .val (.ref x1), .val (.ref x2), .unset] [] := by first | (simp [entryFrame, mkF, argsToLocals, Value.category]; done) | rfl
def Q7B (Z : State) (a1 : Addr) (a2 : Addr) (a3 : Addr) (sz : Int32) (h0 : Heap) (n0 : Nat) (v : Option Value) (h : Heap) (L : List Loc) : Prop := v = none ∧ Fr n0 L ∧ Keep h0 h [a3, a2, a1] ∧ own_S Z h a1 a3 a2 (.ref a3) (.ref a2) (sz + (1 : Int32)) .null (.ref a2) (.ref a3) .null
set_option maxRecDepth 65536 in
set_option maxHeartbeats 40000000 in
theorem rm7B (l : Launch) (Z : State) (a0 : Array Value) (hw : ∀ d ∈ tables_1, d.before a0 Z = true) (ws : List Jvm.Cond) (a1 : Addr) (a2 : Addr) (a3 : Addr) (sz : Int32) (h0 : Heap) (n0 : Nat) (Z0 : n0 ≤ h0.size) (HS : own_S Z h0 a1 a3 a2 (.ref a2) (.ref a2) sz .null .null .null .null) (g_a1 : n0 ≤ a1) (g_a3 : n0 ≤ a3) (g_a2 : n0 ≤ a2) (ne_a1_a3 : a1 ≠ a3) (ne_a1_a2 : a1 ≠ a2) (ne_a2_a3 : a2 ≠ a3) :
    MetFree l (⟨"com/example/idlewell/idlewell/engine/ObjectList", "addNewerThan", "(Lcom/example/idlewell/idlewell/engine/PooledObject;Lcom/example/idlewell/idlewell/engine/PooledObject;)V"⟩ : MethodName) (head1 (Jvm.Cond.code (⟨"com/example/idlewell/idlewell/engine/ObjectList", "addNewerThan", "(Lcom/example/idlewell/idlewell/engine/PooledObject;Lcom/example/idlewell/idlewell/engine/PooledObject;)V"⟩ : MethodName) prog_16_method_7_code 4 none :: ws) ({ frames := 0, cells := 0, slots := 0, locals := 0 } : Room)) (fun a U => a = #[(.ref a1), (.ref a2), (.ref a3)] ∧ Z.Warmed39 U.vm ∧ U.heap = h0) (fun _ _ _ _ _ => True) (fun _ U o U' => ∃ v L, o = .returned v ∧ Q7B Z a1 a2 a3 sz h0 n0 v U'.heap L ∧ FrameEnd U o U' L ({ frames := 0, cells := 0, slots := 0, locals := 0 } : Room).cells ({ frames := 0, cells := 0, slots := 0, locals := 0 } : Room).slots) := by
  refine MetFree.of_bodySF (plainFor_of_name pn_7) hisR ?_
  intro p e s m args below meth c s₁ Bd hml0 hP hK
  obtain ⟨rfl, hZ, hh⟩ := hP
  have hx := Bd.exec
  have hby := Bd.bytes
  have hml : c.maxLocals = 4 := hml0
  have hown : s.vm.findClass "com/example/idlewell/idlewell/engine/ObjectList" = some m.cls := findClass_of_methodNamed Bd.named
  have hnm := (name_of_methodNamed Bd.named Bd.method).1
  have X0 : Stand p l e ({ frames := 0, cells := 0, slots := 0, locals := 0 } : Room) s m #[(.ref a1), (.ref a2), (.ref a3)] below meth c s₁ [] 0 0 := Stand.of_body Bd
  have e0 : s₁.heap = h0 := by rw [← hh, Bd.state]; rfl
  have N0 := Fr.nil n0
  obtain ⟨E_o, E_p, E_q, Fnw, Fod, Fsz, Fpn, Fpo, Fqn, Fqo⟩ := HS
  have pre0 : ∀ t, Steps p.tables e below (s₁.setTop (mkF m 0 #[.val (.ref a1), .val (.ref a2), .val (.ref a3), .unset] [])) t → Steps p.tables e below (s₁.setTop (entryFrame m #[(.ref a1), (.ref a2), (.ref a3)] 4)) t := fun t k => castTop (ef_7B m a1 a2 a3) k
  obtain ⟨T4, X4, e4, st4⟩ := getF X0 hx hZ hown (host := "") (Or.inl (hw _ (List.mem_of_getElem? (i := 50) rfl))) Via.refl e0 Fqn (g := (mkF m 12 #[.val (.ref a1), .val (.ref a2), .val (.ref a3), .unset] [(.ref a2)])) rfl rfl (hb hby d7_12)
  obtain ⟨T5, h5, X5, e5, W5, st5⟩ := putF X4 hx hZ hown (host := "") (Or.inl (hw _ (List.mem_of_getElem? (i := 48) rfl))) Via.refl e4 Fpo E_p (Or.inl (hw _ (List.mem_of_getElem? (i := 49) rfl))) (hw _ (List.mem_of_getElem? (i := 10) rfl)) (ty := (.object "com/example/idlewell/idlewell/engine/PooledObject")) (by decide) rfl rfl (g := (mkF m 18 #[.val (.ref a1), .val (.ref a2), .val (.ref a3), .val .null] [(.ref a2), (.ref a3)])) rfl rfl (hb hby d7_18)
  have Fw5 := Fpo.same W5
  have K5 : Keep h0 h5 [a3, a2, a1] := (Keep.refl h0 [a3, a2, a1]).wr W5 (Or.inl (List.mem_of_getElem? (i := 0) rfl))
  have N5 := Fr.snoc X5 N0 g_a3
  obtain ⟨T6, h6, X6, e6, W6, st6⟩ := putF X5 hx hZ hown (host := "") (Or.inl (hw _ (List.mem_of_getElem? (i := 50) rfl))) Via.refl e5 (Fpn.other W5 (Or.inr (slot_ne (Or.inl (hw _ (List.mem_of_getElem? (i := 51) rfl))) (Or.inl (hw _ (List.mem_of_getElem? (i := 49) rfl))) (by decide) (t := (.object "com/example/idlewell/idlewell/engine/PooledObject")) (t' := (.object "com/example/idlewell/idlewell/engine/PooledObject")) (by decide) (by decide)))) (E_p.wr W5) (Or.inl (hw _ (List.mem_of_getElem? (i := 51) rfl))) (hw _ (List.mem_of_getElem? (i := 10) rfl)) (ty := (.object "com/example/idlewell/idlewell/engine/PooledObject")) (by decide) rfl rfl (g := (mkF m 23 #[.val (.ref a1), .val (.ref a2), .val (.ref a3), .val .null] [.null, (.ref a3)])) rfl rfl (hb hby d7_23)
  have Fw6 := (Fpn.other W5 (Or.inr (slot_ne (Or.inl (hw _ (List.mem_of_getElem? (i := 51) rfl))) (Or.inl (hw _ (List.mem_of_getElem? (i := 49) rfl))) (by decide) (t := (.object "com/example/idlewell/idlewell/engine/PooledObject")) (t' := (.object "com/example/idlewell/idlewell/engine/PooledObject")) (by decide) (by decide)))).same W6
  have K6 : Keep h0 h6 [a3, a2, a1] := K5.wr W6 (Or.inl (List.mem_of_getElem? (i := 0) rfl))
  have N6 := Fr.snoc X6 N5 g_a3
  obtain ⟨T7, h7, X7, e7, W7, st7⟩ := putF X6 hx hZ hown (host := "") (Or.inl (hw _ (List.mem_of_getElem? (i := 50) rfl))) Via.refl e6 ((Fqn.other W5 (Or.inl ne_a2_a3)).other W6 (Or.inl ne_a2_a3)) ((E_q.wr W5).wr W6) (Or.inl (hw _ (List.mem_of_getElem? (i := 51) rfl))) (hw _ (List.mem_of_getElem? (i := 10) rfl)) (ty := (.object "com/example/idlewell/idlewell/engine/PooledObject")) (by decide) rfl rfl (g := (mkF m 40 #[.val (.ref a1), .val (.ref a2), .val (.ref a3), .val .null] [(.ref a3), (.ref a2)])) rfl rfl (hb hby d7_40)
  have Fw7 := ((Fqn.other W5 (Or.inl ne_a2_a3)).other W6 (Or.inl ne_a2_a3)).same W7
  have K7 : Keep h0 h7 [a3, a2, a1] := K6.wr W7 (Or.inl (List.mem_of_getElem? (i := 1) rfl))
  have N7 := Fr.snoc X7 N6 g_a2
  obtain ⟨T8, h8, X8, e8, W8, st8⟩ := putF X7 hx hZ hown (host := "") (Or.inl (hw _ (List.mem_of_getElem? (i := 34) rfl))) Via.refl e7 (((Fnw.other W5 (Or.inl ne_a1_a3)).other W6 (Or.inl ne_a1_a3)).other W7 (Or.inl ne_a1_a2)) (((E_o.wr W5).wr W6).wr W7) (Or.inl (hw _ (List.mem_of_getElem? (i := 35) rfl))) (hw _ (List.mem_of_getElem? (i := 1) rfl)) (ty := (.object "com/example/idlewell/idlewell/engine/PooledObject")) (by decide) rfl rfl (g := (mkF m 49 #[.val (.ref a1), .val (.ref a2), .val (.ref a3), .val .null] [(.ref a3), (.ref a1)])) rfl rfl (hb hby d7_49)
  have Fw8 := (((Fnw.other W5 (Or.inl ne_a1_a3)).other W6 (Or.inl ne_a1_a3)).other W7 (Or.inl ne_a1_a2)).same W8
  have K8 : Keep h0 h8 [a3, a2, a1] := K7.wr W8 (Or.inl (List.mem_of_getElem? (i := 2) rfl))
  have N8 := Fr.snoc X8 N7 g_a1
  obtain ⟨T9, X9, e9, st9⟩ := getF X8 hx hZ hown (host := "") (Or.inl (hw _ (List.mem_of_getElem? (i := 27) rfl))) Via.refl e8 ((((Fsz.other W5 (Or.inl ne_a1_a3)).other W6 (Or.inl ne_a1_a3)).other W7 (Or.inl ne_a1_a2)).other W8 (Or.inr (slot_ne (Or.inl (hw _ (List.mem_of_getElem? (i := 28) rfl))) (Or.inl (hw _ (List.mem_of_getElem? (i := 35) rfl))) (by decide) (t := .int) (t' := (.object "com/example/idlewell/idlewell/engine/PooledObject")) (by decide) (by decide)))) (g := (mkF m 62 #[.val (.ref a1), .val (.ref a2), .val (.ref a3), .val .null] [(.ref a1), (.ref a1)])) rfl rfl (hb hby d7_62)
  obtain ⟨T10, h10, X10, e10, W10, st10⟩ := putF X9 hx hZ hown (host := "") (Or.inl (hw _ (List.mem_of_getElem? (i := 27) rfl))) Via.refl e9 ((((Fsz.other W5 (Or.inl ne_a1_a3)).other W6 (Or.inl ne_a1_a3)).other W7 (Or.inl ne_a1_a2)).other W8 (Or.inr (slot_ne (Or.inl (hw _ (List.mem_of_getElem? (i := 28) rfl))) (Or.inl (hw _ (List.mem_of_getElem? (i := 35) rfl))) (by decide) (t := .int) (t' := (.object "com/example/idlewell/idlewell/engine/PooledObject")) (by decide) (by decide)))) ((((E_o.wr W5).wr W6).wr W7).wr W8) (Or.inl (hw _ (List.mem_of_getElem? (i := 28) rfl))) (hw _ (List.mem_of_getElem? (i := 1) rfl)) (ty := .int) (by decide) rfl rfl (g := (mkF m 67 #[.val (.ref a1), .val (.ref a2), .val (.ref a3), .val .null] [(.int (sz + (1 : Int32))), (.ref a1)])) rfl rfl (hb hby d7_67)
  have Fw10 := ((((Fsz.other W5 (Or.inl ne_a1_a3)).other W6 (Or.inl ne_a1_a3)).other W7 (Or.inl ne_a1_a2)).other W8 (Or.inr (slot_ne (Or.inl (hw _ (List.mem_of_getElem? (i := 28) rfl))) (Or.inl (hw _ (List.mem_of_getElem? (i := 35) rfl))) (by decide) (t := .int) (t' := (.object "com/example/idlewell/idlewell/engine/PooledObject")) (by decide) (by decide)))).same W10
  have K10 : Keep h0 h10 [a3, a2, a1] := K8.wr W10 (Or.inl (List.mem_of_getElem? (i := 2) rfl))
  have N10 := Fr.snoc X10 N8 g_a1
  obtain ⟨fs, hr, hrun, hended, hW, hsame⟩ := X10.leave (v := none) (fun _ => rfl)
  refine ⟨_, _, pre0 _ ?_, hrun, hended, _, _, rfl, ?_, ⟨_, rfl⟩, hW, hsame.mono (by decide) (by decide)⟩
  · show Steps p.tables e below (s₁.setTop (mkF m 0 #[.val (.ref a1), .val (.ref a2), .val (.ref a3), .unset] [])) _
    refine XS.aloadN X0.here hx rfl (hb hby d7_0) rfl rfl ?_
    show Steps p.tables e below (s₁.setTop (mkF m 1 #[.val (.ref a1), .val (.ref a2), .val (.ref a3), .unset] [(.ref a2)])) _
    refine XS.ifnonnullYes X0.here hx rfl (pc0 := 1) (pc' := 11) rfl (hb hby d7_1) rfl (by decide) (by decide) ?_
    show Steps p.tables e below (s₁.setTop (mkF m 11 #[.val (.ref a1), .val (.ref a2), .val (.ref a3), .unset] [])) _
    refine XS.aloadN X0.here hx rfl (hb hby d7_11) rfl rfl ?_
    show Steps p.tables e below (s₁.setTop (mkF m 12 #[.val (.ref a1), .val (.ref a2), .val (.ref a3), .unset] [(.ref a2)])) _
    refine st4 _ ?_
    show Steps p.tables e below (T4.setTop (mkF m 15 #[.val (.ref a1), .val (.ref a2), .val (.ref a3), .unset] [.null])) _
    refine XS.astoreN X4.here hx rfl (hb hby d7_15) rfl rfl (l' := #[.val (.ref a1), .val (.ref a2), .val (.ref a3), .val .null]) rfl ?_
    show Steps p.tables e below (T4.setTop (mkF m 16 #[.val (.ref a1), .val (.ref a2), .val (.ref a3), .val .null] [])) _
    refine XS.aloadN X4.here hx rfl (hb hby d7_16) rfl rfl ?_
    show Steps p.tables e below (T4.setTop (mkF m 17 #[.val (.ref a1), .val (.ref a2), .val (.ref a3), .val .null] [(.ref a3)])) _
    refine XS.aloadN X4.here hx rfl (hb hby d7_17) rfl rfl ?_
    show Steps p.tables e below (T4.setTop (mkF m 18 #[.val (.ref a1), .val (.ref a2), .val (.ref a3), .val .null] [(.ref a2), (.ref a3)])) _
    refine st5 _ ?_
    show Steps p.tables e below (T5.setTop (mkF m 21 #[.val (.ref a1), .val (.ref a2), .val (.ref a3), .val .null] [])) _
    refine XS.aloadN X5.here hx rfl (hb hby d7_21) rfl rfl ?_
    show Steps p.tables e below (T5.setTop (mkF m 22 #[.val (.ref a1), .val (.ref a2), .val (.ref a3), .val .null] [(.ref a3)])) _
    refine XS.aloadN X5.here hx rfl (hb hby d7_22) rfl rfl ?_
    show Steps p.tables e below (T5.setTop (mkF m 23 #[.val (.ref a1), .val (.ref a2), .val (.ref a3), .val .null] [.null, (.ref a3)])) _
    refine st6 _ ?_
    show Steps p.tables e below (T6.setTop (mkF m 26 #[.val (.ref a1), .val (.ref a2), .val (.ref a3), .val .null] [])) _
    refine XS.aloadN X6.here hx rfl (hb hby d7_26) rfl rfl ?_
    show Steps p.tables e below (T6.setTop (mkF m 27 #[.val (.ref a1), .val (.ref a2), .val (.ref a3), .val .null] [(.ref a2)])) _
    refine XS.ifnonnullYes X6.here hx rfl (pc0 := 27) (pc' := 38) rfl (hb hby d7_27) rfl (by decide) (by decide) ?_
    show Steps p.tables e below (T6.setTop (mkF m 38 #[.val (.ref a1), .val (.ref a2), .val (.ref a3), .val .null] [])) _
    refine XS.aloadN X6.here hx rfl (hb hby d7_38) rfl rfl ?_
    show Steps p.tables e below (T6.setTop (mkF m 39 #[.val (.ref a1), .val (.ref a2), .val (.ref a3), .val .null] [(.ref a2)])) _
    refine XS.aloadN X6.here hx rfl (hb hby d7_39) rfl rfl ?_
    show Steps p.tables e below (T6.setTop (mkF m 40 #[.val (.ref a1), .val (.ref a2), .val (.ref a3), .val .null] [(.ref a3), (.ref a2)])) _
    refine st7 _ ?_
    show Steps p.tables e below (T7.setTop (mkF m 43 #[.val (.ref a1), .val (.ref a2), .val (.ref a3), .val .null] [])) _
    refine XS.aloadN X7.here hx rfl (hb hby d7_43) rfl rfl ?_
    show Steps p.tables e below (T7.setTop (mkF m 44 #[.val (.ref a1), .val (.ref a2), .val (.ref a3), .val .null] [.null])) _
    refine XS.ifnonnullNo X7.here hx rfl (hb hby d7_44) rfl ?_
    show Steps p.tables e below (T7.setTop (mkF m 47 #[.val (.ref a1), .val (.ref a2), .val (.ref a3), .val .null] [])) _
    refine XS.aloadN X7.here hx rfl (hb hby d7_47) rfl rfl ?_
    show Steps p.tables e below (T7.setTop (mkF m 48 #[.val (.ref a1), .val (.ref a2), .val (.ref a3), .val .null] [(.ref a1)])) _
    refine XS.aloadN X7.here hx rfl (hb hby d7_48) rfl rfl ?_
    show Steps p.tables e below (T7.setTop (mkF m 49 #[.val (.ref a1), .val (.ref a2), .val (.ref a3), .val .null] [(.ref a3), (.ref a1)])) _
    refine st8 _ ?_
    show Steps p.tables e below (T8.setTop (mkF m 52 #[.val (.ref a1), .val (.ref a2), .val (.ref a3), .val .null] [])) _
    refine XS.goto X8.here hx rfl (pc0 := 52) (pc' := 60) rfl (hb hby d7_52) (by decide) (by decide) ?_
    show Steps p.tables e below (T8.setTop (mkF m 60 #[.val (.ref a1), .val (.ref a2), .val (.ref a3), .val .null] [])) _
    refine XS.aloadN X8.here hx rfl (hb hby d7_60) rfl rfl ?_
    show Steps p.tables e below (T8.setTop (mkF m 61 #[.val (.ref a1), .val (.ref a2), .val (.ref a3), .val .null] [(.ref a1)])) _
    refine XS.dup X8.here hx rfl (hb hby d7_61) rfl rfl ?_
    show Steps p.tables e below (T8.setTop (mkF m 62 #[.val (.ref a1), .val (.ref a2), .val (.ref a3), .val .null] [(.ref a1), (.ref a1)])) _
    refine st9 _ ?_
    show Steps p.tables e below (T9.setTop (mkF m 65 #[.val (.ref a1), .val (.ref a2), .val (.ref a3), .val .null] [(.int sz), (.ref a1)])) _
    refine XS.iconst X9.here hx rfl (hb hby d7_65) ?_
    show Steps p.tables e below (T9.setTop (mkF m 66 #[.val (.ref a1), .val (.ref a2), .val (.ref a3), .val .null] [(.int (1 : Int32)), (.int sz), (.ref a1)])) _
    refine XS.iadd X9.here hx rfl (hb hby d7_66) rfl ?_
    show Steps p.tables e below (T9.setTop (mkF m 67 #[.val (.ref a1), .val (.ref a2), .val (.ref a3), .val .null] [(.int (sz + (1 : Int32))), (.ref a1)])) _
    refine st10 _ ?_
    show Steps p.tables e below (T10.setTop (mkF m 70 #[.val (.ref a1), .val (.ref a2), .val (.ref a3), .val .null] [])) _
    exact X10.returnOut hx Bd.returns (hb hby d7_70) hr
  · show Q7B Z a1 a2 a3 sz h0 n0 _ T10.heap _
    rw [e10]
    exact ⟨rfl, N10, K10, ⟨(((((E_o.wr W5).wr W6).wr W7).wr W8).wr W10), (((((E_p.wr W5).wr W6).wr W7).wr W8).wr W10), (((((E_q.wr W5).wr W6).wr W7).wr W8).wr W10), (Fw8.other W10 (Or.inr (slot_ne (Or.inl (hw _ (List.mem_of_getElem? (i := 35) rfl))) (Or.inl (hw _ (List.mem_of_getElem? (i := 28) rfl))) (by decide) (t := (.object "com/example/idlewell/idlewell/engine/PooledObject")) (t' := .int) (by decide) (by decide)))), (((((Fod.other W5 (Or.inl ne_a1_a3)).other W6 (Or.inl ne_a1_a3)).other W7 (Or.inl ne_a1_a2)).other W8 (Or.inr (slot_ne (Or.inl (hw _ (List.mem_of_getElem? (i := 47) rfl))) (Or.inl (hw _ (List.mem_of_getElem? (i := 35) rfl))) (by decide) (t := (.object "com/example/idlewell/idlewell/engine/PooledObject")) (t' := (.object "com/example/idlewell/idlewell/engine/PooledObject")) (by decide) (by decide)))).other W10 (Or.inr (slot_ne (Or.inl (hw _ (List.mem_of_getElem? (i := 47) rfl))) (Or.inl (hw _ (List.mem_of_getElem? (i := 28) rfl))) (by decide) (t := (.object "com/example/idlewell/idlewell/engine/PooledObject")) (t' := .int) (by decide) (by decide)))), Fw10, (((Fw6.other W7 (Or.inl (Ne.symm ne_a2_a3))).other W8 (Or.inl (Ne.symm ne_a1_a3))).other W10 (Or.inl (Ne.symm ne_a1_a3))), ((((Fw5.other W6 (Or.inr (slot_ne (Or.inl (hw _ (List.mem_of_getElem? (i := 49) rfl))) (Or.inl (hw _ (List.mem_of_getElem? (i := 51) rfl))) (by decide) (t := (.object "com/example/idlewell/idlewell/engine/PooledObject")) (t' := (.object "com/example/idlewell/idlewell/engine/PooledObject")) (by decide) (by decide)))).other W7 (Or.inl (Ne.symm ne_a2_a3))).other W8 (Or.inl (Ne.symm ne_a1_a3))).other W10 (Or.inl (Ne.symm ne_a1_a3))), ((Fw7.other W8 (Or.inl (Ne.symm ne_a1_a2))).other W10 (Or.inl (Ne.symm ne_a1_a2))), (((((Fqo.other W5 (Or.inl ne_a2_a3)).other W6 (Or.inl ne_a2_a3)).other W7 (Or.inr (slot_ne (Or.inl (hw _ (List.mem_of_getElem? (i := 49) rfl))) (Or.inl (hw _ (List.mem_of_getElem? (i := 51) rfl))) (by decide) (t := (.object "com/example/idlewell/idlewell/engine/PooledObject")) (t' := (.object "com/example/idlewell/idlewell/engine/PooledObject")) (by decide) (by decide)))).other W8 (Or.inl (Ne.symm ne_a1_a2))).other W10 (Or.inl (Ne.symm ne_a1_a2)))⟩⟩
theorem d6_0 : decode prog_16_method_6_code 0 = .ok (.aload_n 0, 1) := by decide +kernel
theorem d6_1 : decode prog_16_method_6_code 1 = .ok (.aload_n 0, 1) := by decide +kernel
theorem d6_2 : decode prog_16_method_6_code 2 = .ok (.getfield 13, 3) := by decide +kernel
theorem d6_5 : decode prog_16_method_6_code 5 = .ok (.aload_n 1, 1) := by decide +kernel
theorem d6_6 : decode prog_16_method_6_code 6 = .ok (.invokevirtual 20, 3) := by decide +kernel
theorem d6_9 : decode prog_16_method_6_code 9 = .ok (.return_, 1) := by decide +kernel
theorem pn_6 : plainName "com/example/idlewell/idlewell/engine/ObjectList" = true := by first | (simp [plainName, overriddenIn]; done) | decide +kernel
theorem pd_6_5 : parseMethodDescriptor "(Lcom/example/idlewell/idlewell/engine/PooledObject;Lcom/example/idlewell/idlewell/engine/PooledObject;)V" = some ⟨[(.object "com/example/idlewell/idlewell/engine/PooledObject"), (.object "com/example/idlewell/idlewell/engine/PooledObject")], none⟩ := by decide +kernel
theorem ef_6A (m : MethodId) (x0 : Addr) (x1 : Addr) : entryFrame m #[(.ref x0), (.ref x1)] 2 = mkF m 0 #[.val (.ref x0), .val (.ref x1)] [] := by first | (simp [entryFrame, mkF, argsToLocals, Value.category]; done) | rfl
def Q6A (Z : State) (a1 : Addr) (a2 : Addr) (aq : Addr) (sz : Int32) (h0 : Heap) (n0 : Nat) (v : Option Value) (h : Heap) (L : List Loc) : Prop := v = none ∧ Fr n0 L ∧ Keep h0 h [a2, a1] ∧ own_S Z h a1 a2 aq (.ref a2) (.ref a2) (sz + (1 : Int32)) .null .null .null .null
set_option maxRecDepth 65536 in
set_option maxHeartbeats 40000000 in
theorem rm6A (l : Launch) (Z : State) (a0 : Array Value) (hw : ∀ d ∈ tables_1, d.before a0 Z = true) (ws : List Jvm.Cond) (a1 : Addr) (a2 : Addr) (aq : Addr) (sz : Int32) (h0 : Heap) (n0 : Nat) (Z0 : n0 ≤ h0.size) (HS : own_S Z h0 a1 a2 aq .null .null sz .null .null .null .null) (g_a1 : n0 ≤ a1) (g_a2 : n0 ≤ a2) (g_aq : n0 ≤ aq) (ne_a1_a2 : a1 ≠ a2) (ne_a1_aq : a1 ≠ aq) (ne_a2_aq : a2 ≠ aq) :
    MetFree l (⟨"com/example/idlewell/idlewell/engine/ObjectList", "addNewest", "(Lcom/example/idlewell/idlewell/engine/PooledObject;)V"⟩ : MethodName) (head1 (Jvm.Cond.code (⟨"com/example/idlewell/idlewell/engine/ObjectList", "addNewest", "(Lcom/example/idlewell/idlewell/engine/PooledObject;)V"⟩ : MethodName) prog_16_method_6_code 2 none :: ws) ({ frames := 1, cells := 0, slots := 0, locals := 15 } : Room)) (fun a U => a = #[(.ref a1), (.ref a2)] ∧ Z.Warmed39 U.vm ∧ U.heap = h0) (fun _ _ _ _ _ => True) (fun _ U o U' => ∃ v L, o = .returned v ∧ Q6A Z a1 a2 aq sz h0 n0 v U'.heap L ∧ FrameEnd U o U' L ({ frames := 1, cells := 0, slots := 0, locals := 15 } : Room).cells ({ frames := 1, cells := 0, slots := 0, locals := 15 } : Room).slots) := by
  refine MetFree.of_bodySF (plainFor_of_name pn_6) hisR ?_
  intro p e s m args below meth c s₁ Bd hml0 hP hK
  obtain ⟨rfl, hZ, hh⟩ := hP
  have hx := Bd.exec
  have hby := Bd.bytes
  have hml : c.maxLocals = 2 := hml0
  have hown : s.vm.findClass "com/example/idlewell/idlewell/engine/ObjectList" = some m.cls := findClass_of_methodNamed Bd.named
  have hnm := (name_of_methodNamed Bd.named Bd.method).1
  have X0 : Stand p l e ({ frames := 1, cells := 0, slots := 0, locals := 15 } : Room) s m #[(.ref a1), (.ref a2)] below meth c s₁ [] 0 0 := Stand.of_body Bd
  have e0 : s₁.heap = h0 := by rw [← hh, Bd.state]; rfl
  have N0 := Fr.nil n0
  obtain ⟨E_o, E_p, E_q, Fnw, Fod, Fsz, Fpn, Fpo, Fqn, Fqo⟩ := HS
  have pre0 : ∀ t, Steps p.tables e below (s₁.setTop (mkF m 0 #[.val (.ref a1), .val (.ref a2)] [])) t → Steps p.tables e below (s₁.setTop (entryFrame m #[(.ref a1), (.ref a2)] 2)) t := fun t k => castTop (ef_6A m a1 a2) k
  obtain ⟨T3, X3, e3, st3⟩ := getF X0 hx hZ hown (host := "") (Or.inl (hw _ (List.mem_of_getElem? (i := 34) rfl))) Via.refl e0 Fnw (g := (mkF m 2 #[.val (.ref a1), .val (.ref a2)] [(.ref a1), (.ref a1)])) rfl rfl (hb hby d6_2)
  obtain ⟨cq4, kq4, q4a, q4b, q4c⟩ := isOf hZ e3 E_o
  obtain ⟨_, _, ⟨T4, L4, k4, n4⟩, -, X4, ⟨Lc4, hQ4, l4, y4, z4⟩, st4⟩ := X3.virtualBack hx (y := (⟨"com/example/idlewell/idlewell/engine/ObjectList", "addNewerThan", "(Lcom/example/idlewell/idlewell/engine/PooledObject;Lcom/example/idlewell/idlewell/engine/PooledObject;)V"⟩ : MethodName)) (z := (⟨"com/example/idlewell/idlewell/engine/ObjectList", "addNewerThan", "(Lcom/example/idlewell/idlewell/engine/PooledObject;Lcom/example/idlewell/idlewell/engine/PooledObject;)V"⟩ : MethodName)) hown (mvT hZ (hw _ (List.mem_of_getElem? (i := 41) rfl))) (mvT hZ (hw _ (List.mem_of_getElem? (i := 42) rfl))) (notFace_of_selects (args := #[]) (mvT hZ (hw _ (List.mem_of_getElem? (i := 44) rfl)))) (mvT hZ (hw _ (List.mem_of_getElem? (i := 44) rfl))) (mvT hZ (hw _ (List.mem_of_getElem? (i := 43) rfl))) (by decide) (backOf (W := 0) (rm7A l Z a0 hw [] a1 a2 aq sz h0 n0 Z0 ⟨E_o, E_p, E_q, Fnw, Fod, Fsz, Fpn, Fpo, Fqn, Fqo⟩ g_a1 g_a2 g_aq ne_a1_a2 ne_a1_aq ne_a2_aq) hZ (hw _ (List.mem_of_getElem? (i := 45) rfl)) (hw _ (List.mem_of_getElem? (i := 2) rfl)) (by decide) (by decide)) q4a q4c (g := (mkF m 6 #[.val (.ref a1), .val (.ref a2)] [(.ref a2), .null, (.ref a1)])) rfl (by rw [hml]; rfl) (Steps.refl _) (argsL := [.null, (.ref a2)]) (rest := []) (lenOf pd_6_5 rfl) rfl (by show 2 * 0 + _ ≤ _; exact Nat.le_of_eq rfl) (hb hby d6_6) (fun _ _ => ⟨rfl, e3, (by decide : 0 + 0 ≤ _), (by decide : 0 + 0 ≤ _)⟩)
  dsimp only [Pt.U, Pt.locs, Pt.cells, Pt.slots] at X4 l4 y4 z4 st4 hQ4
  subst l4 y4 z4
  obtain ⟨rfl, N4q, Kq4, ⟨E_o4, E_p4, E_q4, Fnw4, Fod4, Fsz4, Fpn4, Fpo4, Fqn4, Fqo4⟩⟩ := hQ4
  have N4 := Fr.app N0 N4q
  obtain ⟨fs, hr, hrun, hended, hW, hsame⟩ := X4.leave (v := none) (fun _ => rfl)
  refine ⟨_, _, pre0 _ ?_, hrun, hended, _, _, rfl, ?_, ⟨_, rfl⟩, hW, hsame.mono (by decide) (by decide)⟩
  · show Steps p.tables e below (s₁.setTop (mkF m 0 #[.val (.ref a1), .val (.ref a2)] [])) _
    refine XS.aloadN X0.here hx rfl (hb hby d6_0) rfl rfl ?_
    show Steps p.tables e below (s₁.setTop (mkF m 1 #[.val (.ref a1), .val (.ref a2)] [(.ref a1)])) _
    refine XS.aloadN X0.here hx rfl (hb hby d6_1) rfl rfl ?_
    show Steps p.tables e below (s₁.setTop (mkF m 2 #[.val (.ref a1), .val (.ref a2)] [(.ref a1), (.ref a1)])) _
    refine st3 _ ?_
    show Steps p.tables e below (T3.setTop (mkF m 5 #[.val (.ref a1), .val (.ref a2)] [.null, (.ref a1)])) _
    refine XS.aloadN X3.here hx rfl (hb hby d6_5) rfl rfl ?_
    show Steps p.tables e below (T3.setTop (mkF m 6 #[.val (.ref a1), .val (.ref a2)] [(.ref a2), .null, (.ref a1)])) _
    refine st4.trans ?_
    show Steps p.tables e below (T4.setTop (mkF m 9 #[.val (.ref a1), .val (.ref a2)] [])) _
    exact X4.returnOut hx Bd.returns (hb hby d6_9) hr
  · show Q6A Z a1 a2 aq sz h0 n0 _ T4.heap _
    exact ⟨rfl, N4, Kq4, ⟨E_o4, E_p4, E_q4, Fnw4, Fod4, Fsz4, Fpn4, Fpo4, Fqn4, Fqo4⟩⟩
theorem ef_6B (m : MethodId) (x0 : Addr) (x1 : Addr) : entryFrame m #[(.ref x0), (.ref x1)] 2 = mkF m 0 #[.val (.ref x0), .val (.ref x1)] [] := by first | (simp [entryFrame, mkF, argsToLocals, Value.category]; done) | rfl
def Q6B (Z : State) (a1 : Addr) (a2 : Addr) (aq : Addr) (sz : Int32) (h0 : Heap) (n0 : Nat) (v : Option Value) (h : Heap) (L : List Loc) : Prop := v = none ∧ Fr n0 L ∧ Keep h0 h [a2, aq, a1] ∧ own_S Z h a1 a2 aq (.ref a2) (.ref aq) (sz + (1 : Int32)) .null (.ref aq) (.ref a2) .null
set_option maxRecDepth 65536 in
set_option maxHeartbeats 40000000 in
theorem rm6B (l : Launch) (Z : State) (a0 : Array Value) (hw : ∀ d ∈ tables_1, d.before a0 Z = true) (ws : List Jvm.Cond) (a1 : Addr) (a2 : Addr) (aq : Addr) (sz : Int32) (h0 : Heap) (n0 : Nat) (Z0 : n0 ≤ h0.size) (HS : own_S Z h0 a1 a2 aq (.ref aq) (.ref aq) sz .null .null .null .null) (g_a1 : n0 ≤ a1) (g_a2 : n0 ≤ a2) (g_aq : n0 ≤ aq) (ne_a1_a2 : a1 ≠ a2) (ne_a1_aq : a1 ≠ aq) (ne_a2_aq : a2 ≠ aq) :
    MetFree l (⟨"com/example/idlewell/idlewell/engine/ObjectList", "addNewest", "(Lcom/example/idlewell/idlewell/engine/PooledObject;)V"⟩ : MethodName) (head1 (Jvm.Cond.code (⟨"com/example/idlewell/idlewell/engine/ObjectList", "addNewest", "(Lcom/example/idlewell/idlewell/engine/PooledObject;)V"⟩ : MethodName) prog_16_method_6_code 2 none :: ws) ({ frames := 1, cells := 0, slots := 0, locals := 15 } : Room)) (fun a U => a = #[(.ref a1), (.ref a2)] ∧ Z.Warmed39 U.vm ∧ U.heap = h0) (fun _ _ _ _ _ => True) (fun _ U o U' => ∃ v L, o = .returned v ∧ Q6B Z a1 a2 aq sz h0 n0 v U'.heap L ∧ FrameEnd U o U' L ({ frames := 1, cells := 0, slots := 0, locals := 15 } : Room).cells ({ frames := 1, cells := 0, slots := 0, locals := 15 } : Room).slots) := by
  refine MetFree.of_bodySF (plainFor_of_name pn_6) hisR ?_
  intro p e s m args below meth c s₁ Bd hml0 hP hK
  obtain ⟨rfl, hZ, hh⟩ := hP
  have hx := Bd.exec
  have hby := Bd.bytes
  have hml : c.maxLocals = 2 := hml0
  have hown : s.vm.findClass "com/example/idlewell/idlewell/engine/ObjectList" = some m.cls := findClass_of_methodNamed Bd.named
  have hnm := (name_of_methodNamed Bd.named Bd.method).1
  have X0 : Stand p l e ({ frames := 1, cells := 0, slots := 0, locals := 15 } : Room) s m #[(.ref a1), (.ref a2)] below meth c s₁ [] 0 0 := Stand.of_body Bd
  have e0 : s₁.heap = h0 := by rw [← hh, Bd.state]; rfl
  have N0 := Fr.nil n0
  obtain ⟨E_o, E_p, E_q, Fnw, Fod, Fsz, Fpn, Fpo, Fqn, Fqo⟩ := HS
  have pre0 : ∀ t, Steps p.tables e below (s₁.setTop (mkF m 0 #[.val (.ref a1), .val (.ref a2)] [])) t → Steps p.tables e below (s₁.setTop (entryFrame m #[(.ref a1), (.ref a2)] 2)) t := fun t k => castTop (ef_6B m a1 a2) k
  obtain ⟨T3, X3, e3, st3⟩ := getF X0 hx hZ hown (host := "") (Or.inl (hw _ (List.mem_of_getElem? (i := 34) rfl))) Via.refl e0 Fnw (g := (mkF m 2 #[.val (.ref a1), .val (.ref a2)] [(.ref a1), (.ref a1)])) rfl rfl (hb hby d6_2)
  obtain ⟨cq4, kq4, q4a, q4b, q4c⟩ := isOf hZ e3 E_o
  obtain ⟨_, _, ⟨T4, L4, k4, n4⟩, -, X4, ⟨Lc4, hQ4, l4, y4, z4⟩, st4⟩ := X3.virtualBack hx (y := (⟨"com/example/idlewell/idlewell/engine/ObjectList", "addNewerThan", "(Lcom/example/idlewell/idlewell/engine/PooledObject;Lcom/example/idlewell/idlewell/engine/PooledObject;)V"⟩ : MethodName)) (z := (⟨"com/example/idlewell/idlewell/engine/ObjectList", "addNewerThan", "(Lcom/example/idlewell/idlewell/engine/PooledObject;Lcom/example/idlewell/idlewell/engine/PooledObject;)V"⟩ : MethodName)) hown (mvT hZ (hw _ (List.mem_of_getElem? (i := 41) rfl))) (mvT hZ (hw _ (List.mem_of_getElem? (i := 42) rfl))) (notFace_of_selects (args := #[]) (mvT hZ (hw _ (List.mem_of_getElem? (i := 44) rfl)))) (mvT hZ (hw _ (List.mem_of_getElem? (i := 44) rfl))) (mvT hZ (hw _ (List.mem_of_getElem? (i := 43) rfl))) (by decide) (backOf (W := 0) (rm7B l Z a0 hw [] a1 aq a2 sz h0 n0 Z0 ⟨E_o, E_p, E_q, Fnw, Fod, Fsz, Fpn, Fpo, Fqn, Fqo⟩ g_a1 g_a2 g_aq ne_a1_a2 ne_a1_aq (Ne.symm ne_a2_aq)) hZ (hw _ (List.mem_of_getElem? (i := 45) rfl)) (hw _ (List.mem_of_getElem? (i := 2) rfl)) (by decide) (by decide)) q4a q4c (g := (mkF m 6 #[.val (.ref a1), .val (.ref a2)] [(.ref a2), (.ref aq), (.ref a1)])) rfl (by rw [hml]; rfl) (Steps.refl _) (argsL := [(.ref aq), (.ref a2)]) (rest := []) (lenOf pd_6_5 rfl) rfl (by show 2 * 0 + _ ≤ _; exact Nat.le_of_eq rfl) (hb hby d6_6) (fun _ _ => ⟨rfl, e3, (by decide : 0 + 0 ≤ _), (by decide : 0 + 0 ≤ _)⟩)
  dsimp only [Pt.U, Pt.locs, Pt.cells, Pt.slots] at X4 l4 y4 z4 st4 hQ4
  subst l4 y4 z4
  obtain ⟨rfl, N4q, Kq4, ⟨E_o4, E_p4, E_q4, Fnw4, Fod4, Fsz4, Fpn4, Fpo4, Fqn4, Fqo4⟩⟩ := hQ4
  have N4 := Fr.app N0 N4q
  obtain ⟨fs, hr, hrun, hended, hW, hsame⟩ := X4.leave (v := none) (fun _ => rfl)
  refine ⟨_, _, pre0 _ ?_, hrun, hended, _, _, rfl, ?_, ⟨_, rfl⟩, hW, hsame.mono (by decide) (by decide)⟩
  · show Steps p.tables e below (s₁.setTop (mkF m 0 #[.val (.ref a1), .val (.ref a2)] [])) _
    refine XS.aloadN X0.here hx rfl (hb hby d6_0) rfl rfl ?_
    show Steps p.tables e below (s₁.setTop (mkF m 1 #[.val (.ref a1), .val (.ref a2)] [(.ref a1)])) _
    refine XS.aloadN X0.here hx rfl (hb hby d6_1) rfl rfl ?_
    show Steps p.tables e below (s₁.setTop (mkF m 2 #[.val (.ref a1), .val (.ref a2)] [(.ref a1), (.ref a1)])) _
    refine st3 _ ?_
    show Steps p.tables e below (T3.setTop (mkF m 5 #[.val (.ref a1), .val (.ref a2)] [(.ref aq), (.ref a1)])) _
    refine XS.aloadN X3.here hx rfl (hb hby d6_5) rfl rfl ?_
    show Steps p.tables e below (T3.setTop (mkF m 6 #[.val (.ref a1), .val (.ref a2)] [(.ref a2), (.ref aq), (.ref a1)])) _
    refine st4.trans ?_
    show Steps p.tables e below (T4.setTop (mkF m 9 #[.val (.ref a1), .val (.ref a2)] [])) _
    exact X4.returnOut hx Bd.returns (hb hby d6_9) hr
  · show Q6B Z a1 a2 aq sz h0 n0 _ T4.heap _
    exact ⟨rfl, N4, Kq4, ⟨E_o4, E_p4, E_q4, Fnw4, Fod4, Fsz4, Fpn4, Fpo4, Fqn4, Fqo4⟩⟩
theorem d8_0 : decode prog_16_method_8_code 0 = .ok (.aload_n 1, 1) := by decide +kernel
theorem d8_1 : decode prog_16_method_8_code 1 = .ok (.getfield 24, 3) := by decide +kernel
theorem d8_4 : decode prog_16_method_8_code 4 = .ok (.ifnonnull 14, 3) := by decide +kernel
theorem d8_7 : decode prog_16_method_8_code 7 = .ok (.aload_n 0, 1) := by decide +kernel
theorem d8_8 : decode prog_16_method_8_code 8 = .ok (.aload_n 1, 1) := by decide +kernel
theorem d8_9 : decode prog_16_method_8_code 9 = .ok (.getfield 29, 3) := by decide +kernel
theorem d8_12 : decode prog_16_method_8_code 12 = .ok (.putfield 13, 3) := by decide +kernel
theorem d8_15 : decode prog_16_method_8_code 15 = .ok (.goto 14, 3) := by decide +kernel
theorem d8_29 : decode prog_16_method_8_code 29 = .ok (.aload_n 1, 1) := by decide +kernel
theorem d8_30 : decode prog_16_method_8_code 30 = .ok (.getfield 29, 3) := by decide +kernel
theorem d8_33 : decode prog_16_method_8_code 33 = .ok (.ifnonnull 14, 3) := by decide +kernel
theorem d8_36 : decode prog_16_method_8_code 36 = .ok (.aload_n 0, 1) := by decide +kernel
theorem d8_37 : decode prog_16_method_8_code 37 = .ok (.aload_n 1, 1) := by decide +kernel
theorem d8_38 : decode prog_16_method_8_code 38 = .ok (.getfield 24, 3) := by decide +kernel
theorem d8_41 : decode prog_16_method_8_code 41 = .ok (.putfield 17, 3) := by decide +kernel
theorem d8_44 : decode prog_16_method_8_code 44 = .ok (.goto 14, 3) := by decide +kernel
theorem d8_58 : decode prog_16_method_8_code 58 = .ok (.aload_n 1, 1) := by decide +kernel
theorem d8_59 : decode prog_16_method_8_code 59 = .ok (.aconst_null, 1) := by decide +kernel
theorem d8_60 : decode prog_16_method_8_code 60 = .ok (.putfield 24, 3) := by decide +kernel
theorem d8_63 : decode prog_16_method_8_code 63 = .ok (.aload_n 1, 1) := by decide +kernel
theorem d8_64 : decode prog_16_method_8_code 64 = .ok (.aconst_null, 1) := by decide +kernel
theorem d8_65 : decode prog_16_method_8_code 65 = .ok (.putfield 29, 3) := by decide +kernel
theorem d8_68 : decode prog_16_method_8_code 68 = .ok (.aload_n 0, 1) := by decide +kernel
theorem d8_69 : decode prog_16_method_8_code 69 = .ok (.dup, 1) := by decide +kernel
theorem d8_70 : decode prog_16_method_8_code 70 = .ok (.getfield 7, 3) := by decide +kernel
theorem d8_73 : decode prog_16_method_8_code 73 = .ok (.iconst 1, 1) := by decide +kernel
theorem d8_74 : decode prog_16_method_8_code 74 = .ok (.isub, 1) := by decide +kernel
theorem d8_75 : decode prog_16_method_8_code 75 = .ok (.putfield 7, 3) := by decide +kernel
theorem d8_78 : decode prog_16_method_8_code 78 = .ok (.return_, 1) := by decide +kernel
theorem pn_8 : plainName "com/example/idlewell/idlewell/engine/ObjectList" = true := by first | (simp [plainName, overriddenIn]; done) | decide +kernel
theorem ef_8only (m : MethodId) (x0 : Addr) (x1 : Addr) : entryFrame m #[(.ref x0), (.ref x1)] 2 = mkF m 0 #[.val (.ref x0), .val (.ref x1)] [] := by first | (simp [entryFrame, mkF, argsToLocals, Value.category]; done) | rfl
def Q8only (Z : State) (a1 : Addr) (a2 : Addr) (aq : Addr) (sz : Int32) (h0 : Heap) (n0 : Nat) (v : Option Value) (h : Heap) (L : List Loc) : Prop := v = none ∧ Fr n0 L ∧ Keep h0 h [a1, a2] ∧ own_S Z h a1 a2 aq .null .null (sz - (1 : Int32)) .null .null .null .null
set_option maxRecDepth 65536 in
set_option maxHeartbeats 40000000 in
theorem rm8only (l : Launch) (Z : State) (a0 : Array Value) (hw : ∀ d ∈ tables_1, d.before a0 Z = true) (ws : List Jvm.Cond) (a1 : Addr) (a2 : Addr) (aq : Addr) (sz : Int32) (h0 : Heap) (n0 : Nat) (Z0 : n0 ≤ h0.size) (HS : own_S Z h0 a1 a2 aq (.ref a2) (.ref a2) sz .null .null .null .null) (g_a1 : n0 ≤ a1) (g_a2 : n0 ≤ a2) (g_aq : n0 ≤ aq) (ne_a1_a2 : a1 ≠ a2) (ne_a1_aq : a1 ≠ aq) (ne_a2_aq : a2 ≠ aq) :
    MetFree l (⟨"com/example/idlewell/idlewell/engine/ObjectList", "remove", "(Lcom/example/idlewell/idlewell/engine/PooledObject;)V"⟩ : MethodName) (head1 (Jvm.Cond.code (⟨"com/example/idlewell/idlewell/engine/ObjectList", "remove", "(Lcom/example/idlewell/idlewell/engine/PooledObject;)V"⟩ : MethodName) prog_16_method_8_code 2 none :: ws) ({ frames := 0, cells := 0, slots := 0, locals := 0 } : Room)) (fun a U => a = #[(.ref a1), (.ref a2)] ∧ Z.Warmed39 U.vm ∧ U.heap = h0) (fun _ _ _ _ _ => True) (fun _ U o U' => ∃ v L, o = .returned v ∧ Q8only Z a1 a2 aq sz h0 n0 v U'.heap L ∧ FrameEnd U o U' L ({ frames := 0, cells := 0, slots := 0, locals := 0 } : Room).cells ({ frames := 0, cells := 0, slots := 0, locals := 0 } : Room).slots) := by
  refine MetFree.of_bodySF (plainFor_of_name pn_8) hisR ?_
  intro p e s m args below meth c s₁ Bd hml0 hP hK
  obtain ⟨rfl, hZ, hh⟩ := hP
  have hx := Bd.exec
  have hby := Bd.bytes
  have hml : c.maxLocals = 2 := hml0
  have hown : s.vm.findClass "com/example/idlewell/idlewell/engine/ObjectList" = some m.cls := findClass_of_methodNamed Bd.named
  have hnm := (name_of_methodNamed Bd.named Bd.method).1
  have X0 : Stand p l e ({ frames := 0, cells := 0, slots := 0, locals := 0 } : Room) s m #[(.ref a1), (.ref a2)] below meth c s₁ [] 0 0 := Stand.of_body Bd
  have e0 : s₁.heap = h0 := by rw [← hh, Bd.state]; rfl
  have N0 := Fr.nil n0
  obtain ⟨E_o, E_p, E_q, Fnw, Fod, Fsz, Fpn, Fpo, Fqn, Fqo⟩ := HS
  have pre0 : ∀ t, Steps p.tables e below (s₁.setTop (mkF m 0 #[.val (.ref a1), .val (.ref a2)] [])) t → Steps p.tables e below (s₁.setTop (entryFrame m #[(.ref a1), (.ref a2)] 2)) t := fun t k => castTop (ef_8only m a1 a2) k
  obtain ⟨T3, X3, e3, st3⟩ := getF X0 hx hZ hown (host := "") (Or.inl (hw _ (List.mem_of_getElem? (i := 50) rfl))) Via.refl e0 Fpn (g := (mkF m 1 #[.val (.ref a1), .val (.ref a2)] [(.ref a2)])) rfl rfl (hb hby d8_1)
  obtain ⟨T4, X4, e4, st4⟩ := getF X3 hx hZ hown (host := "") (Or.inl (hw _ (List.mem_of_getElem? (i := 48) rfl))) Via.refl e3 Fpo (g := (mkF m 9 #[.val (.ref a1), .val (.ref a2)] [(.ref a2), (.ref a1)])) rfl rfl (hb hby d8_9)
  obtain ⟨T5, h5, X5, e5, W5, st5⟩ := putF X4 hx hZ hown (host := "") (Or.inl (hw _ (List.mem_of_getElem? (i := 34) rfl))) Via.refl e4 Fnw E_o (Or.inl (hw _ (List.mem_of_getElem? (i := 35) rfl))) (hw _ (List.mem_of_getElem? (i := 1) rfl)) (ty := (.object "com/example/idlewell/idlewell/engine/PooledObject")) (by decide) rfl rfl (g := (mkF m 12 #[.val (.ref a1), .val (.ref a2)] [.null, (.ref a1)])) rfl rfl (hb hby d8_12)
  have Fw5 := Fnw.same W5
  have K5 : Keep h0 h5 [a1, a2] := (Keep.refl h0 [a1, a2]).wr W5 (Or.inl (List.mem_of_getElem? (i := 0) rfl))
  have N5 := Fr.snoc X5 N0 g_a1
  obtain ⟨T6, X6, e6, st6⟩ := getF X5 hx hZ hown (host := "") (Or.inl (hw _ (List.mem_of_getElem? (i := 48) rfl))) Via.refl e5 (Fpo.other W5 (Or.inl (Ne.symm ne_a1_a2))) (g := (mkF m 30 #[.val (.ref a1), .val (.ref a2)] [(.ref a2)])) rfl rfl (hb hby d8_30)
  obtain ⟨T7, X7, e7, st7⟩ := getF X6 hx hZ hown (host := "") (Or.inl (hw _ (List.mem_of_getElem? (i := 50) rfl))) Via.refl e6 (Fpn.other W5 (Or.inl (Ne.symm ne_a1_a2))) (g := (mkF m 38 #[.val (.ref a1), .val (.ref a2)] [(.ref a2), (.ref a1)])) rfl rfl (hb hby d8_38)
  obtain ⟨T8, h8, X8, e8, W8, st8⟩ := putF X7 hx hZ hown (host := "") (Or.inl (hw _ (List.mem_of_getElem? (i := 46) rfl))) Via.refl e7 (Fod.other W5 (Or.inr (slot_ne (Or.inl (hw _ (List.mem_of_getElem? (i := 47) rfl))) (Or.inl (hw _ (List.mem_of_getElem? (i := 35) rfl))) (by decide) (t := (.object "com/example/idlewell/idlewell/engine/PooledObject")) (t' := (.object "com/example/idlewell/idlewell/engine/PooledObject")) (by decide) (by decide)))) (E_o.wr W5) (Or.inl (hw _ (List.mem_of_getElem? (i := 47) rfl))) (hw _ (List.mem_of_getElem? (i := 1) rfl)) (ty := (.object "com/example/idlewell/idlewell/engine/PooledObject")) (by decide) rfl rfl (g := (mkF m 41 #[.val (.ref a1), .val (.ref a2)] [.null, (.ref a1)])) rfl rfl (hb hby d8_41)
  have Fw8 := (Fod.other W5 (Or.inr (slot_ne (Or.inl (hw _ (List.mem_of_getElem? (i := 47) rfl))) (Or.inl (hw _ (List.mem_of_getElem? (i := 35) rfl))) (by decide) (t := (.object "com/example/idlewell/idlewell/engine/PooledObject")) (t' := (.object "com/example/idlewell/idlewell/engine/PooledObject")) (by decide) (by decide)))).same W8
  have K8 : Keep h0 h8 [a1, a2] := K5.wr W8 (Or.inl (List.mem_of_getElem? (i := 0) rfl))
  have N8 := Fr.snoc X8 N5 g_a1
  obtain ⟨T9, h9, X9, e9, W9, st9⟩ := putF X8 hx hZ hown (host := "") (Or.inl (hw _ (List.mem_of_getElem? (i := 50) rfl))) Via.refl e8 ((Fpn.other W5 (Or.inl (Ne.symm ne_a1_a2))).other W8 (Or.inl (Ne.symm ne_a1_a2))) ((E_p.wr W5).wr W8) (Or.inl (hw _ (List.mem_of_getElem? (i := 51) rfl))) (hw _ (List.mem_of_getElem? (i := 10) rfl)) (ty := (.object "com/example/idlewell/idlewell/engine/PooledObject")) (by decide) rfl rfl (g := (mkF m 60 #[.val (.ref a1), .val (.ref a2)] [.null, (.ref a2)])) rfl rfl (hb hby d8_60)
  have Fw9 := ((Fpn.other W5 (Or.inl (Ne.symm ne_a1_a2))).other W8 (Or.inl (Ne.symm ne_a1_a2))).same W9
  have K9 : Keep h0 h9 [a1, a2] := K8.wr W9 (Or.inl (List.mem_of_getElem? (i := 1) rfl))
  have N9 := Fr.snoc X9 N8 g_a2
  obtain ⟨T10, h10, X10, e10, W10, st10⟩ := putF X9 hx hZ hown (host := "") (Or.inl (hw _ (List.mem_of_getElem? (i := 48) rfl))) Via.refl e9 (((Fpo.other W5 (Or.inl (Ne.symm ne_a1_a2))).other W8 (Or.inl (Ne.symm ne_a1_a2))).other W9 (Or.inr (slot_ne (Or.inl (hw _ (List.mem_of_getElem? (i := 49) rfl))) (Or.inl (hw _ (List.mem_of_getElem? (i := 51) rfl))) (by decide) (t := (.object "com/example/idlewell/idlewell/engine/PooledObject")) (t' := (.object "com/example/idlewell/idlewell/engine/PooledObject")) (by decide) (by decide)))) (((E_p.wr W5).wr W8).wr W9) (Or.inl (hw _ (List.mem_of_getElem? (i := 49) rfl))) (hw _ (List.mem_of_getElem? (i := 10) rfl)) (ty := (.object "com/example/idlewell/idlewell/engine/PooledObject")) (by decide) rfl rfl (g := (mkF m 65 #[.val (.ref a1), .val (.ref a2)] [.null, (.ref a2)])) rfl rfl (hb hby d8_65)
  have Fw10 := (((Fpo.other W5 (Or.inl (Ne.symm ne_a1_a2))).other W8 (Or.inl (Ne.symm ne_a1_a2))).other W9 (Or.inr (slot_ne (Or.inl (hw _ (List.mem_of_getElem? (i := 49) rfl))) (Or.inl (hw _ (List.mem_of_getElem? (i := 51) rfl))) (by decide) (t := (.object "com/example/idlewell/idlewell/engine/PooledObject")) (t' := (.object "com/example/idlewell/idlewell/engine/PooledObject")) (by decide) (by decide)))).same W10
  have K10 : Keep h0 h10 [a1, a2] := K9.wr W10 (Or.inl (List.mem_of_getElem? (i := 1) rfl))
  have N10 := Fr.snoc X10 N9 g_a2
  obtain ⟨T11, X11, e11, st11⟩ := getF X10 hx hZ hown (host := "") (Or.inl (hw _ (List.mem_of_getElem? (i := 27) rfl))) Via.refl e10 ((((Fsz.other W5 (Or.inr (slot_ne (Or.inl (hw _ (List.mem_of_getElem? (i := 28) rfl))) (Or.inl (hw _ (List.mem_of_getElem? (i := 35) rfl))) (by decide) (t := .int) (t' := (.object "com/example/idlewell/idlewell/engine/PooledObject")) (by decide) (by decide)))).other W8 (Or.inr (slot_ne (Or.inl (hw _ (List.mem_of_getElem? (i := 28) rfl))) (Or.inl (hw _ (List.mem_of_getElem? (i := 47) rfl))) (by decide) (t := .int) (t' := (.object "com/example/idlewell/idlewell/engine/PooledObject")) (by decide) (by decide)))).other W9 (Or.inl ne_a1_a2)).other W10 (Or.inl ne_a1_a2)) (g := (mkF m 70 #[.val (.ref a1), .val (.ref a2)] [(.ref a1), (.ref a1)])) rfl rfl (hb hby d8_70)
  obtain ⟨T12, h12, X12, e12, W12, st12⟩ := putF X11 hx hZ hown (host := "") (Or.inl (hw _ (List.mem_of_getElem? (i := 27) rfl))) Via.refl e11 ((((Fsz.other W5 (Or.inr (slot_ne (Or.inl (hw _ (List.mem_of_getElem? (i := 28) rfl))) (Or.inl (hw _ (List.mem_of_getElem? (i := 35) rfl))) (by decide) (t := .int) (t' := (.object "com/example/idlewell/idlewell/engine/PooledObject")) (by decide) (by decide)))).other W8 (Or.inr (slot_ne (Or.inl (hw _ (List.mem_of_getElem? (i := 28) rfl))) (Or.inl (hw _ (List.mem_of_getElem? (i := 47) rfl))) (by decide) (t := .int) (t' := (.object "com/example/idlewell/idlewell/engine/PooledObject")) (by decide) (by decide)))).other W9 (Or.inl ne_a1_a2)).other W10 (Or.inl ne_a1_a2)) ((((E_o.wr W5).wr W8).wr W9).wr W10) (Or.inl (hw _ (List.mem_of_getElem? (i := 28) rfl))) (hw _ (List.mem_of_getElem? (i := 1) rfl)) (ty := .int) (by decide) rfl rfl (g := (mkF m 75 #[.val (.ref a1), .val (.ref a2)] [(.int (sz - (1 : Int32))), (.ref a1)])) rfl rfl (hb hby d8_75)
  have Fw12 := ((((Fsz.other W5 (Or.inr (slot_ne (Or.inl (hw _ (List.mem_of_getElem? (i := 28) rfl))) (Or.inl (hw _ (List.mem_of_getElem? (i := 35) rfl))) (by decide) (t := .int) (t' := (.object "com/example/idlewell/idlewell/engine/PooledObject")) (by decide) (by decide)))).other W8 (Or.inr (slot_ne (Or.inl (hw _ (List.mem_of_getElem? (i := 28) rfl))) (Or.inl (hw _ (List.mem_of_getElem? (i := 47) rfl))) (by decide) (t := .int) (t' := (.object "com/example/idlewell/idlewell/engine/PooledObject")) (by decide) (by decide)))).other W9 (Or.inl ne_a1_a2)).other W10 (Or.inl ne_a1_a2)).same W12
  have K12 : Keep h0 h12 [a1, a2] := K10.wr W12 (Or.inl (List.mem_of_getElem? (i := 0) rfl))
  have N12 := Fr.snoc X12 N10 g_a1
  obtain ⟨fs, hr, hrun, hended, hW, hsame⟩ := X12.leave (v := none) (fun _ => rfl)
  refine ⟨_, _, pre0 _ ?_, hrun, hended, _, _, rfl, ?_, ⟨_, rfl⟩, hW, hsame.mono (by decide) (by decide)⟩
  · show Steps p.tables e below (s₁.setTop (mkF m 0 #[.val (.ref a1), .val (.ref a2)] [])) _
    refine XS.aloadN X0.here hx rfl (hb hby d8_0) rfl rfl ?_
    show Steps p.tables e below (s₁.setTop (mkF m 1 #[.val (.ref a1), .val (.ref a2)] [(.ref a2)])) _
    refine st3 _ ?_
    show Steps p.tables e below (T3.setTop (mkF m 4 #[.val (.ref a1), .val (.ref a2)] [.null])) _
    refine XS.ifnonnullNo X3.here hx rfl (hb hby d8_4) rfl ?_
    show Steps p.tables e below (T3.setTop (mkF m 7 #[.val (.ref a1), .val (.ref a2)] [])) _
    refine XS.aloadN X3.here hx rfl (hb hby d8_7) rfl rfl ?_
    show Steps p.tables e below (T3.setTop (mkF m 8 #[.val (.ref a1), .val (.ref a2)] [(.ref a1)])) _
    refine XS.aloadN X3.here hx rfl (hb hby d8_8) rfl rfl ?_
    show Steps p.tables e below (T3.setTop (mkF m 9 #[.val (.ref a1), .val (.ref a2)] [(.ref a2), (.ref a1)])) _
    refine st4 _ ?_
    show Steps p.tables e below (T4.setTop (mkF m 12 #[.val (.ref a1), .val (.ref a2)] [.null, (.ref a1)])) _
    refine st5 _ ?_
    show Steps p.tables e below (T5.setTop (mkF m 15 #[.val (.ref a1), .val (.ref a2)] [])) _
    refine XS.goto X5.here hx rfl (pc0 := 15) (pc' := 29) rfl (hb hby d8_15) (by decide) (by decide) ?_
    show Steps p.tables e below (T5.setTop (mkF m 29 #[.val (.ref a1), .val (.ref a2)] [])) _
    refine XS.aloadN X5.here hx rfl (hb hby d8_29) rfl rfl ?_
    show Steps p.tables e below (T5.setTop (mkF m 30 #[.val (.ref a1), .val (.ref a2)] [(.ref a2)])) _
    refine st6 _ ?_
    show Steps p.tables e below (T6.setTop (mkF m 33 #[.val (.ref a1), .val (.ref a2)] [.null])) _
    refine XS.ifnonnullNo X6.here hx rfl (hb hby d8_33) rfl ?_
    show Steps p.tables e below (T6.setTop (mkF m 36 #[.val (.ref a1), .val (.ref a2)] [])) _
    refine XS.aloadN X6.here hx rfl (hb hby d8_36) rfl rfl ?_
    show Steps p.tables e below (T6.setTop (mkF m 37 #[.val (.ref a1), .val (.ref a2)] [(.ref a1)])) _
    refine XS.aloadN X6.here hx rfl (hb hby d8_37) rfl rfl ?_
    show Steps p.tables e below (T6.setTop (mkF m 38 #[.val (.ref a1), .val (.ref a2)] [(.ref a2), (.ref a1)])) _
    refine st7 _ ?_
    show Steps p.tables e below (T7.setTop (mkF m 41 #[.val (.ref a1), .val (.ref a2)] [.null, (.ref a1)])) _
    refine st8 _ ?_
    show Steps p.tables e below (T8.setTop (mkF m 44 #[.val (.ref a1), .val (.ref a2)] [])) _
    refine XS.goto X8.here hx rfl (pc0 := 44) (pc' := 58) rfl (hb hby d8_44) (by decide) (by decide) ?_
    show Steps p.tables e below (T8.setTop (mkF m 58 #[.val (.ref a1), .val (.ref a2)] [])) _
    refine XS.aloadN X8.here hx rfl (hb hby d8_58) rfl rfl ?_
    show Steps p.tables e below (T8.setTop (mkF m 59 #[.val (.ref a1), .val (.ref a2)] [(.ref a2)])) _
    refine XS.aconstNull X8.here hx rfl (hb hby d8_59) ?_
    show Steps p.tables e below (T8.setTop (mkF m 60 #[.val (.ref a1), .val (.ref a2)] [.null, (.ref a2)])) _
    refine st9 _ ?_
    show Steps p.tables e below (T9.setTop (mkF m 63 #[.val (.ref a1), .val (.ref a2)] [])) _
    refine XS.aloadN X9.here hx rfl (hb hby d8_63) rfl rfl ?_
    show Steps p.tables e below (T9.setTop (mkF m 64 #[.val (.ref a1), .val (.ref a2)] [(.ref a2)])) _
    refine XS.aconstNull X9.here hx rfl (hb hby d8_64) ?_
    show Steps p.tables e below (T9.setTop (mkF m 65 #[.val (.ref a1), .val (.ref a2)] [.null, (.ref a2)])) _
    refine st10 _ ?_
    show Steps p.tables e below (T10.setTop (mkF m 68 #[.val (.ref a1), .val (.ref a2)] [])) _
    refine XS.aloadN X10.here hx rfl (hb hby d8_68) rfl rfl ?_
    show Steps p.tables e below (T10.setTop (mkF m 69 #[.val (.ref a1), .val (.ref a2)] [(.ref a1)])) _
    refine XS.dup X10.here hx rfl (hb hby d8_69) rfl rfl ?_
    show Steps p.tables e below (T10.setTop (mkF m 70 #[.val (.ref a1), .val (.ref a2)] [(.ref a1), (.ref a1)])) _
    refine st11 _ ?_
    show Steps p.tables e below (T11.setTop (mkF m 73 #[.val (.ref a1), .val (.ref a2)] [(.int sz), (.ref a1)])) _
    refine XS.iconst X11.here hx rfl (hb hby d8_73) ?_
    show Steps p.tables e below (T11.setTop (mkF m 74 #[.val (.ref a1), .val (.ref a2)] [(.int (1 : Int32)), (.int sz), (.ref a1)])) _
    refine XS.isub X11.here hx rfl (hb hby d8_74) rfl ?_
    show Steps p.tables e below (T11.setTop (mkF m 75 #[.val (.ref a1), .val (.ref a2)] [(.int (sz - (1 : Int32))), (.ref a1)])) _
    refine st12 _ ?_
    show Steps p.tables e below (T12.setTop (mkF m 78 #[.val (.ref a1), .val (.ref a2)] [])) _
    exact X12.returnOut hx Bd.returns (hb hby d8_78) hr
  · show Q8only Z a1 a2 aq sz h0 n0 _ T12.heap _
    rw [e12]
    exact ⟨rfl, N12, K12, ⟨(((((E_o.wr W5).wr W8).wr W9).wr W10).wr W12), (((((E_p.wr W5).wr W8).wr W9).wr W10).wr W12), (((((E_q.wr W5).wr W8).wr W9).wr W10).wr W12), ((((Fw5.other W8 (Or.inr (slot_ne (Or.inl (hw _ (List.mem_of_getElem? (i := 35) rfl))) (Or.inl (hw _ (List.mem_of_getElem? (i := 47) rfl))) (by decide) (t := (.object "com/example/idlewell/idlewell/engine/PooledObject")) (t' := (.object "com/example/idlewell/idlewell/engine/PooledObject")) (by decide) (by decide)))).other W9 (Or.inl ne_a1_a2)).other W10 (Or.inl ne_a1_a2)).other W12 (Or.inr (slot_ne (Or.inl (hw _ (List.mem_of_getElem? (i := 35) rfl))) (Or.inl (hw _ (List.mem_of_getElem? (i := 28) rfl))) (by decide) (t := (.object "com/example/idlewell/idlewell/engine/PooledObject")) (t' := .int) (by decide) (by decide)))), (((Fw8.other W9 (Or.inl ne_a1_a2)).other W10 (Or.inl ne_a1_a2)).other W12 (Or.inr (slot_ne (Or.inl (hw _ (List.mem_of_getElem? (i := 47) rfl))) (Or.inl (hw _ (List.mem_of_getElem? (i := 28) rfl))) (by decide) (t := (.object "com/example/idlewell/idlewell/engine/PooledObject")) (t' := .int) (by decide) (by decide)))), Fw12, ((Fw9.other W10 (Or.inr (slot_ne (Or.inl (hw _ (List.mem_of_getElem? (i := 51) rfl))) (Or.inl (hw _ (List.mem_of_getElem? (i := 49) rfl))) (by decide) (t := (.object "com/example/idlewell/idlewell/engine/PooledObject")) (t' := (.object "com/example/idlewell/idlewell/engine/PooledObject")) (by decide) (by decide)))).other W12 (Or.inl (Ne.symm ne_a1_a2))), (Fw10.other W12 (Or.inl (Ne.symm ne_a1_a2))), (((((Fqn.other W5 (Or.inl (Ne.symm ne_a1_aq))).other W8 (Or.inl (Ne.symm ne_a1_aq))).other W9 (Or.inl (Ne.symm ne_a2_aq))).other W10 (Or.inl (Ne.symm ne_a2_aq))).other W12 (Or.inl (Ne.symm ne_a1_aq))), (((((Fqo.other W5 (Or.inl (Ne.symm ne_a1_aq))).other W8 (Or.inl (Ne.symm ne_a1_aq))).other W9 (Or.inl (Ne.symm ne_a2_aq))).other W10 (Or.inl (Ne.symm ne_a2_aq))).other W12 (Or.inl (Ne.symm ne_a1_aq)))⟩⟩
theorem d8_18 : decode prog_16_method_8_code 18 = .ok (.aload_n 1, 1) := by decide +kernel
theorem d8_19 : decode prog_16_method_8_code 19 = .ok (.getfield 24, 3) := by decide +kernel
theorem d8_22 : decode prog_16_method_8_code 22 = .ok (.aload_n 1, 1) := by decide +kernel
theorem d8_23 : decode prog_16_method_8_code 23 = .ok (.getfield 29, 3) := by decide +kernel
theorem d8_26 : decode prog_16_method_8_code 26 = .ok (.putfield 29, 3) := by decide +kernel
theorem ef_8old (m : MethodId) (x0 : Addr) (x1 : Addr) : entryFrame m #[(.ref x0), (.ref x1)] 2 = mkF m 0 #[.val (.ref x0), .val (.ref x1)] [] := by first | (simp [entryFrame, mkF, argsToLocals, Value.category]; done) | rfl
def Q8old (Z : State) (a1 : Addr) (a2 : Addr) (aq : Addr) (sz : Int32) (h0 : Heap) (n0 : Nat) (v : Option Value) (h : Heap) (L : List Loc) : Prop := v = none ∧ Fr n0 L ∧ Keep h0 h [aq, a1, a2] ∧ own_S Z h a1 a2 aq (.ref aq) (.ref aq) (sz - (1 : Int32)) .null .null .null .null
set_option maxRecDepth 65536 in
set_option maxHeartbeats 40000000 in
theorem rm8old (l : Launch) (Z : State) (a0 : Array Value) (hw : ∀ d ∈ tables_1, d.before a0 Z = true) (ws : List Jvm.Cond) (a1 : Addr) (a2 : Addr) (aq : Addr) (sz : Int32) (h0 : Heap) (n0 : Nat) (Z0 : n0 ≤ h0.size) (HS : own_S Z h0 a1 a2 aq (.ref aq) (.ref a2) sz (.ref aq) .null .null (.ref a2)) (g_a1 : n0 ≤ a1) (g_a2 : n0 ≤ a2) (g_aq : n0 ≤ aq) (ne_a1_a2 : a1 ≠ a2) (ne_a1_aq : a1 ≠ aq) (ne_a2_aq : a2 ≠ aq) :
    MetFree l (⟨"com/example/idlewell/idlewell/engine/ObjectList", "remove", "(Lcom/example/idlewell/idlewell/engine/PooledObject;)V"⟩ : MethodName) (head1 (Jvm.Cond.code (⟨"com/example/idlewell/idlewell/engine/ObjectList", "remove", "(Lcom/example/idlewell/idlewell/engine/PooledObject;)V"⟩ : MethodName) prog_16_method_8_code 2 none :: ws) ({ frames := 0, cells := 0, slots := 0, locals := 0 } : Room)) (fun a U => a = #[(.ref a1), (.ref a2)] ∧ Z.Warmed39 U.vm ∧ U.heap = h0) (fun _ _ _ _ _ => True) (fun _ U o U' => ∃ v L, o = .returned v ∧ Q8old Z a1 a2 aq sz h0 n0 v U'.heap L ∧ FrameEnd U o U' L ({ frames := 0, cells := 0, slots := 0, locals := 0 } : Room).cells ({ frames := 0, cells := 0, slots := 0, locals := 0 } : Room).slots) := by
  refine MetFree.of_bodySF (plainFor_of_name pn_8) hisR ?_
  intro p e s m args below meth c s₁ Bd hml0 hP hK
  obtain ⟨rfl, hZ, hh⟩ := hP
  have hx := Bd.exec
  have hby := Bd.bytes
  have hml : c.maxLocals = 2 := hml0
  have hown : s.vm.findClass "com/example/idlewell/idlewell/engine/ObjectList" = some m.cls := findClass_of_methodNamed Bd.named
  have hnm := (name_of_methodNamed Bd.named Bd.method).1
  have X0 : Stand p l e ({ frames := 0, cells := 0, slots := 0, locals := 0 } : Room) s m #[(.ref a1), (.ref a2)] below meth c s₁ [] 0 0 := Stand.of_body Bd
  have e0 : s₁.heap = h0 := by rw [← hh, Bd.state]; rfl
  have N0 := Fr.nil n0
  obtain ⟨E_o, E_p, E_q, Fnw, Fod, Fsz, Fpn, Fpo, Fqn, Fqo⟩ := HS
  have pre0 : ∀ t, Steps p.tables e below (s₁.setTop (mkF m 0 #[.val (.ref a1), .val (.ref a2)] [])) t → Steps p.tables e below (s₁.setTop (entryFrame m #[(.ref a1), (.ref a2)] 2)) t := fun t k => castTop (ef_8old m a1 a2) k
  obtain ⟨T3, X3, e3, st3⟩ := getF X0 hx hZ hown (host := "") (Or.inl (hw _ (List.mem_of_getElem? (i := 50) rfl))) Via.refl e0 Fpn (g := (mkF m 1 #[.val (.ref a1), .val (.ref a2)] [(.ref a2)])) rfl rfl (hb hby d8_1)
  obtain ⟨T4, X4, e4, st4⟩ := getF X3 hx hZ hown (host := "") (Or.inl (hw _ (List.mem_of_getElem? (i := 50) rfl))) Via.refl e3 Fpn (g := (mkF m 19 #[.val (.ref a1), .val (.ref a2)] [(.ref a2)])) rfl rfl (hb hby d8_19)
  obtain ⟨T5, X5, e5, st5⟩ := getF X4 hx hZ hown (host := "") (Or.inl (hw _ (List.mem_of_getElem? (i := 48) rfl))) Via.refl e4 Fpo (g := (mkF m 23 #[.val (.ref a1), .val (.ref a2)] [(.ref a2), (.ref aq)])) rfl rfl (hb hby d8_23)
  obtain ⟨T6, h6, X6, e6, W6, st6⟩ := putF X5 hx hZ hown (host := "") (Or.inl (hw _ (List.mem_of_getElem? (i := 48) rfl))) Via.refl e5 Fqo E_q (Or.inl (hw _ (List.mem_of_getElem? (i := 49) rfl))) (hw _ (List.mem_of_getElem? (i := 10) rfl)) (ty := (.object "com/example/idlewell/idlewell/engine/PooledObject")) (by decide) rfl rfl (g := (mkF m 26 #[.val (.ref a1), .val (.ref a2)] [.null, (.ref aq)])) rfl rfl (hb hby d8_26)
  have Fw6 := Fqo.same W6
  have K6 : Keep h0 h6 [aq, a1, a2] := (Keep.refl h0 [aq, a1, a2]).wr W6 (Or.inl (List.mem_of_getElem? (i := 0) rfl))
  have N6 := Fr.snoc X6 N0 g_aq
  obtain ⟨T7, X7, e7, st7⟩ := getF X6 hx hZ hown (host := "") (Or.inl (hw _ (List.mem_of_getElem? (i := 48) rfl))) Via.refl e6 (Fpo.other W6 (Or.inl ne_a2_aq)) (g := (mkF m 30 #[.val (.ref a1), .val (.ref a2)] [(.ref a2)])) rfl rfl (hb hby d8_30)
  obtain ⟨T8, X8, e8, st8⟩ := getF X7 hx hZ hown (host := "") (Or.inl (hw _ (List.mem_of_getElem? (i := 50) rfl))) Via.refl e7 (Fpn.other W6 (Or.inl ne_a2_aq)) (g := (mkF m 38 #[.val (.ref a1), .val (.ref a2)] [(.ref a2), (.ref a1)])) rfl rfl (hb hby d8_38)
  obtain ⟨T9, h9, X9, e9, W9, st9⟩ := putF X8 hx hZ hown (host := "") (Or.inl (hw _ (List.mem_of_getElem? (i := 46) rfl))) Via.refl e8 (Fod.other W6 (Or.inl ne_a1_aq)) (E_o.wr W6) (Or.inl (hw _ (List.mem_of_getElem? (i := 47) rfl))) (hw _ (List.mem_of_getElem? (i := 1) rfl)) (ty := (.object "com/example/idlewell/idlewell/engine/PooledObject")) (by decide) rfl rfl (g := (mkF m 41 #[.val (.ref a1), .val (.ref a2)] [(.ref aq), (.ref a1)])) rfl rfl (hb hby d8_41)
  have Fw9 := (Fod.other W6 (Or.inl ne_a1_aq)).same W9
  have K9 : Keep h0 h9 [aq, a1, a2] := K6.wr W9 (Or.inl (List.mem_of_getElem? (i := 1) rfl))
  have N9 := Fr.snoc X9 N6 g_a1
  obtain ⟨T10, h10, X10, e10, W10, st10⟩ := putF X9 hx hZ hown (host := "") (Or.inl (hw _ (List.mem_of_getElem? (i := 50) rfl))) Via.refl e9 ((Fpn.other W6 (Or.inl ne_a2_aq)).other W9 (Or.inl (Ne.symm ne_a1_a2))) ((E_p.wr W6).wr W9) (Or.inl (hw _ (List.mem_of_getElem? (i := 51) rfl))) (hw _ (List.mem_of_getElem? (i := 10) rfl)) (ty := (.object "com/example/idlewell/idlewell/engine/PooledObject")) (by decide) rfl rfl (g := (mkF m 60 #[.val (.ref a1), .val (.ref a2)] [.null, (.ref a2)])) rfl rfl (hb hby d8_60)
  have Fw10 := ((Fpn.other W6 (Or.inl ne_a2_aq)).other W9 (Or.inl (Ne.symm ne_a1_a2))).same W10
  have K10 : Keep h0 h10 [aq, a1, a2] := K9.wr W10 (Or.inl (List.mem_of_getElem? (i := 2) rfl))
  have N10 := Fr.snoc X10 N9 g_a2
  obtain ⟨T11, h11, X11, e11, W11, st11⟩ := putF X10 hx hZ hown (host := "") (Or.inl (hw _ (List.mem_of_getElem? (i := 48) rfl))) Via.refl e10 (((Fpo.other W6 (Or.inl ne_a2_aq)).other W9 (Or.inl (Ne.symm ne_a1_a2))).other W10 (Or.inr (slot_ne (Or.inl (hw _ (List.mem_of_getElem? (i := 49) rfl))) (Or.inl (hw _ (List.mem_of_getElem? (i := 51) rfl))) (by decide) (t := (.object "com/example/idlewell/idlewell/engine/PooledObject")) (t' := (.object "com/example/idlewell/idlewell/engine/PooledObject")) (by decide) (by decide)))) (((E_p.wr W6).wr W9).wr W10) (Or.inl (hw _ (List.mem_of_getElem? (i := 49) rfl))) (hw _ (List.mem_of_getElem? (i := 10) rfl)) (ty := (.object "com/example/idlewell/idlewell/engine/PooledObject")) (by decide) rfl rfl (g := (mkF m 65 #[.val (.ref a1), .val (.ref a2)] [.null, (.ref a2)])) rfl rfl (hb hby d8_65)
  have Fw11 := (((Fpo.other W6 (Or.inl ne_a2_aq)).other W9 (Or.inl (Ne.symm ne_a1_a2))).other W10 (Or.inr (slot_ne (Or.inl (hw _ (List.mem_of_getElem? (i := 49) rfl))) (Or.inl (hw _ (List.mem_of_getElem? (i := 51) rfl))) (by decide) (t := (.object "com/example/idlewell/idlewell/engine/PooledObject")) (t' := (.object "com/example/idlewell/idlewell/engine/PooledObject")) (by decide) (by decide)))).same W11
  have K11 : Keep h0 h11 [aq, a1, a2] := K10.wr W11 (Or.inl (List.mem_of_getElem? (i := 2) rfl))
  have N11 := Fr.snoc X11 N10 g_a2
  obtain ⟨T12, X12, e12, st12⟩ := getF X11 hx hZ hown (host := "") (Or.inl (hw _ (List.mem_of_getElem? (i := 27) rfl))) Via.refl e11 ((((Fsz.other W6 (Or.inl ne_a1_aq)).other W9 (Or.inr (slot_ne (Or.inl (hw _ (List.mem_of_getElem? (i := 28) rfl))) (Or.inl (hw _ (List.mem_of_getElem? (i := 47) rfl))) (by decide) (t := .int) (t' := (.object "com/example/idlewell/idlewell/engine/PooledObject")) (by decide) (by decide)))).other W10 (Or.inl ne_a1_a2)).other W11 (Or.inl ne_a1_a2)) (g := (mkF m 70 #[.val (.ref a1), .val (.ref a2)] [(.ref a1), (.ref a1)])) rfl rfl (hb hby d8_70)
  obtain ⟨T13, h13, X13, e13, W13, st13⟩ := putF X12 hx hZ hown (host := "") (Or.inl (hw _ (List.mem_of_getElem? (i := 27) rfl))) Via.refl e12 ((((Fsz.other W6 (Or.inl ne_a1_aq)).other W9 (Or.inr (slot_ne (Or.inl (hw _ (List.mem_of_getElem? (i := 28) rfl))) (Or.inl (hw _ (List.mem_of_getElem? (i := 47) rfl))) (by decide) (t := .int) (t' := (.object "com/example/idlewell/idlewell/engine/PooledObject")) (by decide) (by decide)))).other W10 (Or.inl ne_a1_a2)).other W11 (Or.inl ne_a1_a2)) ((((E_o.wr W6).wr W9).wr W10).wr W11) (Or.inl (hw _ (List.mem_of_getElem? (i := 28) rfl))) (hw _ (List.mem_of_getElem? (i := 1) rfl)) (ty := .int) (by decide) rfl rfl (g := (mkF m 75 #[.val (.ref a1), .val (.ref a2)] [(.int (sz - (1 : Int32))), (.ref a1)])) rfl rfl (hb hby d8_75)
  have Fw13 := ((((Fsz.other W6 (Or.inl ne_a1_aq)).other W9 (Or.inr (slot_ne (Or.inl (hw _ (List.mem_of_getElem? (i := 28) rfl))) (Or.inl (hw _ (List.mem_of_getElem? (i := 47) rfl))) (by decide) (t := .int) (t' := (.object "com/example/idlewell/idlewell/engine/PooledObject")) (by decide) (by decide)))).other W10 (Or.inl ne_a1_a2)).other W11 (Or.inl ne_a1_a2)).same W13
  have K13 : Keep h0 h13 [aq, a1, a2] := K11.wr W13 (Or.inl (List.mem_of_getElem? (i := 1) rfl))
  have N13 := Fr.snoc X13 N11 g_a1
  obtain ⟨fs, hr, hrun, hended, hW, hsame⟩ := X13.leave (v := none) (fun _ => rfl)
  refine ⟨_, _, pre0 _ ?_, hrun, hended, _, _, rfl, ?_, ⟨_, rfl⟩, hW, hsame.mono (by decide) (by decide)⟩
  · show Steps p.tables e below (s₁.setTop (mkF m 0 #[.val (.ref a1), .val (.ref a2)] [])) _
    refine XS.aloadN X0.here hx rfl (hb hby d8_0) rfl rfl ?_
    show Steps p.tables e below (s₁.setTop (mkF m 1 #[.val (.ref a1), .val (.ref a2)] [(.ref a2)])) _
    refine st3 _ ?_
    show Steps p.tables e below (T3.setTop (mkF m 4 #[.val (.ref a1), .val (.ref a2)] [(.ref aq)])) _
    refine XS.ifnonnullYes X3.here hx rfl (pc0 := 4) (pc' := 18) rfl (hb hby d8_4) rfl (by decide) (by decide) ?_
    show Steps p.tables e below (T3.setTop (mkF m 18 #[.val (.ref a1), .val (.ref a2)] [])) _
    refine XS.aloadN X3.here hx rfl (hb hby d8_18) rfl rfl ?_
    show Steps p.tables e below (T3.setTop (mkF m 19 #[.val (.ref a1), .val (.ref a2)] [(.ref a2)])) _
    refine st4 _ ?_
    show Steps p.tables e below (T4.setTop (mkF m 22 #[.val (.ref a1), .val (.ref a2)] [(.ref aq)])) _
    refine XS.aloadN X4.here hx rfl (hb hby d8_22) rfl rfl ?_
    show Steps p.tables e below (T4.setTop (mkF m 23 #[.val (.ref a1), .val (.ref a2)] [(.ref a2), (.ref aq)])) _
    refine st5 _ ?_
    show Steps p.tables e below (T5.setTop (mkF m 26 #[.val (.ref a1), .val (.ref a2)] [.null, (.ref aq)])) _
    refine st6 _ ?_
    show Steps p.tables e below (T6.setTop (mkF m 29 #[.val (.ref a1), .val (.ref a2)] [])) _
    refine XS.aloadN X6.here hx rfl (hb hby d8_29) rfl rfl ?_
    show Steps p.tables e below (T6.setTop (mkF m 30 #[.val (.ref a1), .val (.ref a2)] [(.ref a2)])) _
    refine st7 _ ?_
    show Steps p.tables e below (T7.setTop (mkF m 33 #[.val (.ref a1), .val (.ref a2)] [.null])) _
    refine XS.ifnonnullNo X7.here hx rfl (hb hby d8_33) rfl ?_
    show Steps p.tables e below (T7.setTop (mkF m 36 #[.val (.ref a1), .val (.ref a2)] [])) _
    refine XS.aloadN X7.here hx rfl (hb hby d8_36) rfl rfl ?_
    show Steps p.tables e below (T7.setTop (mkF m 37 #[.val (.ref a1), .val (.ref a2)] [(.ref a1)])) _
    refine XS.aloadN X7.here hx rfl (hb hby d8_37) rfl rfl ?_
    show Steps p.tables e below (T7.setTop (mkF m 38 #[.val (.ref a1), .val (.ref a2)] [(.ref a2), (.ref a1)])) _
    refine st8 _ ?_
    show Steps p.tables e below (T8.setTop (mkF m 41 #[.val (.ref a1), .val (.ref a2)] [(.ref aq), (.ref a1)])) _
    refine st9 _ ?_
    show Steps p.tables e below (T9.setTop (mkF m 44 #[.val (.ref a1), .val (.ref a2)] [])) _
    refine XS.goto X9.here hx rfl (pc0 := 44) (pc' := 58) rfl (hb hby d8_44) (by decide) (by decide) ?_
    show Steps p.tables e below (T9.setTop (mkF m 58 #[.val (.ref a1), .val (.ref a2)] [])) _
    refine XS.aloadN X9.here hx rfl (hb hby d8_58) rfl rfl ?_
    show Steps p.tables e below (T9.setTop (mkF m 59 #[.val (.ref a1), .val (.ref a2)] [(.ref a2)])) _
    refine XS.aconstNull X9.here hx rfl (hb hby d8_59) ?_
    show Steps p.tables e below (T9.setTop (mkF m 60 #[.val (.ref a1), .val (.ref a2)] [.null, (.ref a2)])) _
    refine st10 _ ?_
    show Steps p.tables e below (T10.setTop (mkF m 63 #[.val (.ref a1), .val (.ref a2)] [])) _
    refine XS.aloadN X10.here hx rfl (hb hby d8_63) rfl rfl ?_
    show Steps p.tables e below (T10.setTop (mkF m 64 #[.val (.ref a1), .val (.ref a2)] [(.ref a2)])) _
    refine XS.aconstNull X10.here hx rfl (hb hby d8_64) ?_
    show Steps p.tables e below (T10.setTop (mkF m 65 #[.val (.ref a1), .val (.ref a2)] [.null, (.ref a2)])) _
    refine st11 _ ?_
    show Steps p.tables e below (T11.setTop (mkF m 68 #[.val (.ref a1), .val (.ref a2)] [])) _
    refine XS.aloadN X11.here hx rfl (hb hby d8_68) rfl rfl ?_
    show Steps p.tables e below (T11.setTop (mkF m 69 #[.val (.ref a1), .val (.ref a2)] [(.ref a1)])) _
    refine XS.dup X11.here hx rfl (hb hby d8_69) rfl rfl ?_
    show Steps p.tables e below (T11.setTop (mkF m 70 #[.val (.ref a1), .val (.ref a2)] [(.ref a1), (.ref a1)])) _
    refine st12 _ ?_
    show Steps p.tables e below (T12.setTop (mkF m 73 #[.val (.ref a1), .val (.ref a2)] [(.int sz), (.ref a1)])) _
    refine XS.iconst X12.here hx rfl (hb hby d8_73) ?_
    show Steps p.tables e below (T12.setTop (mkF m 74 #[.val (.ref a1), .val (.ref a2)] [(.int (1 : Int32)), (.int sz), (.ref a1)])) _
    refine XS.isub X12.here hx rfl (hb hby d8_74) rfl ?_
    show Steps p.tables e below (T12.setTop (mkF m 75 #[.val (.ref a1), .val (.ref a2)] [(.int (sz - (1 : Int32))), (.ref a1)])) _
    refine st13 _ ?_
    show Steps p.tables e below (T13.setTop (mkF m 78 #[.val (.ref a1), .val (.ref a2)] [])) _
    exact X13.returnOut hx Bd.returns (hb hby d8_78) hr
  · show Q8old Z a1 a2 aq sz h0 n0 _ T13.heap _
    rw [e13]
    exact ⟨rfl, N13, K13, ⟨(((((E_o.wr W6).wr W9).wr W10).wr W11).wr W13), (((((E_p.wr W6).wr W9).wr W10).wr W11).wr W13), (((((E_q.wr W6).wr W9).wr W10).wr W11).wr W13), (((((Fnw.other W6 (Or.inl ne_a1_aq)).other W9 (Or.inr (slot_ne (Or.inl (hw _ (List.mem_of_getElem? (i := 35) rfl))) (Or.inl (hw _ (List.mem_of_getElem? (i := 47) rfl))) (by decide) (t := (.object "com/example/idlewell/idlewell/engine/PooledObject")) (t' := (.object "com/example/idlewell/idlewell/engine/PooledObject")) (by decide) (by decide)))).other W10 (Or.inl ne_a1_a2)).other W11 (Or.inl ne_a1_a2)).other W13 (Or.inr (slot_ne (Or.inl (hw _ (List.mem_of_getElem? (i := 35) rfl))) (Or.inl (hw _ (List.mem_of_getElem? (i := 28) rfl))) (by decide) (t := (.object "com/example/idlewell/idlewell/engine/PooledObject")) (t' := .int) (by decide) (by decide)))), (((Fw9.other W10 (Or.inl ne_a1_a2)).other W11 (Or.inl ne_a1_a2)).other W13 (Or.inr (slot_ne (Or.inl (hw _ (List.mem_of_getElem? (i := 47) rfl))) (Or.inl (hw _ (List.mem_of_getElem? (i := 28) rfl))) (by decide) (t := (.object "com/example/idlewell/idlewell/engine/PooledObject")) (t' := .int) (by decide) (by decide)))), Fw13, ((Fw10.other W11 (Or.inr (slot_ne (Or.inl (hw _ (List.mem_of_getElem? (i := 51) rfl))) (Or.inl (hw _ (List.mem_of_getElem? (i := 49) rfl))) (by decide) (t := (.object "com/example/idlewell/idlewell/engine/PooledObject")) (t' := (.object "com/example/idlewell/idlewell/engine/PooledObject")) (by decide) (by decide)))).other W13 (Or.inl (Ne.symm ne_a1_a2))), (Fw11.other W13 (Or.inl (Ne.symm ne_a1_a2))), (((((Fqn.other W6 (Or.inr (slot_ne (Or.inl (hw _ (List.mem_of_getElem? (i := 51) rfl))) (Or.inl (hw _ (List.mem_of_getElem? (i := 49) rfl))) (by decide) (t := (.object "com/example/idlewell/idlewell/engine/PooledObject")) (t' := (.object "com/example/idlewell/idlewell/engine/PooledObject")) (by decide) (by decide)))).other W9 (Or.inl (Ne.symm ne_a1_aq))).other W10 (Or.inl (Ne.symm ne_a2_aq))).other W11 (Or.inl (Ne.symm ne_a2_aq))).other W13 (Or.inl (Ne.symm ne_a1_aq))), ((((Fw6.other W9 (Or.inl (Ne.symm ne_a1_aq))).other W10 (Or.inl (Ne.symm ne_a2_aq))).other W11 (Or.inl (Ne.symm ne_a2_aq))).other W13 (Or.inl (Ne.symm ne_a1_aq)))⟩⟩
theorem d8_47 : decode prog_16_method_8_code 47 = .ok (.aload_n 1, 1) := by decide +kernel
theorem d8_48 : decode prog_16_method_8_code 48 = .ok (.getfield 29, 3) := by decide +kernel
theorem d8_51 : decode prog_16_method_8_code 51 = .ok (.aload_n 1, 1) := by decide +kernel
theorem d8_52 : decode prog_16_method_8_code 52 = .ok (.getfield 24, 3) := by decide +kernel
theorem d8_55 : decode prog_16_method_8_code 55 = .ok (.putfield 24, 3) := by decide +kernel
theorem ef_8new (m : MethodId) (x0 : Addr) (x1 : Addr) : entryFrame m #[(.ref x0), (.ref x1)] 2 = mkF m 0 #[.val (.ref x0), .val (.ref x1)] [] := by first | (simp [entryFrame, mkF, argsToLocals, Value.category]; done) | rfl
def Q8new (Z : State) (a1 : Addr) (a2 : Addr) (aq : Addr) (sz : Int32) (h0 : Heap) (n0 : Nat) (v : Option Value) (h : Heap) (L : List Loc) : Prop := v = none ∧ Fr n0 L ∧ Keep h0 h [a1, aq, a2] ∧ own_S Z h a1 a2 aq (.ref aq) (.ref aq) (sz - (1 : Int32)) .null .null .null .null
set_option maxRecDepth 65536 in
set_option maxHeartbeats 40000000 in
theorem rm8new (l : Launch) (Z : State) (a0 : Array Value) (hw : ∀ d ∈ tables_1, d.before a0 Z = true) (ws : List Jvm.Cond) (a1 : Addr) (a2 : Addr) (aq : Addr) (sz : Int32) (h0 : Heap) (n0 : Nat) (Z0 : n0 ≤ h0.size) (HS : own_S Z h0 a1 a2 aq (.ref a2) (.ref aq) sz .null (.ref aq) (.ref a2) .null) (g_a1 : n0 ≤ a1) (g_a2 : n0 ≤ a2) (g_aq : n0 ≤ aq) (ne_a1_a2 : a1 ≠ a2) (ne_a1_aq : a1 ≠ aq) (ne_a2_aq : a2 ≠ aq) :
    MetFree l (⟨"com/example/idlewell/idlewell/engine/ObjectList", "remove", "(Lcom/example/idlewell/idlewell/engine/PooledObject;)V"⟩ : MethodName) (head1 (Jvm.Cond.code (⟨"com/example/idlewell/idlewell/engine/ObjectList", "remove", "(Lcom/example/idlewell/idlewell/engine/PooledObject;)V"⟩ : MethodName) prog_16_method_8_code 2 none :: ws) ({ frames := 0, cells := 0, slots := 0, locals := 0 } : Room)) (fun a U => a = #[(.ref a1), (.ref a2)] ∧ Z.Warmed39 U.vm ∧ U.heap = h0) (fun _ _ _ _ _ => True) (fun _ U o U' => ∃ v L, o = .returned v ∧ Q8new Z a1 a2 aq sz h0 n0 v U'.heap L ∧ FrameEnd U o U' L ({ frames := 0, cells := 0, slots := 0, locals := 0 } : Room).cells ({ frames := 0, cells := 0, slots := 0, locals := 0 } : Room).slots) := by
  refine MetFree.of_bodySF (plainFor_of_name pn_8) hisR ?_
  intro p e s m args below meth c s₁ Bd hml0 hP hK
  obtain ⟨rfl, hZ, hh⟩ := hP
  have hx := Bd.exec
  have hby := Bd.bytes
  have hml : c.maxLocals = 2 := hml0
  have hown : s.vm.findClass "com/example/idlewell/idlewell/engine/ObjectList" = some m.cls := findClass_of_methodNamed Bd.named
  have hnm := (name_of_methodNamed Bd.named Bd.method).1
  have X0 : Stand p l e ({ frames := 0, cells := 0, slots := 0, locals := 0 } : Room) s m #[(.ref a1), (.ref a2)] below meth c s₁ [] 0 0 := Stand.of_body Bd
  have e0 : s₁.heap = h0 := by rw [← hh, Bd.state]; rfl
  have N0 := Fr.nil n0
  obtain ⟨E_o, E_p, E_q, Fnw, Fod, Fsz, Fpn, Fpo, Fqn, Fqo⟩ := HS
  have pre0 : ∀ t, Steps p.tables e below (s₁.setTop (mkF m 0 #[.val (.ref a1), .val (.ref a2)] [])) t → Steps p.tables e below (s₁.setTop (entryFrame m #[(.ref a1), (.ref a2)] 2)) t := fun t k => castTop (ef_8new m a1 a2) k
  obtain ⟨T3, X3, e3, st3⟩ := getF X0 hx hZ hown (host := "") (Or.inl (hw _ (List.mem_of_getElem? (i := 50) rfl))) Via.refl e0 Fpn (g := (mkF m 1 #[.val (.ref a1), .val (.ref a2)] [(.ref a2)])) rfl rfl (hb hby d8_1)
  obtain ⟨T4, X4, e4, st4⟩ := getF X3 hx hZ hown (host := "") (Or.inl (hw _ (List.mem_of_getElem? (i := 48) rfl))) Via.refl e3 Fpo (g := (mkF m 9 #[.val (.ref a1), .val (.ref a2)] [(.ref a2), (.ref a1)])) rfl rfl (hb hby d8_9)
  obtain ⟨T5, h5, X5, e5, W5, st5⟩ := putF X4 hx hZ hown (host := "") (Or.inl (hw _ (List.mem_of_getElem? (i := 34) rfl))) Via.refl e4 Fnw E_o (Or.inl (hw _ (List.mem_of_getElem? (i := 35) rfl))) (hw _ (List.mem_of_getElem? (i := 1) rfl)) (ty := (.object "com/example/idlewell/idlewell/engine/PooledObject")) (by decide) rfl rfl (g := (mkF m 12 #[.val (.ref a1), .val (.ref a2)] [(.ref aq), (.ref a1)])) rfl rfl (hb hby d8_12)
  have Fw5 := Fnw.same W5
  have K5 : Keep h0 h5 [a1, aq, a2] := (Keep.refl h0 [a1, aq, a2]).wr W5 (Or.inl (List.mem_of_getElem? (i := 0) rfl))
  have N5 := Fr.snoc X5 N0 g_a1
  obtain ⟨T6, X6, e6, st6⟩ := getF X5 hx hZ hown (host := "") (Or.inl (hw _ (List.mem_of_getElem? (i := 48) rfl))) Via.refl e5 (Fpo.other W5 (Or.inl (Ne.symm ne_a1_a2))) (g := (mkF m 30 #[.val (.ref a1), .val (.ref a2)] [(.ref a2)])) rfl rfl (hb hby d8_30)
  obtain ⟨T7, X7, e7, st7⟩ := getF X6 hx hZ hown (host := "") (Or.inl (hw _ (List.mem_of_getElem? (i := 48) rfl))) Via.refl e6 (Fpo.other W5 (Or.inl (Ne.symm ne_a1_a2))) (g := (mkF m 48 #[.val (.ref a1), .val (.ref a2)] [(.ref a2)])) rfl rfl (hb hby d8_48)
  obtain ⟨T8, X8, e8, st8⟩ := getF X7 hx hZ hown (host := "") (Or.inl (hw _ (List.mem_of_getElem? (i := 50) rfl))) Via.refl e7 (Fpn.other W5 (Or.inl (Ne.symm ne_a1_a2))) (g := (mkF m 52 #[.val (.ref a1), .val (.ref a2)] [(.ref a2), (.ref aq)])) rfl rfl (hb hby d8_52)
  obtain ⟨T9, h9, X9, e9, W9, st9⟩ := putF X8 hx hZ hown (host := "") (Or.inl (hw _ (List.mem_of_getElem? (i := 50) rfl))) Via.refl e8 (Fqn.other W5 (Or.inl (Ne.symm ne_a1_aq))) (E_q.wr W5) (Or.inl (hw _ (List.mem_of_getElem? (i := 51) rfl))) (hw _ (List.mem_of_getElem? (i := 10) rfl)) (ty := (.object "com/example/idlewell/idlewell/engine/PooledObject")) (by decide) rfl rfl (g := (mkF m 55 #[.val (.ref a1), .val (.ref a2)] [.null, (.ref aq)])) rfl rfl (hb hby d8_55)
  have Fw9 := (Fqn.other W5 (Or.inl (Ne.symm ne_a1_aq))).same W9
  have K9 : Keep h0 h9 [a1, aq, a2] := K5.wr W9 (Or.inl (List.mem_of_getElem? (i := 1) rfl))
  have N9 := Fr.snoc X9 N5 g_aq
  obtain ⟨T10, h10, X10, e10, W10, st10⟩ := putF X9 hx hZ hown (host := "") (Or.inl (hw _ (List.mem_of_getElem? (i := 50) rfl))) Via.refl e9 ((Fpn.other W5 (Or.inl (Ne.symm ne_a1_a2))).other W9 (Or.inl ne_a2_aq)) ((E_p.wr W5).wr W9) (Or.inl (hw _ (List.mem_of_getElem? (i := 51) rfl))) (hw _ (List.mem_of_getElem? (i := 10) rfl)) (ty := (.object "com/example/idlewell/idlewell/engine/PooledObject")) (by decide) rfl rfl (g := (mkF m 60 #[.val (.ref a1), .val (.ref a2)] [.null, (.ref a2)])) rfl rfl (hb hby d8_60)
  have Fw10 := ((Fpn.other W5 (Or.inl (Ne.symm ne_a1_a2))).other W9 (Or.inl ne_a2_aq)).same W10
  have K10 : Keep h0 h10 [a1, aq, a2] := K9.wr W10 (Or.inl (List.mem_of_getElem? (i := 2) rfl))
  have N10 := Fr.snoc X10 N9 g_a2
  obtain ⟨T11, h11, X11, e11, W11, st11⟩ := putF X10 hx hZ hown (host := "") (Or.inl (hw _ (List.mem_of_getElem? (i := 48) rfl))) Via.refl e10 (((Fpo.other W5 (Or.inl (Ne.symm ne_a1_a2))).other W9 (Or.inl ne_a2_aq)).other W10 (Or.inr (slot_ne (Or.inl (hw _ (List.mem_of_getElem? (i := 49) rfl))) (Or.inl (hw _ (List.mem_of_getElem? (i := 51) rfl))) (by decide) (t := (.object "com/example/idlewell/idlewell/engine/PooledObject")) (t' := (.object "com/example/idlewell/idlewell/engine/PooledObject")) (by decide) (by decide)))) (((E_p.wr W5).wr W9).wr W10) (Or.inl (hw _ (List.mem_of_getElem? (i := 49) rfl))) (hw _ (List.mem_of_getElem? (i := 10) rfl)) (ty := (.object "com/example/idlewell/idlewell/engine/PooledObject")) (by decide) rfl rfl (g := (mkF m 65 #[.val (.ref a1), .val (.ref a2)] [.null, (.ref a2)])) rfl rfl (hb hby d8_65)
  have Fw11 := (((Fpo.other W5 (Or.inl (Ne.symm ne_a1_a2))).other W9 (Or.inl ne_a2_aq)).other W10 (Or.inr (slot_ne (Or.inl (hw _ (List.mem_of_getElem? (i := 49) rfl))) (Or.inl (hw _ (List.mem_of_getElem? (i := 51) rfl))) (by decide) (t := (.object "com/example/idlewell/idlewell/engine/PooledObject")) (t' := (.object "com/example/idlewell/idlewell/engine/PooledObject")) (by decide) (by decide)))).same W11
  have K11 : Keep h0 h11 [a1, aq, a2] := K10.wr W11 (Or.inl (List.mem_of_getElem? (i := 2) rfl))
  have N11 := Fr.snoc X11 N10 g_a2
  obtain ⟨T12, X12, e12, st12⟩ := getF X11 hx hZ hown (host := "") (Or.inl (hw _ (List.mem_of_getElem? (i := 27) rfl))) Via.refl e11 ((((Fsz.other W5 (Or.inr (slot_ne (Or.inl (hw _ (List.mem_of_getElem? (i := 28) rfl))) (Or.inl (hw _ (List.mem_of_getElem? (i := 35) rfl))) (by decide) (t := .int) (t' := (.object "com/example/idlewell/idlewell/engine/PooledObject")) (by decide) (by decide)))).other W9 (Or.inl ne_a1_aq)).other W10 (Or.inl ne_a1_a2)).other W11 (Or.inl ne_a1_a2)) (g := (mkF m 70 #[.val (.ref a1), .val (.ref a2)] [(.ref a1), (.ref a1)])) rfl rfl (hb hby d8_70)
  obtain ⟨T13, h13, X13, e13, W13, st13⟩ := putF X12 hx hZ hown (host := "") (Or.inl (hw _ (List.mem_of_getElem? (i := 27) rfl))) Via.refl e12 ((((Fsz.other W5 (Or.inr (slot_ne (Or.inl (hw _ (List.mem_of_getElem? (i := 28) rfl))) (Or.inl (hw _ (List.mem_of_getElem? (i := 35) rfl))) (by decide) (t := .int) (t' := (.object "com/example/idlewell/idlewell/engine/PooledObject")) (by decide) (by decide)))).other W9 (Or.inl ne_a1_aq)).other W10 (Or.inl ne_a1_a2)).other W11 (Or.inl ne_a1_a2)) ((((E_o.wr W5).wr W9).wr W10).wr W11) (Or.inl (hw _ (List.mem_of_getElem? (i := 28) rfl))) (hw _ (List.mem_of_getElem? (i := 1) rfl)) (ty := .int) (by decide) rfl rfl (g := (mkF m 75 #[.val (.ref a1), .val (.ref a2)] [(.int (sz - (1 : Int32))), (.ref a1)])) rfl rfl (hb hby d8_75)
  have Fw13 := ((((Fsz.other W5 (Or.inr (slot_ne (Or.inl (hw _ (List.mem_of_getElem? (i := 28) rfl))) (Or.inl (hw _ (List.mem_of_getElem? (i := 35) rfl))) (by decide) (t := .int) (t' := (.object "com/example/idlewell/idlewell/engine/PooledObject")) (by decide) (by decide)))).other W9 (Or.inl ne_a1_aq)).other W10 (Or.inl ne_a1_a2)).other W11 (Or.inl ne_a1_a2)).same W13
  have K13 : Keep h0 h13 [a1, aq, a2] := K11.wr W13 (Or.inl (List.mem_of_getElem? (i := 0) rfl))
  have N13 := Fr.snoc X13 N11 g_a1
  obtain ⟨fs, hr, hrun, hended, hW, hsame⟩ := X13.leave (v := none) (fun _ => rfl)
  refine ⟨_, _, pre0 _ ?_, hrun, hended, _, _, rfl, ?_, ⟨_, rfl⟩, hW, hsame.mono (by decide) (by decide)⟩
  · show Steps p.tables e below (s₁.setTop (mkF m 0 #[.val (.ref a1), .val (.ref a2)] [])) _
    refine XS.aloadN X0.here hx rfl (hb hby d8_0) rfl rfl ?_
    show Steps p.tables e below (s₁.setTop (mkF m 1 #[.val (.ref a1), .val (.ref a2)] [(.ref a2)])) _
    refine st3 _ ?_
    show Steps p.tables e below (T3.setTop (mkF m 4 #[.val (.ref a1), .val (.ref a2)] [.null])) _
    refine XS.ifnonnullNo X3.here hx rfl (hb hby d8_4) rfl ?_
    show Steps p.tables e below (T3.setTop (mkF m 7 #[.val (.ref a1), .val (.ref a2)] [])) _
    refine XS.aloadN X3.here hx rfl (hb hby d8_7) rfl rfl ?_
    show Steps p.tables e below (T3.setTop (mkF m 8 #[.val (.ref a1), .val (.ref a2)] [(.ref a1)])) _
    refine XS.aloadN X3.here hx rfl (hb hby d8_8) rfl rfl ?_
    show Steps p.tables e below (T3.setTop (mkF m 9 #[.val (.ref a1), .val (.ref a2)] [(.ref a2), (.ref a1)])) _
    refine st4 _ ?_
    show Steps p.tables e below (T4.setTop (mkF m 12 #[.val (.ref a1), .val (.ref a2)] [(.ref aq), (.ref a1)])) _
    refine st5 _ ?_
    show Steps p.tables e below (T5.setTop (mkF m 15 #[.val (.ref a1), .val (.ref a2)] [])) _
    refine XS.goto X5.here hx rfl (pc0 := 15) (pc' := 29) rfl (hb hby d8_15) (by decide) (by decide) ?_
    show Steps p.tables e below (T5.setTop (mkF m 29 #[.val (.ref a1), .val (.ref a2)] [])) _
    refine XS.aloadN X5.here hx rfl (hb hby d8_29) rfl rfl ?_
    show Steps p.tables e below (T5.setTop (mkF m 30 #[.val (.ref a1), .val (.ref a2)] [(.ref a2)])) _
    refine st6 _ ?_
    show Steps p.tables e below (T6.setTop (mkF m 33 #[.val (.ref a1), .val (.ref a2)] [(.ref aq)])) _
    refine XS.ifnonnullYes X6.here hx rfl (pc0 := 33) (pc' := 47) rfl (hb hby d8_33) rfl (by decide) (by decide) ?_
    show Steps p.tables e below (T6.setTop (mkF m 47 #[.val (.ref a1), .val (.ref a2)] [])) _
    refine XS.aloadN X6.here hx rfl (hb hby d8_47) rfl rfl ?_
    show Steps p.tables e below (T6.setTop (mkF m 48 #[.val (.ref a1), .val (.ref a2)] [(.ref a2)])) _
    refine st7 _ ?_
    show Steps p.tables e below (T7.setTop (mkF m 51 #[.val (.ref a1), .val (.ref a2)] [(.ref aq)])) _
    refine XS.aloadN X7.here hx rfl (hb hby d8_51) rfl rfl ?_
    show Steps p.tables e below (T7.setTop (mkF m 52 #[.val (.ref a1), .val (.ref a2)] [(.ref a2), (.ref aq)])) _
    refine st8 _ ?_
    show Steps p.tables e below (T8.setTop (mkF m 55 #[.val (.ref a1), .val (.ref a2)] [.null, (.ref aq)])) _
    refine st9 _ ?_
    show Steps p.tables e below (T9.setTop (mkF m 58 #[.val (.ref a1), .val (.ref a2)] [])) _
    refine XS.aloadN X9.here hx rfl (hb hby d8_58) rfl rfl ?_
    show Steps p.tables e below (T9.setTop (mkF m 59 #[.val (.ref a1), .val (.ref a2)] [(.ref a2)])) _
    refine XS.aconstNull X9.here hx rfl (hb hby d8_59) ?_
    show Steps p.tables e below (T9.setTop (mkF m 60 #[.val (.ref a1), .val (.ref a2)] [.null, (.ref a2)])) _
    refine st10 _ ?_
    show Steps p.tables e below (T10.setTop (mkF m 63 #[.val (.ref a1), .val (.ref a2)] [])) _
    refine XS.aloadN X10.here hx rfl (hb hby d8_63) rfl rfl ?_
    show Steps p.tables e below (T10.setTop (mkF m 64 #[.val (.ref a1), .val (.ref a2)] [(.ref a2)])) _
    refine XS.aconstNull X10.here hx rfl (hb hby d8_64) ?_
    show Steps p.tables e below (T10.setTop (mkF m 65 #[.val (.ref a1), .val (.ref a2)] [.null, (.ref a2)])) _
    refine st11 _ ?_
    show Steps p.tables e below (T11.setTop (mkF m 68 #[.val (.ref a1), .val (.ref a2)] [])) _
    refine XS.aloadN X11.here hx rfl (hb hby d8_68) rfl rfl ?_
    show Steps p.tables e below (T11.setTop (mkF m 69 #[.val (.ref a1), .val (.ref a2)] [(.ref a1)])) _
    refine XS.dup X11.here hx rfl (hb hby d8_69) rfl rfl ?_
    show Steps p.tables e below (T11.setTop (mkF m 70 #[.val (.ref a1), .val (.ref a2)] [(.ref a1), (.ref a1)])) _
    refine st12 _ ?_
    show Steps p.tables e below (T12.setTop (mkF m 73 #[.val (.ref a1), .val (.ref a2)] [(.int sz), (.ref a1)])) _
    refine XS.iconst X12.here hx rfl (hb hby d8_73) ?_
    show Steps p.tables e below (T12.setTop (mkF m 74 #[.val (.ref a1), .val (.ref a2)] [(.int (1 : Int32)), (.int sz), (.ref a1)])) _
    refine XS.isub X12.here hx rfl (hb hby d8_74) rfl ?_
    show Steps p.tables e below (T12.setTop (mkF m 75 #[.val (.ref a1), .val (.ref a2)] [(.int (sz - (1 : Int32))), (.ref a1)])) _
    refine st13 _ ?_
    show Steps p.tables e below (T13.setTop (mkF m 78 #[.val (.ref a1), .val (.ref a2)] [])) _
    exact X13.returnOut hx Bd.returns (hb hby d8_78) hr
  · show Q8new Z a1 a2 aq sz h0 n0 _ T13.heap _
    rw [e13]
    exact ⟨rfl, N13, K13, ⟨(((((E_o.wr W5).wr W9).wr W10).wr W11).wr W13), (((((E_p.wr W5).wr W9).wr W10).wr W11).wr W13), (((((E_q.wr W5).wr W9).wr W10).wr W11).wr W13), ((((Fw5.other W9 (Or.inl ne_a1_aq)).other W10 (Or.inl ne_a1_a2)).other W11 (Or.inl ne_a1_a2)).other W13 (Or.inr (slot_ne (Or.inl (hw _ (List.mem_of_getElem? (i := 35) rfl))) (Or.inl (hw _ (List.mem_of_getElem? (i := 28) rfl))) (by decide) (t := (.object "com/example/idlewell/idlewell/engine/PooledObject")) (t' := .int) (by decide) (by decide)))), (((((Fod.other W5 (Or.inr (slot_ne (Or.inl (hw _ (List.mem_of_getElem? (i := 47) rfl))) (Or.inl (hw _ (List.mem_of_getElem? (i := 35) rfl))) (by decide) (t := (.object "com/example/idlewell/idlewell/engine/PooledObject")) (t' := (.object "com/example/idlewell/idlewell/engine/PooledObject")) (by decide) (by decide)))).other W9 (Or.inl ne_a1_aq)).other W10 (Or.inl ne_a1_a2)).other W11 (Or.inl ne_a1_a2)).other W13 (Or.inr (slot_ne (Or.inl (hw _ (List.mem_of_getElem? (i := 47) rfl))) (Or.inl (hw _ (List.mem_of_getElem? (i := 28) rfl))) (by decide) (t := (.object "com/example/idlewell/idlewell/engine/PooledObject")) (t' := .int) (by decide) (by decide)))), Fw13, ((Fw10.other W11 (Or.inr (slot_ne (Or.inl (hw _ (List.mem_of_getElem? (i := 51) rfl))) (Or.inl (hw _ (List.mem_of_getElem? (i := 49) rfl))) (by decide) (t := (.object "com/example/idlewell/idlewell/engine/PooledObject")) (t' := (.object "com/example/idlewell/idlewell/engine/PooledObject")) (by decide) (by decide)))).other W13 (Or.inl (Ne.symm ne_a1_a2))), (Fw11.other W13 (Or.inl (Ne.symm ne_a1_a2))), (((Fw9.other W10 (Or.inl (Ne.symm ne_a2_aq))).other W11 (Or.inl (Ne.symm ne_a2_aq))).other W13 (Or.inl (Ne.symm ne_a1_aq))), (((((Fqo.other W5 (Or.inl (Ne.symm ne_a1_aq))).other W9 (Or.inr (slot_ne (Or.inl (hw _ (List.mem_of_getElem? (i := 49) rfl))) (Or.inl (hw _ (List.mem_of_getElem? (i := 51) rfl))) (by decide) (t := (.object "com/example/idlewell/idlewell/engine/PooledObject")) (t' := (.object "com/example/idlewell/idlewell/engine/PooledObject")) (by decide) (by decide)))).other W10 (Or.inl (Ne.symm ne_a2_aq))).other W11 (Or.inl (Ne.symm ne_a2_aq))).other W13 (Or.inl (Ne.symm ne_a1_aq)))⟩⟩
theorem pn_0 : plainName "com/example/idlewell/idlewell/engine/ObjectListIsEmptyPinLaw" = true := by first | (simp [plainName, overriddenIn]; done) | decide +kernel
theorem pd_0_0 : parseMethodDescriptor "()V" = some ⟨[], none⟩ := by decide +kernel
theorem pd_0_1 : parseMethodDescriptor "(Lcom/example/idlewell/idlewell/engine/BoundedPool;Ljava/lang/Object;Z)V" = some ⟨[(.object "com/example/idlewell/idlewell/engine/BoundedPool"), (.object "java/lang/Object"), .boolean], none⟩ := by decide +kernel
theorem pd_0_2 : parseMethodDescriptor "()Z" = some ⟨[], some .boolean⟩ := by decide +kernel
theorem pd_0_3 : parseMethodDescriptor "()Lcom/example/idlewell/idlewell/engine/PooledObject;" = some ⟨[], some (.object "com/example/idlewell/idlewell/engine/PooledObject")⟩ := by decide +kernel
theorem ef_0 (m : MethodId) (x0 : Int32) : entryFrame m #[(.int x0)] maxLocals = mkF m 0 #[.val (.int x0), .unset, .unset, .unset, .unset, .unset, .unset, .unset, .unset, .unset, .unset, .unset] [] := by first | (simp [entryFrame, mkF, argsToLocals, Value.category, maxLocals]; done) | rfl
def Q0 (Z : State) (p1 : Int32) (h0 : Heap) (n0 : Nat) (v : Option Value) (h : Heap) (L : List Loc) : Prop := v = some (.int (1 : Int32)) ∧ Fr n0 L
set_option maxRecDepth 65536 in
set_option maxHeartbeats 40000000 in
theorem rm0_0 (l : Launch) (Z : State) (a0 : Array Value) (hw : ∀ d ∈ tables_1, d.before a0 Z = true) (ws : List Jvm.Cond) (p1 : Int32) (h0 : Heap) (n0 : Nat) (Z0 : n0 ≤ h0.size) (hc3 : (p1 &&& (1 : Int32)) = (0 : Int32)) (hc15 : (p1 &&& (2 : Int32)) = (0 : Int32)) (hc208 : (1 : Int32) = (if (0 : Int32) = (0 : Int32) then (1 : Int32) else 0)) :
    MetFree l x (head1 (Jvm.Cond.code x code maxLocals ret :: ws) room_1) (fun a U => a = #[(.int p1)] ∧ Z.Warmed39 U.vm ∧ U.heap = h0) (fun _ _ _ _ _ => True) (fun _ U o U' => ∃ v L, o = .returned v ∧ Q0 Z p1 h0 n0 v U'.heap L ∧ FrameEnd U o U' L room_1.cells room_1.slots) := by
  refine MetFree.of_bodySF (plainFor_of_name pn_0) hisR ?_
  intro p e s m args below meth c s₁ Bd hml0 hP hK
  obtain ⟨rfl, hZ, hh⟩ := hP
  have hx := Bd.exec
  have hby := Bd.bytes
  have hml : c.maxLocals = 12 := hml0
  have hown : s.vm.findClass "com/example/idlewell/idlewell/engine/ObjectListIsEmptyPinLaw" = some m.cls := findClass_of_methodNamed Bd.named
  have hnm := (name_of_methodNamed Bd.named Bd.method).1
  have X0 : Stand p l e room_1 s m #[(.int p1)] below meth c s₁ [] 0 0 := Stand.of_body Bd
  have e0 : s₁.heap = h0 := by rw [← hh, Bd.state]; rfl
  have N0 := Fr.nil n0
  have pre0 : ∀ t, Steps p.tables e below (s₁.setTop (mkF m 0 #[.val (.int p1), .unset, .unset, .unset, .unset, .unset, .unset, .unset, .unset, .unset, .unset, .unset] [])) t → Steps p.tables e below (s₁.setTop (entryFrame m #[(.int p1)] maxLocals)) t := fun t k => castTop (ef_0 m p1) k
  obtain ⟨T2, h2, X2, e2, E2, A2, D2, -, st2⟩ := newO X0 hx hZ hown (hw _ (List.mem_of_getElem? (i := 0) rfl)) (hw _ (List.mem_of_getElem? (i := 1) rfl)) (hw _ (List.mem_of_getElem? (i := 2) rfl)) e0 (g := (mkF m 58 #[.val (.int p1), .val (.int (0 : Int32)), .val (.int (0 : Int32)), .val (.int (0 : Int32)), .val (.int (0 : Int32)), .unset, .unset, .unset, .unset, .unset, .unset, .unset] [])) rfl (hb hby at_58) (by decide) (by decide)
  obtain ⟨b2, g2⟩ : ∃ z, z = h0.size := ⟨_, rfl⟩
  rw [← g2] at A2 D2 st2
  have F_size_b2 : Fld Z h2 b2 "com/example/idlewell/idlewell/engine/ObjectList" "size" "I" (.int (0 : Int32)) := D2 (Or.inl (hw _ (List.mem_of_getElem? (i := 28) rfl))) (ty := .int) (by decide)
  have F_newest_b2 : Fld Z h2 b2 "com/example/idlewell/idlewell/engine/ObjectList" "newest" "Lcom/example/idlewell/idlewell/engine/PooledObject;" .null := D2 (Or.inl (hw _ (List.mem_of_getElem? (i := 35) rfl))) (ty := (.object "com/example/idlewell/idlewell/engine/PooledObject")) (by decide)
  have F_oldest_b2 : Fld Z h2 b2 "com/example/idlewell/idlewell/engine/ObjectList" "oldest" "Lcom/example/idlewell/idlewell/engine/PooledObject;" .null := D2 (Or.inl (hw _ (List.mem_of_getElem? (i := 47) rfl))) (ty := (.object "com/example/idlewell/idlewell/engine/PooledObject")) (by decide)
  have E_b2 := A2
  have g_b2 : n0 ≤ b2 := Nat.le_trans Z0 (Nat.le_of_eq g2.symm)
  have sz_b2 : h0.size ≤ b2 := (Nat.le_trans (Keep.refl h0 []).1 (Nat.le_of_eq g2.symm))
  have K2 : Keep h0 h2 [] := (Keep.refl h0 []).ext E2
  obtain ⟨_, _, ⟨T3, L3, k3, n3⟩, -, X3, ⟨Lc3, hQ3, l3, y3, z3⟩, st3⟩ := X2.specialBack hx (y := (⟨"com/example/idlewell/idlewell/engine/ObjectList", "<init>", "()V"⟩ : MethodName)) rfl hown (mvT hZ (hw _ (List.mem_of_getElem? (i := 3) rfl))) (mvT hZ (hw _ (List.mem_of_getElem? (i := 4) rfl))) (mvT hZ (hw _ (List.mem_of_getElem? (i := 5) rfl))) (by decide) (backOf (W := 1) (rm1 l Z a0 hw [] b2  h2 n0 (Nat.le_trans Z0 E2.1)) hZ (hw _ (List.mem_of_getElem? (i := 5) rfl)) (hw _ (List.mem_of_getElem? (i := 2) rfl)) (by decide) (by decide)) (g := (mkF m 62 #[.val (.int p1), .val (.int (0 : Int32)), .val (.int (0 : Int32)), .val (.int (0 : Int32)), .val (.int (0 : Int32)), .unset, .unset, .unset, .unset, .unset, .unset, .unset] [(.ref b2), (.ref b2)])) rfl (by rw [hml]; rfl) (Steps.refl _) (a := b2) (argsL := []) (rest := [(.ref b2)]) (lenOf pd_0_0 rfl) rfl (by show 2 * 0 + _ ≤ _; exact Nat.le_of_eq rfl) (hb hby at_62) (fun _ _ => ⟨rfl, e2, (by decide : 1 + 0 ≤ _), (by decide : 3 + 0 ≤ _)⟩)
  dsimp only [Pt.U, Pt.locs, Pt.cells, Pt.slots] at X3 l3 y3 z3 st3 hQ3
  subst l3 y3 z3
  obtain ⟨rfl, N3q, e3⟩ := hQ3
  have N3 := Fr.app N0 N3q
  obtain ⟨T4, h4, X4, e4, E4, A4, D4, -, st4⟩ := newO X3 hx hZ hown (hw _ (List.mem_of_getElem? (i := 9) rfl)) (hw _ (List.mem_of_getElem? (i := 10) rfl)) (hw _ (List.mem_of_getElem? (i := 11) rfl)) e3 (g := (mkF m 67 #[.val (.int p1), .val (.int (0 : Int32)), .val (.int (0 : Int32)), .val (.int (0 : Int32)), .val (.int (0 : Int32)), .val (.ref b2), .unset, .unset, .unset, .unset, .unset, .unset] [])) rfl (hb hby at_67) (by decide) (by decide)
  obtain ⟨b4, g4⟩ : ∃ z, z = h2.size := ⟨_, rfl⟩
  rw [← g4] at A4 D4 st4
  have F_pool_b4 : Fld Z h4 b4 "com/example/idlewell/idlewell/engine/PooledObject" "pool" "Lcom/example/idlewell/idlewell/engine/BoundedPool;" .null := D4 (Or.inr (hw _ (List.mem_of_getElem? (i := 17) rfl))) (ty := (.object "com/example/idlewell/idlewell/engine/BoundedPool")) (by decide)
  have F_object_b4 : Fld Z h4 b4 "com/example/idlewell/idlewell/engine/PooledObject" "object" "Ljava/lang/Object;" .null := D4 (Or.inr (hw _ (List.mem_of_getElem? (i := 19) rfl))) (ty := (.object "java/lang/Object")) (by decide)
  have F_slot_b4 : Fld Z h4 b4 "com/example/idlewell/idlewell/engine/PooledObject" "slot" "Lcom/example/idlewell/idlewell/engine/ThreadSlot;" .null := D4 (Or.inr (hw _ (List.mem_of_getElem? (i := 21) rfl))) (ty := (.object "com/example/idlewell/idlewell/engine/ThreadSlot")) (by decide)
  have F_older_b4 : Fld Z h4 b4 "com/example/idlewell/idlewell/engine/PooledObject" "older" "Lcom/example/idlewell/idlewell/engine/PooledObject;" .null := D4 (Or.inl (hw _ (List.mem_of_getElem? (i := 49) rfl))) (ty := (.object "com/example/idlewell/idlewell/engine/PooledObject")) (by decide)
  have F_newer_b4 : Fld Z h4 b4 "com/example/idlewell/idlewell/engine/PooledObject" "newer" "Lcom/example/idlewell/idlewell/engine/PooledObject;" .null := D4 (Or.inl (hw _ (List.mem_of_getElem? (i := 51) rfl))) (ty := (.object "com/example/idlewell/idlewell/engine/PooledObject")) (by decide)
  have E_b4 := A4
  have g_b4 : n0 ≤ b4 := Nat.le_trans (Nat.le_trans Z0 E2.1) (Nat.le_of_eq g4.symm)
  have sz_b4 : h0.size ≤ b4 := (Nat.le_trans K2.1 (Nat.le_of_eq g4.symm))
  have K4 : Keep h0 h4 [] := K2.ext E4
  obtain ⟨_, _, ⟨T5, L5, k5, n5⟩, -, X5, ⟨Lc5, hQ5, l5, y5, z5⟩, st5⟩ := X4.specialBack hx (y := (⟨"com/example/idlewell/idlewell/engine/PooledObject", "<init>", "(Lcom/example/idlewell/idlewell/engine/BoundedPool;Ljava/lang/Object;Z)V"⟩ : MethodName)) rfl hown (mvT hZ (hw _ (List.mem_of_getElem? (i := 12) rfl))) (mvT hZ (hw _ (List.mem_of_getElem? (i := 13) rfl))) (mvT hZ (hw _ (List.mem_of_getElem? (i := 14) rfl))) (by decide) (backOf (W := 1) (rm3 l Z a0 hw [] b4 (0 : Int32) .null .null .null h4 n0 (Nat.le_trans (Nat.le_trans Z0 E2.1) E4.1) E_b4 F_newer_b4 F_older_b4 F_pool_b4 g_b4 F_object_b4 F_slot_b4 rfl) hZ (hw _ (List.mem_of_getElem? (i := 14) rfl)) (hw _ (List.mem_of_getElem? (i := 11) rfl)) (by decide) (by decide)) (g := (mkF m 74 #[.val (.int p1), .val (.int (0 : Int32)), .val (.int (0 : Int32)), .val (.int (0 : Int32)), .val (.int (0 : Int32)), .val (.ref b2), .unset, .unset, .unset, .unset, .unset, .unset] [(.int (0 : Int32)), .null, .null, (.ref b4), (.ref b4)])) rfl (by rw [hml]; rfl) (Steps.refl _) (a := b4) (argsL := [.null, .null, (.int (0 : Int32))]) (rest := [(.ref b4)]) (lenOf pd_0_1 rfl) rfl (by show 2 * 0 + _ ≤ _; exact Nat.le_of_eq rfl) (hb hby at_74) (fun _ _ => ⟨rfl, e4, (by decide : 2 + 0 ≤ _), (by decide : 13 + 0 ≤ _)⟩)
  dsimp only [Pt.U, Pt.locs, Pt.cells, Pt.slots] at X5 l5 y5 z5 st5 hQ5
  subst l5 y5 z5
  obtain ⟨rfl, N5q, Kq5, Ex5, Fn5, Fo5⟩ := hQ5
  have N5 := Fr.app N3 N5q
  obtain ⟨T6, h6, X6, e6, E6, A6, D6, -, st6⟩ := newO X5 hx hZ hown (hw _ (List.mem_of_getElem? (i := 9) rfl)) (hw _ (List.mem_of_getElem? (i := 10) rfl)) (hw _ (List.mem_of_getElem? (i := 11) rfl)) rfl (g := (mkF m 79 #[.val (.int p1), .val (.int (0 : Int32)), .val (.int (0 : Int32)), .val (.int (0 : Int32)), .val (.int (0 : Int32)), .val (.ref b2), .val (.ref b4), .unset, .unset, .unset, .unset, .unset] [])) rfl (hb hby at_79) (by decide) (by decide)
  obtain ⟨b6, g6⟩ : ∃ z, z = T5.heap.size := ⟨_, rfl⟩
  rw [← g6] at A6 D6 st6
  have F_pool_b6 : Fld Z h6 b6 "com/example/idlewell/idlewell/engine/PooledObject" "pool" "Lcom/example/idlewell/idlewell/engine/BoundedPool;" .null := D6 (Or.inr (hw _ (List.mem_of_getElem? (i := 17) rfl))) (ty := (.object "com/example/idlewell/idlewell/engine/BoundedPool")) (by decide)
  have F_object_b6 : Fld Z h6 b6 "com/example/idlewell/idlewell/engine/PooledObject" "object" "Ljava/lang/Object;" .null := D6 (Or.inr (hw _ (List.mem_of_getElem? (i := 19) rfl))) (ty := (.object "java/lang/Object")) (by decide)
  have F_slot_b6 : Fld Z h6 b6 "com/example/idlewell/idlewell/engine/PooledObject" "slot" "Lcom/example/idlewell/idlewell/engine/ThreadSlot;" .null := D6 (Or.inr (hw _ (List.mem_of_getElem? (i := 21) rfl))) (ty := (.object "com/example/idlewell/idlewell/engine/ThreadSlot")) (by decide)
  have F_older_b6 : Fld Z h6 b6 "com/example/idlewell/idlewell/engine/PooledObject" "older" "Lcom/example/idlewell/idlewell/engine/PooledObject;" .null := D6 (Or.inl (hw _ (List.mem_of_getElem? (i := 49) rfl))) (ty := (.object "com/example/idlewell/idlewell/engine/PooledObject")) (by decide)
  have F_newer_b6 : Fld Z h6 b6 "com/example/idlewell/idlewell/engine/PooledObject" "newer" "Lcom/example/idlewell/idlewell/engine/PooledObject;" .null := D6 (Or.inl (hw _ (List.mem_of_getElem? (i := 51) rfl))) (ty := (.object "com/example/idlewell/idlewell/engine/PooledObject")) (by decide)
  have E_b6 := A6
  have g_b6 : n0 ≤ b6 := Nat.le_trans (Nat.le_trans (Nat.le_trans (Nat.le_trans Z0 E2.1) E4.1) Kq5.1) (Nat.le_of_eq g6.symm)
  obtain ⟨_, _, ⟨T7, L7, k7, n7⟩, -, X7, ⟨Lc7, hQ7, l7, y7, z7⟩, st7⟩ := X6.specialBack hx (y := (⟨"com/example/idlewell/idlewell/engine/PooledObject", "<init>", "(Lcom/example/idlewell/idlewell/engine/BoundedPool;Ljava/lang/Object;Z)V"⟩ : MethodName)) rfl hown (mvT hZ (hw _ (List.mem_of_getElem? (i := 12) rfl))) (mvT hZ (hw _ (List.mem_of_getElem? (i := 13) rfl))) (mvT hZ (hw _ (List.mem_of_getElem? (i := 14) rfl))) (by decide) (backOf (W := 1) (rm3 l Z a0 hw [] b6 (0 : Int32) .null .null .null h6 n0 (Nat.le_trans (Nat.le_trans (Nat.le_trans (Nat.le_trans Z0 E2.1) E4.1) Kq5.1) E6.1) E_b6 F_newer_b6 F_older_b6 F_pool_b6 g_b6 F_object_b6 F_slot_b6 rfl) hZ (hw _ (List.mem_of_getElem? (i := 14) rfl)) (hw _ (List.mem_of_getElem? (i := 11) rfl)) (by decide) (by decide)) (g := (mkF m 86 #[.val (.int p1), .val (.int (0 : Int32)), .val (.int (0 : Int32)), .val (.int (0 : Int32)), .val (.int (0 : Int32)), .val (.ref b2), .val (.ref b4), .unset, .unset, .unset, .unset, .unset] [(.int (0 : Int32)), .null, .null, (.ref b6), (.ref b6)])) rfl (by rw [hml]; rfl) (Steps.refl _) (a := b6) (argsL := [.null, .null, (.int (0 : Int32))]) (rest := [(.ref b6)]) (lenOf pd_0_1 rfl) rfl (by show 2 * 0 + _ ≤ _; exact Nat.le_of_eq rfl) (hb hby at_86) (fun _ _ => ⟨rfl, e6, (by decide : 3 + 0 ≤ _), (by decide : 23 + 0 ≤ _)⟩)
  dsimp only [Pt.U, Pt.locs, Pt.cells, Pt.slots] at X7 l7 y7 z7 st7 hQ7
  subst l7 y7 z7
  obtain ⟨rfl, N7q, Kq7, Ex7, Fn7, Fo7⟩ := hQ7
  have N7 := Fr.app N5 N7q
  obtain ⟨cq8, kq8, q8a, q8b, q8c⟩ := isOf hZ rfl ((((E_b2.ext E4).keep Kq5).ext E6).keep Kq7)
  obtain ⟨_, _, ⟨T8, L8, k8, n8⟩, -, X8, ⟨Lc8, hQ8, l8, y8, z8⟩, st8⟩ := X7.virtualBack hx (y := (⟨"com/example/idlewell/idlewell/engine/ObjectList", "isEmpty", "()Z"⟩ : MethodName)) (z := (⟨"com/example/idlewell/idlewell/engine/ObjectList", "isEmpty", "()Z"⟩ : MethodName)) hown (mvT hZ (hw _ (List.mem_of_getElem? (i := 22) rfl))) (mvT hZ (hw _ (List.mem_of_getElem? (i := 23) rfl))) (notFace_of_selects (args := #[]) (mvT hZ (hw _ (List.mem_of_getElem? (i := 25) rfl)))) (mvT hZ (hw _ (List.mem_of_getElem? (i := 25) rfl))) (mvT hZ (hw _ (List.mem_of_getElem? (i := 24) rfl))) (by decide) (backOf (W := 0) (rm4 l Z a0 hw [] b2 (0 : Int32) T7.heap n0 (Nat.le_trans (Nat.le_trans (Nat.le_trans (Nat.le_trans (Nat.le_trans Z0 E2.1) E4.1) Kq5.1) E6.1) Kq7.1) ((((F_size_b2.ext E4).keep Kq5 (fun q_ => (Nat.ne_of_lt (Nat.lt_of_lt_of_le E_b2.lt (Nat.le_of_eq g4.symm))) (List.mem_singleton.mp q_))).ext E6).keep Kq7 (fun q_ => (Nat.ne_of_lt (Nat.lt_of_lt_of_le ((E_b2.ext E4).keep Kq5).lt (Nat.le_of_eq g6.symm))) (List.mem_singleton.mp q_)))) hZ (hw _ (List.mem_of_getElem? (i := 26) rfl)) (hw _ (List.mem_of_getElem? (i := 2) rfl)) (by decide) (by decide)) q8a q8c (g := (mkF m 177 #[.val (.int p1), .val (.int (0 : Int32)), .val (.int (0 : Int32)), .val (.int (0 : Int32)), .val (.int (0 : Int32)), .val (.ref b2), .val (.ref b4), .val (.ref b6), .val (.int (0 : Int32)), .val (.int (if (0 : Int32) = (0 : Int32) then (1 : Int32) else 0)), .unset, .unset] [(.ref b2)])) rfl (by rw [hml]; rfl) (Steps.refl _) (argsL := []) (rest := []) (lenOf pd_0_2 rfl) rfl (by show 2 * 0 + _ ≤ _; exact Nat.le_of_eq rfl) (hb hby at_177) (fun _ _ => ⟨rfl, rfl, (by decide : 3 + 0 ≤ _), (by decide : 23 + 0 ≤ _)⟩)
  dsimp only [Pt.U, Pt.locs, Pt.cells, Pt.slots] at X8 l8 y8 z8 st8 hQ8
  subst l8 y8 z8
  obtain ⟨rfl, N8q, e8⟩ := hQ8
  have N8 := Fr.app N7 N8q
  obtain ⟨cq9, kq9, q9a, q9b, q9c⟩ := isOf hZ e8 ((((E_b2.ext E4).keep Kq5).ext E6).keep Kq7)
  obtain ⟨_, _, ⟨T9, L9, k9, n9⟩, -, X9, ⟨Lc9, hQ9, l9, y9, z9⟩, st9⟩ := X8.virtualBack hx (y := (⟨"com/example/idlewell/idlewell/engine/ObjectList", "newest", "()Lcom/example/idlewell/idlewell/engine/PooledObject;"⟩ : MethodName)) (z := (⟨"com/example/idlewell/idlewell/engine/ObjectList", "newest", "()Lcom/example/idlewell/idlewell/engine/PooledObject;"⟩ : MethodName)) hown (mvT hZ (hw _ (List.mem_of_getElem? (i := 29) rfl))) (mvT hZ (hw _ (List.mem_of_getElem? (i := 30) rfl))) (notFace_of_selects (args := #[]) (mvT hZ (hw _ (List.mem_of_getElem? (i := 32) rfl)))) (mvT hZ (hw _ (List.mem_of_getElem? (i := 32) rfl))) (mvT hZ (hw _ (List.mem_of_getElem? (i := 31) rfl))) (by decide) (backOf (W := 0) (rm5n l Z a0 hw [] b2  T7.heap n0 (Nat.le_trans (Nat.le_trans (Nat.le_trans (Nat.le_trans (Nat.le_trans Z0 E2.1) E4.1) Kq5.1) E6.1) Kq7.1) ((((F_newest_b2.ext E4).keep Kq5 (fun q_ => (Nat.ne_of_lt (Nat.lt_of_lt_of_le E_b2.lt (Nat.le_of_eq g4.symm))) (List.mem_singleton.mp q_))).ext E6).keep Kq7 (fun q_ => (Nat.ne_of_lt (Nat.lt_of_lt_of_le ((E_b2.ext E4).keep Kq5).lt (Nat.le_of_eq g6.symm))) (List.mem_singleton.mp q_)))) hZ (hw _ (List.mem_of_getElem? (i := 33) rfl)) (hw _ (List.mem_of_getElem? (i := 2) rfl)) (by decide) (by decide)) q9a q9c (g := (mkF m 184 #[.val (.int p1), .val (.int (0 : Int32)), .val (.int (0 : Int32)), .val (.int (0 : Int32)), .val (.int (0 : Int32)), .val (.ref b2), .val (.ref b4), .val (.ref b6), .val (.int (0 : Int32)), .val (.int (if (0 : Int32) = (0 : Int32) then (1 : Int32) else 0)), .val (.int (if (0 : Int32) = (0 : Int32) then (1 : Int32) else 0)), .unset] [(.ref b2)])) rfl (by rw [hml]; rfl) (Steps.refl _) (argsL := []) (rest := []) (lenOf pd_0_3 rfl) rfl (by show 2 * 0 + _ ≤ _; exact Nat.le_of_eq rfl) (hb hby at_184) (fun _ _ => ⟨rfl, e8, (by decide : 3 + 0 ≤ _), (by decide : 23 + 0 ≤ _)⟩)
  dsimp only [Pt.U, Pt.locs, Pt.cells, Pt.slots] at X9 l9 y9 z9 st9 hQ9
  subst l9 y9 z9
  obtain ⟨rfl, N9q, e9⟩ := hQ9
  have N9 := Fr.app N8 N9q
  obtain ⟨fs, hr, hrun, hended, hW, hsame⟩ := X9.leave (v := some (.int (1 : Int32))) (fun h => by rw [Bd.returns] at h; cases h)
  refine ⟨_, _, pre0 _ ?_, hrun, hended, _, _, rfl, ?_, ⟨_, rfl⟩, hW, hsame.mono (by decide) (by decide)⟩
  · show Steps p.tables e below (s₁.setTop (mkF m 0 #[.val (.int p1), .unset, .unset, .unset, .unset, .unset, .unset, .unset, .unset, .unset, .unset, .unset] [])) _
    refine XS.iloadN X0.here hx rfl (hb hby at_0) rfl ?_
    show Steps p.tables e below (s₁.setTop (mkF m 1 #[.val (.int p1), .unset, .unset, .unset, .unset, .unset, .unset, .unset, .unset, .unset, .unset, .unset] [(.int p1)])) _
    refine XS.iconst X0.here hx rfl (hb hby at_1) ?_
    show Steps p.tables e below (s₁.setTop (mkF m 2 #[.val (.int p1), .unset, .unset, .unset, .unset, .unset, .unset, .unset, .unset, .unset, .unset, .unset] [(.int (1 : Int32)), (.int p1)])) _
    refine XS.iand X0.here hx rfl (hb hby at_2) rfl ?_
    show Steps p.tables e below (s₁.setTop (mkF m 3 #[.val (.int p1), .unset, .unset, .unset, .unset, .unset, .unset, .unset, .unset, .unset, .unset, .unset] [(.int (p1 &&& (1 : Int32)))])) _
    refine XS.ifYes X0.here hx rfl (pc0 := 3) (pc' := 10) rfl (hb hby at_3) rfl ((if0 _ _).trans (teq hc3).1) (by decide) (by decide) ?_
    show Steps p.tables e below (s₁.setTop (mkF m 10 #[.val (.int p1), .unset, .unset, .unset, .unset, .unset, .unset, .unset, .unset, .unset, .unset, .unset] [])) _
    refine XS.iconst X0.here hx rfl (hb hby at_10) ?_
    show Steps p.tables e below (s₁.setTop (mkF m 11 #[.val (.int p1), .unset, .unset, .unset, .unset, .unset, .unset, .unset, .unset, .unset, .unset, .unset] [(.int (0 : Int32))])) _
    refine XS.istoreN X0.here hx rfl (hb hby at_11) rfl (l' := #[.val (.int p1), .val (.int (0 : Int32)), .unset, .unset, .unset, .unset, .unset, .unset, .unset, .unset, .unset, .unset]) rfl ?_
    show Steps p.tables e below (s₁.setTop (mkF m 12 #[.val (.int p1), .val (.int (0 : Int32)), .unset, .unset, .unset, .unset, .unset, .unset, .unset, .unset, .unset, .unset] [])) _
    refine XS.iloadN X0.here hx rfl (hb hby at_12) rfl ?_
    show Steps p.tables e below (s₁.setTop (mkF m 13 #[.val (.int p1), .val (.int (0 : Int32)), .unset, .unset, .unset, .unset, .unset, .unset, .unset, .unset, .unset, .unset] [(.int p1)])) _
    refine XS.iconst X0.here hx rfl (hb hby at_13) ?_
    show Steps p.tables e below (s₁.setTop (mkF m 14 #[.val (.int p1), .val (.int (0 : Int32)), .unset, .unset, .unset, .unset, .unset, .unset, .unset, .unset, .unset, .unset] [(.int (2 : Int32)), (.int p1)])) _
    refine XS.iand X0.here hx rfl (hb hby at_14) rfl ?_
    show Steps p.tables e below (s₁.setTop (mkF m 15 #[.val (.int p1), .val (.int (0 : Int32)), .unset, .unset, .unset, .unset, .unset, .unset, .unset, .unset, .unset, .unset] [(.int (p1 &&& (2 : Int32)))])) _
    refine XS.ifYes X0.here hx rfl (pc0 := 15) (pc' := 22) rfl (hb hby at_15) rfl ((if0 _ _).trans (teq hc15).1) (by decide) (by decide) ?_
    show Steps p.tables e below (s₁.setTop (mkF m 22 #[.val (.int p1), .val (.int (0 : Int32)), .unset, .unset, .unset, .unset, .unset, .unset, .unset, .unset, .unset, .unset] [])) _
    refine XS.iconst X0.here hx rfl (hb hby at_22) ?_
    show Steps p.tables e below (s₁.setTop (mkF m 23 #[.val (.int p1), .val (.int (0 : Int32)), .unset, .unset, .unset, .unset, .unset, .unset, .unset, .unset, .unset, .unset] [(.int (0 : Int32))])) _
    refine XS.istoreN X0.here hx rfl (hb hby at_23) rfl (l' := #[.val (.int p1), .val (.int (0 : Int32)), .val (.int (0 : Int32)), .unset, .unset, .unset, .unset, .unset, .unset, .unset, .unset, .unset]) rfl ?_
    show Steps p.tables e below (s₁.setTop (mkF m 24 #[.val (.int p1), .val (.int (0 : Int32)), .val (.int (0 : Int32)), .unset, .unset, .unset, .unset, .unset, .unset, .unset, .unset, .unset] [])) _
    refine XS.iloadN X0.here hx rfl (hb hby at_24) rfl ?_
    show Steps p.tables e below (s₁.setTop (mkF m 25 #[.val (.int p1), .val (.int (0 : Int32)), .val (.int (0 : Int32)), .unset, .unset, .unset, .unset, .unset, .unset, .unset, .unset, .unset] [(.int (0 : Int32))])) _
    refine XS.ifYes X0.here hx rfl (pc0 := 25) (pc' := 38) rfl (hb hby at_25) rfl ((if0 _ _).trans (teq (rfl : (0 : Int32) = (0 : Int32))).1) (by decide) (by decide) ?_
    show Steps p.tables e below (s₁.setTop (mkF m 38 #[.val (.int p1), .val (.int (0 : Int32)), .val (.int (0 : Int32)), .unset, .unset, .unset, .unset, .unset, .unset, .unset, .unset, .unset] [])) _
    refine XS.iconst X0.here hx rfl (hb hby at_38) ?_
    show Steps p.tables e below (s₁.setTop (mkF m 39 #[.val (.int p1), .val (.int (0 : Int32)), .val (.int (0 : Int32)), .unset, .unset, .unset, .unset, .unset, .unset, .unset, .unset, .unset] [(.int (0 : Int32))])) _
    refine XS.istoreN X0.here hx rfl (hb hby at_39) rfl (l' := #[.val (.int p1), .val (.int (0 : Int32)), .val (.int (0 : Int32)), .val (.int (0 : Int32)), .unset, .unset, .unset, .unset, .unset, .unset, .unset, .unset]) rfl ?_
    show Steps p.tables e below (s₁.setTop (mkF m 40 #[.val (.int p1), .val (.int (0 : Int32)), .val (.int (0 : Int32)), .val (.int (0 : Int32)), .unset, .unset, .unset, .unset, .unset, .unset, .unset, .unset] [])) _
    refine XS.iloadN X0.here hx rfl (hb hby at_40) rfl ?_
    show Steps p.tables e below (s₁.setTop (mkF m 41 #[.val (.int p1), .val (.int (0 : Int32)), .val (.int (0 : Int32)), .val (.int (0 : Int32)), .unset, .unset, .unset, .unset, .unset, .unset, .unset, .unset] [(.int (0 : Int32))])) _
    refine XS.ifYes X0.here hx rfl (pc0 := 41) (pc' := 55) rfl (hb hby at_41) rfl ((if0 _ _).trans (teq (rfl : (0 : Int32) = (0 : Int32))).1) (by decide) (by decide) ?_
    show Steps p.tables e below (s₁.setTop (mkF m 55 #[.val (.int p1), .val (.int (0 : Int32)), .val (.int (0 : Int32)), .val (.int (0 : Int32)), .unset, .unset, .unset, .unset, .unset, .unset, .unset, .unset] [])) _
    refine XS.iconst X0.here hx rfl (hb hby at_55) ?_
    show Steps p.tables e below (s₁.setTop (mkF m 56 #[.val (.int p1), .val (.int (0 : Int32)), .val (.int (0 : Int32)), .val (.int (0 : Int32)), .unset, .unset, .unset, .unset, .unset, .unset, .unset, .unset] [(.int (0 : Int32))])) _
    refine XS.istore X0.here hx rfl (hb hby at_56) rfl (l' := #[.val (.int p1), .val (.int (0 : Int32)), .val (.int (0 : Int32)), .val (.int (0 : Int32)), .val (.int (0 : Int32)), .unset, .unset, .unset, .unset, .unset, .unset, .unset]) rfl ?_
    show Steps p.tables e below (s₁.setTop (mkF m 58 #[.val (.int p1), .val (.int (0 : Int32)), .val (.int (0 : Int32)), .val (.int (0 : Int32)), .val (.int (0 : Int32)), .unset, .unset, .unset, .unset, .unset, .unset, .unset] [])) _
    refine st2 _ ?_
    show Steps p.tables e below (T2.setTop (mkF m 61 #[.val (.int p1), .val (.int (0 : Int32)), .val (.int (0 : Int32)), .val (.int (0 : Int32)), .val (.int (0 : Int32)), .unset, .unset, .unset, .unset, .unset, .unset, .unset] [(.ref b2)])) _
    refine XS.dup X2.here hx rfl (hb hby at_61) rfl rfl ?_
    show Steps p.tables e below (T2.setTop (mkF m 62 #[.val (.int p1), .val (.int (0 : Int32)), .val (.int (0 : Int32)), .val (.int (0 : Int32)), .val (.int (0 : Int32)), .unset, .unset, .unset, .unset, .unset, .unset, .unset] [(.ref b2), (.ref b2)])) _
    refine st3.trans ?_
    show Steps p.tables e below (T3.setTop (mkF m 65 #[.val (.int p1), .val (.int (0 : Int32)), .val (.int (0 : Int32)), .val (.int (0 : Int32)), .val (.int (0 : Int32)), .unset, .unset, .unset, .unset, .unset, .unset, .unset] [(.ref b2)])) _
    refine XS.astore X3.here hx rfl (hb hby at_65) rfl rfl (l' := #[.val (.int p1), .val (.int (0 : Int32)), .val (.int (0 : Int32)), .val (.int (0 : Int32)), .val (.int (0 : Int32)), .val (.ref b2), .unset, .unset, .unset, .unset, .unset, .unset]) rfl ?_
    show Steps p.tables e below (T3.setTop (mkF m 67 #[.val (.int p1), .val (.int (0 : Int32)), .val (.int (0 : Int32)), .val (.int (0 : Int32)), .val (.int (0 : Int32)), .val (.ref b2), .unset, .unset, .unset, .unset, .unset, .unset] [])) _
    refine st4 _ ?_
    show Steps p.tables e below (T4.setTop (mkF m 70 #[.val (.int p1), .val (.int (0 : Int32)), .val (.int (0 : Int32)), .val (.int (0 : Int32)), .val (.int (0 : Int32)), .val (.ref b2), .unset, .unset, .unset, .unset, .unset, .unset] [(.ref b4)])) _
    refine XS.dup X4.here hx rfl (hb hby at_70) rfl rfl ?_
    show Steps p.tables e below (T4.setTop (mkF m 71 #[.val (.int p1), .val (.int (0 : Int32)), .val (.int (0 : Int32)), .val (.int (0 : Int32)), .val (.int (0 : Int32)), .val (.ref b2), .unset, .unset, .unset, .unset, .unset, .unset] [(.ref b4), (.ref b4)])) _
    refine XS.aconstNull X4.here hx rfl (hb hby at_71) ?_
    show Steps p.tables e below (T4.setTop (mkF m 72 #[.val (.int p1), .val (.int (0 : Int32)), .val (.int (0 : Int32)), .val (.int (0 : Int32)), .val (.int (0 : Int32)), .val (.ref b2), .unset, .unset, .unset, .unset, .unset, .unset] [.null, (.ref b4), (.ref b4)])) _
    refine XS.aconstNull X4.here hx rfl (hb hby at_72) ?_
    show Steps p.tables e below (T4.setTop (mkF m 73 #[.val (.int p1), .val (.int (0 : Int32)), .val (.int (0 : Int32)), .val (.int (0 : Int32)), .val (.int (0 : Int32)), .val (.ref b2), .unset, .unset, .unset, .unset, .unset, .unset] [.null, .null, (.ref b4), (.ref b4)])) _
    refine XS.iconst X4.here hx rfl (hb hby at_73) ?_
    show Steps p.tables e below (T4.setTop (mkF m 74 #[.val (.int p1), .val (.int (0 : Int32)), .val (.int (0 : Int32)), .val (.int (0 : Int32)), .val (.int (0 : Int32)), .val (.ref b2), .unset, .unset, .unset, .unset, .unset, .unset] [(.int (0 : Int32)), .null, .null, (.ref b4), (.ref b4)])) _
    refine st5.trans ?_
    show Steps p.tables e below (T5.setTop (mkF m 77 #[.val (.int p1), .val (.int (0 : Int32)), .val (.int (0 : Int32)), .val (.int (0 : Int32)), .val (.int (0 : Int32)), .val (.ref b2), .unset, .unset, .unset, .unset, .unset, .unset] [(.ref b4)])) _
    refine XS.astore X5.here hx rfl (hb hby at_77) rfl rfl (l' := #[.val (.int p1), .val (.int (0 : Int32)), .val (.int (0 : Int32)), .val (.int (0 : Int32)), .val (.int (0 : Int32)), .val (.ref b2), .val (.ref b4), .unset, .unset, .unset, .unset, .unset]) rfl ?_
    show Steps p.tables e below (T5.setTop (mkF m 79 #[.val (.int p1), .val (.int (0 : Int32)), .val (.int (0 : Int32)), .val (.int (0 : Int32)), .val (.int (0 : Int32)), .val (.ref b2), .val (.ref b4), .unset, .unset, .unset, .unset, .unset] [])) _
    refine st6 _ ?_
    show Steps p.tables e below (T6.setTop (mkF m 82 #[.val (.int p1), .val (.int (0 : Int32)), .val (.int (0 : Int32)), .val (.int (0 : Int32)), .val (.int (0 : Int32)), .val (.ref b2), .val (.ref b4), .unset, .unset, .unset, .unset, .unset] [(.ref b6)])) _
    refine XS.dup X6.here hx rfl (hb hby at_82) rfl rfl ?_
    show Steps p.tables e below (T6.setTop (mkF m 83 #[.val (.int p1), .val (.int (0 : Int32)), .val (.int (0 : Int32)), .val (.int (0 : Int32)), .val (.int (0 : Int32)), .val (.ref b2), .val (.ref b4), .unset, .unset, .unset, .unset, .unset] [(.ref b6), (.ref b6)])) _
    refine XS.aconstNull X6.here hx rfl (hb hby at_83) ?_
    show Steps p.tables e below (T6.setTop (mkF m 84 #[.val (.int p1), .val (.int (0 : Int32)), .val (.int (0 : Int32)), .val (.int (0 : Int32)), .val (.int (0 : Int32)), .val (.ref b2), .val (.ref b4), .unset, .unset, .unset, .unset, .unset] [.null, (.ref b6), (.ref b6)])) _
    refine XS.aconstNull X6.here hx rfl (hb hby at_84) ?_
    show Steps p.tables e below (T6.setTop (mkF m 85 #[.val (.int p1), .val (.int (0 : Int32)), .val (.int (0 : Int32)), .val (.int (0 : Int32)), .val (.int (0 : Int32)), .val (.ref b2), .val (.ref b4), .unset, .unset, .unset, .unset, .unset] [.null, .null, (.ref b6), (.ref b6)])) _
    refine XS.iconst X6.here hx rfl (hb hby at_85) ?_
    show Steps p.tables e below (T6.setTop (mkF m 86 #[.val (.int p1), .val (.int (0 : Int32)), .val (.int (0 : Int32)), .val (.int (0 : Int32)), .val (.int (0 : Int32)), .val (.ref b2), .val (.ref b4), .unset, .unset, .unset, .unset, .unset] [(.int (0 : Int32)), .null, .null, (.ref b6), (.ref b6)])) _
    refine st7.trans ?_
    show Steps p.tables e below (T7.setTop (mkF m 89 #[.val (.int p1), .val (.int (0 : Int32)), .val (.int (0 : Int32)), .val (.int (0 : Int32)), .val (.int (0 : Int32)), .val (.ref b2), .val (.ref b4), .unset, .unset, .unset, .unset, .unset] [(.ref b6)])) _
    refine XS.astore X7.here hx rfl (hb hby at_89) rfl rfl (l' := #[.val (.int p1), .val (.int (0 : Int32)), .val (.int (0 : Int32)), .val (.int (0 : Int32)), .val (.int (0 : Int32)), .val (.ref b2), .val (.ref b4), .val (.ref b6), .unset, .unset, .unset, .unset]) rfl ?_
    show Steps p.tables e below (T7.setTop (mkF m 91 #[.val (.int p1), .val (.int (0 : Int32)), .val (.int (0 : Int32)), .val (.int (0 : Int32)), .val (.int (0 : Int32)), .val (.ref b2), .val (.ref b4), .val (.ref b6), .unset, .unset, .unset, .unset] [])) _
    refine XS.iconst X7.here hx rfl (hb hby at_91) ?_
    show Steps p.tables e below (T7.setTop (mkF m 92 #[.val (.int p1), .val (.int (0 : Int32)), .val (.int (0 : Int32)), .val (.int (0 : Int32)), .val (.int (0 : Int32)), .val (.ref b2), .val (.ref b4), .val (.ref b6), .unset, .unset, .unset, .unset] [(.int (0 : Int32))])) _
    refine XS.istore X7.here hx rfl (hb hby at_92) rfl (l' := #[.val (.int p1), .val (.int (0 : Int32)), .val (.int (0 : Int32)), .val (.int (0 : Int32)), .val (.int (0 : Int32)), .val (.ref b2), .val (.ref b4), .val (.ref b6), .val (.int (0 : Int32)), .unset, .unset, .unset]) rfl ?_
    show Steps p.tables e below (T7.setTop (mkF m 94 #[.val (.int p1), .val (.int (0 : Int32)), .val (.int (0 : Int32)), .val (.int (0 : Int32)), .val (.int (0 : Int32)), .val (.ref b2), .val (.ref b4), .val (.ref b6), .val (.int (0 : Int32)), .unset, .unset, .unset] [])) _
    refine XS.iloadN X7.here hx rfl (hb hby at_94) rfl ?_
    show Steps p.tables e below (T7.setTop (mkF m 95 #[.val (.int p1), .val (.int (0 : Int32)), .val (.int (0 : Int32)), .val (.int (0 : Int32)), .val (.int (0 : Int32)), .val (.ref b2), .val (.ref b4), .val (.ref b6), .val (.int (0 : Int32)), .unset, .unset, .unset] [(.int (0 : Int32))])) _
    refine XS.ifYes X7.here hx rfl (pc0 := 95) (pc' := 111) rfl (hb hby at_95) rfl ((if0 _ _).trans (teq (rfl : (0 : Int32) = (0 : Int32))).1) (by decide) (by decide) ?_
    show Steps p.tables e below (T7.setTop (mkF m 111 #[.val (.int p1), .val (.int (0 : Int32)), .val (.int (0 : Int32)), .val (.int (0 : Int32)), .val (.int (0 : Int32)), .val (.ref b2), .val (.ref b4), .val (.ref b6), .val (.int (0 : Int32)), .unset, .unset, .unset] [])) _
    refine XS.iloadN X7.here hx rfl (hb hby at_111) rfl ?_
    show Steps p.tables e below (T7.setTop (mkF m 112 #[.val (.int p1), .val (.int (0 : Int32)), .val (.int (0 : Int32)), .val (.int (0 : Int32)), .val (.int (0 : Int32)), .val (.ref b2), .val (.ref b4), .val (.ref b6), .val (.int (0 : Int32)), .unset, .unset, .unset] [(.int (0 : Int32))])) _
    refine XS.ifYes X7.here hx rfl (pc0 := 112) (pc' := 128) rfl (hb hby at_112) rfl ((if0 _ _).trans (teq (rfl : (0 : Int32) = (0 : Int32))).1) (by decide) (by decide) ?_
    show Steps p.tables e below (T7.setTop (mkF m 128 #[.val (.int p1), .val (.int (0 : Int32)), .val (.int (0 : Int32)), .val (.int (0 : Int32)), .val (.int (0 : Int32)), .val (.ref b2), .val (.ref b4), .val (.ref b6), .val (.int (0 : Int32)), .unset, .unset, .unset] [])) _
    refine XS.iloadN X7.here hx rfl (hb hby at_128) rfl ?_
    show Steps p.tables e below (T7.setTop (mkF m 129 #[.val (.int p1), .val (.int (0 : Int32)), .val (.int (0 : Int32)), .val (.int (0 : Int32)), .val (.int (0 : Int32)), .val (.ref b2), .val (.ref b4), .val (.ref b6), .val (.int (0 : Int32)), .unset, .unset, .unset] [(.int (0 : Int32))])) _
    refine XS.ifYes X7.here hx rfl (pc0 := 129) (pc' := 145) rfl (hb hby at_129) rfl ((if0 _ _).trans (teq (rfl : (0 : Int32) = (0 : Int32))).1) (by decide) (by decide) ?_
    show Steps p.tables e below (T7.setTop (mkF m 145 #[.val (.int p1), .val (.int (0 : Int32)), .val (.int (0 : Int32)), .val (.int (0 : Int32)), .val (.int (0 : Int32)), .val (.ref b2), .val (.ref b4), .val (.ref b6), .val (.int (0 : Int32)), .unset, .unset, .unset] [])) _
    refine XS.iload X7.here hx rfl (hb hby at_145) rfl ?_
    show Steps p.tables e below (T7.setTop (mkF m 147 #[.val (.int p1), .val (.int (0 : Int32)), .val (.int (0 : Int32)), .val (.int (0 : Int32)), .val (.int (0 : Int32)), .val (.ref b2), .val (.ref b4), .val (.ref b6), .val (.int (0 : Int32)), .unset, .unset, .unset] [(.int (0 : Int32))])) _
    refine XS.ifYes X7.here hx rfl (pc0 := 147) (pc' := 163) rfl (hb hby at_147) rfl ((if0 _ _).trans (teq (rfl : (0 : Int32) = (0 : Int32))).1) (by decide) (by decide) ?_
    show Steps p.tables e below (T7.setTop (mkF m 163 #[.val (.int p1), .val (.int (0 : Int32)), .val (.int (0 : Int32)), .val (.int (0 : Int32)), .val (.int (0 : Int32)), .val (.ref b2), .val (.ref b4), .val (.ref b6), .val (.int (0 : Int32)), .unset, .unset, .unset] [])) _
    refine XS.iload X7.here hx rfl (hb hby at_163) rfl ?_
    show Steps p.tables e below (T7.setTop (mkF m 165 #[.val (.int p1), .val (.int (0 : Int32)), .val (.int (0 : Int32)), .val (.int (0 : Int32)), .val (.int (0 : Int32)), .val (.ref b2), .val (.ref b4), .val (.ref b6), .val (.int (0 : Int32)), .unset, .unset, .unset] [(.int (0 : Int32))])) _
    refine own_tif_ne X7.here hx (hb hby at_165) (hb hby at_168) (hb hby at_169) (hb hby at_172) ?_
    show Steps p.tables e below (T7.setTop (mkF m 173 #[.val (.int p1), .val (.int (0 : Int32)), .val (.int (0 : Int32)), .val (.int (0 : Int32)), .val (.int (0 : Int32)), .val (.ref b2), .val (.ref b4), .val (.ref b6), .val (.int (0 : Int32)), .unset, .unset, .unset] [(.int (if (0 : Int32) = (0 : Int32) then (1 : Int32) else 0))])) _
    refine XS.istore X7.here hx rfl (hb hby at_173) rfl (l' := #[.val (.int p1), .val (.int (0 : Int32)), .val (.int (0 : Int32)), .val (.int (0 : Int32)), .val (.int (0 : Int32)), .val (.ref b2), .val (.ref b4), .val (.ref b6), .val (.int (0 : Int32)), .val (.int (if (0 : Int32) = (0 : Int32) then (1 : Int32) else 0)), .unset, .unset]) rfl ?_
    show Steps p.tables e below (T7.setTop (mkF m 175 #[.val (.int p1), .val (.int (0 : Int32)), .val (.int (0 : Int32)), .val (.int (0 : Int32)), .val (.int (0 : Int32)), .val (.ref b2), .val (.ref b4), .val (.ref b6), .val (.int (0 : Int32)), .val (.int (if (0 : Int32) = (0 : Int32) then (1 : Int32) else 0)), .unset, .unset] [])) _
    refine XS.aload X7.here hx rfl (hb hby at_175) rfl rfl ?_
    show Steps p.tables e below (T7.setTop (mkF m 177 #[.val (.int p1), .val (.int (0 : Int32)), .val (.int (0 : Int32)), .val (.int (0 : Int32)), .val (.int (0 : Int32)), .val (.ref b2), .val (.ref b4), .val (.ref b6), .val (.int (0 : Int32)), .val (.int (if (0 : Int32) = (0 : Int32) then (1 : Int32) else 0)), .unset, .unset] [(.ref b2)])) _
    refine st8.trans ?_
    show Steps p.tables e below (T8.setTop (mkF m 180 #[.val (.int p1), .val (.int (0 : Int32)), .val (.int (0 : Int32)), .val (.int (0 : Int32)), .val (.int (0 : Int32)), .val (.ref b2), .val (.ref b4), .val (.ref b6), .val (.int (0 : Int32)), .val (.int (if (0 : Int32) = (0 : Int32) then (1 : Int32) else 0)), .unset, .unset] [(.int (if (0 : Int32) = (0 : Int32) then (1 : Int32) else 0))])) _
    refine XS.istore X8.here hx rfl (hb hby at_180) rfl (l' := #[.val (.int p1), .val (.int (0 : Int32)), .val (.int (0 : Int32)), .val (.int (0 : Int32)), .val (.int (0 : Int32)), .val (.ref b2), .val (.ref b4), .val (.ref b6), .val (.int (0 : Int32)), .val (.int (if (0 : Int32) = (0 : Int32) then (1 : Int32) else 0)), .val (.int (if (0 : Int32) = (0 : Int32) then (1 : Int32) else 0)), .unset]) rfl ?_
    show Steps p.tables e below (T8.setTop (mkF m 182 #[.val (.int p1), .val (.int (0 : Int32)), .val (.int (0 : Int32)), .val (.int (0 : Int32)), .val (.int (0 : Int32)), .val (.ref b2), .val (.ref b4), .val (.ref b6), .val (.int (0 : Int32)), .val (.int (if (0 : Int32) = (0 : Int32) then (1 : Int32) else 0)), .val (.int (if (0 : Int32) = (0 : Int32) then (1 : Int32) else 0)), .unset] [])) _
    refine XS.aload X8.here hx rfl (hb hby at_182) rfl rfl ?_
    show Steps p.tables e below (T8.setTop (mkF m 184 #[.val (.int p1), .val (.int (0 : Int32)), .val (.int (0 : Int32)), .val (.int (0 : Int32)), .val (.int (0 : Int32)), .val (.ref b2), .val (.ref b4), .val (.ref b6), .val (.int (0 : Int32)), .val (.int (if (0 : Int32) = (0 : Int32) then (1 : Int32) else 0)), .val (.int (if (0 : Int32) = (0 : Int32) then (1 : Int32) else 0)), .unset] [(.ref b2)])) _
    refine st9.trans ?_
    show Steps p.tables e below (T9.setTop (mkF m 187 #[.val (.int p1), .val (.int (0 : Int32)), .val (.int (0 : Int32)), .val (.int (0 : Int32)), .val (.int (0 : Int32)), .val (.ref b2), .val (.ref b4), .val (.ref b6), .val (.int (0 : Int32)), .val (.int (if (0 : Int32) = (0 : Int32) then (1 : Int32) else 0)), .val (.int (if (0 : Int32) = (0 : Int32) then (1 : Int32) else 0)), .unset] [.null])) _
    refine XS.ifnonnullNo X9.here hx rfl (hb hby at_187) rfl ?_
    show Steps p.tables e below (T9.setTop (mkF m 190 #[.val (.int p1), .val (.int (0 : Int32)), .val (.int (0 : Int32)), .val (.int (0 : Int32)), .val (.int (0 : Int32)), .val (.ref b2), .val (.ref b4), .val (.ref b6), .val (.int (0 : Int32)), .val (.int (if (0 : Int32) = (0 : Int32) then (1 : Int32) else 0)), .val (.int (if (0 : Int32) = (0 : Int32) then (1 : Int32) else 0)), .unset] [])) _
    refine XS.iconst X9.here hx rfl (hb hby at_190) ?_
    show Steps p.tables e below (T9.setTop (mkF m 191 #[.val (.int p1), .val (.int (0 : Int32)), .val (.int (0 : Int32)), .val (.int (0 : Int32)), .val (.int (0 : Int32)), .val (.ref b2), .val (.ref b4), .val (.ref b6), .val (.int (0 : Int32)), .val (.int (if (0 : Int32) = (0 : Int32) then (1 : Int32) else 0)), .val (.int (if (0 : Int32) = (0 : Int32) then (1 : Int32) else 0)), .unset] [(.int (1 : Int32))])) _
    refine XS.goto X9.here hx rfl (pc0 := 191) (pc' := 195) rfl (hb hby at_191) (by decide) (by decide) ?_
    show Steps p.tables e below (T9.setTop (mkF m 195 #[.val (.int p1), .val (.int (0 : Int32)), .val (.int (0 : Int32)), .val (.int (0 : Int32)), .val (.int (0 : Int32)), .val (.ref b2), .val (.ref b4), .val (.ref b6), .val (.int (0 : Int32)), .val (.int (if (0 : Int32) = (0 : Int32) then (1 : Int32) else 0)), .val (.int (if (0 : Int32) = (0 : Int32) then (1 : Int32) else 0)), .unset] [(.int (1 : Int32))])) _
    refine XS.istore X9.here hx rfl (hb hby at_195) rfl (l' := #[.val (.int p1), .val (.int (0 : Int32)), .val (.int (0 : Int32)), .val (.int (0 : Int32)), .val (.int (0 : Int32)), .val (.ref b2), .val (.ref b4), .val (.ref b6), .val (.int (0 : Int32)), .val (.int (if (0 : Int32) = (0 : Int32) then (1 : Int32) else 0)), .val (.int (if (0 : Int32) = (0 : Int32) then (1 : Int32) else 0)), .val (.int (1 : Int32))]) rfl ?_
    show Steps p.tables e below (T9.setTop (mkF m 197 #[.val (.int p1), .val (.int (0 : Int32)), .val (.int (0 : Int32)), .val (.int (0 : Int32)), .val (.int (0 : Int32)), .val (.ref b2), .val (.ref b4), .val (.ref b6), .val (.int (0 : Int32)), .val (.int (if (0 : Int32) = (0 : Int32) then (1 : Int32) else 0)), .val (.int (if (0 : Int32) = (0 : Int32) then (1 : Int32) else 0)), .val (.int (1 : Int32))] [])) _
    refine XS.iload X9.here hx rfl (hb hby at_197) rfl ?_
    show Steps p.tables e below (T9.setTop (mkF m 199 #[.val (.int p1), .val (.int (0 : Int32)), .val (.int (0 : Int32)), .val (.int (0 : Int32)), .val (.int (0 : Int32)), .val (.ref b2), .val (.ref b4), .val (.ref b6), .val (.int (0 : Int32)), .val (.int (if (0 : Int32) = (0 : Int32) then (1 : Int32) else 0)), .val (.int (if (0 : Int32) = (0 : Int32) then (1 : Int32) else 0)), .val (.int (1 : Int32))] [(.int (if (0 : Int32) = (0 : Int32) then (1 : Int32) else 0))])) _
    refine XS.iload X9.here hx rfl (hb hby at_199) rfl ?_
    show Steps p.tables e below (T9.setTop (mkF m 201 #[.val (.int p1), .val (.int (0 : Int32)), .val (.int (0 : Int32)), .val (.int (0 : Int32)), .val (.int (0 : Int32)), .val (.ref b2), .val (.ref b4), .val (.ref b6), .val (.int (0 : Int32)), .val (.int (if (0 : Int32) = (0 : Int32) then (1 : Int32) else 0)), .val (.int (if (0 : Int32) = (0 : Int32) then (1 : Int32) else 0)), .val (.int (1 : Int32))] [(.int (if (0 : Int32) = (0 : Int32) then (1 : Int32) else 0)), (.int (if (0 : Int32) = (0 : Int32) then (1 : Int32) else 0))])) _
    refine XS.icmpNo X9.here hx rfl (hb hby at_201) rfl (teq (rfl : (if (0 : Int32) = (0 : Int32) then (1 : Int32) else 0) = (if (0 : Int32) = (0 : Int32) then (1 : Int32) else 0))).2 ?_
    show Steps p.tables e below (T9.setTop (mkF m 204 #[.val (.int p1), .val (.int (0 : Int32)), .val (.int (0 : Int32)), .val (.int (0 : Int32)), .val (.int (0 : Int32)), .val (.ref b2), .val (.ref b4), .val (.ref b6), .val (.int (0 : Int32)), .val (.int (if (0 : Int32) = (0 : Int32) then (1 : Int32) else 0)), .val (.int (if (0 : Int32) = (0 : Int32) then (1 : Int32) else 0)), .val (.int (1 : Int32))] [])) _
    refine XS.iload X9.here hx rfl (hb hby at_204) rfl ?_
    show Steps p.tables e below (T9.setTop (mkF m 206 #[.val (.int p1), .val (.int (0 : Int32)), .val (.int (0 : Int32)), .val (.int (0 : Int32)), .val (.int (0 : Int32)), .val (.ref b2), .val (.ref b4), .val (.ref b6), .val (.int (0 : Int32)), .val (.int (if (0 : Int32) = (0 : Int32) then (1 : Int32) else 0)), .val (.int (if (0 : Int32) = (0 : Int32) then (1 : Int32) else 0)), .val (.int (1 : Int32))] [(.int (1 : Int32))])) _
    refine XS.iload X9.here hx rfl (hb hby at_206) rfl ?_
    show Steps p.tables e below (T9.setTop (mkF m 208 #[.val (.int p1), .val (.int (0 : Int32)), .val (.int (0 : Int32)), .val (.int (0 : Int32)), .val (.int (0 : Int32)), .val (.ref b2), .val (.ref b4), .val (.ref b6), .val (.int (0 : Int32)), .val (.int (if (0 : Int32) = (0 : Int32) then (1 : Int32) else 0)), .val (.int (if (0 : Int32) = (0 : Int32) then (1 : Int32) else 0)), .val (.int (1 : Int32))] [(.int (if (0 : Int32) = (0 : Int32) then (1 : Int32) else 0)), (.int (1 : Int32))])) _
    refine XS.icmpNo X9.here hx rfl (hb hby at_208) rfl (teq hc208).2 ?_
    show Steps p.tables e below (T9.setTop (mkF m 211 #[.val (.int p1), .val (.int (0 : Int32)), .val (.int (0 : Int32)), .val (.int (0 : Int32)), .val (.int (0 : Int32)), .val (.ref b2), .val (.ref b4), .val (.ref b6), .val (.int (0 : Int32)), .val (.int (if (0 : Int32) = (0 : Int32) then (1 : Int32) else 0)), .val (.int (if (0 : Int32) = (0 : Int32) then (1 : Int32) else 0)), .val (.int (1 : Int32))] [])) _
    refine XS.iconst X9.here hx rfl (hb hby at_211) ?_
    show Steps p.tables e below (T9.setTop (mkF m 212 #[.val (.int p1), .val (.int (0 : Int32)), .val (.int (0 : Int32)), .val (.int (0 : Int32)), .val (.int (0 : Int32)), .val (.ref b2), .val (.ref b4), .val (.ref b6), .val (.int (0 : Int32)), .val (.int (if (0 : Int32) = (0 : Int32) then (1 : Int32) else 0)), .val (.int (if (0 : Int32) = (0 : Int32) then (1 : Int32) else 0)), .val (.int (1 : Int32))] [(.int (1 : Int32))])) _
    refine XS.goto X9.here hx rfl (pc0 := 212) (pc' := 216) rfl (hb hby at_212) (by decide) (by decide) ?_
    show Steps p.tables e below (T9.setTop (mkF m 216 #[.val (.int p1), .val (.int (0 : Int32)), .val (.int (0 : Int32)), .val (.int (0 : Int32)), .val (.int (0 : Int32)), .val (.ref b2), .val (.ref b4), .val (.ref b6), .val (.int (0 : Int32)), .val (.int (if (0 : Int32) = (0 : Int32) then (1 : Int32) else 0)), .val (.int (if (0 : Int32) = (0 : Int32) then (1 : Int32) else 0)), .val (.int (1 : Int32))] [(.int (1 : Int32))])) _
    exact retN X9 hx (t := .boolean) Bd.returns (by simp) (hb hby at_216) hr
  · show Q0 Z p1 h0 n0 _ T9.heap _
    rw [e9]
    exact ⟨rfl, N9⟩
theorem pd_0_4 : parseMethodDescriptor "(Lcom/example/idlewell/idlewell/engine/PooledObject;)V" = some ⟨[(.object "com/example/idlewell/idlewell/engine/PooledObject")], none⟩ := by decide +kernel

set_option maxRecDepth 65536 in
set_option maxHeartbeats 40000000 in
theorem rm0_1 (l : Launch) (Z : State) (a0 : Array Value) (hw : ∀ d ∈ tables_1, d.before a0 Z = true) (ws : List Jvm.Cond) (p1 : Int32) (h0 : Heap) (n0 : Nat) (Z0 : n0 ≤ h0.size) (hc3 : (p1 &&& (1 : Int32)) = (0 : Int32)) (hc15 : ¬ ((p1 &&& (2 : Int32)) = (0 : Int32))) (hc41 : ¬ ((1 : Int32) = (0 : Int32))) (hc48 : (p1 &&& (8 : Int32)) = (0 : Int32)) (hc112 : ¬ ((1 : Int32) = (0 : Int32))) (hc208 : (0 : Int32) = (if ((0 : Int32) + (1 : Int32)) = (0 : Int32) then (1 : Int32) else 0)) :
    MetFree l x (head1 (Jvm.Cond.code x code maxLocals ret :: ws) room_1) (fun a U => a = #[(.int p1)] ∧ Z.Warmed39 U.vm ∧ U.heap = h0) (fun _ _ _ _ _ => True) (fun _ U o U' => ∃ v L, o = .returned v ∧ Q0 Z p1 h0 n0 v U'.heap L ∧ FrameEnd U o U' L room_1.cells room_1.slots) := by
  refine MetFree.of_bodySF (plainFor_of_name pn_0) hisR ?_
  intro p e s m args below meth c s₁ Bd hml0 hP hK
  obtain ⟨rfl, hZ, hh⟩ := hP
  have hx := Bd.exec
  have hby := Bd.bytes
  have hml : c.maxLocals = 12 := hml0
  have hown : s.vm.findClass "com/example/idlewell/idlewell/engine/ObjectListIsEmptyPinLaw" = some m.cls := findClass_of_methodNamed Bd.named
  have hnm := (name_of_methodNamed Bd.named Bd.method).1
  have X0 : Stand p l e room_1 s m #[(.int p1)] below meth c s₁ [] 0 0 := Stand.of_body Bd
  have e0 : s₁.heap = h0 := by rw [← hh, Bd.state]; rfl
  have N0 := Fr.nil n0
  have pre0 : ∀ t, Steps p.tables e below (s₁.setTop (mkF m 0 #[.val (.int p1), .unset, .unset, .unset, .unset, .unset, .unset, .unset, .unset, .unset, .unset, .unset] [])) t → Steps p.tables e below (s₁.setTop (entryFrame m #[(.int p1)] maxLocals)) t := fun t k => castTop (ef_0 m p1) k
  obtain ⟨T2, h2, X2, e2, E2, A2, D2, -, st2⟩ := newO X0 hx hZ hown (hw _ (List.mem_of_getElem? (i := 0) rfl)) (hw _ (List.mem_of_getElem? (i := 1) rfl)) (hw _ (List.mem_of_getElem? (i := 2) rfl)) e0 (g := (mkF m 58 #[.val (.int p1), .val (.int (0 : Int32)), .val (.int (1 : Int32)), .val (.int (0 : Int32)), .val (.int (0 : Int32)), .unset, .unset, .unset, .unset, .unset, .unset, .unset] [])) rfl (hb hby at_58) (by decide) (by decide)
  obtain ⟨b2, g2⟩ : ∃ z, z = h0.size := ⟨_, rfl⟩
  rw [← g2] at A2 D2 st2
  have F_size_b2 : Fld Z h2 b2 "com/example/idlewell/idlewell/engine/ObjectList" "size" "I" (.int (0 : Int32)) := D2 (Or.inl (hw _ (List.mem_of_getElem? (i := 28) rfl))) (ty := .int) (by decide)
  have F_newest_b2 : Fld Z h2 b2 "com/example/idlewell/idlewell/engine/ObjectList" "newest" "Lcom/example/idlewell/idlewell/engine/PooledObject;" .null := D2 (Or.inl (hw _ (List.mem_of_getElem? (i := 35) rfl))) (ty := (.object "com/example/idlewell/idlewell/engine/PooledObject")) (by decide)
  have F_oldest_b2 : Fld Z h2 b2 "com/example/idlewell/idlewell/engine/ObjectList" "oldest" "Lcom/example/idlewell/idlewell/engine/PooledObject;" .null := D2 (Or.inl (hw _ (List.mem_of_getElem? (i := 47) rfl))) (ty := (.object "com/example/idlewell/idlewell/engine/PooledObject")) (by decide)
  have E_b2 := A2
  have g_b2 : n0 ≤ b2 := Nat.le_trans Z0 (Nat.le_of_eq g2.symm)
  have sz_b2 : h0.size ≤ b2 := (Nat.le_trans (Keep.refl h0 []).1 (Nat.le_of_eq g2.symm))
  have K2 : Keep h0 h2 [] := (Keep.refl h0 []).ext E2
  obtain ⟨_, _, ⟨T3, L3, k3, n3⟩, -, X3, ⟨Lc3, hQ3, l3, y3, z3⟩, st3⟩ := X2.specialBack hx (y := (⟨"com/example/idlewell/idlewell/engine/ObjectList", "<init>", "()V"⟩ : MethodName)) rfl hown (mvT hZ (hw _ (List.mem_of_getElem? (i := 3) rfl))) (mvT hZ (hw _ (List.mem_of_getElem? (i := 4) rfl))) (mvT hZ (hw _ (List.mem_of_getElem? (i := 5) rfl))) (by decide) (backOf (W := 1) (rm1 l Z a0 hw [] b2  h2 n0 (Nat.le_trans Z0 E2.1)) hZ (hw _ (List.mem_of_getElem? (i := 5) rfl)) (hw _ (List.mem_of_getElem? (i := 2) rfl)) (by decide) (by decide)) (g := (mkF m 62 #[.val (.int p1), .val (.int (0 : Int32)), .val (.int (1 : Int32)), .val (.int (0 : Int32)), .val (.int (0 : Int32)), .unset, .unset, .unset, .unset, .unset, .unset, .unset] [(.ref b2), (.ref b2)])) rfl (by rw [hml]; rfl) (Steps.refl _) (a := b2) (argsL := []) (rest := [(.ref b2)]) (lenOf pd_0_0 rfl) rfl (by show 2 * 0 + _ ≤ _; exact Nat.le_of_eq rfl) (hb hby at_62) (fun _ _ => ⟨rfl, e2, (by decide : 1 + 0 ≤ _), (by decide : 3 + 0 ≤ _)⟩)
  dsimp only [Pt.U, Pt.locs, Pt.cells, Pt.slots] at X3 l3 y3 z3 st3 hQ3
  subst l3 y3 z3
  obtain ⟨rfl, N3q, e3⟩ := hQ3
  have N3 := Fr.app N0 N3q
  obtain ⟨T4, h4, X4, e4, E4, A4, D4, -, st4⟩ := newO X3 hx hZ hown (hw _ (List.mem_of_getElem? (i := 9) rfl)) (hw _ (List.mem_of_getElem? (i := 10) rfl)) (hw _ (List.mem_of_getElem? (i := 11) rfl)) e3 (g := (mkF m 67 #[.val (.int p1), .val (.int (0 : Int32)), .val (.int (1 : Int32)), .val (.int (0 : Int32)), .val (.int (0 : Int32)), .val (.ref b2), .unset, .unset, .unset, .unset, .unset, .unset] [])) rfl (hb hby at_67) (by decide) (by decide)
  obtain ⟨b4, g4⟩ : ∃ z, z = h2.size := ⟨_, rfl⟩
  rw [← g4] at A4 D4 st4
  have F_pool_b4 : Fld Z h4 b4 "com/example/idlewell/idlewell/engine/PooledObject" "pool" "Lcom/example/idlewell/idlewell/engine/BoundedPool;" .null := D4 (Or.inr (hw _ (List.mem_of_getElem? (i := 17) rfl))) (ty := (.object "com/example/idlewell/idlewell/engine/BoundedPool")) (by decide)
  have F_object_b4 : Fld Z h4 b4 "com/example/idlewell/idlewell/engine/PooledObject" "object" "Ljava/lang/Object;" .null := D4 (Or.inr (hw _ (List.mem_of_getElem? (i := 19) rfl))) (ty := (.object "java/lang/Object")) (by decide)
  have F_slot_b4 : Fld Z h4 b4 "com/example/idlewell/idlewell/engine/PooledObject" "slot" "Lcom/example/idlewell/idlewell/engine/ThreadSlot;" .null := D4 (Or.inr (hw _ (List.mem_of_getElem? (i := 21) rfl))) (ty := (.object "com/example/idlewell/idlewell/engine/ThreadSlot")) (by decide)
  have F_older_b4 : Fld Z h4 b4 "com/example/idlewell/idlewell/engine/PooledObject" "older" "Lcom/example/idlewell/idlewell/engine/PooledObject;" .null := D4 (Or.inl (hw _ (List.mem_of_getElem? (i := 49) rfl))) (ty := (.object "com/example/idlewell/idlewell/engine/PooledObject")) (by decide)
  have F_newer_b4 : Fld Z h4 b4 "com/example/idlewell/idlewell/engine/PooledObject" "newer" "Lcom/example/idlewell/idlewell/engine/PooledObject;" .null := D4 (Or.inl (hw _ (List.mem_of_getElem? (i := 51) rfl))) (ty := (.object "com/example/idlewell/idlewell/engine/PooledObject")) (by decide)
  have E_b4 := A4
  have g_b4 : n0 ≤ b4 := Nat.le_trans (Nat.le_trans Z0 E2.1) (Nat.le_of_eq g4.symm)
  have sz_b4 : h0.size ≤ b4 := (Nat.le_trans K2.1 (Nat.le_of_eq g4.symm))
  have K4 : Keep h0 h4 [] := K2.ext E4
  obtain ⟨_, _, ⟨T5, L5, k5, n5⟩, -, X5, ⟨Lc5, hQ5, l5, y5, z5⟩, st5⟩ := X4.specialBack hx (y := (⟨"com/example/idlewell/idlewell/engine/PooledObject", "<init>", "(Lcom/example/idlewell/idlewell/engine/BoundedPool;Ljava/lang/Object;Z)V"⟩ : MethodName)) rfl hown (mvT hZ (hw _ (List.mem_of_getElem? (i := 12) rfl))) (mvT hZ (hw _ (List.mem_of_getElem? (i := 13) rfl))) (mvT hZ (hw _ (List.mem_of_getElem? (i := 14) rfl))) (by decide) (backOf (W := 1) (rm3 l Z a0 hw [] b4 (0 : Int32) .null .null .null h4 n0 (Nat.le_trans (Nat.le_trans Z0 E2.1) E4.1) E_b4 F_newer_b4 F_older_b4 F_pool_b4 g_b4 F_object_b4 F_slot_b4 rfl) hZ (hw _ (List.mem_of_getElem? (i := 14) rfl)) (hw _ (List.mem_of_getElem? (i := 11) rfl)) (by decide) (by decide)) (g := (mkF m 74 #[.val (.int p1), .val (.int (0 : Int32)), .val (.int (1 : Int32)), .val (.int (0 : Int32)), .val (.int (0 : Int32)), .val (.ref b2), .unset, .unset, .unset, .unset, .unset, .unset] [(.int (0 : Int32)), .null, .null, (.ref b4), (.ref b4)])) rfl (by rw [hml]; rfl) (Steps.refl _) (a := b4) (argsL := [.null, .null, (.int (0 : Int32))]) (rest := [(.ref b4)]) (lenOf pd_0_1 rfl) rfl (by show 2 * 0 + _ ≤ _; exact Nat.le_of_eq rfl) (hb hby at_74) (fun _ _ => ⟨rfl, e4, (by decide : 2 + 0 ≤ _), (by decide : 13 + 0 ≤ _)⟩)
  dsimp only [Pt.U, Pt.locs, Pt.cells, Pt.slots] at X5 l5 y5 z5 st5 hQ5
  subst l5 y5 z5
  obtain ⟨rfl, N5q, Kq5, Ex5, Fn5, Fo5⟩ := hQ5
  have N5 := Fr.app N3 N5q
  obtain ⟨T6, h6, X6, e6, E6, A6, D6, -, st6⟩ := newO X5 hx hZ hown (hw _ (List.mem_of_getElem? (i := 9) rfl)) (hw _ (List.mem_of_getElem? (i := 10) rfl)) (hw _ (List.mem_of_getElem? (i := 11) rfl)) rfl (g := (mkF m 79 #[.val (.int p1), .val (.int (0 : Int32)), .val (.int (1 : Int32)), .val (.int (0 : Int32)), .val (.int (0 : Int32)), .val (.ref b2), .val (.ref b4), .unset, .unset, .unset, .unset, .unset] [])) rfl (hb hby at_79) (by decide) (by decide)
  obtain ⟨b6, g6⟩ : ∃ z, z = T5.heap.size := ⟨_, rfl⟩
  rw [← g6] at A6 D6 st6
  have F_pool_b6 : Fld Z h6 b6 "com/example/idlewell/idlewell/engine/PooledObject" "pool" "Lcom/example/idlewell/idlewell/engine/BoundedPool;" .null := D6 (Or.inr (hw _ (List.mem_of_getElem? (i := 17) rfl))) (ty := (.object "com/example/idlewell/idlewell/engine/BoundedPool")) (by decide)
  have F_object_b6 : Fld Z h6 b6 "com/example/idlewell/idlewell/engine/PooledObject" "object" "Ljava/lang/Object;" .null := D6 (Or.inr (hw _ (List.mem_of_getElem? (i := 19) rfl))) (ty := (.object "java/lang/Object")) (by decide)
  have F_slot_b6 : Fld Z h6 b6 "com/example/idlewell/idlewell/engine/PooledObject" "slot" "Lcom/example/idlewell/idlewell/engine/ThreadSlot;" .null := D6 (Or.inr (hw _ (List.mem_of_getElem? (i := 21) rfl))) (ty := (.object "com/example/idlewell/idlewell/engine/ThreadSlot")) (by decide)
  have F_older_b6 : Fld Z h6 b6 "com/example/idlewell/idlewell/engine/PooledObject" "older" "Lcom/example/idlewell/idlewell/engine/PooledObject;" .null := D6 (Or.inl (hw _ (List.mem_of_getElem? (i := 49) rfl))) (ty := (.object "com/example/idlewell/idlewell/engine/PooledObject")) (by decide)
  have F_newer_b6 : Fld Z h6 b6 "com/example/idlewell/idlewell/engine/PooledObject" "newer" "Lcom/example/idlewell/idlewell/engine/PooledObject;" .null := D6 (Or.inl (hw _ (List.mem_of_getElem? (i := 51) rfl))) (ty := (.object "com/example/idlewell/idlewell/engine/PooledObject")) (by decide)
  have E_b6 := A6
  have g_b6 : n0 ≤ b6 := Nat.le_trans (Nat.le_trans (Nat.le_trans (Nat.le_trans Z0 E2.1) E4.1) Kq5.1) (Nat.le_of_eq g6.symm)
  obtain ⟨_, _, ⟨T7, L7, k7, n7⟩, -, X7, ⟨Lc7, hQ7, l7, y7, z7⟩, st7⟩ := X6.specialBack hx (y := (⟨"com/example/idlewell/idlewell/engine/PooledObject", "<init>", "(Lcom/example/idlewell/idlewell/engine/BoundedPool;Ljava/lang/Object;Z)V"⟩ : MethodName)) rfl hown (mvT hZ (hw _ (List.mem_of_getElem? (i := 12) rfl))) (mvT hZ (hw _ (List.mem_of_getElem? (i := 13) rfl))) (mvT hZ (hw _ (List.mem_of_getElem? (i := 14) rfl))) (by decide) (backOf (W := 1) (rm3 l Z a0 hw [] b6 (0 : Int32) .null .null .null h6 n0 (Nat.le_trans (Nat.le_trans (Nat.le_trans (Nat.le_trans Z0 E2.1) E4.1) Kq5.1) E6.1) E_b6 F_newer_b6 F_older_b6 F_pool_b6 g_b6 F_object_b6 F_slot_b6 rfl) hZ (hw _ (List.mem_of_getElem? (i := 14) rfl)) (hw _ (List.mem_of_getElem? (i := 11) rfl)) (by decide) (by decide)) (g := (mkF m 86 #[.val (.int p1), .val (.int (0 : Int32)), .val (.int (1 : Int32)), .val (.int (0 : Int32)), .val (.int (0 : Int32)), .val (.ref b2), .val (.ref b4), .unset, .unset, .unset, .unset, .unset] [(.int (0 : Int32)), .null, .null, (.ref b6), (.ref b6)])) rfl (by rw [hml]; rfl) (Steps.refl _) (a := b6) (argsL := [.null, .null, (.int (0 : Int32))]) (rest := [(.ref b6)]) (lenOf pd_0_1 rfl) rfl (by show 2 * 0 + _ ≤ _; exact Nat.le_of_eq rfl) (hb hby at_86) (fun _ _ => ⟨rfl, e6, (by decide : 3 + 0 ≤ _), (by decide : 23 + 0 ≤ _)⟩)
  dsimp only [Pt.U, Pt.locs, Pt.cells, Pt.slots] at X7 l7 y7 z7 st7 hQ7
  subst l7 y7 z7
  obtain ⟨rfl, N7q, Kq7, Ex7, Fn7, Fo7⟩ := hQ7
  have N7 := Fr.app N5 N7q
  obtain ⟨cq8, kq8, q8a, q8b, q8c⟩ := isOf hZ rfl ((((E_b2.ext E4).keep Kq5).ext E6).keep Kq7)
  obtain ⟨_, _, ⟨T8, L8, k8, n8⟩, -, X8, ⟨Lc8, hQ8, l8, y8, z8⟩, st8⟩ := X7.virtualBack hx (y := (⟨"com/example/idlewell/idlewell/engine/ObjectList", "addNewest", "(Lcom/example/idlewell/idlewell/engine/PooledObject;)V"⟩ : MethodName)) (z := (⟨"com/example/idlewell/idlewell/engine/ObjectList", "addNewest", "(Lcom/example/idlewell/idlewell/engine/PooledObject;)V"⟩ : MethodName)) hown (mvT hZ (hw _ (List.mem_of_getElem? (i := 36) rfl))) (mvT hZ (hw _ (List.mem_of_getElem? (i := 37) rfl))) (notFace_of_selects (args := #[]) (mvT hZ (hw _ (List.mem_of_getElem? (i := 39) rfl)))) (mvT hZ (hw _ (List.mem_of_getElem? (i := 39) rfl))) (mvT hZ (hw _ (List.mem_of_getElem? (i := 38) rfl))) (by decide) (backOf (W := 0) (rm6A l Z a0 hw [] b2 b6 b4 (0 : Int32) T7.heap n0 (Nat.le_trans (Nat.le_trans (Nat.le_trans (Nat.le_trans (Nat.le_trans Z0 E2.1) E4.1) Kq5.1) E6.1) Kq7.1) ⟨((((E_b2.ext E4).keep Kq5).ext E6).keep Kq7), Ex7, ((Ex5.ext E6).keep Kq7), ((((F_newest_b2.ext E4).keep Kq5 (fun q_ => (Nat.ne_of_lt (Nat.lt_of_lt_of_le E_b2.lt (Nat.le_of_eq g4.symm))) (List.mem_singleton.mp q_))).ext E6).keep Kq7 (fun q_ => (Nat.ne_of_lt (Nat.lt_of_lt_of_le ((E_b2.ext E4).keep Kq5).lt (Nat.le_of_eq g6.symm))) (List.mem_singleton.mp q_))), ((((F_oldest_b2.ext E4).keep Kq5 (fun q_ => (Nat.ne_of_lt (Nat.lt_of_lt_of_le E_b2.lt (Nat.le_of_eq g4.symm))) (List.mem_singleton.mp q_))).ext E6).keep Kq7 (fun q_ => (Nat.ne_of_lt (Nat.lt_of_lt_of_le ((E_b2.ext E4).keep Kq5).lt (Nat.le_of_eq g6.symm))) (List.mem_singleton.mp q_))), ((((F_size_b2.ext E4).keep Kq5 (fun q_ => (Nat.ne_of_lt (Nat.lt_of_lt_of_le E_b2.lt (Nat.le_of_eq g4.symm))) (List.mem_singleton.mp q_))).ext E6).keep Kq7 (fun q_ => (Nat.ne_of_lt (Nat.lt_of_lt_of_le ((E_b2.ext E4).keep Kq5).lt (Nat.le_of_eq g6.symm))) (List.mem_singleton.mp q_))), Fn7, Fo7, ((Fn5.ext E6).keep Kq7 (fun q_ => (Nat.ne_of_lt (Nat.lt_of_lt_of_le Ex5.lt (Nat.le_of_eq g6.symm))) (List.mem_singleton.mp q_))), ((Fo5.ext E6).keep Kq7 (fun q_ => (Nat.ne_of_lt (Nat.lt_of_lt_of_le Ex5.lt (Nat.le_of_eq g6.symm))) (List.mem_singleton.mp q_)))⟩ g_b2 g_b6 g_b4 (Nat.ne_of_lt (Nat.lt_of_lt_of_le ((E_b2.ext E4).keep Kq5).lt (Nat.le_of_eq g6.symm))) (Nat.ne_of_lt (Nat.lt_of_lt_of_le E_b2.lt (Nat.le_of_eq g4.symm))) (Ne.symm (Nat.ne_of_lt (Nat.lt_of_lt_of_le Ex5.lt (Nat.le_of_eq g6.symm))))) hZ (hw _ (List.mem_of_getElem? (i := 40) rfl)) (hw _ (List.mem_of_getElem? (i := 2) rfl)) (by decide) (by decide)) q8a q8c (g := (mkF m 119 #[.val (.int p1), .val (.int (0 : Int32)), .val (.int (1 : Int32)), .val (.int (0 : Int32)), .val (.int (0 : Int32)), .val (.ref b2), .val (.ref b4), .val (.ref b6), .val (.int (0 : Int32)), .unset, .unset, .unset] [(.ref b6), (.ref b2)])) rfl (by rw [hml]; rfl) (Steps.refl _) (argsL := [(.ref b6)]) (rest := []) (lenOf pd_0_4 rfl) rfl (by show 2 * 0 + _ ≤ _; exact Nat.le_of_eq rfl) (hb hby at_119) (fun _ _ => ⟨rfl, rfl, (by decide : 3 + 0 ≤ _), (by decide : 23 + 0 ≤ _)⟩)
  dsimp only [Pt.U, Pt.locs, Pt.cells, Pt.slots] at X8 l8 y8 z8 st8 hQ8
  subst l8 y8 z8
  obtain ⟨rfl, N8q, Kq8, ⟨E_o8, E_p8, E_q8, Fnw8, Fod8, Fsz8, Fpn8, Fpo8, Fqn8, Fqo8⟩⟩ := hQ8
  have N8 := Fr.app N7 N8q
  obtain ⟨cq9, kq9, q9a, q9b, q9c⟩ := isOf hZ rfl E_o8
  obtain ⟨_, _, ⟨T9, L9, k9, n9⟩, -, X9, ⟨Lc9, hQ9, l9, y9, z9⟩, st9⟩ := X8.virtualBack hx (y := (⟨"com/example/idlewell/idlewell/engine/ObjectList", "isEmpty", "()Z"⟩ : MethodName)) (z := (⟨"com/example/idlewell/idlewell/engine/ObjectList", "isEmpty", "()Z"⟩ : MethodName)) hown (mvT hZ (hw _ (List.mem_of_getElem? (i := 22) rfl))) (mvT hZ (hw _ (List.mem_of_getElem? (i := 23) rfl))) (notFace_of_selects (args := #[]) (mvT hZ (hw _ (List.mem_of_getElem? (i := 25) rfl)))) (mvT hZ (hw _ (List.mem_of_getElem? (i := 25) rfl))) (mvT hZ (hw _ (List.mem_of_getElem? (i := 24) rfl))) (by decide) (backOf (W := 0) (rm4 l Z a0 hw [] b2 ((0 : Int32) + (1 : Int32)) T8.heap n0 (Nat.le_trans (Nat.le_trans (Nat.le_trans (Nat.le_trans (Nat.le_trans (Nat.le_trans Z0 E2.1) E4.1) Kq5.1) E6.1) Kq7.1) Kq8.1) Fsz8) hZ (hw _ (List.mem_of_getElem? (i := 26) rfl)) (hw _ (List.mem_of_getElem? (i := 2) rfl)) (by decide) (by decide)) q9a q9c (g := (mkF m 177 #[.val (.int p1), .val (.int (0 : Int32)), .val (.int (1 : Int32)), .val (.int (0 : Int32)), .val (.int (0 : Int32)), .val (.ref b2), .val (.ref b4), .val (.ref b6), .val (.int ((0 : Int32) + (1 : Int32))), .val (.int (if ((0 : Int32) + (1 : Int32)) = (0 : Int32) then (1 : Int32) else 0)), .unset, .unset] [(.ref b2)])) rfl (by rw [hml]; rfl) (Steps.refl _) (argsL := []) (rest := []) (lenOf pd_0_2 rfl) rfl (by show 2 * 0 + _ ≤ _; exact Nat.le_of_eq rfl) (hb hby at_177) (fun _ _ => ⟨rfl, rfl, (by decide : 3 + 0 ≤ _), (by decide : 23 + 0 ≤ _)⟩)
  dsimp only [Pt.U, Pt.locs, Pt.cells, Pt.slots] at X9 l9 y9 z9 st9 hQ9
  subst l9 y9 z9
  obtain ⟨rfl, N9q, e9⟩ := hQ9
  have N9 := Fr.app N8 N9q
  obtain ⟨cq10, kq10, q10a, q10b, q10c⟩ := isOf hZ e9 E_o8
  obtain ⟨_, _, ⟨T10, L10, k10, n10⟩, -, X10, ⟨Lc10, hQ10, l10, y10, z10⟩, st10⟩ := X9.virtualBack hx (y := (⟨"com/example/idlewell/idlewell/engine/ObjectList", "newest", "()Lcom/example/idlewell/idlewell/engine/PooledObject;"⟩ : MethodName)) (z := (⟨"com/example/idlewell/idlewell/engine/ObjectList", "newest", "()Lcom/example/idlewell/idlewell/engine/PooledObject;"⟩ : MethodName)) hown (mvT hZ (hw _ (List.mem_of_getElem? (i := 29) rfl))) (mvT hZ (hw _ (List.mem_of_getElem? (i := 30) rfl))) (notFace_of_selects (args := #[]) (mvT hZ (hw _ (List.mem_of_getElem? (i := 32) rfl)))) (mvT hZ (hw _ (List.mem_of_getElem? (i := 32) rfl))) (mvT hZ (hw _ (List.mem_of_getElem? (i := 31) rfl))) (by decide) (backOf (W := 0) (rm5r l Z a0 hw [] b2 b6 T8.heap n0 (Nat.le_trans (Nat.le_trans (Nat.le_trans (Nat.le_trans (Nat.le_trans (Nat.le_trans Z0 E2.1) E4.1) Kq5.1) E6.1) Kq7.1) Kq8.1) Fnw8) hZ (hw _ (List.mem_of_getElem? (i := 33) rfl)) (hw _ (List.mem_of_getElem? (i := 2) rfl)) (by decide) (by decide)) q10a q10c (g := (mkF m 184 #[.val (.int p1), .val (.int (0 : Int32)), .val (.int (1 : Int32)), .val (.int (0 : Int32)), .val (.int (0 : Int32)), .val (.ref b2), .val (.ref b4), .val (.ref b6), .val (.int ((0 : Int32) + (1 : Int32))), .val (.int (if ((0 : Int32) + (1 : Int32)) = (0 : Int32) then (1 : Int32) else 0)), .val (.int (if ((0 : Int32) + (1 : Int32)) = (0 : Int32) then (1 : Int32) else 0)), .unset] [(.ref b2)])) rfl (by rw [hml]; rfl) (Steps.refl _) (argsL := []) (rest := []) (lenOf pd_0_3 rfl) rfl (by show 2 * 0 + _ ≤ _; exact Nat.le_of_eq rfl) (hb hby at_184) (fun _ _ => ⟨rfl, e9, (by decide : 3 + 0 ≤ _), (by decide : 23 + 0 ≤ _)⟩)
  dsimp only [Pt.U, Pt.locs, Pt.cells, Pt.slots] at X10 l10 y10 z10 st10 hQ10
  subst l10 y10 z10
  obtain ⟨rfl, N10q, e10⟩ := hQ10
  have N10 := Fr.app N9 N10q
  obtain ⟨fs, hr, hrun, hended, hW, hsame⟩ := X10.leave (v := some (.int (1 : Int32))) (fun h => by rw [Bd.returns] at h; cases h)
  refine ⟨_, _, pre0 _ ?_, hrun, hended, _, _, rfl, ?_, ⟨_, rfl⟩, hW, hsame.mono (by decide) (by decide)⟩
  · show Steps p.tables e below (s₁.setTop (mkF m 0 #[.val (.int p1), .unset, .unset, .unset, .unset, .unset, .unset, .unset, .unset, .unset, .unset, .unset] [])) _
    refine XS.iloadN X0.here hx rfl (hb hby at_0) rfl ?_
    show Steps p.tables e below (s₁.setTop (mkF m 1 #[.val (.int p1), .unset, .unset, .unset, .unset, .unset, .unset, .unset, .unset, .unset, .unset, .unset] [(.int p1)])) _
    refine XS.iconst X0.here hx rfl (hb hby at_1) ?_
    show Steps p.tables e below (s₁.setTop (mkF m 2 #[.val (.int p1), .unset, .unset, .unset, .unset, .unset, .unset, .unset, .unset, .unset, .unset, .unset] [(.int (1 : Int32)), (.int p1)])) _
    refine XS.iand X0.here hx rfl (hb hby at_2) rfl ?_
    show Steps p.tables e below (s₁.setTop (mkF m 3 #[.val (.int p1), .unset, .unset, .unset, .unset, .unset, .unset, .unset, .unset, .unset, .unset, .unset] [(.int (p1 &&& (1 : Int32)))])) _
    refine XS.ifYes X0.here hx rfl (pc0 := 3) (pc' := 10) rfl (hb hby at_3) rfl ((if0 _ _).trans (teq hc3).1) (by decide) (by decide) ?_
    show Steps p.tables e below (s₁.setTop (mkF m 10 #[.val (.int p1), .unset, .unset, .unset, .unset, .unset, .unset, .unset, .unset, .unset, .unset, .unset] [])) _
    refine XS.iconst X0.here hx rfl (hb hby at_10) ?_
    show Steps p.tables e below (s₁.setTop (mkF m 11 #[.val (.int p1), .unset, .unset, .unset, .unset, .unset, .unset, .unset, .unset, .unset, .unset, .unset] [(.int (0 : Int32))])) _
    refine XS.istoreN X0.here hx rfl (hb hby at_11) rfl (l' := #[.val (.int p1), .val (.int (0 : Int32)), .unset, .unset, .unset, .unset, .unset, .unset, .unset, .unset, .unset, .unset]) rfl ?_
    show Steps p.tables e below (s₁.setTop (mkF m 12 #[.val (.int p1), .val (.int (0 : Int32)), .unset, .unset, .unset, .unset, .unset, .unset, .unset, .unset, .unset, .unset] [])) _
    refine XS.iloadN X0.here hx rfl (hb hby at_12) rfl ?_
    show Steps p.tables e below (s₁.setTop (mkF m 13 #[.val (.int p1), .val (.int (0 : Int32)), .unset, .unset, .unset, .unset, .unset, .unset, .unset, .unset, .unset, .unset] [(.int p1)])) _
    refine XS.iconst X0.here hx rfl (hb hby at_13) ?_
    show Steps p.tables e below (s₁.setTop (mkF m 14 #[.val (.int p1), .val (.int (0 : Int32)), .unset, .unset, .unset, .unset, .unset, .unset, .unset, .unset, .unset, .unset] [(.int (2 : Int32)), (.int p1)])) _
    refine XS.iand X0.here hx rfl (hb hby at_14) rfl ?_
    show Steps p.tables e below (s₁.setTop (mkF m 15 #[.val (.int p1), .val (.int (0 : Int32)), .unset, .unset, .unset, .unset, .unset, .unset, .unset, .unset, .unset, .unset] [(.int (p1 &&& (2 : Int32)))])) _
    refine XS.ifNo X0.here hx rfl (hb hby at_15) rfl ((if0 _ _).trans (feq hc15).1) ?_
    show Steps p.tables e below (s₁.setTop (mkF m 18 #[.val (.int p1), .val (.int (0 : Int32)), .unset, .unset, .unset, .unset, .unset, .unset, .unset, .unset, .unset, .unset] [])) _
    refine XS.iconst X0.here hx rfl (hb hby at_18) ?_
    show Steps p.tables e below (s₁.setTop (mkF m 19 #[.val (.int p1), .val (.int (0 : Int32)), .unset, .unset, .unset, .unset, .unset, .unset, .unset, .unset, .unset, .unset] [(.int (1 : Int32))])) _
    refine XS.goto X0.here hx rfl (pc0 := 19) (pc' := 23) rfl (hb hby at_19) (by decide) (by decide) ?_
    show Steps p.tables e below (s₁.setTop (mkF m 23 #[.val (.int p1), .val (.int (0 : Int32)), .unset, .unset, .unset, .unset, .unset, .unset, .unset, .unset, .unset, .unset] [(.int (1 : Int32))])) _
    refine XS.istoreN X0.here hx rfl (hb hby at_23) rfl (l' := #[.val (.int p1), .val (.int (0 : Int32)), .val (.int (1 : Int32)), .unset, .unset, .unset, .unset, .unset, .unset, .unset, .unset, .unset]) rfl ?_
    show Steps p.tables e below (s₁.setTop (mkF m 24 #[.val (.int p1), .val (.int (0 : Int32)), .val (.int (1 : Int32)), .unset, .unset, .unset, .unset, .unset, .unset, .unset, .unset, .unset] [])) _
    refine XS.iloadN X0.here hx rfl (hb hby at_24) rfl ?_
    show Steps p.tables e below (s₁.setTop (mkF m 25 #[.val (.int p1), .val (.int (0 : Int32)), .val (.int (1 : Int32)), .unset, .unset, .unset, .unset, .unset, .unset, .unset, .unset, .unset] [(.int (0 : Int32))])) _
    refine XS.ifYes X0.here hx rfl (pc0 := 25) (pc' := 38) rfl (hb hby at_25) rfl ((if0 _ _).trans (teq (rfl : (0 : Int32) = (0 : Int32))).1) (by decide) (by decide) ?_
    show Steps p.tables e below (s₁.setTop (mkF m 38 #[.val (.int p1), .val (.int (0 : Int32)), .val (.int (1 : Int32)), .unset, .unset, .unset, .unset, .unset, .unset, .unset, .unset, .unset] [])) _
    refine XS.iconst X0.here hx rfl (hb hby at_38) ?_
    show Steps p.tables e below (s₁.setTop (mkF m 39 #[.val (.int p1), .val (.int (0 : Int32)), .val (.int (1 : Int32)), .unset, .unset, .unset, .unset, .unset, .unset, .unset, .unset, .unset] [(.int (0 : Int32))])) _
    refine XS.istoreN X0.here hx rfl (hb hby at_39) rfl (l' := #[.val (.int p1), .val (.int (0 : Int32)), .val (.int (1 : Int32)), .val (.int (0 : Int32)), .unset, .unset, .unset, .unset, .unset, .unset, .unset, .unset]) rfl ?_
    show Steps p.tables e below (s₁.setTop (mkF m 40 #[.val (.int p1), .val (.int (0 : Int32)), .val (.int (1 : Int32)), .val (.int (0 : Int32)), .unset, .unset, .unset, .unset, .unset, .unset, .unset, .unset] [])) _
    refine XS.iloadN X0.here hx rfl (hb hby at_40) rfl ?_
    show Steps p.tables e below (s₁.setTop (mkF m 41 #[.val (.int p1), .val (.int (0 : Int32)), .val (.int (1 : Int32)), .val (.int (0 : Int32)), .unset, .unset, .unset, .unset, .unset, .unset, .unset, .unset] [(.int (1 : Int32))])) _
    refine XS.ifNo X0.here hx rfl (hb hby at_41) rfl ((if0 _ _).trans (feq hc41).1) ?_
    show Steps p.tables e below (s₁.setTop (mkF m 44 #[.val (.int p1), .val (.int (0 : Int32)), .val (.int (1 : Int32)), .val (.int (0 : Int32)), .unset, .unset, .unset, .unset, .unset, .unset, .unset, .unset] [])) _
    refine XS.iloadN X0.here hx rfl (hb hby at_44) rfl ?_
    show Steps p.tables e below (s₁.setTop (mkF m 45 #[.val (.int p1), .val (.int (0 : Int32)), .val (.int (1 : Int32)), .val (.int (0 : Int32)), .unset, .unset, .unset, .unset, .unset, .unset, .unset, .unset] [(.int p1)])) _
    refine XS.bipush X0.here hx rfl (hb hby at_45) ?_
    show Steps p.tables e below (s₁.setTop (mkF m 47 #[.val (.int p1), .val (.int (0 : Int32)), .val (.int (1 : Int32)), .val (.int (0 : Int32)), .unset, .unset, .unset, .unset, .unset, .unset, .unset, .unset] [(.int (8 : Int32)), (.int p1)])) _
    refine XS.iand X0.here hx rfl (hb hby at_47) rfl ?_
    show Steps p.tables e below (s₁.setTop (mkF m 48 #[.val (.int p1), .val (.int (0 : Int32)), .val (.int (1 : Int32)), .val (.int (0 : Int32)), .unset, .unset, .unset, .unset, .unset, .unset, .unset, .unset] [(.int (p1 &&& (8 : Int32)))])) _
    refine XS.ifYes X0.here hx rfl (pc0 := 48) (pc' := 55) rfl (hb hby at_48) rfl ((if0 _ _).trans (teq hc48).1) (by decide) (by decide) ?_
    show Steps p.tables e below (s₁.setTop (mkF m 55 #[.val (.int p1), .val (.int (0 : Int32)), .val (.int (1 : Int32)), .val (.int (0 : Int32)), .unset, .unset, .unset, .unset, .unset, .unset, .unset, .unset] [])) _
    refine XS.iconst X0.here hx rfl (hb hby at_55) ?_
    show Steps p.tables e below (s₁.setTop (mkF m 56 #[.val (.int p1), .val (.int (0 : Int32)), .val (.int (1 : Int32)), .val (.int (0 : Int32)), .unset, .unset, .unset, .unset, .unset, .unset, .unset, .unset] [(.int (0 : Int32))])) _
    refine XS.istore X0.here hx rfl (hb hby at_56) rfl (l' := #[.val (.int p1), .val (.int (0 : Int32)), .val (.int (1 : Int32)), .val (.int (0 : Int32)), .val (.int (0 : Int32)), .unset, .unset, .unset, .unset, .unset, .unset, .unset]) rfl ?_
    show Steps p.tables e below (s₁.setTop (mkF m 58 #[.val (.int p1), .val (.int (0 : Int32)), .val (.int (1 : Int32)), .val (.int (0 : Int32)), .val (.int (0 : Int32)), .unset, .unset, .unset, .unset, .unset, .unset, .unset] [])) _
    refine st2 _ ?_
    show Steps p.tables e below (T2.setTop (mkF m 61 #[.val (.int p1), .val (.int (0 : Int32)), .val (.int (1 : Int32)), .val (.int (0 : Int32)), .val (.int (0 : Int32)), .unset, .unset, .unset, .unset, .unset, .unset, .unset] [(.ref b2)])) _
    refine XS.dup X2.here hx rfl (hb hby at_61) rfl rfl ?_
    show Steps p.tables e below (T2.setTop (mkF m 62 #[.val (.int p1), .val (.int (0 : Int32)), .val (.int (1 : Int32)), .val (.int (0 : Int32)), .val (.int (0 : Int32)), .unset, .unset, .unset, .unset, .unset, .unset, .unset] [(.ref b2), (.ref b2)])) _
    refine st3.trans ?_
    show Steps p.tables e below (T3.setTop (mkF m 65 #[.val (.int p1), .val (.int (0 : Int32)), .val (.int (1 : Int32)), .val (.int (0 : Int32)), .val (.int (0 : Int32)), .unset, .unset, .unset, .unset, .unset, .unset, .unset] [(.ref b2)])) _
    refine XS.astore X3.here hx rfl (hb hby at_65) rfl rfl (l' := #[.val (.int p1), .val (.int (0 : Int32)), .val (.int (1 : Int32)), .val (.int (0 : Int32)), .val (.int (0 : Int32)), .val (.ref b2), .unset, .unset, .unset, .unset, .unset, .unset]) rfl ?_
    show Steps p.tables e below (T3.setTop (mkF m 67 #[.val (.int p1), .val (.int (0 : Int32)), .val (.int (1 : Int32)), .val (.int (0 : Int32)), .val (.int (0 : Int32)), .val (.ref b2), .unset, .unset, .unset, .unset, .unset, .unset] [])) _
    refine st4 _ ?_
    show Steps p.tables e below (T4.setTop (mkF m 70 #[.val (.int p1), .val (.int (0 : Int32)), .val (.int (1 : Int32)), .val (.int (0 : Int32)), .val (.int (0 : Int32)), .val (.ref b2), .unset, .unset, .unset, .unset, .unset, .unset] [(.ref b4)])) _
    refine XS.dup X4.here hx rfl (hb hby at_70) rfl rfl ?_
    show Steps p.tables e below (T4.setTop (mkF m 71 #[.val (.int p1), .val (.int (0 : Int32)), .val (.int (1 : Int32)), .val (.int (0 : Int32)), .val (.int (0 : Int32)), .val (.ref b2), .unset, .unset, .unset, .unset, .unset, .unset] [(.ref b4), (.ref b4)])) _
    refine XS.aconstNull X4.here hx rfl (hb hby at_71) ?_
    show Steps p.tables e below (T4.setTop (mkF m 72 #[.val (.int p1), .val (.int (0 : Int32)), .val (.int (1 : Int32)), .val (.int (0 : Int32)), .val (.int (0 : Int32)), .val (.ref b2), .unset, .unset, .unset, .unset, .unset, .unset] [.null, (.ref b4), (.ref b4)])) _
    refine XS.aconstNull X4.here hx rfl (hb hby at_72) ?_
    show Steps p.tables e below (T4.setTop (mkF m 73 #[.val (.int p1), .val (.int (0 : Int32)), .val (.int (1 : Int32)), .val (.int (0 : Int32)), .val (.int (0 : Int32)), .val (.ref b2), .unset, .unset, .unset, .unset, .unset, .unset] [.null, .null, (.ref b4), (.ref b4)])) _
    refine XS.iconst X4.here hx rfl (hb hby at_73) ?_
    show Steps p.tables e below (T4.setTop (mkF m 74 #[.val (.int p1), .val (.int (0 : Int32)), .val (.int (1 : Int32)), .val (.int (0 : Int32)), .val (.int (0 : Int32)), .val (.ref b2), .unset, .unset, .unset, .unset, .unset, .unset] [(.int (0 : Int32)), .null, .null, (.ref b4), (.ref b4)])) _
    refine st5.trans ?_
    show Steps p.tables e below (T5.setTop (mkF m 77 #[.val (.int p1), .val (.int (0 : Int32)), .val (.int (1 : Int32)), .val (.int (0 : Int32)), .val (.int (0 : Int32)), .val (.ref b2), .unset, .unset, .unset, .unset, .unset, .unset] [(.ref b4)])) _
    refine XS.astore X5.here hx rfl (hb hby at_77) rfl rfl (l' := #[.val (.int p1), .val (.int (0 : Int32)), .val (.int (1 : Int32)), .val (.int (0 : Int32)), .val (.int (0 : Int32)), .val (.ref b2), .val (.ref b4), .unset, .unset, .unset, .unset, .unset]) rfl ?_
    show Steps p.tables e below (T5.setTop (mkF m 79 #[.val (.int p1), .val (.int (0 : Int32)), .val (.int (1 : Int32)), .val (.int (0 : Int32)), .val (.int (0 : Int32)), .val (.ref b2), .val (.ref b4), .unset, .unset, .unset, .unset, .unset] [])) _
    refine st6 _ ?_
    show Steps p.tables e below (T6.setTop (mkF m 82 #[.val (.int p1), .val (.int (0 : Int32)), .val (.int (1 : Int32)), .val (.int (0 : Int32)), .val (.int (0 : Int32)), .val (.ref b2), .val (.ref b4), .unset, .unset, .unset, .unset, .unset] [(.ref b6)])) _
    refine XS.dup X6.here hx rfl (hb hby at_82) rfl rfl ?_
    show Steps p.tables e below (T6.setTop (mkF m 83 #[.val (.int p1), .val (.int (0 : Int32)), .val (.int (1 : Int32)), .val (.int (0 : Int32)), .val (.int (0 : Int32)), .val (.ref b2), .val (.ref b4), .unset, .unset, .unset, .unset, .unset] [(.ref b6), (.ref b6)])) _
    refine XS.aconstNull X6.here hx rfl (hb hby at_83) ?_
    show Steps p.tables e below (T6.setTop (mkF m 84 #[.val (.int p1), .val (.int (0 : Int32)), .val (.int (1 : Int32)), .val (.int (0 : Int32)), .val (.int (0 : Int32)), .val (.ref b2), .val (.ref b4), .unset, .unset, .unset, .unset, .unset] [.null, (.ref b6), (.ref b6)])) _
    refine XS.aconstNull X6.here hx rfl (hb hby at_84) ?_
    show Steps p.tables e below (T6.setTop (mkF m 85 #[.val (.int p1), .val (.int (0 : Int32)), .val (.int (1 : Int32)), .val (.int (0 : Int32)), .val (.int (0 : Int32)), .val (.ref b2), .val (.ref b4), .unset, .unset, .unset, .unset, .unset] [.null, .null, (.ref b6), (.ref b6)])) _
    refine XS.iconst X6.here hx rfl (hb hby at_85) ?_
    show Steps p.tables e below (T6.setTop (mkF m 86 #[.val (.int p1), .val (.int (0 : Int32)), .val (.int (1 : Int32)), .val (.int (0 : Int32)), .val (.int (0 : Int32)), .val (.ref b2), .val (.ref b4), .unset, .unset, .unset, .unset, .unset] [(.int (0 : Int32)), .null, .null, (.ref b6), (.ref b6)])) _
    refine st7.trans ?_
    show Steps p.tables e below (T7.setTop (mkF m 89 #[.val (.int p1), .val (.int (0 : Int32)), .val (.int (1 : Int32)), .val (.int (0 : Int32)), .val (.int (0 : Int32)), .val (.ref b2), .val (.ref b4), .unset, .unset, .unset, .unset, .unset] [(.ref b6)])) _
    refine XS.astore X7.here hx rfl (hb hby at_89) rfl rfl (l' := #[.val (.int p1), .val (.int (0 : Int32)), .val (.int (1 : Int32)), .val (.int (0 : Int32)), .val (.int (0 : Int32)), .val (.ref b2), .val (.ref b4), .val (.ref b6), .unset, .unset, .unset, .unset]) rfl ?_
    show Steps p.tables e below (T7.setTop (mkF m 91 #[.val (.int p1), .val (.int (0 : Int32)), .val (.int (1 : Int32)), .val (.int (0 : Int32)), .val (.int (0 : Int32)), .val (.ref b2), .val (.ref b4), .val (.ref b6), .unset, .unset, .unset, .unset] [])) _
    refine XS.iconst X7.here hx rfl (hb hby at_91) ?_
    show Steps p.tables e below (T7.setTop (mkF m 92 #[.val (.int p1), .val (.int (0 : Int32)), .val (.int (1 : Int32)), .val (.int (0 : Int32)), .val (.int (0 : Int32)), .val (.ref b2), .val (.ref b4), .val (.ref b6), .unset, .unset, .unset, .unset] [(.int (0 : Int32))])) _
    refine XS.istore X7.here hx rfl (hb hby at_92) rfl (l' := #[.val (.int p1), .val (.int (0 : Int32)), .val (.int (1 : Int32)), .val (.int (0 : Int32)), .val (.int (0 : Int32)), .val (.ref b2), .val (.ref b4), .val (.ref b6), .val (.int (0 : Int32)), .unset, .unset, .unset]) rfl ?_
    show Steps p.tables e below (T7.setTop (mkF m 94 #[.val (.int p1), .val (.int (0 : Int32)), .val (.int (1 : Int32)), .val (.int (0 : Int32)), .val (.int (0 : Int32)), .val (.ref b2), .val (.ref b4), .val (.ref b6), .val (.int (0 : Int32)), .unset, .unset, .unset] [])) _
    refine XS.iloadN X7.here hx rfl (hb hby at_94) rfl ?_
    show Steps p.tables e below (T7.setTop (mkF m 95 #[.val (.int p1), .val (.int (0 : Int32)), .val (.int (1 : Int32)), .val (.int (0 : Int32)), .val (.int (0 : Int32)), .val (.ref b2), .val (.ref b4), .val (.ref b6), .val (.int (0 : Int32)), .unset, .unset, .unset] [(.int (0 : Int32))])) _
    refine XS.ifYes X7.here hx rfl (pc0 := 95) (pc' := 111) rfl (hb hby at_95) rfl ((if0 _ _).trans (teq (rfl : (0 : Int32) = (0 : Int32))).1) (by decide) (by decide) ?_
    show Steps p.tables e below (T7.setTop (mkF m 111 #[.val (.int p1), .val (.int (0 : Int32)), .val (.int (1 : Int32)), .val (.int (0 : Int32)), .val (.int (0 : Int32)), .val (.ref b2), .val (.ref b4), .val (.ref b6), .val (.int (0 : Int32)), .unset, .unset, .unset] [])) _
    refine XS.iloadN X7.here hx rfl (hb hby at_111) rfl ?_
    show Steps p.tables e below (T7.setTop (mkF m 112 #[.val (.int p1), .val (.int (0 : Int32)), .val (.int (1 : Int32)), .val (.int (0 : Int32)), .val (.int (0 : Int32)), .val (.ref b2), .val (.ref b4), .val (.ref b6), .val (.int (0 : Int32)), .unset, .unset, .unset] [(.int (1 : Int32))])) _
    refine XS.ifNo X7.here hx rfl (hb hby at_112) rfl ((if0 _ _).trans (feq hc112).1) ?_
    show Steps p.tables e below (T7.setTop (mkF m 115 #[.val (.int p1), .val (.int (0 : Int32)), .val (.int (1 : Int32)), .val (.int (0 : Int32)), .val (.int (0 : Int32)), .val (.ref b2), .val (.ref b4), .val (.ref b6), .val (.int (0 : Int32)), .unset, .unset, .unset] [])) _
    refine XS.aload X7.here hx rfl (hb hby at_115) rfl rfl ?_
    show Steps p.tables e below (T7.setTop (mkF m 117 #[.val (.int p1), .val (.int (0 : Int32)), .val (.int (1 : Int32)), .val (.int (0 : Int32)), .val (.int (0 : Int32)), .val (.ref b2), .val (.ref b4), .val (.ref b6), .val (.int (0 : Int32)), .unset, .unset, .unset] [(.ref b2)])) _
    refine XS.aload X7.here hx rfl (hb hby at_117) rfl rfl ?_
    show Steps p.tables e below (T7.setTop (mkF m 119 #[.val (.int p1), .val (.int (0 : Int32)), .val (.int (1 : Int32)), .val (.int (0 : Int32)), .val (.int (0 : Int32)), .val (.ref b2), .val (.ref b4), .val (.ref b6), .val (.int (0 : Int32)), .unset, .unset, .unset] [(.ref b6), (.ref b2)])) _
    refine st8.trans ?_
    show Steps p.tables e below (T8.setTop (mkF m 122 #[.val (.int p1), .val (.int (0 : Int32)), .val (.int (1 : Int32)), .val (.int (0 : Int32)), .val (.int (0 : Int32)), .val (.ref b2), .val (.ref b4), .val (.ref b6), .val (.int (0 : Int32)), .unset, .unset, .unset] [])) _
    refine XS.iload X8.here hx rfl (hb hby at_122) rfl ?_
    show Steps p.tables e below (T8.setTop (mkF m 124 #[.val (.int p1), .val (.int (0 : Int32)), .val (.int (1 : Int32)), .val (.int (0 : Int32)), .val (.int (0 : Int32)), .val (.ref b2), .val (.ref b4), .val (.ref b6), .val (.int (0 : Int32)), .unset, .unset, .unset] [(.int (0 : Int32))])) _
    refine XS.iconst X8.here hx rfl (hb hby at_124) ?_
    show Steps p.tables e below (T8.setTop (mkF m 125 #[.val (.int p1), .val (.int (0 : Int32)), .val (.int (1 : Int32)), .val (.int (0 : Int32)), .val (.int (0 : Int32)), .val (.ref b2), .val (.ref b4), .val (.ref b6), .val (.int (0 : Int32)), .unset, .unset, .unset] [(.int (1 : Int32)), (.int (0 : Int32))])) _
    refine XS.iadd X8.here hx rfl (hb hby at_125) rfl ?_
    show Steps p.tables e below (T8.setTop (mkF m 126 #[.val (.int p1), .val (.int (0 : Int32)), .val (.int (1 : Int32)), .val (.int (0 : Int32)), .val (.int (0 : Int32)), .val (.ref b2), .val (.ref b4), .val (.ref b6), .val (.int (0 : Int32)), .unset, .unset, .unset] [(.int ((0 : Int32) + (1 : Int32)))])) _
    refine XS.istore X8.here hx rfl (hb hby at_126) rfl (l' := #[.val (.int p1), .val (.int (0 : Int32)), .val (.int (1 : Int32)), .val (.int (0 : Int32)), .val (.int (0 : Int32)), .val (.ref b2), .val (.ref b4), .val (.ref b6), .val (.int ((0 : Int32) + (1 : Int32))), .unset, .unset, .unset]) rfl ?_
    show Steps p.tables e below (T8.setTop (mkF m 128 #[.val (.int p1), .val (.int (0 : Int32)), .val (.int (1 : Int32)), .val (.int (0 : Int32)), .val (.int (0 : Int32)), .val (.ref b2), .val (.ref b4), .val (.ref b6), .val (.int ((0 : Int32) + (1 : Int32))), .unset, .unset, .unset] [])) _
    refine XS.iloadN X8.here hx rfl (hb hby at_128) rfl ?_
    show Steps p.tables e below (T8.setTop (mkF m 129 #[.val (.int p1), .val (.int (0 : Int32)), .val (.int (1 : Int32)), .val (.int (0 : Int32)), .val (.int (0 : Int32)), .val (.ref b2), .val (.ref b4), .val (.ref b6), .val (.int ((0 : Int32) + (1 : Int32))), .unset, .unset, .unset] [(.int (0 : Int32))])) _
    refine XS.ifYes X8.here hx rfl (pc0 := 129) (pc' := 145) rfl (hb hby at_129) rfl ((if0 _ _).trans (teq (rfl : (0 : Int32) = (0 : Int32))).1) (by decide) (by decide) ?_
    show Steps p.tables e below (T8.setTop (mkF m 145 #[.val (.int p1), .val (.int (0 : Int32)), .val (.int (1 : Int32)), .val (.int (0 : Int32)), .val (.int (0 : Int32)), .val (.ref b2), .val (.ref b4), .val (.ref b6), .val (.int ((0 : Int32) + (1 : Int32))), .unset, .unset, .unset] [])) _
    refine XS.iload X8.here hx rfl (hb hby at_145) rfl ?_
    show Steps p.tables e below (T8.setTop (mkF m 147 #[.val (.int p1), .val (.int (0 : Int32)), .val (.int (1 : Int32)), .val (.int (0 : Int32)), .val (.int (0 : Int32)), .val (.ref b2), .val (.ref b4), .val (.ref b6), .val (.int ((0 : Int32) + (1 : Int32))), .unset, .unset, .unset] [(.int (0 : Int32))])) _
    refine XS.ifYes X8.here hx rfl (pc0 := 147) (pc' := 163) rfl (hb hby at_147) rfl ((if0 _ _).trans (teq (rfl : (0 : Int32) = (0 : Int32))).1) (by decide) (by decide) ?_
    show Steps p.tables e below (T8.setTop (mkF m 163 #[.val (.int p1), .val (.int (0 : Int32)), .val (.int (1 : Int32)), .val (.int (0 : Int32)), .val (.int (0 : Int32)), .val (.ref b2), .val (.ref b4), .val (.ref b6), .val (.int ((0 : Int32) + (1 : Int32))), .unset, .unset, .unset] [])) _
    refine XS.iload X8.here hx rfl (hb hby at_163) rfl ?_
    show Steps p.tables e below (T8.setTop (mkF m 165 #[.val (.int p1), .val (.int (0 : Int32)), .val (.int (1 : Int32)), .val (.int (0 : Int32)), .val (.int (0 : Int32)), .val (.ref b2), .val (.ref b4), .val (.ref b6), .val (.int ((0 : Int32) + (1 : Int32))), .unset, .unset, .unset] [(.int ((0 : Int32) + (1 : Int32)))])) _
    refine own_tif_ne X8.here hx (hb hby at_165) (hb hby at_168) (hb hby at_169) (hb hby at_172) ?_
    show Steps p.tables e below (T8.setTop (mkF m 173 #[.val (.int p1), .val (.int (0 : Int32)), .val (.int (1 : Int32)), .val (.int (0 : Int32)), .val (.int (0 : Int32)), .val (.ref b2), .val (.ref b4), .val (.ref b6), .val (.int ((0 : Int32) + (1 : Int32))), .unset, .unset, .unset] [(.int (if ((0 : Int32) + (1 : Int32)) = (0 : Int32) then (1 : Int32) else 0))])) _
    refine XS.istore X8.here hx rfl (hb hby at_173) rfl (l' := #[.val (.int p1), .val (.int (0 : Int32)), .val (.int (1 : Int32)), .val (.int (0 : Int32)), .val (.int (0 : Int32)), .val (.ref b2), .val (.ref b4), .val (.ref b6), .val (.int ((0 : Int32) + (1 : Int32))), .val (.int (if ((0 : Int32) + (1 : Int32)) = (0 : Int32) then (1 : Int32) else 0)), .unset, .unset]) rfl ?_
    show Steps p.tables e below (T8.setTop (mkF m 175 #[.val (.int p1), .val (.int (0 : Int32)), .val (.int (1 : Int32)), .val (.int (0 : Int32)), .val (.int (0 : Int32)), .val (.ref b2), .val (.ref b4), .val (.ref b6), .val (.int ((0 : Int32) + (1 : Int32))), .val (.int (if ((0 : Int32) + (1 : Int32)) = (0 : Int32) then (1 : Int32) else 0)), .unset, .unset] [])) _
    refine XS.aload X8.here hx rfl (hb hby at_175) rfl rfl ?_
    show Steps p.tables e below (T8.setTop (mkF m 177 #[.val (.int p1), .val (.int (0 : Int32)), .val (.int (1 : Int32)), .val (.int (0 : Int32)), .val (.int (0 : Int32)), .val (.ref b2), .val (.ref b4), .val (.ref b6), .val (.int ((0 : Int32) + (1 : Int32))), .val (.int (if ((0 : Int32) + (1 : Int32)) = (0 : Int32) then (1 : Int32) else 0)), .unset, .unset] [(.ref b2)])) _
    refine st9.trans ?_
    show Steps p.tables e below (T9.setTop (mkF m 180 #[.val (.int p1), .val (.int (0 : Int32)), .val (.int (1 : Int32)), .val (.int (0 : Int32)), .val (.int (0 : Int32)), .val (.ref b2), .val (.ref b4), .val (.ref b6), .val (.int ((0 : Int32) + (1 : Int32))), .val (.int (if ((0 : Int32) + (1 : Int32)) = (0 : Int32) then (1 : Int32) else 0)), .unset, .unset] [(.int (if ((0 : Int32) + (1 : Int32)) = (0 : Int32) then (1 : Int32) else 0))])) _
    refine XS.istore X9.here hx rfl (hb hby at_180) rfl (l' := #[.val (.int p1), .val (.int (0 : Int32)), .val (.int (1 : Int32)), .val (.int (0 : Int32)), .val (.int (0 : Int32)), .val (.ref b2), .val (.ref b4), .val (.ref b6), .val (.int ((0 : Int32) + (1 : Int32))), .val (.int (if ((0 : Int32) + (1 : Int32)) = (0 : Int32) then (1 : Int32) else 0)), .val (.int (if ((0 : Int32) + (1 : Int32)) = (0 : Int32) then (1 : Int32) else 0)), .unset]) rfl ?_
    show Steps p.tables e below (T9.setTop (mkF m 182 #[.val (.int p1), .val (.int (0 : Int32)), .val (.int (1 : Int32)), .val (.int (0 : Int32)), .val (.int (0 : Int32)), .val (.ref b2), .val (.ref b4), .val (.ref b6), .val (.int ((0 : Int32) + (1 : Int32))), .val (.int (if ((0 : Int32) + (1 : Int32)) = (0 : Int32) then (1 : Int32) else 0)), .val (.int (if ((0 : Int32) + (1 : Int32)) = (0 : Int32) then (1 : Int32) else 0)), .unset] [])) _
    refine XS.aload X9.here hx rfl (hb hby at_182) rfl rfl ?_
    show Steps p.tables e below (T9.setTop (mkF m 184 #[.val (.int p1), .val (.int (0 : Int32)), .val (.int (1 : Int32)), .val (.int (0 : Int32)), .val (.int (0 : Int32)), .val (.ref b2), .val (.ref b4), .val (.ref b6), .val (.int ((0 : Int32) + (1 : Int32))), .val (.int (if ((0 : Int32) + (1 : Int32)) = (0 : Int32) then (1 : Int32) else 0)), .val (.int (if ((0 : Int32) + (1 : Int32)) = (0 : Int32) then (1 : Int32) else 0)), .unset] [(.ref b2)])) _
    refine st10.trans ?_
    show Steps p.tables e below (T10.setTop (mkF m 187 #[.val (.int p1), .val (.int (0 : Int32)), .val (.int (1 : Int32)), .val (.int (0 : Int32)), .val (.int (0 : Int32)), .val (.ref b2), .val (.ref b4), .val (.ref b6), .val (.int ((0 : Int32) + (1 : Int32))), .val (.int (if ((0 : Int32) + (1 : Int32)) = (0 : Int32) then (1 : Int32) else 0)), .val (.int (if ((0 : Int32) + (1 : Int32)) = (0 : Int32) then (1 : Int32) else 0)), .unset] [(.ref b6)])) _
    refine XS.ifnonnullYes X10.here hx rfl (pc0 := 187) (pc' := 194) rfl (hb hby at_187) rfl (by decide) (by decide) ?_
    show Steps p.tables e below (T10.setTop (mkF m 194 #[.val (.int p1), .val (.int (0 : Int32)), .val (.int (1 : Int32)), .val (.int (0 : Int32)), .val (.int (0 : Int32)), .val (.ref b2), .val (.ref b4), .val (.ref b6), .val (.int ((0 : Int32) + (1 : Int32))), .val (.int (if ((0 : Int32) + (1 : Int32)) = (0 : Int32) then (1 : Int32) else 0)), .val (.int (if ((0 : Int32) + (1 : Int32)) = (0 : Int32) then (1 : Int32) else 0)), .unset] [])) _
    refine XS.iconst X10.here hx rfl (hb hby at_194) ?_
    show Steps p.tables e below (T10.setTop (mkF m 195 #[.val (.int p1), .val (.int (0 : Int32)), .val (.int (1 : Int32)), .val (.int (0 : Int32)), .val (.int (0 : Int32)), .val (.ref b2), .val (.ref b4), .val (.ref b6), .val (.int ((0 : Int32) + (1 : Int32))), .val (.int (if ((0 : Int32) + (1 : Int32)) = (0 : Int32) then (1 : Int32) else 0)), .val (.int (if ((0 : Int32) + (1 : Int32)) = (0 : Int32) then (1 : Int32) else 0)), .unset] [(.int (0 : Int32))])) _
    refine XS.istore X10.here hx rfl (hb hby at_195) rfl (l' := #[.val (.int p1), .val (.int (0 : Int32)), .val (.int (1 : Int32)), .val (.int (0 : Int32)), .val (.int (0 : Int32)), .val (.ref b2), .val (.ref b4), .val (.ref b6), .val (.int ((0 : Int32) + (1 : Int32))), .val (.int (if ((0 : Int32) + (1 : Int32)) = (0 : Int32) then (1 : Int32) else 0)), .val (.int (if ((0 : Int32) + (1 : Int32)) = (0 : Int32) then (1 : Int32) else 0)), .val (.int (0 : Int32))]) rfl ?_
    show Steps p.tables e below (T10.setTop (mkF m 197 #[.val (.int p1), .val (.int (0 : Int32)), .val (.int (1 : Int32)), .val (.int (0 : Int32)), .val (.int (0 : Int32)), .val (.ref b2), .val (.ref b4), .val (.ref b6), .val (.int ((0 : Int32) + (1 : Int32))), .val (.int (if ((0 : Int32) + (1 : Int32)) = (0 : Int32) then (1 : Int32) else 0)), .val (.int (if ((0 : Int32) + (1 : Int32)) = (0 : Int32) then (1 : Int32) else 0)), .val (.int (0 : Int32))] [])) _
    refine XS.iload X10.here hx rfl (hb hby at_197) rfl ?_
    show Steps p.tables e below (T10.setTop (mkF m 199 #[.val (.int p1), .val (.int (0 : Int32)), .val (.int (1 : Int32)), .val (.int (0 : Int32)), .val (.int (0 : Int32)), .val (.ref b2), .val (.ref b4), .val (.ref b6), .val (.int ((0 : Int32) + (1 : Int32))), .val (.int (if ((0 : Int32) + (1 : Int32)) = (0 : Int32) then (1 : Int32) else 0)), .val (.int (if ((0 : Int32) + (1 : Int32)) = (0 : Int32) then (1 : Int32) else 0)), .val (.int (0 : Int32))] [(.int (if ((0 : Int32) + (1 : Int32)) = (0 : Int32) then (1 : Int32) else 0))])) _
    refine XS.iload X10.here hx rfl (hb hby at_199) rfl ?_
    show Steps p.tables e below (T10.setTop (mkF m 201 #[.val (.int p1), .val (.int (0 : Int32)), .val (.int (1 : Int32)), .val (.int (0 : Int32)), .val (.int (0 : Int32)), .val (.ref b2), .val (.ref b4), .val (.ref b6), .val (.int ((0 : Int32) + (1 : Int32))), .val (.int (if ((0 : Int32) + (1 : Int32)) = (0 : Int32) then (1 : Int32) else 0)), .val (.int (if ((0 : Int32) + (1 : Int32)) = (0 : Int32) then (1 : Int32) else 0)), .val (.int (0 : Int32))] [(.int (if ((0 : Int32) + (1 : Int32)) = (0 : Int32) then (1 : Int32) else 0)), (.int (if ((0 : Int32) + (1 : Int32)) = (0 : Int32) then (1 : Int32) else 0))])) _
    refine XS.icmpNo X10.here hx rfl (hb hby at_201) rfl (teq (rfl : (if ((0 : Int32) + (1 : Int32)) = (0 : Int32) then (1 : Int32) else 0) = (if ((0 : Int32) + (1 : Int32)) = (0 : Int32) then (1 : Int32) else 0))).2 ?_
    show Steps p.tables e below (T10.setTop (mkF m 204 #[.val (.int p1), .val (.int (0 : Int32)), .val (.int (1 : Int32)), .val (.int (0 : Int32)), .val (.int (0 : Int32)), .val (.ref b2), .val (.ref b4), .val (.ref b6), .val (.int ((0 : Int32) + (1 : Int32))), .val (.int (if ((0 : Int32) + (1 : Int32)) = (0 : Int32) then (1 : Int32) else 0)), .val (.int (if ((0 : Int32) + (1 : Int32)) = (0 : Int32) then (1 : Int32) else 0)), .val (.int (0 : Int32))] [])) _
    refine XS.iload X10.here hx rfl (hb hby at_204) rfl ?_
    show Steps p.tables e below (T10.setTop (mkF m 206 #[.val (.int p1), .val (.int (0 : Int32)), .val (.int (1 : Int32)), .val (.int (0 : Int32)), .val (.int (0 : Int32)), .val (.ref b2), .val (.ref b4), .val (.ref b6), .val (.int ((0 : Int32) + (1 : Int32))), .val (.int (if ((0 : Int32) + (1 : Int32)) = (0 : Int32) then (1 : Int32) else 0)), .val (.int (if ((0 : Int32) + (1 : Int32)) = (0 : Int32) then (1 : Int32) else 0)), .val (.int (0 : Int32))] [(.int (0 : Int32))])) _
    refine XS.iload X10.here hx rfl (hb hby at_206) rfl ?_
    show Steps p.tables e below (T10.setTop (mkF m 208 #[.val (.int p1), .val (.int (0 : Int32)), .val (.int (1 : Int32)), .val (.int (0 : Int32)), .val (.int (0 : Int32)), .val (.ref b2), .val (.ref b4), .val (.ref b6), .val (.int ((0 : Int32) + (1 : Int32))), .val (.int (if ((0 : Int32) + (1 : Int32)) = (0 : Int32) then (1 : Int32) else 0)), .val (.int (if ((0 : Int32) + (1 : Int32)) = (0 : Int32) then (1 : Int32) else 0)), .val (.int (0 : Int32))] [(.int (if ((0 : Int32) + (1 : Int32)) = (0 : Int32) then (1 : Int32) else 0)), (.int (0 : Int32))])) _
    refine XS.icmpNo X10.here hx rfl (hb hby at_208) rfl (teq hc208).2 ?_
    show Steps p.tables e below (T10.setTop (mkF m 211 #[.val (.int p1), .val (.int (0 : Int32)), .val (.int (1 : Int32)), .val (.int (0 : Int32)), .val (.int (0 : Int32)), .val (.ref b2), .val (.ref b4), .val (.ref b6), .val (.int ((0 : Int32) + (1 : Int32))), .val (.int (if ((0 : Int32) + (1 : Int32)) = (0 : Int32) then (1 : Int32) else 0)), .val (.int (if ((0 : Int32) + (1 : Int32)) = (0 : Int32) then (1 : Int32) else 0)), .val (.int (0 : Int32))] [])) _
    refine XS.iconst X10.here hx rfl (hb hby at_211) ?_
    show Steps p.tables e below (T10.setTop (mkF m 212 #[.val (.int p1), .val (.int (0 : Int32)), .val (.int (1 : Int32)), .val (.int (0 : Int32)), .val (.int (0 : Int32)), .val (.ref b2), .val (.ref b4), .val (.ref b6), .val (.int ((0 : Int32) + (1 : Int32))), .val (.int (if ((0 : Int32) + (1 : Int32)) = (0 : Int32) then (1 : Int32) else 0)), .val (.int (if ((0 : Int32) + (1 : Int32)) = (0 : Int32) then (1 : Int32) else 0)), .val (.int (0 : Int32))] [(.int (1 : Int32))])) _
    refine XS.goto X10.here hx rfl (pc0 := 212) (pc' := 216) rfl (hb hby at_212) (by decide) (by decide) ?_
    show Steps p.tables e below (T10.setTop (mkF m 216 #[.val (.int p1), .val (.int (0 : Int32)), .val (.int (1 : Int32)), .val (.int (0 : Int32)), .val (.int (0 : Int32)), .val (.ref b2), .val (.ref b4), .val (.ref b6), .val (.int ((0 : Int32) + (1 : Int32))), .val (.int (if ((0 : Int32) + (1 : Int32)) = (0 : Int32) then (1 : Int32) else 0)), .val (.int (if ((0 : Int32) + (1 : Int32)) = (0 : Int32) then (1 : Int32) else 0)), .val (.int (0 : Int32))] [(.int (1 : Int32))])) _
    exact retN X10 hx (t := .boolean) Bd.returns (by simp) (hb hby at_216) hr
  · show Q0 Z p1 h0 n0 _ T10.heap _
    rw [e10]
    exact ⟨rfl, N10⟩

set_option maxRecDepth 65536 in
set_option maxHeartbeats 40000000 in
theorem rm0_2 (l : Launch) (Z : State) (a0 : Array Value) (hw : ∀ d ∈ tables_1, d.before a0 Z = true) (ws : List Jvm.Cond) (p1 : Int32) (h0 : Heap) (n0 : Nat) (Z0 : n0 ≤ h0.size) (hc3 : (p1 &&& (1 : Int32)) = (0 : Int32)) (hc15 : ¬ ((p1 &&& (2 : Int32)) = (0 : Int32))) (hc41 : ¬ ((1 : Int32) = (0 : Int32))) (hc48 : ¬ ((p1 &&& (8 : Int32)) = (0 : Int32))) (hc112 : ¬ ((1 : Int32) = (0 : Int32))) (hc147 : ¬ ((1 : Int32) = (0 : Int32))) (hc208 : (1 : Int32) = (if (((0 : Int32) + (1 : Int32)) - (1 : Int32)) = (0 : Int32) then (1 : Int32) else 0)) :
    MetFree l x (head1 (Jvm.Cond.code x code maxLocals ret :: ws) room_1) (fun a U => a = #[(.int p1)] ∧ Z.Warmed39 U.vm ∧ U.heap = h0) (fun _ _ _ _ _ => True) (fun _ U o U' => ∃ v L, o = .returned v ∧ Q0 Z p1 h0 n0 v U'.heap L ∧ FrameEnd U o U' L room_1.cells room_1.slots) := by
  refine MetFree.of_bodySF (plainFor_of_name pn_0) hisR ?_
  intro p e s m args below meth c s₁ Bd hml0 hP hK
  obtain ⟨rfl, hZ, hh⟩ := hP
  have hx := Bd.exec
  have hby := Bd.bytes
  have hml : c.maxLocals = 12 := hml0
  have hown : s.vm.findClass "com/example/idlewell/idlewell/engine/ObjectListIsEmptyPinLaw" = some m.cls := findClass_of_methodNamed Bd.named
  have hnm := (name_of_methodNamed Bd.named Bd.method).1
  have X0 : Stand p l e room_1 s m #[(.int p1)] below meth c s₁ [] 0 0 := Stand.of_body Bd
  have e0 : s₁.heap = h0 := by rw [← hh, Bd.state]; rfl
  have N0 := Fr.nil n0
  have pre0 : ∀ t, Steps p.tables e below (s₁.setTop (mkF m 0 #[.val (.int p1), .unset, .unset, .unset, .unset, .unset, .unset, .unset, .unset, .unset, .unset, .unset] [])) t → Steps p.tables e below (s₁.setTop (entryFrame m #[(.int p1)] maxLocals)) t := fun t k => castTop (ef_0 m p1) k
  obtain ⟨T2, h2, X2, e2, E2, A2, D2, -, st2⟩ := newO X0 hx hZ hown (hw _ (List.mem_of_getElem? (i := 0) rfl)) (hw _ (List.mem_of_getElem? (i := 1) rfl)) (hw _ (List.mem_of_getElem? (i := 2) rfl)) e0 (g := (mkF m 58 #[.val (.int p1), .val (.int (0 : Int32)), .val (.int (1 : Int32)), .val (.int (0 : Int32)), .val (.int (1 : Int32)), .unset, .unset, .unset, .unset, .unset, .unset, .unset] [])) rfl (hb hby at_58) (by decide) (by decide)
  obtain ⟨b2, g2⟩ : ∃ z, z = h0.size := ⟨_, rfl⟩
  rw [← g2] at A2 D2 st2
  have F_size_b2 : Fld Z h2 b2 "com/example/idlewell/idlewell/engine/ObjectList" "size" "I" (.int (0 : Int32)) := D2 (Or.inl (hw _ (List.mem_of_getElem? (i := 28) rfl))) (ty := .int) (by decide)
  have F_newest_b2 : Fld Z h2 b2 "com/example/idlewell/idlewell/engine/ObjectList" "newest" "Lcom/example/idlewell/idlewell/engine/PooledObject;" .null := D2 (Or.inl (hw _ (List.mem_of_getElem? (i := 35) rfl))) (ty := (.object "com/example/idlewell/idlewell/engine/PooledObject")) (by decide)
  have F_oldest_b2 : Fld Z h2 b2 "com/example/idlewell/idlewell/engine/ObjectList" "oldest" "Lcom/example/idlewell/idlewell/engine/PooledObject;" .null := D2 (Or.inl (hw _ (List.mem_of_getElem? (i := 47) rfl))) (ty := (.object "com/example/idlewell/idlewell/engine/PooledObject")) (by decide)
  have E_b2 := A2
  have g_b2 : n0 ≤ b2 := Nat.le_trans Z0 (Nat.le_of_eq g2.symm)
  have sz_b2 : h0.size ≤ b2 := (Nat.le_trans (Keep.refl h0 []).1 (Nat.le_of_eq g2.symm))
  have K2 : Keep h0 h2 [] := (Keep.refl h0 []).ext E2
  obtain ⟨_, _, ⟨T3, L3, k3, n3⟩, -, X3, ⟨Lc3, hQ3, l3, y3, z3⟩, st3⟩ := X2.specialBack hx (y := (⟨"com/example/idlewell/idlewell/engine/ObjectList", "<init>", "()V"⟩ : MethodName)) rfl hown (mvT hZ (hw _ (List.mem_of_getElem? (i := 3) rfl))) (mvT hZ (hw _ (List.mem_of_getElem? (i := 4) rfl))) (mvT hZ (hw _ (List.mem_of_getElem? (i := 5) rfl))) (by decide) (backOf (W := 1) (rm1 l Z a0 hw [] b2  h2 n0 (Nat.le_trans Z0 E2.1)) hZ (hw _ (List.mem_of_getElem? (i := 5) rfl)) (hw _ (List.mem_of_getElem? (i := 2) rfl)) (by decide) (by decide)) (g := (mkF m 62 #[.val (.int p1), .val (.int (0 : Int32)), .val (.int (1 : Int32)), .val (.int (0 : Int32)), .val (.int (1 : Int32)), .unset, .unset, .unset, .unset, .unset, .unset, .unset] [(.ref b2), (.ref b2)])) rfl (by rw [hml]; rfl) (Steps.refl _) (a := b2) (argsL := []) (rest := [(.ref b2)]) (lenOf pd_0_0 rfl) rfl (by show 2 * 0 + _ ≤ _; exact Nat.le_of_eq rfl) (hb hby at_62) (fun _ _ => ⟨rfl, e2, (by decide : 1 + 0 ≤ _), (by decide : 3 + 0 ≤ _)⟩)
  dsimp only [Pt.U, Pt.locs, Pt.cells, Pt.slots] at X3 l3 y3 z3 st3 hQ3
  subst l3 y3 z3
  obtain ⟨rfl, N3q, e3⟩ := hQ3
  have N3 := Fr.app N0 N3q
  obtain ⟨T4, h4, X4, e4, E4, A4, D4, -, st4⟩ := newO X3 hx hZ hown (hw _ (List.mem_of_getElem? (i := 9) rfl)) (hw _ (List.mem_of_getElem? (i := 10) rfl)) (hw _ (List.mem_of_getElem? (i := 11) rfl)) e3 (g := (mkF m 67 #[.val (.int p1), .val (.int (0 : Int32)), .val (.int (1 : Int32)), .val (.int (0 : Int32)), .val (.int (1 : Int32)), .val (.ref b2), .unset, .unset, .unset, .unset, .unset, .unset] [])) rfl (hb hby at_67) (by decide) (by decide)
  obtain ⟨b4, g4⟩ : ∃ z, z = h2.size := ⟨_, rfl⟩
  rw [← g4] at A4 D4 st4
  have F_pool_b4 : Fld Z h4 b4 "com/example/idlewell/idlewell/engine/PooledObject" "pool" "Lcom/example/idlewell/idlewell/engine/BoundedPool;" .null := D4 (Or.inr (hw _ (List.mem_of_getElem? (i := 17) rfl))) (ty := (.object "com/example/idlewell/idlewell/engine/BoundedPool")) (by decide)
  have F_object_b4 : Fld Z h4 b4 "com/example/idlewell/idlewell/engine/PooledObject" "object" "Ljava/lang/Object;" .null := D4 (Or.inr (hw _ (List.mem_of_getElem? (i := 19) rfl))) (ty := (.object "java/lang/Object")) (by decide)
  have F_slot_b4 : Fld Z h4 b4 "com/example/idlewell/idlewell/engine/PooledObject" "slot" "Lcom/example/idlewell/idlewell/engine/ThreadSlot;" .null := D4 (Or.inr (hw _ (List.mem_of_getElem? (i := 21) rfl))) (ty := (.object "com/example/idlewell/idlewell/engine/ThreadSlot")) (by decide)
  have F_older_b4 : Fld Z h4 b4 "com/example/idlewell/idlewell/engine/PooledObject" "older" "Lcom/example/idlewell/idlewell/engine/PooledObject;" .null := D4 (Or.inl (hw _ (List.mem_of_getElem? (i := 49) rfl))) (ty := (.object "com/example/idlewell/idlewell/engine/PooledObject")) (by decide)
  have F_newer_b4 : Fld Z h4 b4 "com/example/idlewell/idlewell/engine/PooledObject" "newer" "Lcom/example/idlewell/idlewell/engine/PooledObject;" .null := D4 (Or.inl (hw _ (List.mem_of_getElem? (i := 51) rfl))) (ty := (.object "com/example/idlewell/idlewell/engine/PooledObject")) (by decide)
  have E_b4 := A4
  have g_b4 : n0 ≤ b4 := Nat.le_trans (Nat.le_trans Z0 E2.1) (Nat.le_of_eq g4.symm)
  have sz_b4 : h0.size ≤ b4 := (Nat.le_trans K2.1 (Nat.le_of_eq g4.symm))
  have K4 : Keep h0 h4 [] := K2.ext E4
  obtain ⟨_, _, ⟨T5, L5, k5, n5⟩, -, X5, ⟨Lc5, hQ5, l5, y5, z5⟩, st5⟩ := X4.specialBack hx (y := (⟨"com/example/idlewell/idlewell/engine/PooledObject", "<init>", "(Lcom/example/idlewell/idlewell/engine/BoundedPool;Ljava/lang/Object;Z)V"⟩ : MethodName)) rfl hown (mvT hZ (hw _ (List.mem_of_getElem? (i := 12) rfl))) (mvT hZ (hw _ (List.mem_of_getElem? (i := 13) rfl))) (mvT hZ (hw _ (List.mem_of_getElem? (i := 14) rfl))) (by decide) (backOf (W := 1) (rm3 l Z a0 hw [] b4 (0 : Int32) .null .null .null h4 n0 (Nat.le_trans (Nat.le_trans Z0 E2.1) E4.1) E_b4 F_newer_b4 F_older_b4 F_pool_b4 g_b4 F_object_b4 F_slot_b4 rfl) hZ (hw _ (List.mem_of_getElem? (i := 14) rfl)) (hw _ (List.mem_of_getElem? (i := 11) rfl)) (by decide) (by decide)) (g := (mkF m 74 #[.val (.int p1), .val (.int (0 : Int32)), .val (.int (1 : Int32)), .val (.int (0 : Int32)), .val (.int (1 : Int32)), .val (.ref b2), .unset, .unset, .unset, .unset, .unset, .unset] [(.int (0 : Int32)), .null, .null, (.ref b4), (.ref b4)])) rfl (by rw [hml]; rfl) (Steps.refl _) (a := b4) (argsL := [.null, .null, (.int (0 : Int32))]) (rest := [(.ref b4)]) (lenOf pd_0_1 rfl) rfl (by show 2 * 0 + _ ≤ _; exact Nat.le_of_eq rfl) (hb hby at_74) (fun _ _ => ⟨rfl, e4, (by decide : 2 + 0 ≤ _), (by decide : 13 + 0 ≤ _)⟩)
  dsimp only [Pt.U, Pt.locs, Pt.cells, Pt.slots] at X5 l5 y5 z5 st5 hQ5
  subst l5 y5 z5
  obtain ⟨rfl, N5q, Kq5, Ex5, Fn5, Fo5⟩ := hQ5
  have N5 := Fr.app N3 N5q
  obtain ⟨T6, h6, X6, e6, E6, A6, D6, -, st6⟩ := newO X5 hx hZ hown (hw _ (List.mem_of_getElem? (i := 9) rfl)) (hw _ (List.mem_of_getElem? (i := 10) rfl)) (hw _ (List.mem_of_getElem? (i := 11) rfl)) rfl (g := (mkF m 79 #[.val (.int p1), .val (.int (0 : Int32)), .val (.int (1 : Int32)), .val (.int (0 : Int32)), .val (.int (1 : Int32)), .val (.ref b2), .val (.ref b4), .unset, .unset, .unset, .unset, .unset] [])) rfl (hb hby at_79) (by decide) (by decide)
  obtain ⟨b6, g6⟩ : ∃ z, z = T5.heap.size := ⟨_, rfl⟩
  rw [← g6] at A6 D6 st6
  have F_pool_b6 : Fld Z h6 b6 "com/example/idlewell/idlewell/engine/PooledObject" "pool" "Lcom/example/idlewell/idlewell/engine/BoundedPool;" .null := D6 (Or.inr (hw _ (List.mem_of_getElem? (i := 17) rfl))) (ty := (.object "com/example/idlewell/idlewell/engine/BoundedPool")) (by decide)
  have F_object_b6 : Fld Z h6 b6 "com/example/idlewell/idlewell/engine/PooledObject" "object" "Ljava/lang/Object;" .null := D6 (Or.inr (hw _ (List.mem_of_getElem? (i := 19) rfl))) (ty := (.object "java/lang/Object")) (by decide)
  have F_slot_b6 : Fld Z h6 b6 "com/example/idlewell/idlewell/engine/PooledObject" "slot" "Lcom/example/idlewell/idlewell/engine/ThreadSlot;" .null := D6 (Or.inr (hw _ (List.mem_of_getElem? (i := 21) rfl))) (ty := (.object "com/example/idlewell/idlewell/engine/ThreadSlot")) (by decide)
  have F_older_b6 : Fld Z h6 b6 "com/example/idlewell/idlewell/engine/PooledObject" "older" "Lcom/example/idlewell/idlewell/engine/PooledObject;" .null := D6 (Or.inl (hw _ (List.mem_of_getElem? (i := 49) rfl))) (ty := (.object "com/example/idlewell/idlewell/engine/PooledObject")) (by decide)
  have F_newer_b6 : Fld Z h6 b6 "com/example/idlewell/idlewell/engine/PooledObject" "newer" "Lcom/example/idlewell/idlewell/engine/PooledObject;" .null := D6 (Or.inl (hw _ (List.mem_of_getElem? (i := 51) rfl))) (ty := (.object "com/example/idlewell/idlewell/engine/PooledObject")) (by decide)
  have E_b6 := A6
  have g_b6 : n0 ≤ b6 := Nat.le_trans (Nat.le_trans (Nat.le_trans (Nat.le_trans Z0 E2.1) E4.1) Kq5.1) (Nat.le_of_eq g6.symm)
  obtain ⟨_, _, ⟨T7, L7, k7, n7⟩, -, X7, ⟨Lc7, hQ7, l7, y7, z7⟩, st7⟩ := X6.specialBack hx (y := (⟨"com/example/idlewell/idlewell/engine/PooledObject", "<init>", "(Lcom/example/idlewell/idlewell/engine/BoundedPool;Ljava/lang/Object;Z)V"⟩ : MethodName)) rfl hown (mvT hZ (hw _ (List.mem_of_getElem? (i := 12) rfl))) (mvT hZ (hw _ (List.mem_of_getElem? (i := 13) rfl))) (mvT hZ (hw _ (List.mem_of_getElem? (i := 14) rfl))) (by decide) (backOf (W := 1) (rm3 l Z a0 hw [] b6 (0 : Int32) .null .null .null h6 n0 (Nat.le_trans (Nat.le_trans (Nat.le_trans (Nat.le_trans Z0 E2.1) E4.1) Kq5.1) E6.1) E_b6 F_newer_b6 F_older_b6 F_pool_b6 g_b6 F_object_b6 F_slot_b6 rfl) hZ (hw _ (List.mem_of_getElem? (i := 14) rfl)) (hw _ (List.mem_of_getElem? (i := 11) rfl)) (by decide) (by decide)) (g := (mkF m 86 #[.val (.int p1), .val (.int (0 : Int32)), .val (.int (1 : Int32)), .val (.int (0 : Int32)), .val (.int (1 : Int32)), .val (.ref b2), .val (.ref b4), .unset, .unset, .unset, .unset, .unset] [(.int (0 : Int32)), .null, .null, (.ref b6), (.ref b6)])) rfl (by rw [hml]; rfl) (Steps.refl _) (a := b6) (argsL := [.null, .null, (.int (0 : Int32))]) (rest := [(.ref b6)]) (lenOf pd_0_1 rfl) rfl (by show 2 * 0 + _ ≤ _; exact Nat.le_of_eq rfl) (hb hby at_86) (fun _ _ => ⟨rfl, e6, (by decide : 3 + 0 ≤ _), (by decide : 23 + 0 ≤ _)⟩)
  dsimp only [Pt.U, Pt.locs, Pt.cells, Pt.slots] at X7 l7 y7 z7 st7 hQ7
  subst l7 y7 z7
  obtain ⟨rfl, N7q, Kq7, Ex7, Fn7, Fo7⟩ := hQ7
  have N7 := Fr.app N5 N7q
  obtain ⟨cq8, kq8, q8a, q8b, q8c⟩ := isOf hZ rfl ((((E_b2.ext E4).keep Kq5).ext E6).keep Kq7)
  obtain ⟨_, _, ⟨T8, L8, k8, n8⟩, -, X8, ⟨Lc8, hQ8, l8, y8, z8⟩, st8⟩ := X7.virtualBack hx (y := (⟨"com/example/idlewell/idlewell/engine/ObjectList", "addNewest", "(Lcom/example/idlewell/idlewell/engine/PooledObject;)V"⟩ : MethodName)) (z := (⟨"com/example/idlewell/idlewell/engine/ObjectList", "addNewest", "(Lcom/example/idlewell/idlewell/engine/PooledObject;)V"⟩ : MethodName)) hown (mvT hZ (hw _ (List.mem_of_getElem? (i := 36) rfl))) (mvT hZ (hw _ (List.mem_of_getElem? (i := 37) rfl))) (notFace_of_selects (args := #[]) (mvT hZ (hw _ (List.mem_of_getElem? (i := 39) rfl)))) (mvT hZ (hw _ (List.mem_of_getElem? (i := 39) rfl))) (mvT hZ (hw _ (List.mem_of_getElem? (i := 38) rfl))) (by decide) (backOf (W := 0) (rm6A l Z a0 hw [] b2 b6 b4 (0 : Int32) T7.heap n0 (Nat.le_trans (Nat.le_trans (Nat.le_trans (Nat.le_trans (Nat.le_trans Z0 E2.1) E4.1) Kq5.1) E6.1) Kq7.1) ⟨((((E_b2.ext E4).keep Kq5).ext E6).keep Kq7), Ex7, ((Ex5.ext E6).keep Kq7), ((((F_newest_b2.ext E4).keep Kq5 (fun q_ => (Nat.ne_of_lt (Nat.lt_of_lt_of_le E_b2.lt (Nat.le_of_eq g4.symm))) (List.mem_singleton.mp q_))).ext E6).keep Kq7 (fun q_ => (Nat.ne_of_lt (Nat.lt_of_lt_of_le ((E_b2.ext E4).keep Kq5).lt (Nat.le_of_eq g6.symm))) (List.mem_singleton.mp q_))), ((((F_oldest_b2.ext E4).keep Kq5 (fun q_ => (Nat.ne_of_lt (Nat.lt_of_lt_of_le E_b2.lt (Nat.le_of_eq g4.symm))) (List.mem_singleton.mp q_))).ext E6).keep Kq7 (fun q_ => (Nat.ne_of_lt (Nat.lt_of_lt_of_le ((E_b2.ext E4).keep Kq5).lt (Nat.le_of_eq g6.symm))) (List.mem_singleton.mp q_))), ((((F_size_b2.ext E4).keep Kq5 (fun q_ => (Nat.ne_of_lt (Nat.lt_of_lt_of_le E_b2.lt (Nat.le_of_eq g4.symm))) (List.mem_singleton.mp q_))).ext E6).keep Kq7 (fun q_ => (Nat.ne_of_lt (Nat.lt_of_lt_of_le ((E_b2.ext E4).keep Kq5).lt (Nat.le_of_eq g6.symm))) (List.mem_singleton.mp q_))), Fn7, Fo7, ((Fn5.ext E6).keep Kq7 (fun q_ => (Nat.ne_of_lt (Nat.lt_of_lt_of_le Ex5.lt (Nat.le_of_eq g6.symm))) (List.mem_singleton.mp q_))), ((Fo5.ext E6).keep Kq7 (fun q_ => (Nat.ne_of_lt (Nat.lt_of_lt_of_le Ex5.lt (Nat.le_of_eq g6.symm))) (List.mem_singleton.mp q_)))⟩ g_b2 g_b6 g_b4 (Nat.ne_of_lt (Nat.lt_of_lt_of_le ((E_b2.ext E4).keep Kq5).lt (Nat.le_of_eq g6.symm))) (Nat.ne_of_lt (Nat.lt_of_lt_of_le E_b2.lt (Nat.le_of_eq g4.symm))) (Ne.symm (Nat.ne_of_lt (Nat.lt_of_lt_of_le Ex5.lt (Nat.le_of_eq g6.symm))))) hZ (hw _ (List.mem_of_getElem? (i := 40) rfl)) (hw _ (List.mem_of_getElem? (i := 2) rfl)) (by decide) (by decide)) q8a q8c (g := (mkF m 119 #[.val (.int p1), .val (.int (0 : Int32)), .val (.int (1 : Int32)), .val (.int (0 : Int32)), .val (.int (1 : Int32)), .val (.ref b2), .val (.ref b4), .val (.ref b6), .val (.int (0 : Int32)), .unset, .unset, .unset] [(.ref b6), (.ref b2)])) rfl (by rw [hml]; rfl) (Steps.refl _) (argsL := [(.ref b6)]) (rest := []) (lenOf pd_0_4 rfl) rfl (by show 2 * 0 + _ ≤ _; exact Nat.le_of_eq rfl) (hb hby at_119) (fun _ _ => ⟨rfl, rfl, (by decide : 3 + 0 ≤ _), (by decide : 23 + 0 ≤ _)⟩)
  dsimp only [Pt.U, Pt.locs, Pt.cells, Pt.slots] at X8 l8 y8 z8 st8 hQ8
  subst l8 y8 z8
  obtain ⟨rfl, N8q, Kq8, ⟨E_o8, E_p8, E_q8, Fnw8, Fod8, Fsz8, Fpn8, Fpo8, Fqn8, Fqo8⟩⟩ := hQ8
  have N8 := Fr.app N7 N8q
  obtain ⟨cq9, kq9, q9a, q9b, q9c⟩ := isOf hZ rfl E_o8
  obtain ⟨_, _, ⟨T9, L9, k9, n9⟩, -, X9, ⟨Lc9, hQ9, l9, y9, z9⟩, st9⟩ := X8.virtualBack hx (y := (⟨"com/example/idlewell/idlewell/engine/ObjectList", "remove", "(Lcom/example/idlewell/idlewell/engine/PooledObject;)V"⟩ : MethodName)) (z := (⟨"com/example/idlewell/idlewell/engine/ObjectList", "remove", "(Lcom/example/idlewell/idlewell/engine/PooledObject;)V"⟩ : MethodName)) hown (mvT hZ (hw _ (List.mem_of_getElem? (i := 52) rfl))) (mvT hZ (hw _ (List.mem_of_getElem? (i := 53) rfl))) (notFace_of_selects (args := #[]) (mvT hZ (hw _ (List.mem_of_getElem? (i := 55) rfl)))) (mvT hZ (hw _ (List.mem_of_getElem? (i := 55) rfl))) (mvT hZ (hw _ (List.mem_of_getElem? (i := 54) rfl))) (by decide) (backOf (W := 0) (rm8only l Z a0 hw [] b2 b6 b4 ((0 : Int32) + (1 : Int32)) T8.heap n0 (Nat.le_trans (Nat.le_trans (Nat.le_trans (Nat.le_trans (Nat.le_trans (Nat.le_trans Z0 E2.1) E4.1) Kq5.1) E6.1) Kq7.1) Kq8.1) ⟨E_o8, E_p8, E_q8, Fnw8, Fod8, Fsz8, Fpn8, Fpo8, Fqn8, Fqo8⟩ g_b2 g_b6 g_b4 (Nat.ne_of_lt (Nat.lt_of_lt_of_le ((E_b2.ext E4).keep Kq5).lt (Nat.le_of_eq g6.symm))) (Nat.ne_of_lt (Nat.lt_of_lt_of_le E_b2.lt (Nat.le_of_eq g4.symm))) (Ne.symm (Nat.ne_of_lt (Nat.lt_of_lt_of_le Ex5.lt (Nat.le_of_eq g6.symm))))) hZ (hw _ (List.mem_of_getElem? (i := 56) rfl)) (hw _ (List.mem_of_getElem? (i := 2) rfl)) (by decide) (by decide)) q9a q9c (g := (mkF m 154 #[.val (.int p1), .val (.int (0 : Int32)), .val (.int (1 : Int32)), .val (.int (0 : Int32)), .val (.int (1 : Int32)), .val (.ref b2), .val (.ref b4), .val (.ref b6), .val (.int ((0 : Int32) + (1 : Int32))), .unset, .unset, .unset] [(.ref b6), (.ref b2)])) rfl (by rw [hml]; rfl) (Steps.refl _) (argsL := [(.ref b6)]) (rest := []) (lenOf pd_0_4 rfl) rfl (by show 2 * 0 + _ ≤ _; exact Nat.le_of_eq rfl) (hb hby at_154) (fun _ _ => ⟨rfl, rfl, (by decide : 3 + 0 ≤ _), (by decide : 23 + 0 ≤ _)⟩)
  dsimp only [Pt.U, Pt.locs, Pt.cells, Pt.slots] at X9 l9 y9 z9 st9 hQ9
  subst l9 y9 z9
  obtain ⟨rfl, N9q, Kq9, ⟨E_o9, E_p9, E_q9, Fnw9, Fod9, Fsz9, Fpn9, Fpo9, Fqn9, Fqo9⟩⟩ := hQ9
  have N9 := Fr.app N8 N9q
  obtain ⟨cq10, kq10, q10a, q10b, q10c⟩ := isOf hZ rfl E_o9
  obtain ⟨_, _, ⟨T10, L10, k10, n10⟩, -, X10, ⟨Lc10, hQ10, l10, y10, z10⟩, st10⟩ := X9.virtualBack hx (y := (⟨"com/example/idlewell/idlewell/engine/ObjectList", "isEmpty", "()Z"⟩ : MethodName)) (z := (⟨"com/example/idlewell/idlewell/engine/ObjectList", "isEmpty", "()Z"⟩ : MethodName)) hown (mvT hZ (hw _ (List.mem_of_getElem? (i := 22) rfl))) (mvT hZ (hw _ (List.mem_of_getElem? (i := 23) rfl))) (notFace_of_selects (args := #[]) (mvT hZ (hw _ (List.mem_of_getElem? (i := 25) rfl)))) (mvT hZ (hw _ (List.mem_of_getElem? (i := 25) rfl))) (mvT hZ (hw _ (List.mem_of_getElem? (i := 24) rfl))) (by decide) (backOf (W := 0) (rm4 l Z a0 hw [] b2 (((0 : Int32) + (1 : Int32)) - (1 : Int32)) T9.heap n0 (Nat.le_trans (Nat.le_trans (Nat.le_trans (Nat.le_trans (Nat.le_trans (Nat.le_trans (Nat.le_trans Z0 E2.1) E4.1) Kq5.1) E6.1) Kq7.1) Kq8.1) Kq9.1) Fsz9) hZ (hw _ (List.mem_of_getElem? (i := 26) rfl)) (hw _ (List.mem_of_getElem? (i := 2) rfl)) (by decide) (by decide)) q10a q10c (g := (mkF m 177 #[.val (.int p1), .val (.int (0 : Int32)), .val (.int (1 : Int32)), .val (.int (0 : Int32)), .val (.int (1 : Int32)), .val (.ref b2), .val (.ref b4), .val (.ref b6), .val (.int (((0 : Int32) + (1 : Int32)) - (1 : Int32))), .val (.int (if (((0 : Int32) + (1 : Int32)) - (1 : Int32)) = (0 : Int32) then (1 : Int32) else 0)), .unset, .unset] [(.ref b2)])) rfl (by rw [hml]; rfl) (Steps.refl _) (argsL := []) (rest := []) (lenOf pd_0_2 rfl) rfl (by show 2 * 0 + _ ≤ _; exact Nat.le_of_eq rfl) (hb hby at_177) (fun _ _ => ⟨rfl, rfl, (by decide : 3 + 0 ≤ _), (by decide : 23 + 0 ≤ _)⟩)
  dsimp only [Pt.U, Pt.locs, Pt.cells, Pt.slots] at X10 l10 y10 z10 st10 hQ10
  subst l10 y10 z10
  obtain ⟨rfl, N10q, e10⟩ := hQ10
  have N10 := Fr.app N9 N10q
  obtain ⟨cq11, kq11, q11a, q11b, q11c⟩ := isOf hZ e10 E_o9
  obtain ⟨_, _, ⟨T11, L11, k11, n11⟩, -, X11, ⟨Lc11, hQ11, l11, y11, z11⟩, st11⟩ := X10.virtualBack hx (y := (⟨"com/example/idlewell/idlewell/engine/ObjectList", "newest", "()Lcom/example/idlewell/idlewell/engine/PooledObject;"⟩ : MethodName)) (z := (⟨"com/example/idlewell/idlewell/engine/ObjectList", "newest", "()Lcom/example/idlewell/idlewell/engine/PooledObject;"⟩ : MethodName)) hown (mvT hZ (hw _ (List.mem_of_getElem? (i := 29) rfl))) (mvT hZ (hw _ (List.mem_of_getElem? (i := 30) rfl))) (notFace_of_selects (args := #[]) (mvT hZ (hw _ (List.mem_of_getElem? (i := 32) rfl)))) (mvT hZ (hw _ (List.mem_of_getElem? (i := 32) rfl))) (mvT hZ (hw _ (List.mem_of_getElem? (i := 31) rfl))) (by decide) (backOf (W := 0) (rm5n l Z a0 hw [] b2  T9.heap n0 (Nat.le_trans (Nat.le_trans (Nat.le_trans (Nat.le_trans (Nat.le_trans (Nat.le_trans (Nat.le_trans Z0 E2.1) E4.1) Kq5.1) E6.1) Kq7.1) Kq8.1) Kq9.1) Fnw9) hZ (hw _ (List.mem_of_getElem? (i := 33) rfl)) (hw _ (List.mem_of_getElem? (i := 2) rfl)) (by decide) (by decide)) q11a q11c (g := (mkF m 184 #[.val (.int p1), .val (.int (0 : Int32)), .val (.int (1 : Int32)), .val (.int (0 : Int32)), .val (.int (1 : Int32)), .val (.ref b2), .val (.ref b4), .val (.ref b6), .val (.int (((0 : Int32) + (1 : Int32)) - (1 : Int32))), .val (.int (if (((0 : Int32) + (1 : Int32)) - (1 : Int32)) = (0 : Int32) then (1 : Int32) else 0)), .val (.int (if (((0 : Int32) + (1 : Int32)) - (1 : Int32)) = (0 : Int32) then (1 : Int32) else 0)), .unset] [(.ref b2)])) rfl (by rw [hml]; rfl) (Steps.refl _) (argsL := []) (rest := []) (lenOf pd_0_3 rfl) rfl (by show 2 * 0 + _ ≤ _; exact Nat.le_of_eq rfl) (hb hby at_184) (fun _ _ => ⟨rfl, e10, (by decide : 3 + 0 ≤ _), (by decide : 23 + 0 ≤ _)⟩)
  dsimp only [Pt.U, Pt.locs, Pt.cells, Pt.slots] at X11 l11 y11 z11 st11 hQ11
  subst l11 y11 z11
  obtain ⟨rfl, N11q, e11⟩ := hQ11
  have N11 := Fr.app N10 N11q
  obtain ⟨fs, hr, hrun, hended, hW, hsame⟩ := X11.leave (v := some (.int (1 : Int32))) (fun h => by rw [Bd.returns] at h; cases h)
  refine ⟨_, _, pre0 _ ?_, hrun, hended, _, _, rfl, ?_, ⟨_, rfl⟩, hW, hsame.mono (by decide) (by decide)⟩
  · show Steps p.tables e below (s₁.setTop (mkF m 0 #[.val (.int p1), .unset, .unset, .unset, .unset, .unset, .unset, .unset, .unset, .unset, .unset, .unset] [])) _
    refine XS.iloadN X0.here hx rfl (hb hby at_0) rfl ?_
    show Steps p.tables e below (s₁.setTop (mkF m 1 #[.val (.int p1), .unset, .unset, .unset, .unset, .unset, .unset, .unset, .unset, .unset, .unset, .unset] [(.int p1)])) _
    refine XS.iconst X0.here hx rfl (hb hby at_1) ?_
    show Steps p.tables e below (s₁.setTop (mkF m 2 #[.val (.int p1), .unset, .unset, .unset, .unset, .unset, .unset, .unset, .unset, .unset, .unset, .unset] [(.int (1 : Int32)), (.int p1)])) _
    refine XS.iand X0.here hx rfl (hb hby at_2) rfl ?_
    show Steps p.tables e below (s₁.setTop (mkF m 3 #[.val (.int p1), .unset, .unset, .unset, .unset, .unset, .unset, .unset, .unset, .unset, .unset, .unset] [(.int (p1 &&& (1 : Int32)))])) _
    refine XS.ifYes X0.here hx rfl (pc0 := 3) (pc' := 10) rfl (hb hby at_3) rfl ((if0 _ _).trans (teq hc3).1) (by decide) (by decide) ?_
    show Steps p.tables e below (s₁.setTop (mkF m 10 #[.val (.int p1), .unset, .unset, .unset, .unset, .unset, .unset, .unset, .unset, .unset, .unset, .unset] [])) _
    refine XS.iconst X0.here hx rfl (hb hby at_10) ?_
    show Steps p.tables e below (s₁.setTop (mkF m 11 #[.val (.int p1), .unset, .unset, .unset, .unset, .unset, .unset, .unset, .unset, .unset, .unset, .unset] [(.int (0 : Int32))])) _
    refine XS.istoreN X0.here hx rfl (hb hby at_11) rfl (l' := #[.val (.int p1), .val (.int (0 : Int32)), .unset, .unset, .unset, .unset, .unset, .unset, .unset, .unset, .unset, .unset]) rfl ?_
    show Steps p.tables e below (s₁.setTop (mkF m 12 #[.val (.int p1), .val (.int (0 : Int32)), .unset, .unset, .unset, .unset, .unset, .unset, .unset, .unset, .unset, .unset] [])) _
    refine XS.iloadN X0.here hx rfl (hb hby at_12) rfl ?_
    show Steps p.tables e below (s₁.setTop (mkF m 13 #[.val (.int p1), .val (.int (0 : Int32)), .unset, .unset, .unset, .unset, .unset, .unset, .unset, .unset, .unset, .unset] [(.int p1)])) _
    refine XS.iconst X0.here hx rfl (hb hby at_13) ?_
    show Steps p.tables e below (s₁.setTop (mkF m 14 #[.val (.int p1), .val (.int (0 : Int32)), .unset, .unset, .unset, .unset, .unset, .unset, .unset, .unset, .unset, .unset] [(.int (2 : Int32)), (.int p1)])) _
    refine XS.iand X0.here hx rfl (hb hby at_14) rfl ?_
    show Steps p.tables e below (s₁.setTop (mkF m 15 #[.val (.int p1), .val (.int (0 : Int32)), .unset, .unset, .unset, .unset, .unset, .unset, .unset, .unset, .unset, .unset] [(.int (p1 &&& (2 : Int32)))])) _
    refine XS.ifNo X0.here hx rfl (hb hby at_15) rfl ((if0 _ _).trans (feq hc15).1) ?_
    show Steps p.tables e below (s₁.setTop (mkF m 18 #[.val (.int p1), .val (.int (0 : Int32)), .unset, .unset, .unset, .unset, .unset, .unset, .unset, .unset, .unset, .unset] [])) _
    refine XS.iconst X0.here hx rfl (hb hby at_18) ?_
    show Steps p.tables e below (s₁.setTop (mkF m 19 #[.val (.int p1), .val (.int (0 : Int32)), .unset, .unset, .unset, .unset, .unset, .unset, .unset, .unset, .unset, .unset] [(.int (1 : Int32))])) _
    refine XS.goto X0.here hx rfl (pc0 := 19) (pc' := 23) rfl (hb hby at_19) (by decide) (by decide) ?_
    show Steps p.tables e below (s₁.setTop (mkF m 23 #[.val (.int p1), .val (.int (0 : Int32)), .unset, .unset, .unset, .unset, .unset, .unset, .unset, .unset, .unset, .unset] [(.int (1 : Int32))])) _
    refine XS.istoreN X0.here hx rfl (hb hby at_23) rfl (l' := #[.val (.int p1), .val (.int (0 : Int32)), .val (.int (1 : Int32)), .unset, .unset, .unset, .unset, .unset, .unset, .unset, .unset, .unset]) rfl ?_
    show Steps p.tables e below (s₁.setTop (mkF m 24 #[.val (.int p1), .val (.int (0 : Int32)), .val (.int (1 : Int32)), .unset, .unset, .unset, .unset, .unset, .unset, .unset, .unset, .unset] [])) _
    refine XS.iloadN X0.here hx rfl (hb hby at_24) rfl ?_
    show Steps p.tables e below (s₁.setTop (mkF m 25 #[.val (.int p1), .val (.int (0 : Int32)), .val (.int (1 : Int32)), .unset, .unset, .unset, .unset, .unset, .unset, .unset, .unset, .unset] [(.int (0 : Int32))])) _
    refine XS.ifYes X0.here hx rfl (pc0 := 25) (pc' := 38) rfl (hb hby at_25) rfl ((if0 _ _).trans (teq (rfl : (0 : Int32) = (0 : Int32))).1) (by decide) (by decide) ?_
    show Steps p.tables e below (s₁.setTop (mkF m 38 #[.val (.int p1), .val (.int (0 : Int32)), .val (.int (1 : Int32)), .unset, .unset, .unset, .unset, .unset, .unset, .unset, .unset, .unset] [])) _
    refine XS.iconst X0.here hx rfl (hb hby at_38) ?_
    show Steps p.tables e below (s₁.setTop (mkF m 39 #[.val (.int p1), .val (.int (0 : Int32)), .val (.int (1 : Int32)), .unset, .unset, .unset, .unset, .unset, .unset, .unset, .unset, .unset] [(.int (0 : Int32))])) _
    refine XS.istoreN X0.here hx rfl (hb hby at_39) rfl (l' := #[.val (.int p1), .val (.int (0 : Int32)), .val (.int (1 : Int32)), .val (.int (0 : Int32)), .unset, .unset, .unset, .unset, .unset, .unset, .unset, .unset]) rfl ?_
    show Steps p.tables e below (s₁.setTop (mkF m 40 #[.val (.int p1), .val (.int (0 : Int32)), .val (.int (1 : Int32)), .val (.int (0 : Int32)), .unset, .unset, .unset, .unset, .unset, .unset, .unset, .unset] [])) _
    refine XS.iloadN X0.here hx rfl (hb hby at_40) rfl ?_
    show Steps p.tables e below (s₁.setTop (mkF m 41 #[.val (.int p1), .val (.int (0 : Int32)), .val (.int (1 : Int32)), .val (.int (0 : Int32)), .unset, .unset, .unset, .unset, .unset, .unset, .unset, .unset] [(.int (1 : Int32))])) _
    refine XS.ifNo X0.here hx rfl (hb hby at_41) rfl ((if0 _ _).trans (feq hc41).1) ?_
    show Steps p.tables e below (s₁.setTop (mkF m 44 #[.val (.int p1), .val (.int (0 : Int32)), .val (.int (1 : Int32)), .val (.int (0 : Int32)), .unset, .unset, .unset, .unset, .unset, .unset, .unset, .unset] [])) _
    refine XS.iloadN X0.here hx rfl (hb hby at_44) rfl ?_
    show Steps p.tables e below (s₁.setTop (mkF m 45 #[.val (.int p1), .val (.int (0 : Int32)), .val (.int (1 : Int32)), .val (.int (0 : Int32)), .unset, .unset, .unset, .unset, .unset, .unset, .unset, .unset] [(.int p1)])) _
    refine XS.bipush X0.here hx rfl (hb hby at_45) ?_
    show Steps p.tables e below (s₁.setTop (mkF m 47 #[.val (.int p1), .val (.int (0 : Int32)), .val (.int (1 : Int32)), .val (.int (0 : Int32)), .unset, .unset, .unset, .unset, .unset, .unset, .unset, .unset] [(.int (8 : Int32)), (.int p1)])) _
    refine XS.iand X0.here hx rfl (hb hby at_47) rfl ?_
    show Steps p.tables e below (s₁.setTop (mkF m 48 #[.val (.int p1), .val (.int (0 : Int32)), .val (.int (1 : Int32)), .val (.int (0 : Int32)), .unset, .unset, .unset, .unset, .unset, .unset, .unset, .unset] [(.int (p1 &&& (8 : Int32)))])) _
    refine XS.ifNo X0.here hx rfl (hb hby at_48) rfl ((if0 _ _).trans (feq hc48).1) ?_
    show Steps p.tables e below (s₁.setTop (mkF m 51 #[.val (.int p1), .val (.int (0 : Int32)), .val (.int (1 : Int32)), .val (.int (0 : Int32)), .unset, .unset, .unset, .unset, .unset, .unset, .unset, .unset] [])) _
    refine XS.iconst X0.here hx rfl (hb hby at_51) ?_
    show Steps p.tables e below (s₁.setTop (mkF m 52 #[.val (.int p1), .val (.int (0 : Int32)), .val (.int (1 : Int32)), .val (.int (0 : Int32)), .unset, .unset, .unset, .unset, .unset, .unset, .unset, .unset] [(.int (1 : Int32))])) _
    refine XS.goto X0.here hx rfl (pc0 := 52) (pc' := 56) rfl (hb hby at_52) (by decide) (by decide) ?_
    show Steps p.tables e below (s₁.setTop (mkF m 56 #[.val (.int p1), .val (.int (0 : Int32)), .val (.int (1 : Int32)), .val (.int (0 : Int32)), .unset, .unset, .unset, .unset, .unset, .unset, .unset, .unset] [(.int (1 : Int32))])) _
    refine XS.istore X0.here hx rfl (hb hby at_56) rfl (l' := #[.val (.int p1), .val (.int (0 : Int32)), .val (.int (1 : Int32)), .val (.int (0 : Int32)), .val (.int (1 : Int32)), .unset, .unset, .unset, .unset, .unset, .unset, .unset]) rfl ?_
    show Steps p.tables e below (s₁.setTop (mkF m 58 #[.val (.int p1), .val (.int (0 : Int32)), .val (.int (1 : Int32)), .val (.int (0 : Int32)), .val (.int (1 : Int32)), .unset, .unset, .unset, .unset, .unset, .unset, .unset] [])) _
    refine st2 _ ?_
    show Steps p.tables e below (T2.setTop (mkF m 61 #[.val (.int p1), .val (.int (0 : Int32)), .val (.int (1 : Int32)), .val (.int (0 : Int32)), .val (.int (1 : Int32)), .unset, .unset, .unset, .unset, .unset, .unset, .unset] [(.ref b2)])) _
    refine XS.dup X2.here hx rfl (hb hby at_61) rfl rfl ?_
    show Steps p.tables e below (T2.setTop (mkF m 62 #[.val (.int p1), .val (.int (0 : Int32)), .val (.int (1 : Int32)), .val (.int (0 : Int32)), .val (.int (1 : Int32)), .unset, .unset, .unset, .unset, .unset, .unset, .unset] [(.ref b2), (.ref b2)])) _
    refine st3.trans ?_
    show Steps p.tables e below (T3.setTop (mkF m 65 #[.val (.int p1), .val (.int (0 : Int32)), .val (.int (1 : Int32)), .val (.int (0 : Int32)), .val (.int (1 : Int32)), .unset, .unset, .unset, .unset, .unset, .unset, .unset] [(.ref b2)])) _
    refine XS.astore X3.here hx rfl (hb hby at_65) rfl rfl (l' := #[.val (.int p1), .val (.int (0 : Int32)), .val (.int (1 : Int32)), .val (.int (0 : Int32)), .val (.int (1 : Int32)), .val (.ref b2), .unset, .unset, .unset, .unset, .unset, .unset]) rfl ?_
    show Steps p.tables e below (T3.setTop (mkF m 67 #[.val (.int p1), .val (.int (0 : Int32)), .val (.int (1 : Int32)), .val (.int (0 : Int32)), .val (.int (1 : Int32)), .val (.ref b2), .unset, .unset, .unset, .unset, .unset, .unset] [])) _
    refine st4 _ ?_
    show Steps p.tables e below (T4.setTop (mkF m 70 #[.val (.int p1), .val (.int (0 : Int32)), .val (.int (1 : Int32)), .val (.int (0 : Int32)), .val (.int (1 : Int32)), .val (.ref b2), .unset, .unset, .unset, .unset, .unset, .unset] [(.ref b4)])) _
    refine XS.dup X4.here hx rfl (hb hby at_70) rfl rfl ?_
    show Steps p.tables e below (T4.setTop (mkF m 71 #[.val (.int p1), .val (.int (0 : Int32)), .val (.int (1 : Int32)), .val (.int (0 : Int32)), .val (.int (1 : Int32)), .val (.ref b2), .unset, .unset, .unset, .unset, .unset, .unset] [(.ref b4), (.ref b4)])) _
    refine XS.aconstNull X4.here hx rfl (hb hby at_71) ?_
    show Steps p.tables e below (T4.setTop (mkF m 72 #[.val (.int p1), .val (.int (0 : Int32)), .val (.int (1 : Int32)), .val (.int (0 : Int32)), .val (.int (1 : Int32)), .val (.ref b2), .unset, .unset, .unset, .unset, .unset, .unset] [.null, (.ref b4), (.ref b4)])) _
    refine XS.aconstNull X4.here hx rfl (hb hby at_72) ?_
    show Steps p.tables e below (T4.setTop (mkF m 73 #[.val (.int p1), .val (.int (0 : Int32)), .val (.int (1 : Int32)), .val (.int (0 : Int32)), .val (.int (1 : Int32)), .val (.ref b2), .unset, .unset, .unset, .unset, .unset, .unset] [.null, .null, (.ref b4), (.ref b4)])) _
    refine XS.iconst X4.here hx rfl (hb hby at_73) ?_
    show Steps p.tables e below (T4.setTop (mkF m 74 #[.val (.int p1), .val (.int (0 : Int32)), .val (.int (1 : Int32)), .val (.int (0 : Int32)), .val (.int (1 : Int32)), .val (.ref b2), .unset, .unset, .unset, .unset, .unset, .unset] [(.int (0 : Int32)), .null, .null, (.ref b4), (.ref b4)])) _
    refine st5.trans ?_
    show Steps p.tables e below (T5.setTop (mkF m 77 #[.val (.int p1), .val (.int (0 : Int32)), .val (.int (1 : Int32)), .val (.int (0 : Int32)), .val (.int (1 : Int32)), .val (.ref b2), .unset, .unset, .unset, .unset, .unset, .unset] [(.ref b4)])) _
    refine XS.astore X5.here hx rfl (hb hby at_77) rfl rfl (l' := #[.val (.int p1), .val (.int (0 : Int32)), .val (.int (1 : Int32)), .val (.int (0 : Int32)), .val (.int (1 : Int32)), .val (.ref b2), .val (.ref b4), .unset, .unset, .unset, .unset, .unset]) rfl ?_
    show Steps p.tables e below (T5.setTop (mkF m 79 #[.val (.int p1), .val (.int (0 : Int32)), .val (.int (1 : Int32)), .val (.int (0 : Int32)), .val (.int (1 : Int32)), .val (.ref b2), .val (.ref b4), .unset, .unset, .unset, .unset, .unset] [])) _
    refine st6 _ ?_
    show Steps p.tables e below (T6.setTop (mkF m 82 #[.val (.int p1), .val (.int (0 : Int32)), .val (.int (1 : Int32)), .val (.int (0 : Int32)), .val (.int (1 : Int32)), .val (.ref b2), .val (.ref b4), .unset, .unset, .unset, .unset, .unset] [(.ref b6)])) _
    refine XS.dup X6.here hx rfl (hb hby at_82) rfl rfl ?_
    show Steps p.tables e below (T6.setTop (mkF m 83 #[.val (.int p1), .val (.int (0 : Int32)), .val (.int (1 : Int32)), .val (.int (0 : Int32)), .val (.int (1 : Int32)), .val (.ref b2), .val (.ref b4), .unset, .unset, .unset, .unset, .unset] [(.ref b6), (.ref b6)])) _
    refine XS.aconstNull X6.here hx rfl (hb hby at_83) ?_
    show Steps p.tables e below (T6.setTop (mkF m 84 #[.val (.int p1), .val (.int (0 : Int32)), .val (.int (1 : Int32)), .val (.int (0 : Int32)), .val (.int (1 : Int32)), .val (.ref b2), .val (.ref b4), .unset, .unset, .unset, .unset, .unset] [.null, (.ref b6), (.ref b6)])) _
    refine XS.aconstNull X6.here hx rfl (hb hby at_84) ?_
    show Steps p.tables e below (T6.setTop (mkF m 85 #[.val (.int p1), .val (.int (0 : Int32)), .val (.int (1 : Int32)), .val (.int (0 : Int32)), .val (.int (1 : Int32)), .val (.ref b2), .val (.ref b4), .unset, .unset, .unset, .unset, .unset] [.null, .null, (.ref b6), (.ref b6)])) _
    refine XS.iconst X6.here hx rfl (hb hby at_85) ?_
    show Steps p.tables e below (T6.setTop (mkF m 86 #[.val (.int p1), .val (.int (0 : Int32)), .val (.int (1 : Int32)), .val (.int (0 : Int32)), .val (.int (1 : Int32)), .val (.ref b2), .val (.ref b4), .unset, .unset, .unset, .unset, .unset] [(.int (0 : Int32)), .null, .null, (.ref b6), (.ref b6)])) _
    refine st7.trans ?_
    show Steps p.tables e below (T7.setTop (mkF m 89 #[.val (.int p1), .val (.int (0 : Int32)), .val (.int (1 : Int32)), .val (.int (0 : Int32)), .val (.int (1 : Int32)), .val (.ref b2), .val (.ref b4), .unset, .unset, .unset, .unset, .unset] [(.ref b6)])) _
    refine XS.astore X7.here hx rfl (hb hby at_89) rfl rfl (l' := #[.val (.int p1), .val (.int (0 : Int32)), .val (.int (1 : Int32)), .val (.int (0 : Int32)), .val (.int (1 : Int32)), .val (.ref b2), .val (.ref b4), .val (.ref b6), .unset, .unset, .unset, .unset]) rfl ?_
    show Steps p.tables e below (T7.setTop (mkF m 91 #[.val (.int p1), .val (.int (0 : Int32)), .val (.int (1 : Int32)), .val (.int (0 : Int32)), .val (.int (1 : Int32)), .val (.ref b2), .val (.ref b4), .val (.ref b6), .unset, .unset, .unset, .unset] [])) _
    refine XS.iconst X7.here hx rfl (hb hby at_91) ?_
    show Steps p.tables e below (T7.setTop (mkF m 92 #[.val (.int p1), .val (.int (0 : Int32)), .val (.int (1 : Int32)), .val (.int (0 : Int32)), .val (.int (1 : Int32)), .val (.ref b2), .val (.ref b4), .val (.ref b6), .unset, .unset, .unset, .unset] [(.int (0 : Int32))])) _
    refine XS.istore X7.here hx rfl (hb hby at_92) rfl (l' := #[.val (.int p1), .val (.int (0 : Int32)), .val (.int (1 : Int32)), .val (.int (0 : Int32)), .val (.int (1 : Int32)), .val (.ref b2), .val (.ref b4), .val (.ref b6), .val (.int (0 : Int32)), .unset, .unset, .unset]) rfl ?_
    show Steps p.tables e below (T7.setTop (mkF m 94 #[.val (.int p1), .val (.int (0 : Int32)), .val (.int (1 : Int32)), .val (.int (0 : Int32)), .val (.int (1 : Int32)), .val (.ref b2), .val (.ref b4), .val (.ref b6), .val (.int (0 : Int32)), .unset, .unset, .unset] [])) _
    refine XS.iloadN X7.here hx rfl (hb hby at_94) rfl ?_
    show Steps p.tables e below (T7.setTop (mkF m 95 #[.val (.int p1), .val (.int (0 : Int32)), .val (.int (1 : Int32)), .val (.int (0 : Int32)), .val (.int (1 : Int32)), .val (.ref b2), .val (.ref b4), .val (.ref b6), .val (.int (0 : Int32)), .unset, .unset, .unset] [(.int (0 : Int32))])) _
    refine XS.ifYes X7.here hx rfl (pc0 := 95) (pc' := 111) rfl (hb hby at_95) rfl ((if0 _ _).trans (teq (rfl : (0 : Int32) = (0 : Int32))).1) (by decide) (by decide) ?_
    show Steps p.tables e below (T7.setTop (mkF m 111 #[.val (.int p1), .val (.int (0 : Int32)), .val (.int (1 : Int32)), .val (.int (0 : Int32)), .val (.int (1 : Int32)), .val (.ref b2), .val (.ref b4), .val (.ref b6), .val (.int (0 : Int32)), .unset, .unset, .unset] [])) _
    refine XS.iloadN X7.here hx rfl (hb hby at_111) rfl ?_
    show Steps p.tables e below (T7.setTop (mkF m 112 #[.val (.int p1), .val (.int (0 : Int32)), .val (.int (1 : Int32)), .val (.int (0 : Int32)), .val (.int (1 : Int32)), .val (.ref b2), .val (.ref b4), .val (.ref b6), .val (.int (0 : Int32)), .unset, .unset, .unset] [(.int (1 : Int32))])) _
    refine XS.ifNo X7.here hx rfl (hb hby at_112) rfl ((if0 _ _).trans (feq hc112).1) ?_
    show Steps p.tables e below (T7.setTop (mkF m 115 #[.val (.int p1), .val (.int (0 : Int32)), .val (.int (1 : Int32)), .val (.int (0 : Int32)), .val (.int (1 : Int32)), .val (.ref b2), .val (.ref b4), .val (.ref b6), .val (.int (0 : Int32)), .unset, .unset, .unset] [])) _
    refine XS.aload X7.here hx rfl (hb hby at_115) rfl rfl ?_
    show Steps p.tables e below (T7.setTop (mkF m 117 #[.val (.int p1), .val (.int (0 : Int32)), .val (.int (1 : Int32)), .val (.int (0 : Int32)), .val (.int (1 : Int32)), .val (.ref b2), .val (.ref b4), .val (.ref b6), .val (.int (0 : Int32)), .unset, .unset, .unset] [(.ref b2)])) _
    refine XS.aload X7.here hx rfl (hb hby at_117) rfl rfl ?_
    show Steps p.tables e below (T7.setTop (mkF m 119 #[.val (.int p1), .val (.int (0 : Int32)), .val (.int (1 : Int32)), .val (.int (0 : Int32)), .val (.int (1 : Int32)), .val (.ref b2), .val (.ref b4), .val (.ref b6), .val (.int (0 : Int32)), .unset, .unset, .unset] [(.ref b6), (.ref b2)])) _
    refine st8.trans ?_
    show Steps p.tables e below (T8.setTop (mkF m 122 #[.val (.int p1), .val (.int (0 : Int32)), .val (.int (1 : Int32)), .val (.int (0 : Int32)), .val (.int (1 : Int32)), .val (.ref b2), .val (.ref b4), .val (.ref b6), .val (.int (0 : Int32)), .unset, .unset, .unset] [])) _
    refine XS.iload X8.here hx rfl (hb hby at_122) rfl ?_
    show Steps p.tables e below (T8.setTop (mkF m 124 #[.val (.int p1), .val (.int (0 : Int32)), .val (.int (1 : Int32)), .val (.int (0 : Int32)), .val (.int (1 : Int32)), .val (.ref b2), .val (.ref b4), .val (.ref b6), .val (.int (0 : Int32)), .unset, .unset, .unset] [(.int (0 : Int32))])) _
    refine XS.iconst X8.here hx rfl (hb hby at_124) ?_
    show Steps p.tables e below (T8.setTop (mkF m 125 #[.val (.int p1), .val (.int (0 : Int32)), .val (.int (1 : Int32)), .val (.int (0 : Int32)), .val (.int (1 : Int32)), .val (.ref b2), .val (.ref b4), .val (.ref b6), .val (.int (0 : Int32)), .unset, .unset, .unset] [(.int (1 : Int32)), (.int (0 : Int32))])) _
    refine XS.iadd X8.here hx rfl (hb hby at_125) rfl ?_
    show Steps p.tables e below (T8.setTop (mkF m 126 #[.val (.int p1), .val (.int (0 : Int32)), .val (.int (1 : Int32)), .val (.int (0 : Int32)), .val (.int (1 : Int32)), .val (.ref b2), .val (.ref b4), .val (.ref b6), .val (.int (0 : Int32)), .unset, .unset, .unset] [(.int ((0 : Int32) + (1 : Int32)))])) _
    refine XS.istore X8.here hx rfl (hb hby at_126) rfl (l' := #[.val (.int p1), .val (.int (0 : Int32)), .val (.int (1 : Int32)), .val (.int (0 : Int32)), .val (.int (1 : Int32)), .val (.ref b2), .val (.ref b4), .val (.ref b6), .val (.int ((0 : Int32) + (1 : Int32))), .unset, .unset, .unset]) rfl ?_
    show Steps p.tables e below (T8.setTop (mkF m 128 #[.val (.int p1), .val (.int (0 : Int32)), .val (.int (1 : Int32)), .val (.int (0 : Int32)), .val (.int (1 : Int32)), .val (.ref b2), .val (.ref b4), .val (.ref b6), .val (.int ((0 : Int32) + (1 : Int32))), .unset, .unset, .unset] [])) _
    refine XS.iloadN X8.here hx rfl (hb hby at_128) rfl ?_
    show Steps p.tables e below (T8.setTop (mkF m 129 #[.val (.int p1), .val (.int (0 : Int32)), .val (.int (1 : Int32)), .val (.int (0 : Int32)), .val (.int (1 : Int32)), .val (.ref b2), .val (.ref b4), .val (.ref b6), .val (.int ((0 : Int32) + (1 : Int32))), .unset, .unset, .unset] [(.int (0 : Int32))])) _
    refine XS.ifYes X8.here hx rfl (pc0 := 129) (pc' := 145) rfl (hb hby at_129) rfl ((if0 _ _).trans (teq (rfl : (0 : Int32) = (0 : Int32))).1) (by decide) (by decide) ?_
    show Steps p.tables e below (T8.setTop (mkF m 145 #[.val (.int p1), .val (.int (0 : Int32)), .val (.int (1 : Int32)), .val (.int (0 : Int32)), .val (.int (1 : Int32)), .val (.ref b2), .val (.ref b4), .val (.ref b6), .val (.int ((0 : Int32) + (1 : Int32))), .unset, .unset, .unset] [])) _
    refine XS.iload X8.here hx rfl (hb hby at_145) rfl ?_
    show Steps p.tables e below (T8.setTop (mkF m 147 #[.val (.int p1), .val (.int (0 : Int32)), .val (.int (1 : Int32)), .val (.int (0 : Int32)), .val (.int (1 : Int32)), .val (.ref b2), .val (.ref b4), .val (.ref b6), .val (.int ((0 : Int32) + (1 : Int32))), .unset, .unset, .unset] [(.int (1 : Int32))])) _
    refine XS.ifNo X8.here hx rfl (hb hby at_147) rfl ((if0 _ _).trans (feq hc147).1) ?_
    show Steps p.tables e below (T8.setTop (mkF m 150 #[.val (.int p1), .val (.int (0 : Int32)), .val (.int (1 : Int32)), .val (.int (0 : Int32)), .val (.int (1 : Int32)), .val (.ref b2), .val (.ref b4), .val (.ref b6), .val (.int ((0 : Int32) + (1 : Int32))), .unset, .unset, .unset] [])) _
    refine XS.aload X8.here hx rfl (hb hby at_150) rfl rfl ?_
    show Steps p.tables e below (T8.setTop (mkF m 152 #[.val (.int p1), .val (.int (0 : Int32)), .val (.int (1 : Int32)), .val (.int (0 : Int32)), .val (.int (1 : Int32)), .val (.ref b2), .val (.ref b4), .val (.ref b6), .val (.int ((0 : Int32) + (1 : Int32))), .unset, .unset, .unset] [(.ref b2)])) _
    refine XS.aload X8.here hx rfl (hb hby at_152) rfl rfl ?_
    show Steps p.tables e below (T8.setTop (mkF m 154 #[.val (.int p1), .val (.int (0 : Int32)), .val (.int (1 : Int32)), .val (.int (0 : Int32)), .val (.int (1 : Int32)), .val (.ref b2), .val (.ref b4), .val (.ref b6), .val (.int ((0 : Int32) + (1 : Int32))), .unset, .unset, .unset] [(.ref b6), (.ref b2)])) _
    refine st9.trans ?_
    show Steps p.tables e below (T9.setTop (mkF m 157 #[.val (.int p1), .val (.int (0 : Int32)), .val (.int (1 : Int32)), .val (.int (0 : Int32)), .val (.int (1 : Int32)), .val (.ref b2), .val (.ref b4), .val (.ref b6), .val (.int ((0 : Int32) + (1 : Int32))), .unset, .unset, .unset] [])) _
    refine XS.iload X9.here hx rfl (hb hby at_157) rfl ?_
    show Steps p.tables e below (T9.setTop (mkF m 159 #[.val (.int p1), .val (.int (0 : Int32)), .val (.int (1 : Int32)), .val (.int (0 : Int32)), .val (.int (1 : Int32)), .val (.ref b2), .val (.ref b4), .val (.ref b6), .val (.int ((0 : Int32) + (1 : Int32))), .unset, .unset, .unset] [(.int ((0 : Int32) + (1 : Int32)))])) _
    refine XS.iconst X9.here hx rfl (hb hby at_159) ?_
    show Steps p.tables e below (T9.setTop (mkF m 160 #[.val (.int p1), .val (.int (0 : Int32)), .val (.int (1 : Int32)), .val (.int (0 : Int32)), .val (.int (1 : Int32)), .val (.ref b2), .val (.ref b4), .val (.ref b6), .val (.int ((0 : Int32) + (1 : Int32))), .unset, .unset, .unset] [(.int (1 : Int32)), (.int ((0 : Int32) + (1 : Int32)))])) _
    refine XS.isub X9.here hx rfl (hb hby at_160) rfl ?_
    show Steps p.tables e below (T9.setTop (mkF m 161 #[.val (.int p1), .val (.int (0 : Int32)), .val (.int (1 : Int32)), .val (.int (0 : Int32)), .val (.int (1 : Int32)), .val (.ref b2), .val (.ref b4), .val (.ref b6), .val (.int ((0 : Int32) + (1 : Int32))), .unset, .unset, .unset] [(.int (((0 : Int32) + (1 : Int32)) - (1 : Int32)))])) _
    refine XS.istore X9.here hx rfl (hb hby at_161) rfl (l' := #[.val (.int p1), .val (.int (0 : Int32)), .val (.int (1 : Int32)), .val (.int (0 : Int32)), .val (.int (1 : Int32)), .val (.ref b2), .val (.ref b4), .val (.ref b6), .val (.int (((0 : Int32) + (1 : Int32)) - (1 : Int32))), .unset, .unset, .unset]) rfl ?_
    show Steps p.tables e below (T9.setTop (mkF m 163 #[.val (.int p1), .val (.int (0 : Int32)), .val (.int (1 : Int32)), .val (.int (0 : Int32)), .val (.int (1 : Int32)), .val (.ref b2), .val (.ref b4), .val (.ref b6), .val (.int (((0 : Int32) + (1 : Int32)) - (1 : Int32))), .unset, .unset, .unset] [])) _
    refine XS.iload X9.here hx rfl (hb hby at_163) rfl ?_
    show Steps p.tables e below (T9.setTop (mkF m 165 #[.val (.int p1), .val (.int (0 : Int32)), .val (.int (1 : Int32)), .val (.int (0 : Int32)), .val (.int (1 : Int32)), .val (.ref b2), .val (.ref b4), .val (.ref b6), .val (.int (((0 : Int32) + (1 : Int32)) - (1 : Int32))), .unset, .unset, .unset] [(.int (((0 : Int32) + (1 : Int32)) - (1 : Int32)))])) _
    refine own_tif_ne X9.here hx (hb hby at_165) (hb hby at_168) (hb hby at_169) (hb hby at_172) ?_
    show Steps p.tables e below (T9.setTop (mkF m 173 #[.val (.int p1), .val (.int (0 : Int32)), .val (.int (1 : Int32)), .val (.int (0 : Int32)), .val (.int (1 : Int32)), .val (.ref b2), .val (.ref b4), .val (.ref b6), .val (.int (((0 : Int32) + (1 : Int32)) - (1 : Int32))), .unset, .unset, .unset] [(.int (if (((0 : Int32) + (1 : Int32)) - (1 : Int32)) = (0 : Int32) then (1 : Int32) else 0))])) _
    refine XS.istore X9.here hx rfl (hb hby at_173) rfl (l' := #[.val (.int p1), .val (.int (0 : Int32)), .val (.int (1 : Int32)), .val (.int (0 : Int32)), .val (.int (1 : Int32)), .val (.ref b2), .val (.ref b4), .val (.ref b6), .val (.int (((0 : Int32) + (1 : Int32)) - (1 : Int32))), .val (.int (if (((0 : Int32) + (1 : Int32)) - (1 : Int32)) = (0 : Int32) then (1 : Int32) else 0)), .unset, .unset]) rfl ?_
    show Steps p.tables e below (T9.setTop (mkF m 175 #[.val (.int p1), .val (.int (0 : Int32)), .val (.int (1 : Int32)), .val (.int (0 : Int32)), .val (.int (1 : Int32)), .val (.ref b2), .val (.ref b4), .val (.ref b6), .val (.int (((0 : Int32) + (1 : Int32)) - (1 : Int32))), .val (.int (if (((0 : Int32) + (1 : Int32)) - (1 : Int32)) = (0 : Int32) then (1 : Int32) else 0)), .unset, .unset] [])) _
    refine XS.aload X9.here hx rfl (hb hby at_175) rfl rfl ?_
    show Steps p.tables e below (T9.setTop (mkF m 177 #[.val (.int p1), .val (.int (0 : Int32)), .val (.int (1 : Int32)), .val (.int (0 : Int32)), .val (.int (1 : Int32)), .val (.ref b2), .val (.ref b4), .val (.ref b6), .val (.int (((0 : Int32) + (1 : Int32)) - (1 : Int32))), .val (.int (if (((0 : Int32) + (1 : Int32)) - (1 : Int32)) = (0 : Int32) then (1 : Int32) else 0)), .unset, .unset] [(.ref b2)])) _
    refine st10.trans ?_
    show Steps p.tables e below (T10.setTop (mkF m 180 #[.val (.int p1), .val (.int (0 : Int32)), .val (.int (1 : Int32)), .val (.int (0 : Int32)), .val (.int (1 : Int32)), .val (.ref b2), .val (.ref b4), .val (.ref b6), .val (.int (((0 : Int32) + (1 : Int32)) - (1 : Int32))), .val (.int (if (((0 : Int32) + (1 : Int32)) - (1 : Int32)) = (0 : Int32) then (1 : Int32) else 0)), .unset, .unset] [(.int (if (((0 : Int32) + (1 : Int32)) - (1 : Int32)) = (0 : Int32) then (1 : Int32) else 0))])) _
    refine XS.istore X10.here hx rfl (hb hby at_180) rfl (l' := #[.val (.int p1), .val (.int (0 : Int32)), .val (.int (1 : Int32)), .val (.int (0 : Int32)), .val (.int (1 : Int32)), .val (.ref b2), .val (.ref b4), .val (.ref b6), .val (.int (((0 : Int32) + (1 : Int32)) - (1 : Int32))), .val (.int (if (((0 : Int32) + (1 : Int32)) - (1 : Int32)) = (0 : Int32) then (1 : Int32) else 0)), .val (.int (if (((0 : Int32) + (1 : Int32)) - (1 : Int32)) = (0 : Int32) then (1 : Int32) else 0)), .unset]) rfl ?_
    show Steps p.tables e below (T10.setTop (mkF m 182 #[.val (.int p1), .val (.int (0 : Int32)), .val (.int (1 : Int32)), .val (.int (0 : Int32)), .val (.int (1 : Int32)), .val (.ref b2), .val (.ref b4), .val (.ref b6), .val (.int (((0 : Int32) + (1 : Int32)) - (1 : Int32))), .val (.int (if (((0 : Int32) + (1 : Int32)) - (1 : Int32)) = (0 : Int32) then (1 : Int32) else 0)), .val (.int (if (((0 : Int32) + (1 : Int32)) - (1 : Int32)) = (0 : Int32) then (1 : Int32) else 0)), .unset] [])) _
    refine XS.aload X10.here hx rfl (hb hby at_182) rfl rfl ?_
    show Steps p.tables e below (T10.setTop (mkF m 184 #[.val (.int p1), .val (.int (0 : Int32)), .val (.int (1 : Int32)), .val (.int (0 : Int32)), .val (.int (1 : Int32)), .val (.ref b2), .val (.ref b4), .val (.ref b6), .val (.int (((0 : Int32) + (1 : Int32)) - (1 : Int32))), .val (.int (if (((0 : Int32) + (1 : Int32)) - (1 : Int32)) = (0 : Int32) then (1 : Int32) else 0)), .val (.int (if (((0 : Int32) + (1 : Int32)) - (1 : Int32)) = (0 : Int32) then (1 : Int32) else 0)), .unset] [(.ref b2)])) _
    refine st11.trans ?_
    show Steps p.tables e below (T11.setTop (mkF m 187 #[.val (.int p1), .val (.int (0 : Int32)), .val (.int (1 : Int32)), .val (.int (0 : Int32)), .val (.int (1 : Int32)), .val (.ref b2), .val (.ref b4), .val (.ref b6), .val (.int (((0 : Int32) + (1 : Int32)) - (1 : Int32))), .val (.int (if (((0 : Int32) + (1 : Int32)) - (1 : Int32)) = (0 : Int32) then (1 : Int32) else 0)), .val (.int (if (((0 : Int32) + (1 : Int32)) - (1 : Int32)) = (0 : Int32) then (1 : Int32) else 0)), .unset] [.null])) _
    refine XS.ifnonnullNo X11.here hx rfl (hb hby at_187) rfl ?_
    show Steps p.tables e below (T11.setTop (mkF m 190 #[.val (.int p1), .val (.int (0 : Int32)), .val (.int (1 : Int32)), .val (.int (0 : Int32)), .val (.int (1 : Int32)), .val (.ref b2), .val (.ref b4), .val (.ref b6), .val (.int (((0 : Int32) + (1 : Int32)) - (1 : Int32))), .val (.int (if (((0 : Int32) + (1 : Int32)) - (1 : Int32)) = (0 : Int32) then (1 : Int32) else 0)), .val (.int (if (((0 : Int32) + (1 : Int32)) - (1 : Int32)) = (0 : Int32) then (1 : Int32) else 0)), .unset] [])) _
    refine XS.iconst X11.here hx rfl (hb hby at_190) ?_
    show Steps p.tables e below (T11.setTop (mkF m 191 #[.val (.int p1), .val (.int (0 : Int32)), .val (.int (1 : Int32)), .val (.int (0 : Int32)), .val (.int (1 : Int32)), .val (.ref b2), .val (.ref b4), .val (.ref b6), .val (.int (((0 : Int32) + (1 : Int32)) - (1 : Int32))), .val (.int (if (((0 : Int32) + (1 : Int32)) - (1 : Int32)) = (0 : Int32) then (1 : Int32) else 0)), .val (.int (if (((0 : Int32) + (1 : Int32)) - (1 : Int32)) = (0 : Int32) then (1 : Int32) else 0)), .unset] [(.int (1 : Int32))])) _
    refine XS.goto X11.here hx rfl (pc0 := 191) (pc' := 195) rfl (hb hby at_191) (by decide) (by decide) ?_
    show Steps p.tables e below (T11.setTop (mkF m 195 #[.val (.int p1), .val (.int (0 : Int32)), .val (.int (1 : Int32)), .val (.int (0 : Int32)), .val (.int (1 : Int32)), .val (.ref b2), .val (.ref b4), .val (.ref b6), .val (.int (((0 : Int32) + (1 : Int32)) - (1 : Int32))), .val (.int (if (((0 : Int32) + (1 : Int32)) - (1 : Int32)) = (0 : Int32) then (1 : Int32) else 0)), .val (.int (if (((0 : Int32) + (1 : Int32)) - (1 : Int32)) = (0 : Int32) then (1 : Int32) else 0)), .unset] [(.int (1 : Int32))])) _
    refine XS.istore X11.here hx rfl (hb hby at_195) rfl (l' := #[.val (.int p1), .val (.int (0 : Int32)), .val (.int (1 : Int32)), .val (.int (0 : Int32)), .val (.int (1 : Int32)), .val (.ref b2), .val (.ref b4), .val (.ref b6), .val (.int (((0 : Int32) + (1 : Int32)) - (1 : Int32))), .val (.int (if (((0 : Int32) + (1 : Int32)) - (1 : Int32)) = (0 : Int32) then (1 : Int32) else 0)), .val (.int (if (((0 : Int32) + (1 : Int32)) - (1 : Int32)) = (0 : Int32) then (1 : Int32) else 0)), .val (.int (1 : Int32))]) rfl ?_
    show Steps p.tables e below (T11.setTop (mkF m 197 #[.val (.int p1), .val (.int (0 : Int32)), .val (.int (1 : Int32)), .val (.int (0 : Int32)), .val (.int (1 : Int32)), .val (.ref b2), .val (.ref b4), .val (.ref b6), .val (.int (((0 : Int32) + (1 : Int32)) - (1 : Int32))), .val (.int (if (((0 : Int32) + (1 : Int32)) - (1 : Int32)) = (0 : Int32) then (1 : Int32) else 0)), .val (.int (if (((0 : Int32) + (1 : Int32)) - (1 : Int32)) = (0 : Int32) then (1 : Int32) else 0)), .val (.int (1 : Int32))] [])) _
    refine XS.iload X11.here hx rfl (hb hby at_197) rfl ?_
    show Steps p.tables e below (T11.setTop (mkF m 199 #[.val (.int p1), .val (.int (0 : Int32)), .val (.int (1 : Int32)), .val (.int (0 : Int32)), .val (.int (1 : Int32)), .val (.ref b2), .val (.ref b4), .val (.ref b6), .val (.int (((0 : Int32) + (1 : Int32)) - (1 : Int32))), .val (.int (if (((0 : Int32) + (1 : Int32)) - (1 : Int32)) = (0 : Int32) then (1 : Int32) else 0)), .val (.int (if (((0 : Int32) + (1 : Int32)) - (1 : Int32)) = (0 : Int32) then (1 : Int32) else 0)), .val (.int (1 : Int32))] [(.int (if (((0 : Int32) + (1 : Int32)) - (1 : Int32)) = (0 : Int32) then (1 : Int32) else 0))])) _
    refine XS.iload X11.here hx rfl (hb hby at_199) rfl ?_
    show Steps p.tables e below (T11.setTop (mkF m 201 #[.val (.int p1), .val (.int (0 : Int32)), .val (.int (1 : Int32)), .val (.int (0 : Int32)), .val (.int (1 : Int32)), .val (.ref b2), .val (.ref b4), .val (.ref b6), .val (.int (((0 : Int32) + (1 : Int32)) - (1 : Int32))), .val (.int (if (((0 : Int32) + (1 : Int32)) - (1 : Int32)) = (0 : Int32) then (1 : Int32) else 0)), .val (.int (if (((0 : Int32) + (1 : Int32)) - (1 : Int32)) = (0 : Int32) then (1 : Int32) else 0)), .val (.int (1 : Int32))] [(.int (if (((0 : Int32) + (1 : Int32)) - (1 : Int32)) = (0 : Int32) then (1 : Int32) else 0)), (.int (if (((0 : Int32) + (1 : Int32)) - (1 : Int32)) = (0 : Int32) then (1 : Int32) else 0))])) _
    refine XS.icmpNo X11.here hx rfl (hb hby at_201) rfl (teq (rfl : (if (((0 : Int32) + (1 : Int32)) - (1 : Int32)) = (0 : Int32) then (1 : Int32) else 0) = (if (((0 : Int32) + (1 : Int32)) - (1 : Int32)) = (0 : Int32) then (1 : Int32) else 0))).2 ?_
    show Steps p.tables e below (T11.setTop (mkF m 204 #[.val (.int p1), .val (.int (0 : Int32)), .val (.int (1 : Int32)), .val (.int (0 : Int32)), .val (.int (1 : Int32)), .val (.ref b2), .val (.ref b4), .val (.ref b6), .val (.int (((0 : Int32) + (1 : Int32)) - (1 : Int32))), .val (.int (if (((0 : Int32) + (1 : Int32)) - (1 : Int32)) = (0 : Int32) then (1 : Int32) else 0)), .val (.int (if (((0 : Int32) + (1 : Int32)) - (1 : Int32)) = (0 : Int32) then (1 : Int32) else 0)), .val (.int (1 : Int32))] [])) _
    refine XS.iload X11.here hx rfl (hb hby at_204) rfl ?_
    show Steps p.tables e below (T11.setTop (mkF m 206 #[.val (.int p1), .val (.int (0 : Int32)), .val (.int (1 : Int32)), .val (.int (0 : Int32)), .val (.int (1 : Int32)), .val (.ref b2), .val (.ref b4), .val (.ref b6), .val (.int (((0 : Int32) + (1 : Int32)) - (1 : Int32))), .val (.int (if (((0 : Int32) + (1 : Int32)) - (1 : Int32)) = (0 : Int32) then (1 : Int32) else 0)), .val (.int (if (((0 : Int32) + (1 : Int32)) - (1 : Int32)) = (0 : Int32) then (1 : Int32) else 0)), .val (.int (1 : Int32))] [(.int (1 : Int32))])) _
    refine XS.iload X11.here hx rfl (hb hby at_206) rfl ?_
    show Steps p.tables e below (T11.setTop (mkF m 208 #[.val (.int p1), .val (.int (0 : Int32)), .val (.int (1 : Int32)), .val (.int (0 : Int32)), .val (.int (1 : Int32)), .val (.ref b2), .val (.ref b4), .val (.ref b6), .val (.int (((0 : Int32) + (1 : Int32)) - (1 : Int32))), .val (.int (if (((0 : Int32) + (1 : Int32)) - (1 : Int32)) = (0 : Int32) then (1 : Int32) else 0)), .val (.int (if (((0 : Int32) + (1 : Int32)) - (1 : Int32)) = (0 : Int32) then (1 : Int32) else 0)), .val (.int (1 : Int32))] [(.int (if (((0 : Int32) + (1 : Int32)) - (1 : Int32)) = (0 : Int32) then (1 : Int32) else 0)), (.int (1 : Int32))])) _
    refine XS.icmpNo X11.here hx rfl (hb hby at_208) rfl (teq hc208).2 ?_
    show Steps p.tables e below (T11.setTop (mkF m 211 #[.val (.int p1), .val (.int (0 : Int32)), .val (.int (1 : Int32)), .val (.int (0 : Int32)), .val (.int (1 : Int32)), .val (.ref b2), .val (.ref b4), .val (.ref b6), .val (.int (((0 : Int32) + (1 : Int32)) - (1 : Int32))), .val (.int (if (((0 : Int32) + (1 : Int32)) - (1 : Int32)) = (0 : Int32) then (1 : Int32) else 0)), .val (.int (if (((0 : Int32) + (1 : Int32)) - (1 : Int32)) = (0 : Int32) then (1 : Int32) else 0)), .val (.int (1 : Int32))] [])) _
    refine XS.iconst X11.here hx rfl (hb hby at_211) ?_
    show Steps p.tables e below (T11.setTop (mkF m 212 #[.val (.int p1), .val (.int (0 : Int32)), .val (.int (1 : Int32)), .val (.int (0 : Int32)), .val (.int (1 : Int32)), .val (.ref b2), .val (.ref b4), .val (.ref b6), .val (.int (((0 : Int32) + (1 : Int32)) - (1 : Int32))), .val (.int (if (((0 : Int32) + (1 : Int32)) - (1 : Int32)) = (0 : Int32) then (1 : Int32) else 0)), .val (.int (if (((0 : Int32) + (1 : Int32)) - (1 : Int32)) = (0 : Int32) then (1 : Int32) else 0)), .val (.int (1 : Int32))] [(.int (1 : Int32))])) _
    refine XS.goto X11.here hx rfl (pc0 := 212) (pc' := 216) rfl (hb hby at_212) (by decide) (by decide) ?_
    show Steps p.tables e below (T11.setTop (mkF m 216 #[.val (.int p1), .val (.int (0 : Int32)), .val (.int (1 : Int32)), .val (.int (0 : Int32)), .val (.int (1 : Int32)), .val (.ref b2), .val (.ref b4), .val (.ref b6), .val (.int (((0 : Int32) + (1 : Int32)) - (1 : Int32))), .val (.int (if (((0 : Int32) + (1 : Int32)) - (1 : Int32)) = (0 : Int32) then (1 : Int32) else 0)), .val (.int (if (((0 : Int32) + (1 : Int32)) - (1 : Int32)) = (0 : Int32) then (1 : Int32) else 0)), .val (.int (1 : Int32))] [(.int (1 : Int32))])) _
    exact retN X11 hx (t := .boolean) Bd.returns (by simp) (hb hby at_216) hr
  · show Q0 Z p1 h0 n0 _ T11.heap _
    rw [e11]
    exact ⟨rfl, N11⟩

set_option maxRecDepth 65536 in
set_option maxHeartbeats 40000000 in
theorem rm0_3 (l : Launch) (Z : State) (a0 : Array Value) (hw : ∀ d ∈ tables_1, d.before a0 Z = true) (ws : List Jvm.Cond) (p1 : Int32) (h0 : Heap) (n0 : Nat) (Z0 : n0 ≤ h0.size) (hc3 : ¬ ((p1 &&& (1 : Int32)) = (0 : Int32))) (hc15 : (p1 &&& (2 : Int32)) = (0 : Int32)) (hc25 : ¬ ((1 : Int32) = (0 : Int32))) (hc31 : (p1 &&& (4 : Int32)) = (0 : Int32)) (hc95 : ¬ ((1 : Int32) = (0 : Int32))) (hc208 : (0 : Int32) = (if ((0 : Int32) + (1 : Int32)) = (0 : Int32) then (1 : Int32) else 0)) :
    MetFree l x (head1 (Jvm.Cond.code x code maxLocals ret :: ws) room_1) (fun a U => a = #[(.int p1)] ∧ Z.Warmed39 U.vm ∧ U.heap = h0) (fun _ _ _ _ _ => True) (fun _ U o U' => ∃ v L, o = .returned v ∧ Q0 Z p1 h0 n0 v U'.heap L ∧ FrameEnd U o U' L room_1.cells room_1.slots) := by
  refine MetFree.of_bodySF (plainFor_of_name pn_0) hisR ?_
  intro p e s m args below meth c s₁ Bd hml0 hP hK
  obtain ⟨rfl, hZ, hh⟩ := hP
  have hx := Bd.exec
  have hby := Bd.bytes
  have hml : c.maxLocals = 12 := hml0
  have hown : s.vm.findClass "com/example/idlewell/idlewell/engine/ObjectListIsEmptyPinLaw" = some m.cls := findClass_of_methodNamed Bd.named
  have hnm := (name_of_methodNamed Bd.named Bd.method).1
  have X0 : Stand p l e room_1 s m #[(.int p1)] below meth c s₁ [] 0 0 := Stand.of_body Bd
  have e0 : s₁.heap = h0 := by rw [← hh, Bd.state]; rfl
  have N0 := Fr.nil n0
  have pre0 : ∀ t, Steps p.tables e below (s₁.setTop (mkF m 0 #[.val (.int p1), .unset, .unset, .unset, .unset, .unset, .unset, .unset, .unset, .unset, .unset, .unset] [])) t → Steps p.tables e below (s₁.setTop (entryFrame m #[(.int p1)] maxLocals)) t := fun t k => castTop (ef_0 m p1) k
  obtain ⟨T2, h2, X2, e2, E2, A2, D2, -, st2⟩ := newO X0 hx hZ hown (hw _ (List.mem_of_getElem? (i := 0) rfl)) (hw _ (List.mem_of_getElem? (i := 1) rfl)) (hw _ (List.mem_of_getElem? (i := 2) rfl)) e0 (g := (mkF m 58 #[.val (.int p1), .val (.int (1 : Int32)), .val (.int (0 : Int32)), .val (.int (0 : Int32)), .val (.int (0 : Int32)), .unset, .unset, .unset, .unset, .unset, .unset, .unset] [])) rfl (hb hby at_58) (by decide) (by decide)
  obtain ⟨b2, g2⟩ : ∃ z, z = h0.size := ⟨_, rfl⟩
  rw [← g2] at A2 D2 st2
  have F_size_b2 : Fld Z h2 b2 "com/example/idlewell/idlewell/engine/ObjectList" "size" "I" (.int (0 : Int32)) := D2 (Or.inl (hw _ (List.mem_of_getElem? (i := 28) rfl))) (ty := .int) (by decide)
  have F_newest_b2 : Fld Z h2 b2 "com/example/idlewell/idlewell/engine/ObjectList" "newest" "Lcom/example/idlewell/idlewell/engine/PooledObject;" .null := D2 (Or.inl (hw _ (List.mem_of_getElem? (i := 35) rfl))) (ty := (.object "com/example/idlewell/idlewell/engine/PooledObject")) (by decide)
  have F_oldest_b2 : Fld Z h2 b2 "com/example/idlewell/idlewell/engine/ObjectList" "oldest" "Lcom/example/idlewell/idlewell/engine/PooledObject;" .null := D2 (Or.inl (hw _ (List.mem_of_getElem? (i := 47) rfl))) (ty := (.object "com/example/idlewell/idlewell/engine/PooledObject")) (by decide)
  have E_b2 := A2
  have g_b2 : n0 ≤ b2 := Nat.le_trans Z0 (Nat.le_of_eq g2.symm)
  have sz_b2 : h0.size ≤ b2 := (Nat.le_trans (Keep.refl h0 []).1 (Nat.le_of_eq g2.symm))
  have K2 : Keep h0 h2 [] := (Keep.refl h0 []).ext E2
  obtain ⟨_, _, ⟨T3, L3, k3, n3⟩, -, X3, ⟨Lc3, hQ3, l3, y3, z3⟩, st3⟩ := X2.specialBack hx (y := (⟨"com/example/idlewell/idlewell/engine/ObjectList", "<init>", "()V"⟩ : MethodName)) rfl hown (mvT hZ (hw _ (List.mem_of_getElem? (i := 3) rfl))) (mvT hZ (hw _ (List.mem_of_getElem? (i := 4) rfl))) (mvT hZ (hw _ (List.mem_of_getElem? (i := 5) rfl))) (by decide) (backOf (W := 1) (rm1 l Z a0 hw [] b2  h2 n0 (Nat.le_trans Z0 E2.1)) hZ (hw _ (List.mem_of_getElem? (i := 5) rfl)) (hw _ (List.mem_of_getElem? (i := 2) rfl)) (by decide) (by decide)) (g := (mkF m 62 #[.val (.int p1), .val (.int (1 : Int32)), .val (.int (0 : Int32)), .val (.int (0 : Int32)), .val (.int (0 : Int32)), .unset, .unset, .unset, .unset, .unset, .unset, .unset] [(.ref b2), (.ref b2)])) rfl (by rw [hml]; rfl) (Steps.refl _) (a := b2) (argsL := []) (rest := [(.ref b2)]) (lenOf pd_0_0 rfl) rfl (by show 2 * 0 + _ ≤ _; exact Nat.le_of_eq rfl) (hb hby at_62) (fun _ _ => ⟨rfl, e2, (by decide : 1 + 0 ≤ _), (by decide : 3 + 0 ≤ _)⟩)
  dsimp only [Pt.U, Pt.locs, Pt.cells, Pt.slots] at X3 l3 y3 z3 st3 hQ3
  subst l3 y3 z3
  obtain ⟨rfl, N3q, e3⟩ := hQ3
  have N3 := Fr.app N0 N3q
  obtain ⟨T4, h4, X4, e4, E4, A4, D4, -, st4⟩ := newO X3 hx hZ hown (hw _ (List.mem_of_getElem? (i := 9) rfl)) (hw _ (List.mem_of_getElem? (i := 10) rfl)) (hw _ (List.mem_of_getElem? (i := 11) rfl)) e3 (g := (mkF m 67 #[.val (.int p1), .val (.int (1 : Int32)), .val (.int (0 : Int32)), .val (.int (0 : Int32)), .val (.int (0 : Int32)), .val (.ref b2), .unset, .unset, .unset, .unset, .unset, .unset] [])) rfl (hb hby at_67) (by decide) (by decide)
  obtain ⟨b4, g4⟩ : ∃ z, z = h2.size := ⟨_, rfl⟩
  rw [← g4] at A4 D4 st4
  have F_pool_b4 : Fld Z h4 b4 "com/example/idlewell/idlewell/engine/PooledObject" "pool" "Lcom/example/idlewell/idlewell/engine/BoundedPool;" .null := D4 (Or.inr (hw _ (List.mem_of_getElem? (i := 17) rfl))) (ty := (.object "com/example/idlewell/idlewell/engine/BoundedPool")) (by decide)
  have F_object_b4 : Fld Z h4 b4 "com/example/idlewell/idlewell/engine/PooledObject" "object" "Ljava/lang/Object;" .null := D4 (Or.inr (hw _ (List.mem_of_getElem? (i := 19) rfl))) (ty := (.object "java/lang/Object")) (by decide)
  have F_slot_b4 : Fld Z h4 b4 "com/example/idlewell/idlewell/engine/PooledObject" "slot" "Lcom/example/idlewell/idlewell/engine/ThreadSlot;" .null := D4 (Or.inr (hw _ (List.mem_of_getElem? (i := 21) rfl))) (ty := (.object "com/example/idlewell/idlewell/engine/ThreadSlot")) (by decide)
  have F_older_b4 : Fld Z h4 b4 "com/example/idlewell/idlewell/engine/PooledObject" "older" "Lcom/example/idlewell/idlewell/engine/PooledObject;" .null := D4 (Or.inl (hw _ (List.mem_of_getElem? (i := 49) rfl))) (ty := (.object "com/example/idlewell/idlewell/engine/PooledObject")) (by decide)
  have F_newer_b4 : Fld Z h4 b4 "com/example/idlewell/idlewell/engine/PooledObject" "newer" "Lcom/example/idlewell/idlewell/engine/PooledObject;" .null := D4 (Or.inl (hw _ (List.mem_of_getElem? (i := 51) rfl))) (ty := (.object "com/example/idlewell/idlewell/engine/PooledObject")) (by decide)
  have E_b4 := A4
  have g_b4 : n0 ≤ b4 := Nat.le_trans (Nat.le_trans Z0 E2.1) (Nat.le_of_eq g4.symm)
  have sz_b4 : h0.size ≤ b4 := (Nat.le_trans K2.1 (Nat.le_of_eq g4.symm))
  have K4 : Keep h0 h4 [] := K2.ext E4
  obtain ⟨_, _, ⟨T5, L5, k5, n5⟩, -, X5, ⟨Lc5, hQ5, l5, y5, z5⟩, st5⟩ := X4.specialBack hx (y := (⟨"com/example/idlewell/idlewell/engine/PooledObject", "<init>", "(Lcom/example/idlewell/idlewell/engine/BoundedPool;Ljava/lang/Object;Z)V"⟩ : MethodName)) rfl hown (mvT hZ (hw _ (List.mem_of_getElem? (i := 12) rfl))) (mvT hZ (hw _ (List.mem_of_getElem? (i := 13) rfl))) (mvT hZ (hw _ (List.mem_of_getElem? (i := 14) rfl))) (by decide) (backOf (W := 1) (rm3 l Z a0 hw [] b4 (0 : Int32) .null .null .null h4 n0 (Nat.le_trans (Nat.le_trans Z0 E2.1) E4.1) E_b4 F_newer_b4 F_older_b4 F_pool_b4 g_b4 F_object_b4 F_slot_b4 rfl) hZ (hw _ (List.mem_of_getElem? (i := 14) rfl)) (hw _ (List.mem_of_getElem? (i := 11) rfl)) (by decide) (by decide)) (g := (mkF m 74 #[.val (.int p1), .val (.int (1 : Int32)), .val (.int (0 : Int32)), .val (.int (0 : Int32)), .val (.int (0 : Int32)), .val (.ref b2), .unset, .unset, .unset, .unset, .unset, .unset] [(.int (0 : Int32)), .null, .null, (.ref b4), (.ref b4)])) rfl (by rw [hml]; rfl) (Steps.refl _) (a := b4) (argsL := [.null, .null, (.int (0 : Int32))]) (rest := [(.ref b4)]) (lenOf pd_0_1 rfl) rfl (by show 2 * 0 + _ ≤ _; exact Nat.le_of_eq rfl) (hb hby at_74) (fun _ _ => ⟨rfl, e4, (by decide : 2 + 0 ≤ _), (by decide : 13 + 0 ≤ _)⟩)
  dsimp only [Pt.U, Pt.locs, Pt.cells, Pt.slots] at X5 l5 y5 z5 st5 hQ5
  subst l5 y5 z5
  obtain ⟨rfl, N5q, Kq5, Ex5, Fn5, Fo5⟩ := hQ5
  have N5 := Fr.app N3 N5q
  obtain ⟨T6, h6, X6, e6, E6, A6, D6, -, st6⟩ := newO X5 hx hZ hown (hw _ (List.mem_of_getElem? (i := 9) rfl)) (hw _ (List.mem_of_getElem? (i := 10) rfl)) (hw _ (List.mem_of_getElem? (i := 11) rfl)) rfl (g := (mkF m 79 #[.val (.int p1), .val (.int (1 : Int32)), .val (.int (0 : Int32)), .val (.int (0 : Int32)), .val (.int (0 : Int32)), .val (.ref b2), .val (.ref b4), .unset, .unset, .unset, .unset, .unset] [])) rfl (hb hby at_79) (by decide) (by decide)
  obtain ⟨b6, g6⟩ : ∃ z, z = T5.heap.size := ⟨_, rfl⟩
  rw [← g6] at A6 D6 st6
  have F_pool_b6 : Fld Z h6 b6 "com/example/idlewell/idlewell/engine/PooledObject" "pool" "Lcom/example/idlewell/idlewell/engine/BoundedPool;" .null := D6 (Or.inr (hw _ (List.mem_of_getElem? (i := 17) rfl))) (ty := (.object "com/example/idlewell/idlewell/engine/BoundedPool")) (by decide)
  have F_object_b6 : Fld Z h6 b6 "com/example/idlewell/idlewell/engine/PooledObject" "object" "Ljava/lang/Object;" .null := D6 (Or.inr (hw _ (List.mem_of_getElem? (i := 19) rfl))) (ty := (.object "java/lang/Object")) (by decide)
  have F_slot_b6 : Fld Z h6 b6 "com/example/idlewell/idlewell/engine/PooledObject" "slot" "Lcom/example/idlewell/idlewell/engine/ThreadSlot;" .null := D6 (Or.inr (hw _ (List.mem_of_getElem? (i := 21) rfl))) (ty := (.object "com/example/idlewell/idlewell/engine/ThreadSlot")) (by decide)
  have F_older_b6 : Fld Z h6 b6 "com/example/idlewell/idlewell/engine/PooledObject" "older" "Lcom/example/idlewell/idlewell/engine/PooledObject;" .null := D6 (Or.inl (hw _ (List.mem_of_getElem? (i := 49) rfl))) (ty := (.object "com/example/idlewell/idlewell/engine/PooledObject")) (by decide)
  have F_newer_b6 : Fld Z h6 b6 "com/example/idlewell/idlewell/engine/PooledObject" "newer" "Lcom/example/idlewell/idlewell/engine/PooledObject;" .null := D6 (Or.inl (hw _ (List.mem_of_getElem? (i := 51) rfl))) (ty := (.object "com/example/idlewell/idlewell/engine/PooledObject")) (by decide)
  have E_b6 := A6
  have g_b6 : n0 ≤ b6 := Nat.le_trans (Nat.le_trans (Nat.le_trans (Nat.le_trans Z0 E2.1) E4.1) Kq5.1) (Nat.le_of_eq g6.symm)
  obtain ⟨_, _, ⟨T7, L7, k7, n7⟩, -, X7, ⟨Lc7, hQ7, l7, y7, z7⟩, st7⟩ := X6.specialBack hx (y := (⟨"com/example/idlewell/idlewell/engine/PooledObject", "<init>", "(Lcom/example/idlewell/idlewell/engine/BoundedPool;Ljava/lang/Object;Z)V"⟩ : MethodName)) rfl hown (mvT hZ (hw _ (List.mem_of_getElem? (i := 12) rfl))) (mvT hZ (hw _ (List.mem_of_getElem? (i := 13) rfl))) (mvT hZ (hw _ (List.mem_of_getElem? (i := 14) rfl))) (by decide) (backOf (W := 1) (rm3 l Z a0 hw [] b6 (0 : Int32) .null .null .null h6 n0 (Nat.le_trans (Nat.le_trans (Nat.le_trans (Nat.le_trans Z0 E2.1) E4.1) Kq5.1) E6.1) E_b6 F_newer_b6 F_older_b6 F_pool_b6 g_b6 F_object_b6 F_slot_b6 rfl) hZ (hw _ (List.mem_of_getElem? (i := 14) rfl)) (hw _ (List.mem_of_getElem? (i := 11) rfl)) (by decide) (by decide)) (g := (mkF m 86 #[.val (.int p1), .val (.int (1 : Int32)), .val (.int (0 : Int32)), .val (.int (0 : Int32)), .val (.int (0 : Int32)), .val (.ref b2), .val (.ref b4), .unset, .unset, .unset, .unset, .unset] [(.int (0 : Int32)), .null, .null, (.ref b6), (.ref b6)])) rfl (by rw [hml]; rfl) (Steps.refl _) (a := b6) (argsL := [.null, .null, (.int (0 : Int32))]) (rest := [(.ref b6)]) (lenOf pd_0_1 rfl) rfl (by show 2 * 0 + _ ≤ _; exact Nat.le_of_eq rfl) (hb hby at_86) (fun _ _ => ⟨rfl, e6, (by decide : 3 + 0 ≤ _), (by decide : 23 + 0 ≤ _)⟩)
  dsimp only [Pt.U, Pt.locs, Pt.cells, Pt.slots] at X7 l7 y7 z7 st7 hQ7
  subst l7 y7 z7
  obtain ⟨rfl, N7q, Kq7, Ex7, Fn7, Fo7⟩ := hQ7
  have N7 := Fr.app N5 N7q
  obtain ⟨cq8, kq8, q8a, q8b, q8c⟩ := isOf hZ rfl ((((E_b2.ext E4).keep Kq5).ext E6).keep Kq7)
  obtain ⟨_, _, ⟨T8, L8, k8, n8⟩, -, X8, ⟨Lc8, hQ8, l8, y8, z8⟩, st8⟩ := X7.virtualBack hx (y := (⟨"com/example/idlewell/idlewell/engine/ObjectList", "addNewest", "(Lcom/example/idlewell/idlewell/engine/PooledObject;)V"⟩ : MethodName)) (z := (⟨"com/example/idlewell/idlewell/engine/ObjectList", "addNewest", "(Lcom/example/idlewell/idlewell/engine/PooledObject;)V"⟩ : MethodName)) hown (mvT hZ (hw _ (List.mem_of_getElem? (i := 36) rfl))) (mvT hZ (hw _ (List.mem_of_getElem? (i := 37) rfl))) (notFace_of_selects (args := #[]) (mvT hZ (hw _ (List.mem_of_getElem? (i := 39) rfl)))) (mvT hZ (hw _ (List.mem_of_getElem? (i := 39) rfl))) (mvT hZ (hw _ (List.mem_of_getElem? (i := 38) rfl))) (by decide) (backOf (W := 0) (rm6A l Z a0 hw [] b2 b4 b6 (0 : Int32) T7.heap n0 (Nat.le_trans (Nat.le_trans (Nat.le_trans (Nat.le_trans (Nat.le_trans Z0 E2.1) E4.1) Kq5.1) E6.1) Kq7.1) ⟨((((E_b2.ext E4).keep Kq5).ext E6).keep Kq7), ((Ex5.ext E6).keep Kq7), Ex7, ((((F_newest_b2.ext E4).keep Kq5 (fun q_ => (Nat.ne_of_lt (Nat.lt_of_lt_of_le E_b2.lt (Nat.le_of_eq g4.symm))) (List.mem_singleton.mp q_))).ext E6).keep Kq7 (fun q_ => (Nat.ne_of_lt (Nat.lt_of_lt_of_le ((E_b2.ext E4).keep Kq5).lt (Nat.le_of_eq g6.symm))) (List.mem_singleton.mp q_))), ((((F_oldest_b2.ext E4).keep Kq5 (fun q_ => (Nat.ne_of_lt (Nat.lt_of_lt_of_le E_b2.lt (Nat.le_of_eq g4.symm))) (List.mem_singleton.mp q_))).ext E6).keep Kq7 (fun q_ => (Nat.ne_of_lt (Nat.lt_of_lt_of_le ((E_b2.ext E4).keep Kq5).lt (Nat.le_of_eq g6.symm))) (List.mem_singleton.mp q_))), ((((F_size_b2.ext E4).keep Kq5 (fun q_ => (Nat.ne_of_lt (Nat.lt_of_lt_of_le E_b2.lt (Nat.le_of_eq g4.symm))) (List.mem_singleton.mp q_))).ext E6).keep Kq7 (fun q_ => (Nat.ne_of_lt (Nat.lt_of_lt_of_le ((E_b2.ext E4).keep Kq5).lt (Nat.le_of_eq g6.symm))) (List.mem_singleton.mp q_))), ((Fn5.ext E6).keep Kq7 (fun q_ => (Nat.ne_of_lt (Nat.lt_of_lt_of_le Ex5.lt (Nat.le_of_eq g6.symm))) (List.mem_singleton.mp q_))), ((Fo5.ext E6).keep Kq7 (fun q_ => (Nat.ne_of_lt (Nat.lt_of_lt_of_le Ex5.lt (Nat.le_of_eq g6.symm))) (List.mem_singleton.mp q_))), Fn7, Fo7⟩ g_b2 g_b4 g_b6 (Nat.ne_of_lt (Nat.lt_of_lt_of_le E_b2.lt (Nat.le_of_eq g4.symm))) (Nat.ne_of_lt (Nat.lt_of_lt_of_le ((E_b2.ext E4).keep Kq5).lt (Nat.le_of_eq g6.symm))) (Nat.ne_of_lt (Nat.lt_of_lt_of_le Ex5.lt (Nat.le_of_eq g6.symm)))) hZ (hw _ (List.mem_of_getElem? (i := 40) rfl)) (hw _ (List.mem_of_getElem? (i := 2) rfl)) (by decide) (by decide)) q8a q8c (g := (mkF m 102 #[.val (.int p1), .val (.int (1 : Int32)), .val (.int (0 : Int32)), .val (.int (0 : Int32)), .val (.int (0 : Int32)), .val (.ref b2), .val (.ref b4), .val (.ref b6), .val (.int (0 : Int32)), .unset, .unset, .unset] [(.ref b4), (.ref b2)])) rfl (by rw [hml]; rfl) (Steps.refl _) (argsL := [(.ref b4)]) (rest := []) (lenOf pd_0_4 rfl) rfl (by show 2 * 0 + _ ≤ _; exact Nat.le_of_eq rfl) (hb hby at_102) (fun _ _ => ⟨rfl, rfl, (by decide : 3 + 0 ≤ _), (by decide : 23 + 0 ≤ _)⟩)
  dsimp only [Pt.U, Pt.locs, Pt.cells, Pt.slots] at X8 l8 y8 z8 st8 hQ8
  subst l8 y8 z8
  obtain ⟨rfl, N8q, Kq8, ⟨E_o8, E_p8, E_q8, Fnw8, Fod8, Fsz8, Fpn8, Fpo8, Fqn8, Fqo8⟩⟩ := hQ8
  have N8 := Fr.app N7 N8q
  obtain ⟨cq9, kq9, q9a, q9b, q9c⟩ := isOf hZ rfl E_o8
  obtain ⟨_, _, ⟨T9, L9, k9, n9⟩, -, X9, ⟨Lc9, hQ9, l9, y9, z9⟩, st9⟩ := X8.virtualBack hx (y := (⟨"com/example/idlewell/idlewell/engine/ObjectList", "isEmpty", "()Z"⟩ : MethodName)) (z := (⟨"com/example/idlewell/idlewell/engine/ObjectList", "isEmpty", "()Z"⟩ : MethodName)) hown (mvT hZ (hw _ (List.mem_of_getElem? (i := 22) rfl))) (mvT hZ (hw _ (List.mem_of_getElem? (i := 23) rfl))) (notFace_of_selects (args := #[]) (mvT hZ (hw _ (List.mem_of_getElem? (i := 25) rfl)))) (mvT hZ (hw _ (List.mem_of_getElem? (i := 25) rfl))) (mvT hZ (hw _ (List.mem_of_getElem? (i := 24) rfl))) (by decide) (backOf (W := 0) (rm4 l Z a0 hw [] b2 ((0 : Int32) + (1 : Int32)) T8.heap n0 (Nat.le_trans (Nat.le_trans (Nat.le_trans (Nat.le_trans (Nat.le_trans (Nat.le_trans Z0 E2.1) E4.1) Kq5.1) E6.1) Kq7.1) Kq8.1) Fsz8) hZ (hw _ (List.mem_of_getElem? (i := 26) rfl)) (hw _ (List.mem_of_getElem? (i := 2) rfl)) (by decide) (by decide)) q9a q9c (g := (mkF m 177 #[.val (.int p1), .val (.int (1 : Int32)), .val (.int (0 : Int32)), .val (.int (0 : Int32)), .val (.int (0 : Int32)), .val (.ref b2), .val (.ref b4), .val (.ref b6), .val (.int ((0 : Int32) + (1 : Int32))), .val (.int (if ((0 : Int32) + (1 : Int32)) = (0 : Int32) then (1 : Int32) else 0)), .unset, .unset] [(.ref b2)])) rfl (by rw [hml]; rfl) (Steps.refl _) (argsL := []) (rest := []) (lenOf pd_0_2 rfl) rfl (by show 2 * 0 + _ ≤ _; exact Nat.le_of_eq rfl) (hb hby at_177) (fun _ _ => ⟨rfl, rfl, (by decide : 3 + 0 ≤ _), (by decide : 23 + 0 ≤ _)⟩)
  dsimp only [Pt.U, Pt.locs, Pt.cells, Pt.slots] at X9 l9 y9 z9 st9 hQ9
  subst l9 y9 z9
  obtain ⟨rfl, N9q, e9⟩ := hQ9
  have N9 := Fr.app N8 N9q
  obtain ⟨cq10, kq10, q10a, q10b, q10c⟩ := isOf hZ e9 E_o8
  obtain ⟨_, _, ⟨T10, L10, k10, n10⟩, -, X10, ⟨Lc10, hQ10, l10, y10, z10⟩, st10⟩ := X9.virtualBack hx (y := (⟨"com/example/idlewell/idlewell/engine/ObjectList", "newest", "()Lcom/example/idlewell/idlewell/engine/PooledObject;"⟩ : MethodName)) (z := (⟨"com/example/idlewell/idlewell/engine/ObjectList", "newest", "()Lcom/example/idlewell/idlewell/engine/PooledObject;"⟩ : MethodName)) hown (mvT hZ (hw _ (List.mem_of_getElem? (i := 29) rfl))) (mvT hZ (hw _ (List.mem_of_getElem? (i := 30) rfl))) (notFace_of_selects (args := #[]) (mvT hZ (hw _ (List.mem_of_getElem? (i := 32) rfl)))) (mvT hZ (hw _ (List.mem_of_getElem? (i := 32) rfl))) (mvT hZ (hw _ (List.mem_of_getElem? (i := 31) rfl))) (by decide) (backOf (W := 0) (rm5r l Z a0 hw [] b2 b4 T8.heap n0 (Nat.le_trans (Nat.le_trans (Nat.le_trans (Nat.le_trans (Nat.le_trans (Nat.le_trans Z0 E2.1) E4.1) Kq5.1) E6.1) Kq7.1) Kq8.1) Fnw8) hZ (hw _ (List.mem_of_getElem? (i := 33) rfl)) (hw _ (List.mem_of_getElem? (i := 2) rfl)) (by decide) (by decide)) q10a q10c (g := (mkF m 184 #[.val (.int p1), .val (.int (1 : Int32)), .val (.int (0 : Int32)), .val (.int (0 : Int32)), .val (.int (0 : Int32)), .val (.ref b2), .val (.ref b4), .val (.ref b6), .val (.int ((0 : Int32) + (1 : Int32))), .val (.int (if ((0 : Int32) + (1 : Int32)) = (0 : Int32) then (1 : Int32) else 0)), .val (.int (if ((0 : Int32) + (1 : Int32)) = (0 : Int32) then (1 : Int32) else 0)), .unset] [(.ref b2)])) rfl (by rw [hml]; rfl) (Steps.refl _) (argsL := []) (rest := []) (lenOf pd_0_3 rfl) rfl (by show 2 * 0 + _ ≤ _; exact Nat.le_of_eq rfl) (hb hby at_184) (fun _ _ => ⟨rfl, e9, (by decide : 3 + 0 ≤ _), (by decide : 23 + 0 ≤ _)⟩)
  dsimp only [Pt.U, Pt.locs, Pt.cells, Pt.slots] at X10 l10 y10 z10 st10 hQ10
  subst l10 y10 z10
  obtain ⟨rfl, N10q, e10⟩ := hQ10
  have N10 := Fr.app N9 N10q
  obtain ⟨fs, hr, hrun, hended, hW, hsame⟩ := X10.leave (v := some (.int (1 : Int32))) (fun h => by rw [Bd.returns] at h; cases h)
  refine ⟨_, _, pre0 _ ?_, hrun, hended, _, _, rfl, ?_, ⟨_, rfl⟩, hW, hsame.mono (by decide) (by decide)⟩
  · show Steps p.tables e below (s₁.setTop (mkF m 0 #[.val (.int p1), .unset, .unset, .unset, .unset, .unset, .unset, .unset, .unset, .unset, .unset, .unset] [])) _
    refine XS.iloadN X0.here hx rfl (hb hby at_0) rfl ?_
    show Steps p.tables e below (s₁.setTop (mkF m 1 #[.val (.int p1), .unset, .unset, .unset, .unset, .unset, .unset, .unset, .unset, .unset, .unset, .unset] [(.int p1)])) _
    refine XS.iconst X0.here hx rfl (hb hby at_1) ?_
    show Steps p.tables e below (s₁.setTop (mkF m 2 #[.val (.int p1), .unset, .unset, .unset, .unset, .unset, .unset, .unset, .unset, .unset, .unset, .unset] [(.int (1 : Int32)), (.int p1)])) _
    refine XS.iand X0.here hx rfl (hb hby at_2) rfl ?_
    show Steps p.tables e below (s₁.setTop (mkF m 3 #[.val (.int p1), .unset, .unset, .unset, .unset, .unset, .unset, .unset, .unset, .unset, .unset, .unset] [(.int (p1 &&& (1 : Int32)))])) _
    refine XS.ifNo X0.here hx rfl (hb hby at_3) rfl ((if0 _ _).trans (feq hc3).1) ?_
    show Steps p.tables e below (s₁.setTop (mkF m 6 #[.val (.int p1), .unset, .unset, .unset, .unset, .unset, .unset, .unset, .unset, .unset, .unset, .unset] [])) _
    refine XS.iconst X0.here hx rfl (hb hby at_6) ?_
    show Steps p.tables e below (s₁.setTop (mkF m 7 #[.val (.int p1), .unset, .unset, .unset, .unset, .unset, .unset, .unset, .unset, .unset, .unset, .unset] [(.int (1 : Int32))])) _
    refine XS.goto X0.here hx rfl (pc0 := 7) (pc' := 11) rfl (hb hby at_7) (by decide) (by decide) ?_
    show Steps p.tables e below (s₁.setTop (mkF m 11 #[.val (.int p1), .unset, .unset, .unset, .unset, .unset, .unset, .unset, .unset, .unset, .unset, .unset] [(.int (1 : Int32))])) _
    refine XS.istoreN X0.here hx rfl (hb hby at_11) rfl (l' := #[.val (.int p1), .val (.int (1 : Int32)), .unset, .unset, .unset, .unset, .unset, .unset, .unset, .unset, .unset, .unset]) rfl ?_
    show Steps p.tables e below (s₁.setTop (mkF m 12 #[.val (.int p1), .val (.int (1 : Int32)), .unset, .unset, .unset, .unset, .unset, .unset, .unset, .unset, .unset, .unset] [])) _
    refine XS.iloadN X0.here hx rfl (hb hby at_12) rfl ?_
    show Steps p.tables e below (s₁.setTop (mkF m 13 #[.val (.int p1), .val (.int (1 : Int32)), .unset, .unset, .unset, .unset, .unset, .unset, .unset, .unset, .unset, .unset] [(.int p1)])) _
    refine XS.iconst X0.here hx rfl (hb hby at_13) ?_
    show Steps p.tables e below (s₁.setTop (mkF m 14 #[.val (.int p1), .val (.int (1 : Int32)), .unset, .unset, .unset, .unset, .unset, .unset, .unset, .unset, .unset, .unset] [(.int (2 : Int32)), (.int p1)])) _
    refine XS.iand X0.here hx rfl (hb hby at_14) rfl ?_
    show Steps p.tables e below (s₁.setTop (mkF m 15 #[.val (.int p1), .val (.int (1 : Int32)), .unset, .unset, .unset, .unset, .unset, .unset, .unset, .unset, .unset, .unset] [(.int (p1 &&& (2 : Int32)))])) _
    refine XS.ifYes X0.here hx rfl (pc0 := 15) (pc' := 22) rfl (hb hby at_15) rfl ((if0 _ _).trans (teq hc15).1) (by decide) (by decide) ?_
    show Steps p.tables e below (s₁.setTop (mkF m 22 #[.val (.int p1), .val (.int (1 : Int32)), .unset, .unset, .unset, .unset, .unset, .unset, .unset, .unset, .unset, .unset] [])) _
    refine XS.iconst X0.here hx rfl (hb hby at_22) ?_
    show Steps p.tables e below (s₁.setTop (mkF m 23 #[.val (.int p1), .val (.int (1 : Int32)), .unset, .unset, .unset, .unset, .unset, .unset, .unset, .unset, .unset, .unset] [(.int (0 : Int32))])) _
    refine XS.istoreN X0.here hx rfl (hb hby at_23) rfl (l' := #[.val (.int p1), .val (.int (1 : Int32)), .val (.int (0 : Int32)), .unset, .unset, .unset, .unset, .unset, .unset, .unset, .unset, .unset]) rfl ?_
    show Steps p.tables e below (s₁.setTop (mkF m 24 #[.val (.int p1), .val (.int (1 : Int32)), .val (.int (0 : Int32)), .unset, .unset, .unset, .unset, .unset, .unset, .unset, .unset, .unset] [])) _
    refine XS.iloadN X0.here hx rfl (hb hby at_24) rfl ?_
    show Steps p.tables e below (s₁.setTop (mkF m 25 #[.val (.int p1), .val (.int (1 : Int32)), .val (.int (0 : Int32)), .unset, .unset, .unset, .unset, .unset, .unset, .unset, .unset, .unset] [(.int (1 : Int32))])) _
    refine XS.ifNo X0.here hx rfl (hb hby at_25) rfl ((if0 _ _).trans (feq hc25).1) ?_
    show Steps p.tables e below (s₁.setTop (mkF m 28 #[.val (.int p1), .val (.int (1 : Int32)), .val (.int (0 : Int32)), .unset, .unset, .unset, .unset, .unset, .unset, .unset, .unset, .unset] [])) _
    refine XS.iloadN X0.here hx rfl (hb hby at_28) rfl ?_
    show Steps p.tables e below (s₁.setTop (mkF m 29 #[.val (.int p1), .val (.int (1 : Int32)), .val (.int (0 : Int32)), .unset, .unset, .unset, .unset, .unset, .unset, .unset, .unset, .unset] [(.int p1)])) _
    refine XS.iconst X0.here hx rfl (hb hby at_29) ?_
    show Steps p.tables e below (s₁.setTop (mkF m 30 #[.val (.int p1), .val (.int (1 : Int32)), .val (.int (0 : Int32)), .unset, .unset, .unset, .unset, .unset, .unset, .unset, .unset, .unset] [(.int (4 : Int32)), (.int p1)])) _
    refine XS.iand X0.here hx rfl (hb hby at_30) rfl ?_
    show Steps p.tables e below (s₁.setTop (mkF m 31 #[.val (.int p1), .val (.int (1 : Int32)), .val (.int (0 : Int32)), .unset, .unset, .unset, .unset, .unset, .unset, .unset, .unset, .unset] [(.int (p1 &&& (4 : Int32)))])) _
    refine XS.ifYes X0.here hx rfl (pc0 := 31) (pc' := 38) rfl (hb hby at_31) rfl ((if0 _ _).trans (teq hc31).1) (by decide) (by decide) ?_
    show Steps p.tables e below (s₁.setTop (mkF m 38 #[.val (.int p1), .val (.int (1 : Int32)), .val (.int (0 : Int32)), .unset, .unset, .unset, .unset, .unset, .unset, .unset, .unset, .unset] [])) _
    refine XS.iconst X0.here hx rfl (hb hby at_38) ?_
    show Steps p.tables e below (s₁.setTop (mkF m 39 #[.val (.int p1), .val (.int (1 : Int32)), .val (.int (0 : Int32)), .unset, .unset, .unset, .unset, .unset, .unset, .unset, .unset, .unset] [(.int (0 : Int32))])) _
    refine XS.istoreN X0.here hx rfl (hb hby at_39) rfl (l' := #[.val (.int p1), .val (.int (1 : Int32)), .val (.int (0 : Int32)), .val (.int (0 : Int32)), .unset, .unset, .unset, .unset, .unset, .unset, .unset, .unset]) rfl ?_
    show Steps p.tables e below (s₁.setTop (mkF m 40 #[.val (.int p1), .val (.int (1 : Int32)), .val (.int (0 : Int32)), .val (.int (0 : Int32)), .unset, .unset, .unset, .unset, .unset, .unset, .unset, .unset] [])) _
    refine XS.iloadN X0.here hx rfl (hb hby at_40) rfl ?_
    show Steps p.tables e below (s₁.setTop (mkF m 41 #[.val (.int p1), .val (.int (1 : Int32)), .val (.int (0 : Int32)), .val (.int (0 : Int32)), .unset, .unset, .unset, .unset, .unset, .unset, .unset, .unset] [(.int (0 : Int32))])) _
    refine XS.ifYes X0.here hx rfl (pc0 := 41) (pc' := 55) rfl (hb hby at_41) rfl ((if0 _ _).trans (teq (rfl : (0 : Int32) = (0 : Int32))).1) (by decide) (by decide) ?_
    show Steps p.tables e below (s₁.setTop (mkF m 55 #[.val (.int p1), .val (.int (1 : Int32)), .val (.int (0 : Int32)), .val (.int (0 : Int32)), .unset, .unset, .unset, .unset, .unset, .unset, .unset, .unset] [])) _
    refine XS.iconst X0.here hx rfl (hb hby at_55) ?_
    show Steps p.tables e below (s₁.setTop (mkF m 56 #[.val (.int p1), .val (.int (1 : Int32)), .val (.int (0 : Int32)), .val (.int (0 : Int32)), .unset, .unset, .unset, .unset, .unset, .unset, .unset, .unset] [(.int (0 : Int32))])) _
    refine XS.istore X0.here hx rfl (hb hby at_56) rfl (l' := #[.val (.int p1), .val (.int (1 : Int32)), .val (.int (0 : Int32)), .val (.int (0 : Int32)), .val (.int (0 : Int32)), .unset, .unset, .unset, .unset, .unset, .unset, .unset]) rfl ?_
    show Steps p.tables e below (s₁.setTop (mkF m 58 #[.val (.int p1), .val (.int (1 : Int32)), .val (.int (0 : Int32)), .val (.int (0 : Int32)), .val (.int (0 : Int32)), .unset, .unset, .unset, .unset, .unset, .unset, .unset] [])) _
    refine st2 _ ?_
    show Steps p.tables e below (T2.setTop (mkF m 61 #[.val (.int p1), .val (.int (1 : Int32)), .val (.int (0 : Int32)), .val (.int (0 : Int32)), .val (.int (0 : Int32)), .unset, .unset, .unset, .unset, .unset, .unset, .unset] [(.ref b2)])) _
    refine XS.dup X2.here hx rfl (hb hby at_61) rfl rfl ?_
    show Steps p.tables e below (T2.setTop (mkF m 62 #[.val (.int p1), .val (.int (1 : Int32)), .val (.int (0 : Int32)), .val (.int (0 : Int32)), .val (.int (0 : Int32)), .unset, .unset, .unset, .unset, .unset, .unset, .unset] [(.ref b2), (.ref b2)])) _
    refine st3.trans ?_
    show Steps p.tables e below (T3.setTop (mkF m 65 #[.val (.int p1), .val (.int (1 : Int32)), .val (.int (0 : Int32)), .val (.int (0 : Int32)), .val (.int (0 : Int32)), .unset, .unset, .unset, .unset, .unset, .unset, .unset] [(.ref b2)])) _
    refine XS.astore X3.here hx rfl (hb hby at_65) rfl rfl (l' := #[.val (.int p1), .val (.int (1 : Int32)), .val (.int (0 : Int32)), .val (.int (0 : Int32)), .val (.int (0 : Int32)), .val (.ref b2), .unset, .unset, .unset, .unset, .unset, .unset]) rfl ?_
    show Steps p.tables e below (T3.setTop (mkF m 67 #[.val (.int p1), .val (.int (1 : Int32)), .val (.int (0 : Int32)), .val (.int (0 : Int32)), .val (.int (0 : Int32)), .val (.ref b2), .unset, .unset, .unset, .unset, .unset, .unset] [])) _
    refine st4 _ ?_
    show Steps p.tables e below (T4.setTop (mkF m 70 #[.val (.int p1), .val (.int (1 : Int32)), .val (.int (0 : Int32)), .val (.int (0 : Int32)), .val (.int (0 : Int32)), .val (.ref b2), .unset, .unset, .unset, .unset, .unset, .unset] [(.ref b4)])) _
    refine XS.dup X4.here hx rfl (hb hby at_70) rfl rfl ?_
    show Steps p.tables e below (T4.setTop (mkF m 71 #[.val (.int p1), .val (.int (1 : Int32)), .val (.int (0 : Int32)), .val (.int (0 : Int32)), .val (.int (0 : Int32)), .val (.ref b2), .unset, .unset, .unset, .unset, .unset, .unset] [(.ref b4), (.ref b4)])) _
    refine XS.aconstNull X4.here hx rfl (hb hby at_71) ?_
    show Steps p.tables e below (T4.setTop (mkF m 72 #[.val (.int p1), .val (.int (1 : Int32)), .val (.int (0 : Int32)), .val (.int (0 : Int32)), .val (.int (0 : Int32)), .val (.ref b2), .unset, .unset, .unset, .unset, .unset, .unset] [.null, (.ref b4), (.ref b4)])) _
    refine XS.aconstNull X4.here hx rfl (hb hby at_72) ?_
    show Steps p.tables e below (T4.setTop (mkF m 73 #[.val (.int p1), .val (.int (1 : Int32)), .val (.int (0 : Int32)), .val (.int (0 : Int32)), .val (.int (0 : Int32)), .val (.ref b2), .unset, .unset, .unset, .unset, .unset, .unset] [.null, .null, (.ref b4), (.ref b4)])) _
    refine XS.iconst X4.here hx rfl (hb hby at_73) ?_
    show Steps p.tables e below (T4.setTop (mkF m 74 #[.val (.int p1), .val (.int (1 : Int32)), .val (.int (0 : Int32)), .val (.int (0 : Int32)), .val (.int (0 : Int32)), .val (.ref b2), .unset, .unset, .unset, .unset, .unset, .unset] [(.int (0 : Int32)), .null, .null, (.ref b4), (.ref b4)])) _
    refine st5.trans ?_
    show Steps p.tables e below (T5.setTop (mkF m 77 #[.val (.int p1), .val (.int (1 : Int32)), .val (.int (0 : Int32)), .val (.int (0 : Int32)), .val (.int (0 : Int32)), .val (.ref b2), .unset, .unset, .unset, .unset, .unset, .unset] [(.ref b4)])) _
    refine XS.astore X5.here hx rfl (hb hby at_77) rfl rfl (l' := #[.val (.int p1), .val (.int (1 : Int32)), .val (.int (0 : Int32)), .val (.int (0 : Int32)), .val (.int (0 : Int32)), .val (.ref b2), .val (.ref b4), .unset, .unset, .unset, .unset, .unset]) rfl ?_
    show Steps p.tables e below (T5.setTop (mkF m 79 #[.val (.int p1), .val (.int (1 : Int32)), .val (.int (0 : Int32)), .val (.int (0 : Int32)), .val (.int (0 : Int32)), .val (.ref b2), .val (.ref b4), .unset, .unset, .unset, .unset, .unset] [])) _
    refine st6 _ ?_
    show Steps p.tables e below (T6.setTop (mkF m 82 #[.val (.int p1), .val (.int (1 : Int32)), .val (.int (0 : Int32)), .val (.int (0 : Int32)), .val (.int (0 : Int32)), .val (.ref b2), .val (.ref b4), .unset, .unset, .unset, .unset, .unset] [(.ref b6)])) _
    refine XS.dup X6.here hx rfl (hb hby at_82) rfl rfl ?_
    show Steps p.tables e below (T6.setTop (mkF m 83 #[.val (.int p1), .val (.int (1 : Int32)), .val (.int (0 : Int32)), .val (.int (0 : Int32)), .val (.int (0 : Int32)), .val (.ref b2), .val (.ref b4), .unset, .unset, .unset, .unset, .unset] [(.ref b6), (.ref b6)])) _
    refine XS.aconstNull X6.here hx rfl (hb hby at_83) ?_
    show Steps p.tables e below (T6.setTop (mkF m 84 #[.val (.int p1), .val (.int (1 : Int32)), .val (.int (0 : Int32)), .val (.int (0 : Int32)), .val (.int (0 : Int32)), .val (.ref b2), .val (.ref b4), .unset, .unset, .unset, .unset, .unset] [.null, (.ref b6), (.ref b6)])) _
    refine XS.aconstNull X6.here hx rfl (hb hby at_84) ?_
    show Steps p.tables e below (T6.setTop (mkF m 85 #[.val (.int p1), .val (.int (1 : Int32)), .val (.int (0 : Int32)), .val (.int (0 : Int32)), .val (.int (0 : Int32)), .val (.ref b2), .val (.ref b4), .unset, .unset, .unset, .unset, .unset] [.null, .null, (.ref b6), (.ref b6)])) _
    refine XS.iconst X6.here hx rfl (hb hby at_85) ?_
    show Steps p.tables e below (T6.setTop (mkF m 86 #[.val (.int p1), .val (.int (1 : Int32)), .val (.int (0 : Int32)), .val (.int (0 : Int32)), .val (.int (0 : Int32)), .val (.ref b2), .val (.ref b4), .unset, .unset, .unset, .unset, .unset] [(.int (0 : Int32)), .null, .null, (.ref b6), (.ref b6)])) _
    refine st7.trans ?_
    show Steps p.tables e below (T7.setTop (mkF m 89 #[.val (.int p1), .val (.int (1 : Int32)), .val (.int (0 : Int32)), .val (.int (0 : Int32)), .val (.int (0 : Int32)), .val (.ref b2), .val (.ref b4), .unset, .unset, .unset, .unset, .unset] [(.ref b6)])) _
    refine XS.astore X7.here hx rfl (hb hby at_89) rfl rfl (l' := #[.val (.int p1), .val (.int (1 : Int32)), .val (.int (0 : Int32)), .val (.int (0 : Int32)), .val (.int (0 : Int32)), .val (.ref b2), .val (.ref b4), .val (.ref b6), .unset, .unset, .unset, .unset]) rfl ?_
    show Steps p.tables e below (T7.setTop (mkF m 91 #[.val (.int p1), .val (.int (1 : Int32)), .val (.int (0 : Int32)), .val (.int (0 : Int32)), .val (.int (0 : Int32)), .val (.ref b2), .val (.ref b4), .val (.ref b6), .unset, .unset, .unset, .unset] [])) _
    refine XS.iconst X7.here hx rfl (hb hby at_91) ?_
    show Steps p.tables e below (T7.setTop (mkF m 92 #[.val (.int p1), .val (.int (1 : Int32)), .val (.int (0 : Int32)), .val (.int (0 : Int32)), .val (.int (0 : Int32)), .val (.ref b2), .val (.ref b4), .val (.ref b6), .unset, .unset, .unset, .unset] [(.int (0 : Int32))])) _
    refine XS.istore X7.here hx rfl (hb hby at_92) rfl (l' := #[.val (.int p1), .val (.int (1 : Int32)), .val (.int (0 : Int32)), .val (.int (0 : Int32)), .val (.int (0 : Int32)), .val (.ref b2), .val (.ref b4), .val (.ref b6), .val (.int (0 : Int32)), .unset, .unset, .unset]) rfl ?_
    show Steps p.tables e below (T7.setTop (mkF m 94 #[.val (.int p1), .val (.int (1 : Int32)), .val (.int (0 : Int32)), .val (.int (0 : Int32)), .val (.int (0 : Int32)), .val (.ref b2), .val (.ref b4), .val (.ref b6), .val (.int (0 : Int32)), .unset, .unset, .unset] [])) _
    refine XS.iloadN X7.here hx rfl (hb hby at_94) rfl ?_
    show Steps p.tables e below (T7.setTop (mkF m 95 #[.val (.int p1), .val (.int (1 : Int32)), .val (.int (0 : Int32)), .val (.int (0 : Int32)), .val (.int (0 : Int32)), .val (.ref b2), .val (.ref b4), .val (.ref b6), .val (.int (0 : Int32)), .unset, .unset, .unset] [(.int (1 : Int32))])) _
    refine XS.ifNo X7.here hx rfl (hb hby at_95) rfl ((if0 _ _).trans (feq hc95).1) ?_
    show Steps p.tables e below (T7.setTop (mkF m 98 #[.val (.int p1), .val (.int (1 : Int32)), .val (.int (0 : Int32)), .val (.int (0 : Int32)), .val (.int (0 : Int32)), .val (.ref b2), .val (.ref b4), .val (.ref b6), .val (.int (0 : Int32)), .unset, .unset, .unset] [])) _
    refine XS.aload X7.here hx rfl (hb hby at_98) rfl rfl ?_
    show Steps p.tables e below (T7.setTop (mkF m 100 #[.val (.int p1), .val (.int (1 : Int32)), .val (.int (0 : Int32)), .val (.int (0 : Int32)), .val (.int (0 : Int32)), .val (.ref b2), .val (.ref b4), .val (.ref b6), .val (.int (0 : Int32)), .unset, .unset, .unset] [(.ref b2)])) _
    refine XS.aload X7.here hx rfl (hb hby at_100) rfl rfl ?_
    show Steps p.tables e below (T7.setTop (mkF m 102 #[.val (.int p1), .val (.int (1 : Int32)), .val (.int (0 : Int32)), .val (.int (0 : Int32)), .val (.int (0 : Int32)), .val (.ref b2), .val (.ref b4), .val (.ref b6), .val (.int (0 : Int32)), .unset, .unset, .unset] [(.ref b4), (.ref b2)])) _
    refine st8.trans ?_
    show Steps p.tables e below (T8.setTop (mkF m 105 #[.val (.int p1), .val (.int (1 : Int32)), .val (.int (0 : Int32)), .val (.int (0 : Int32)), .val (.int (0 : Int32)), .val (.ref b2), .val (.ref b4), .val (.ref b6), .val (.int (0 : Int32)), .unset, .unset, .unset] [])) _
    refine XS.iload X8.here hx rfl (hb hby at_105) rfl ?_
    show Steps p.tables e below (T8.setTop (mkF m 107 #[.val (.int p1), .val (.int (1 : Int32)), .val (.int (0 : Int32)), .val (.int (0 : Int32)), .val (.int (0 : Int32)), .val (.ref b2), .val (.ref b4), .val (.ref b6), .val (.int (0 : Int32)), .unset, .unset, .unset] [(.int (0 : Int32))])) _
    refine XS.iconst X8.here hx rfl (hb hby at_107) ?_
    show Steps p.tables e below (T8.setTop (mkF m 108 #[.val (.int p1), .val (.int (1 : Int32)), .val (.int (0 : Int32)), .val (.int (0 : Int32)), .val (.int (0 : Int32)), .val (.ref b2), .val (.ref b4), .val (.ref b6), .val (.int (0 : Int32)), .unset, .unset, .unset] [(.int (1 : Int32)), (.int (0 : Int32))])) _
    refine XS.iadd X8.here hx rfl (hb hby at_108) rfl ?_
    show Steps p.tables e below (T8.setTop (mkF m 109 #[.val (.int p1), .val (.int (1 : Int32)), .val (.int (0 : Int32)), .val (.int (0 : Int32)), .val (.int (0 : Int32)), .val (.ref b2), .val (.ref b4), .val (.ref b6), .val (.int (0 : Int32)), .unset, .unset, .unset] [(.int ((0 : Int32) + (1 : Int32)))])) _
    refine XS.istore X8.here hx rfl (hb hby at_109) rfl (l' := #[.val (.int p1), .val (.int (1 : Int32)), .val (.int (0 : Int32)), .val (.int (0 : Int32)), .val (.int (0 : Int32)), .val (.ref b2), .val (.ref b4), .val (.ref b6), .val (.int ((0 : Int32) + (1 : Int32))), .unset, .unset, .unset]) rfl ?_
    show Steps p.tables e below (T8.setTop (mkF m 111 #[.val (.int p1), .val (.int (1 : Int32)), .val (.int (0 : Int32)), .val (.int (0 : Int32)), .val (.int (0 : Int32)), .val (.ref b2), .val (.ref b4), .val (.ref b6), .val (.int ((0 : Int32) + (1 : Int32))), .unset, .unset, .unset] [])) _
    refine XS.iloadN X8.here hx rfl (hb hby at_111) rfl ?_
    show Steps p.tables e below (T8.setTop (mkF m 112 #[.val (.int p1), .val (.int (1 : Int32)), .val (.int (0 : Int32)), .val (.int (0 : Int32)), .val (.int (0 : Int32)), .val (.ref b2), .val (.ref b4), .val (.ref b6), .val (.int ((0 : Int32) + (1 : Int32))), .unset, .unset, .unset] [(.int (0 : Int32))])) _
    refine XS.ifYes X8.here hx rfl (pc0 := 112) (pc' := 128) rfl (hb hby at_112) rfl ((if0 _ _).trans (teq (rfl : (0 : Int32) = (0 : Int32))).1) (by decide) (by decide) ?_
    show Steps p.tables e below (T8.setTop (mkF m 128 #[.val (.int p1), .val (.int (1 : Int32)), .val (.int (0 : Int32)), .val (.int (0 : Int32)), .val (.int (0 : Int32)), .val (.ref b2), .val (.ref b4), .val (.ref b6), .val (.int ((0 : Int32) + (1 : Int32))), .unset, .unset, .unset] [])) _
    refine XS.iloadN X8.here hx rfl (hb hby at_128) rfl ?_
    show Steps p.tables e below (T8.setTop (mkF m 129 #[.val (.int p1), .val (.int (1 : Int32)), .val (.int (0 : Int32)), .val (.int (0 : Int32)), .val (.int (0 : Int32)), .val (.ref b2), .val (.ref b4), .val (.ref b6), .val (.int ((0 : Int32) + (1 : Int32))), .unset, .unset, .unset] [(.int (0 : Int32))])) _
    refine XS.ifYes X8.here hx rfl (pc0 := 129) (pc' := 145) rfl (hb hby at_129) rfl ((if0 _ _).trans (teq (rfl : (0 : Int32) = (0 : Int32))).1) (by decide) (by decide) ?_
    show Steps p.tables e below (T8.setTop (mkF m 145 #[.val (.int p1), .val (.int (1 : Int32)), .val (.int (0 : Int32)), .val (.int (0 : Int32)), .val (.int (0 : Int32)), .val (.ref b2), .val (.ref b4), .val (.ref b6), .val (.int ((0 : Int32) + (1 : Int32))), .unset, .unset, .unset] [])) _
    refine XS.iload X8.here hx rfl (hb hby at_145) rfl ?_
    show Steps p.tables e below (T8.setTop (mkF m 147 #[.val (.int p1), .val (.int (1 : Int32)), .val (.int (0 : Int32)), .val (.int (0 : Int32)), .val (.int (0 : Int32)), .val (.ref b2), .val (.ref b4), .val (.ref b6), .val (.int ((0 : Int32) + (1 : Int32))), .unset, .unset, .unset] [(.int (0 : Int32))])) _
    refine XS.ifYes X8.here hx rfl (pc0 := 147) (pc' := 163) rfl (hb hby at_147) rfl ((if0 _ _).trans (teq (rfl : (0 : Int32) = (0 : Int32))).1) (by decide) (by decide) ?_
    show Steps p.tables e below (T8.setTop (mkF m 163 #[.val (.int p1), .val (.int (1 : Int32)), .val (.int (0 : Int32)), .val (.int (0 : Int32)), .val (.int (0 : Int32)), .val (.ref b2), .val (.ref b4), .val (.ref b6), .val (.int ((0 : Int32) + (1 : Int32))), .unset, .unset, .unset] [])) _
    refine XS.iload X8.here hx rfl (hb hby at_163) rfl ?_
    show Steps p.tables e below (T8.setTop (mkF m 165 #[.val (.int p1), .val (.int (1 : Int32)), .val (.int (0 : Int32)), .val (.int (0 : Int32)), .val (.int (0 : Int32)), .val (.ref b2), .val (.ref b4), .val (.ref b6), .val (.int ((0 : Int32) + (1 : Int32))), .unset, .unset, .unset] [(.int ((0 : Int32) + (1 : Int32)))])) _
    refine own_tif_ne X8.here hx (hb hby at_165) (hb hby at_168) (hb hby at_169) (hb hby at_172) ?_
    show Steps p.tables e below (T8.setTop (mkF m 173 #[.val (.int p1), .val (.int (1 : Int32)), .val (.int (0 : Int32)), .val (.int (0 : Int32)), .val (.int (0 : Int32)), .val (.ref b2), .val (.ref b4), .val (.ref b6), .val (.int ((0 : Int32) + (1 : Int32))), .unset, .unset, .unset] [(.int (if ((0 : Int32) + (1 : Int32)) = (0 : Int32) then (1 : Int32) else 0))])) _
    refine XS.istore X8.here hx rfl (hb hby at_173) rfl (l' := #[.val (.int p1), .val (.int (1 : Int32)), .val (.int (0 : Int32)), .val (.int (0 : Int32)), .val (.int (0 : Int32)), .val (.ref b2), .val (.ref b4), .val (.ref b6), .val (.int ((0 : Int32) + (1 : Int32))), .val (.int (if ((0 : Int32) + (1 : Int32)) = (0 : Int32) then (1 : Int32) else 0)), .unset, .unset]) rfl ?_
    show Steps p.tables e below (T8.setTop (mkF m 175 #[.val (.int p1), .val (.int (1 : Int32)), .val (.int (0 : Int32)), .val (.int (0 : Int32)), .val (.int (0 : Int32)), .val (.ref b2), .val (.ref b4), .val (.ref b6), .val (.int ((0 : Int32) + (1 : Int32))), .val (.int (if ((0 : Int32) + (1 : Int32)) = (0 : Int32) then (1 : Int32) else 0)), .unset, .unset] [])) _
    refine XS.aload X8.here hx rfl (hb hby at_175) rfl rfl ?_
    show Steps p.tables e below (T8.setTop (mkF m 177 #[.val (.int p1), .val (.int (1 : Int32)), .val (.int (0 : Int32)), .val (.int (0 : Int32)), .val (.int (0 : Int32)), .val (.ref b2), .val (.ref b4), .val (.ref b6), .val (.int ((0 : Int32) + (1 : Int32))), .val (.int (if ((0 : Int32) + (1 : Int32)) = (0 : Int32) then (1 : Int32) else 0)), .unset, .unset] [(.ref b2)])) _
    refine st9.trans ?_
    show Steps p.tables e below (T9.setTop (mkF m 180 #[.val (.int p1), .val (.int (1 : Int32)), .val (.int (0 : Int32)), .val (.int (0 : Int32)), .val (.int (0 : Int32)), .val (.ref b2), .val (.ref b4), .val (.ref b6), .val (.int ((0 : Int32) + (1 : Int32))), .val (.int (if ((0 : Int32) + (1 : Int32)) = (0 : Int32) then (1 : Int32) else 0)), .unset, .unset] [(.int (if ((0 : Int32) + (1 : Int32)) = (0 : Int32) then (1 : Int32) else 0))])) _
    refine XS.istore X9.here hx rfl (hb hby at_180) rfl (l' := #[.val (.int p1), .val (.int (1 : Int32)), .val (.int (0 : Int32)), .val (.int (0 : Int32)), .val (.int (0 : Int32)), .val (.ref b2), .val (.ref b4), .val (.ref b6), .val (.int ((0 : Int32) + (1 : Int32))), .val (.int (if ((0 : Int32) + (1 : Int32)) = (0 : Int32) then (1 : Int32) else 0)), .val (.int (if ((0 : Int32) + (1 : Int32)) = (0 : Int32) then (1 : Int32) else 0)), .unset]) rfl ?_
    show Steps p.tables e below (T9.setTop (mkF m 182 #[.val (.int p1), .val (.int (1 : Int32)), .val (.int (0 : Int32)), .val (.int (0 : Int32)), .val (.int (0 : Int32)), .val (.ref b2), .val (.ref b4), .val (.ref b6), .val (.int ((0 : Int32) + (1 : Int32))), .val (.int (if ((0 : Int32) + (1 : Int32)) = (0 : Int32) then (1 : Int32) else 0)), .val (.int (if ((0 : Int32) + (1 : Int32)) = (0 : Int32) then (1 : Int32) else 0)), .unset] [])) _
    refine XS.aload X9.here hx rfl (hb hby at_182) rfl rfl ?_
    show Steps p.tables e below (T9.setTop (mkF m 184 #[.val (.int p1), .val (.int (1 : Int32)), .val (.int (0 : Int32)), .val (.int (0 : Int32)), .val (.int (0 : Int32)), .val (.ref b2), .val (.ref b4), .val (.ref b6), .val (.int ((0 : Int32) + (1 : Int32))), .val (.int (if ((0 : Int32) + (1 : Int32)) = (0 : Int32) then (1 : Int32) else 0)), .val (.int (if ((0 : Int32) + (1 : Int32)) = (0 : Int32) then (1 : Int32) else 0)), .unset] [(.ref b2)])) _
    refine st10.trans ?_
    show Steps p.tables e below (T10.setTop (mkF m 187 #[.val (.int p1), .val (.int (1 : Int32)), .val (.int (0 : Int32)), .val (.int (0 : Int32)), .val (.int (0 : Int32)), .val (.ref b2), .val (.ref b4), .val (.ref b6), .val (.int ((0 : Int32) + (1 : Int32))), .val (.int (if ((0 : Int32) + (1 : Int32)) = (0 : Int32) then (1 : Int32) else 0)), .val (.int (if ((0 : Int32) + (1 : Int32)) = (0 : Int32) then (1 : Int32) else 0)), .unset] [(.ref b4)])) _
    refine XS.ifnonnullYes X10.here hx rfl (pc0 := 187) (pc' := 194) rfl (hb hby at_187) rfl (by decide) (by decide) ?_
    show Steps p.tables e below (T10.setTop (mkF m 194 #[.val (.int p1), .val (.int (1 : Int32)), .val (.int (0 : Int32)), .val (.int (0 : Int32)), .val (.int (0 : Int32)), .val (.ref b2), .val (.ref b4), .val (.ref b6), .val (.int ((0 : Int32) + (1 : Int32))), .val (.int (if ((0 : Int32) + (1 : Int32)) = (0 : Int32) then (1 : Int32) else 0)), .val (.int (if ((0 : Int32) + (1 : Int32)) = (0 : Int32) then (1 : Int32) else 0)), .unset] [])) _
    refine XS.iconst X10.here hx rfl (hb hby at_194) ?_
    show Steps p.tables e below (T10.setTop (mkF m 195 #[.val (.int p1), .val (.int (1 : Int32)), .val (.int (0 : Int32)), .val (.int (0 : Int32)), .val (.int (0 : Int32)), .val (.ref b2), .val (.ref b4), .val (.ref b6), .val (.int ((0 : Int32) + (1 : Int32))), .val (.int (if ((0 : Int32) + (1 : Int32)) = (0 : Int32) then (1 : Int32) else 0)), .val (.int (if ((0 : Int32) + (1 : Int32)) = (0 : Int32) then (1 : Int32) else 0)), .unset] [(.int (0 : Int32))])) _
    refine XS.istore X10.here hx rfl (hb hby at_195) rfl (l' := #[.val (.int p1), .val (.int (1 : Int32)), .val (.int (0 : Int32)), .val (.int (0 : Int32)), .val (.int (0 : Int32)), .val (.ref b2), .val (.ref b4), .val (.ref b6), .val (.int ((0 : Int32) + (1 : Int32))), .val (.int (if ((0 : Int32) + (1 : Int32)) = (0 : Int32) then (1 : Int32) else 0)), .val (.int (if ((0 : Int32) + (1 : Int32)) = (0 : Int32) then (1 : Int32) else 0)), .val (.int (0 : Int32))]) rfl ?_
    show Steps p.tables e below (T10.setTop (mkF m 197 #[.val (.int p1), .val (.int (1 : Int32)), .val (.int (0 : Int32)), .val (.int (0 : Int32)), .val (.int (0 : Int32)), .val (.ref b2), .val (.ref b4), .val (.ref b6), .val (.int ((0 : Int32) + (1 : Int32))), .val (.int (if ((0 : Int32) + (1 : Int32)) = (0 : Int32) then (1 : Int32) else 0)), .val (.int (if ((0 : Int32) + (1 : Int32)) = (0 : Int32) then (1 : Int32) else 0)), .val (.int (0 : Int32))] [])) _
    refine XS.iload X10.here hx rfl (hb hby at_197) rfl ?_
    show Steps p.tables e below (T10.setTop (mkF m 199 #[.val (.int p1), .val (.int (1 : Int32)), .val (.int (0 : Int32)), .val (.int (0 : Int32)), .val (.int (0 : Int32)), .val (.ref b2), .val (.ref b4), .val (.ref b6), .val (.int ((0 : Int32) + (1 : Int32))), .val (.int (if ((0 : Int32) + (1 : Int32)) = (0 : Int32) then (1 : Int32) else 0)), .val (.int (if ((0 : Int32) + (1 : Int32)) = (0 : Int32) then (1 : Int32) else 0)), .val (.int (0 : Int32))] [(.int (if ((0 : Int32) + (1 : Int32)) = (0 : Int32) then (1 : Int32) else 0))])) _
    refine XS.iload X10.here hx rfl (hb hby at_199) rfl ?_
    show Steps p.tables e below (T10.setTop (mkF m 201 #[.val (.int p1), .val (.int (1 : Int32)), .val (.int (0 : Int32)), .val (.int (0 : Int32)), .val (.int (0 : Int32)), .val (.ref b2), .val (.ref b4), .val (.ref b6), .val (.int ((0 : Int32) + (1 : Int32))), .val (.int (if ((0 : Int32) + (1 : Int32)) = (0 : Int32) then (1 : Int32) else 0)), .val (.int (if ((0 : Int32) + (1 : Int32)) = (0 : Int32) then (1 : Int32) else 0)), .val (.int (0 : Int32))] [(.int (if ((0 : Int32) + (1 : Int32)) = (0 : Int32) then (1 : Int32) else 0)), (.int (if ((0 : Int32) + (1 : Int32)) = (0 : Int32) then (1 : Int32) else 0))])) _
    refine XS.icmpNo X10.here hx rfl (hb hby at_201) rfl (teq (rfl : (if ((0 : Int32) + (1 : Int32)) = (0 : Int32) then (1 : Int32) else 0) = (if ((0 : Int32) + (1 : Int32)) = (0 : Int32) then (1 : Int32) else 0))).2 ?_
    show Steps p.tables e below (T10.setTop (mkF m 204 #[.val (.int p1), .val (.int (1 : Int32)), .val (.int (0 : Int32)), .val (.int (0 : Int32)), .val (.int (0 : Int32)), .val (.ref b2), .val (.ref b4), .val (.ref b6), .val (.int ((0 : Int32) + (1 : Int32))), .val (.int (if ((0 : Int32) + (1 : Int32)) = (0 : Int32) then (1 : Int32) else 0)), .val (.int (if ((0 : Int32) + (1 : Int32)) = (0 : Int32) then (1 : Int32) else 0)), .val (.int (0 : Int32))] [])) _
    refine XS.iload X10.here hx rfl (hb hby at_204) rfl ?_
    show Steps p.tables e below (T10.setTop (mkF m 206 #[.val (.int p1), .val (.int (1 : Int32)), .val (.int (0 : Int32)), .val (.int (0 : Int32)), .val (.int (0 : Int32)), .val (.ref b2), .val (.ref b4), .val (.ref b6), .val (.int ((0 : Int32) + (1 : Int32))), .val (.int (if ((0 : Int32) + (1 : Int32)) = (0 : Int32) then (1 : Int32) else 0)), .val (.int (if ((0 : Int32) + (1 : Int32)) = (0 : Int32) then (1 : Int32) else 0)), .val (.int (0 : Int32))] [(.int (0 : Int32))])) _
    refine XS.iload X10.here hx rfl (hb hby at_206) rfl ?_
    show Steps p.tables e below (T10.setTop (mkF m 208 #[.val (.int p1), .val (.int (1 : Int32)), .val (.int (0 : Int32)), .val (.int (0 : Int32)), .val (.int (0 : Int32)), .val (.ref b2), .val (.ref b4), .val (.ref b6), .val (.int ((0 : Int32) + (1 : Int32))), .val (.int (if ((0 : Int32) + (1 : Int32)) = (0 : Int32) then (1 : Int32) else 0)), .val (.int (if ((0 : Int32) + (1 : Int32)) = (0 : Int32) then (1 : Int32) else 0)), .val (.int (0 : Int32))] [(.int (if ((0 : Int32) + (1 : Int32)) = (0 : Int32) then (1 : Int32) else 0)), (.int (0 : Int32))])) _
    refine XS.icmpNo X10.here hx rfl (hb hby at_208) rfl (teq hc208).2 ?_
    show Steps p.tables e below (T10.setTop (mkF m 211 #[.val (.int p1), .val (.int (1 : Int32)), .val (.int (0 : Int32)), .val (.int (0 : Int32)), .val (.int (0 : Int32)), .val (.ref b2), .val (.ref b4), .val (.ref b6), .val (.int ((0 : Int32) + (1 : Int32))), .val (.int (if ((0 : Int32) + (1 : Int32)) = (0 : Int32) then (1 : Int32) else 0)), .val (.int (if ((0 : Int32) + (1 : Int32)) = (0 : Int32) then (1 : Int32) else 0)), .val (.int (0 : Int32))] [])) _
    refine XS.iconst X10.here hx rfl (hb hby at_211) ?_
    show Steps p.tables e below (T10.setTop (mkF m 212 #[.val (.int p1), .val (.int (1 : Int32)), .val (.int (0 : Int32)), .val (.int (0 : Int32)), .val (.int (0 : Int32)), .val (.ref b2), .val (.ref b4), .val (.ref b6), .val (.int ((0 : Int32) + (1 : Int32))), .val (.int (if ((0 : Int32) + (1 : Int32)) = (0 : Int32) then (1 : Int32) else 0)), .val (.int (if ((0 : Int32) + (1 : Int32)) = (0 : Int32) then (1 : Int32) else 0)), .val (.int (0 : Int32))] [(.int (1 : Int32))])) _
    refine XS.goto X10.here hx rfl (pc0 := 212) (pc' := 216) rfl (hb hby at_212) (by decide) (by decide) ?_
    show Steps p.tables e below (T10.setTop (mkF m 216 #[.val (.int p1), .val (.int (1 : Int32)), .val (.int (0 : Int32)), .val (.int (0 : Int32)), .val (.int (0 : Int32)), .val (.ref b2), .val (.ref b4), .val (.ref b6), .val (.int ((0 : Int32) + (1 : Int32))), .val (.int (if ((0 : Int32) + (1 : Int32)) = (0 : Int32) then (1 : Int32) else 0)), .val (.int (if ((0 : Int32) + (1 : Int32)) = (0 : Int32) then (1 : Int32) else 0)), .val (.int (0 : Int32))] [(.int (1 : Int32))])) _
    exact retN X10 hx (t := .boolean) Bd.returns (by simp) (hb hby at_216) hr
  · show Q0 Z p1 h0 n0 _ T10.heap _
    rw [e10]
    exact ⟨rfl, N10⟩

set_option maxRecDepth 65536 in
set_option maxHeartbeats 40000000 in
theorem rm0_4 (l : Launch) (Z : State) (a0 : Array Value) (hw : ∀ d ∈ tables_1, d.before a0 Z = true) (ws : List Jvm.Cond) (p1 : Int32) (h0 : Heap) (n0 : Nat) (Z0 : n0 ≤ h0.size) (hc3 : ¬ ((p1 &&& (1 : Int32)) = (0 : Int32))) (hc15 : (p1 &&& (2 : Int32)) = (0 : Int32)) (hc25 : ¬ ((1 : Int32) = (0 : Int32))) (hc31 : ¬ ((p1 &&& (4 : Int32)) = (0 : Int32))) (hc95 : ¬ ((1 : Int32) = (0 : Int32))) (hc129 : ¬ ((1 : Int32) = (0 : Int32))) (hc208 : (1 : Int32) = (if (((0 : Int32) + (1 : Int32)) - (1 : Int32)) = (0 : Int32) then (1 : Int32) else 0)) :
    MetFree l x (head1 (Jvm.Cond.code x code maxLocals ret :: ws) room_1) (fun a U => a = #[(.int p1)] ∧ Z.Warmed39 U.vm ∧ U.heap = h0) (fun _ _ _ _ _ => True) (fun _ U o U' => ∃ v L, o = .returned v ∧ Q0 Z p1 h0 n0 v U'.heap L ∧ FrameEnd U o U' L room_1.cells room_1.slots) := by
  refine MetFree.of_bodySF (plainFor_of_name pn_0) hisR ?_
  intro p e s m args below meth c s₁ Bd hml0 hP hK
  obtain ⟨rfl, hZ, hh⟩ := hP
  have hx := Bd.exec
  have hby := Bd.bytes
  have hml : c.maxLocals = 12 := hml0
  have hown : s.vm.findClass "com/example/idlewell/idlewell/engine/ObjectListIsEmptyPinLaw" = some m.cls := findClass_of_methodNamed Bd.named
  have hnm := (name_of_methodNamed Bd.named Bd.method).1
  have X0 : Stand p l e room_1 s m #[(.int p1)] below meth c s₁ [] 0 0 := Stand.of_body Bd
  have e0 : s₁.heap = h0 := by rw [← hh, Bd.state]; rfl
  have N0 := Fr.nil n0
  have pre0 : ∀ t, Steps p.tables e below (s₁.setTop (mkF m 0 #[.val (.int p1), .unset, .unset, .unset, .unset, .unset, .unset, .unset, .unset, .unset, .unset, .unset] [])) t → Steps p.tables e below (s₁.setTop (entryFrame m #[(.int p1)] maxLocals)) t := fun t k => castTop (ef_0 m p1) k
  obtain ⟨T2, h2, X2, e2, E2, A2, D2, -, st2⟩ := newO X0 hx hZ hown (hw _ (List.mem_of_getElem? (i := 0) rfl)) (hw _ (List.mem_of_getElem? (i := 1) rfl)) (hw _ (List.mem_of_getElem? (i := 2) rfl)) e0 (g := (mkF m 58 #[.val (.int p1), .val (.int (1 : Int32)), .val (.int (0 : Int32)), .val (.int (1 : Int32)), .val (.int (0 : Int32)), .unset, .unset, .unset, .unset, .unset, .unset, .unset] [])) rfl (hb hby at_58) (by decide) (by decide)
  obtain ⟨b2, g2⟩ : ∃ z, z = h0.size := ⟨_, rfl⟩
  rw [← g2] at A2 D2 st2
  have F_size_b2 : Fld Z h2 b2 "com/example/idlewell/idlewell/engine/ObjectList" "size" "I" (.int (0 : Int32)) := D2 (Or.inl (hw _ (List.mem_of_getElem? (i := 28) rfl))) (ty := .int) (by decide)
  have F_newest_b2 : Fld Z h2 b2 "com/example/idlewell/idlewell/engine/ObjectList" "newest" "Lcom/example/idlewell/idlewell/engine/PooledObject;" .null := D2 (Or.inl (hw _ (List.mem_of_getElem? (i := 35) rfl))) (ty := (.object "com/example/idlewell/idlewell/engine/PooledObject")) (by decide)
  have F_oldest_b2 : Fld Z h2 b2 "com/example/idlewell/idlewell/engine/ObjectList" "oldest" "Lcom/example/idlewell/idlewell/engine/PooledObject;" .null := D2 (Or.inl (hw _ (List.mem_of_getElem? (i := 47) rfl))) (ty := (.object "com/example/idlewell/idlewell/engine/PooledObject")) (by decide)
  have E_b2 := A2
  have g_b2 : n0 ≤ b2 := Nat.le_trans Z0 (Nat.le_of_eq g2.symm)
  have sz_b2 : h0.size ≤ b2 := (Nat.le_trans (Keep.refl h0 []).1 (Nat.le_of_eq g2.symm))
  have K2 : Keep h0 h2 [] := (Keep.refl h0 []).ext E2
  obtain ⟨_, _, ⟨T3, L3, k3, n3⟩, -, X3, ⟨Lc3, hQ3, l3, y3, z3⟩, st3⟩ := X2.specialBack hx (y := (⟨"com/example/idlewell/idlewell/engine/ObjectList", "<init>", "()V"⟩ : MethodName)) rfl hown (mvT hZ (hw _ (List.mem_of_getElem? (i := 3) rfl))) (mvT hZ (hw _ (List.mem_of_getElem? (i := 4) rfl))) (mvT hZ (hw _ (List.mem_of_getElem? (i := 5) rfl))) (by decide) (backOf (W := 1) (rm1 l Z a0 hw [] b2  h2 n0 (Nat.le_trans Z0 E2.1)) hZ (hw _ (List.mem_of_getElem? (i := 5) rfl)) (hw _ (List.mem_of_getElem? (i := 2) rfl)) (by decide) (by decide)) (g := (mkF m 62 #[.val (.int p1), .val (.int (1 : Int32)), .val (.int (0 : Int32)), .val (.int (1 : Int32)), .val (.int (0 : Int32)), .unset, .unset, .unset, .unset, .unset, .unset, .unset] [(.ref b2), (.ref b2)])) rfl (by rw [hml]; rfl) (Steps.refl _) (a := b2) (argsL := []) (rest := [(.ref b2)]) (lenOf pd_0_0 rfl) rfl (by show 2 * 0 + _ ≤ _; exact Nat.le_of_eq rfl) (hb hby at_62) (fun _ _ => ⟨rfl, e2, (by decide : 1 + 0 ≤ _), (by decide : 3 + 0 ≤ _)⟩)
  dsimp only [Pt.U, Pt.locs, Pt.cells, Pt.slots] at X3 l3 y3 z3 st3 hQ3
  subst l3 y3 z3
  obtain ⟨rfl, N3q, e3⟩ := hQ3
  have N3 := Fr.app N0 N3q
  obtain ⟨T4, h4, X4, e4, E4, A4, D4, -, st4⟩ := newO X3 hx hZ hown (hw _ (List.mem_of_getElem? (i := 9) rfl)) (hw _ (List.mem_of_getElem? (i := 10) rfl)) (hw _ (List.mem_of_getElem? (i := 11) rfl)) e3 (g := (mkF m 67 #[.val (.int p1), .val (.int (1 : Int32)), .val (.int (0 : Int32)), .val (.int (1 : Int32)), .val (.int (0 : Int32)), .val (.ref b2), .unset, .unset, .unset, .unset, .unset, .unset] [])) rfl (hb hby at_67) (by decide) (by decide)
  obtain ⟨b4, g4⟩ : ∃ z, z = h2.size := ⟨_, rfl⟩
  rw [← g4] at A4 D4 st4
  have F_pool_b4 : Fld Z h4 b4 "com/example/idlewell/idlewell/engine/PooledObject" "pool" "Lcom/example/idlewell/idlewell/engine/BoundedPool;" .null := D4 (Or.inr (hw _ (List.mem_of_getElem? (i := 17) rfl))) (ty := (.object "com/example/idlewell/idlewell/engine/BoundedPool")) (by decide)
  have F_object_b4 : Fld Z h4 b4 "com/example/idlewell/idlewell/engine/PooledObject" "object" "Ljava/lang/Object;" .null := D4 (Or.inr (hw _ (List.mem_of_getElem? (i := 19) rfl))) (ty := (.object "java/lang/Object")) (by decide)
  have F_slot_b4 : Fld Z h4 b4 "com/example/idlewell/idlewell/engine/PooledObject" "slot" "Lcom/example/idlewell/idlewell/engine/ThreadSlot;" .null := D4 (Or.inr (hw _ (List.mem_of_getElem? (i := 21) rfl))) (ty := (.object "com/example/idlewell/idlewell/engine/ThreadSlot")) (by decide)
  have F_older_b4 : Fld Z h4 b4 "com/example/idlewell/idlewell/engine/PooledObject" "older" "Lcom/example/idlewell/idlewell/engine/PooledObject;" .null := D4 (Or.inl (hw _ (List.mem_of_getElem? (i := 49) rfl))) (ty := (.object "com/example/idlewell/idlewell/engine/PooledObject")) (by decide)
  have F_newer_b4 : Fld Z h4 b4 "com/example/idlewell/idlewell/engine/PooledObject" "newer" "Lcom/example/idlewell/idlewell/engine/PooledObject;" .null := D4 (Or.inl (hw _ (List.mem_of_getElem? (i := 51) rfl))) (ty := (.object "com/example/idlewell/idlewell/engine/PooledObject")) (by decide)
  have E_b4 := A4
  have g_b4 : n0 ≤ b4 := Nat.le_trans (Nat.le_trans Z0 E2.1) (Nat.le_of_eq g4.symm)
  have sz_b4 : h0.size ≤ b4 := (Nat.le_trans K2.1 (Nat.le_of_eq g4.symm))
  have K4 : Keep h0 h4 [] := K2.ext E4
  obtain ⟨_, _, ⟨T5, L5, k5, n5⟩, -, X5, ⟨Lc5, hQ5, l5, y5, z5⟩, st5⟩ := X4.specialBack hx (y := (⟨"com/example/idlewell/idlewell/engine/PooledObject", "<init>", "(Lcom/example/idlewell/idlewell/engine/BoundedPool;Ljava/lang/Object;Z)V"⟩ : MethodName)) rfl hown (mvT hZ (hw _ (List.mem_of_getElem? (i := 12) rfl))) (mvT hZ (hw _ (List.mem_of_getElem? (i := 13) rfl))) (mvT hZ (hw _ (List.mem_of_getElem? (i := 14) rfl))) (by decide) (backOf (W := 1) (rm3 l Z a0 hw [] b4 (0 : Int32) .null .null .null h4 n0 (Nat.le_trans (Nat.le_trans Z0 E2.1) E4.1) E_b4 F_newer_b4 F_older_b4 F_pool_b4 g_b4 F_object_b4 F_slot_b4 rfl) hZ (hw _ (List.mem_of_getElem? (i := 14) rfl)) (hw _ (List.mem_of_getElem? (i := 11) rfl)) (by decide) (by decide)) (g := (mkF m 74 #[.val (.int p1), .val (.int (1 : Int32)), .val (.int (0 : Int32)), .val (.int (1 : Int32)), .val (.int (0 : Int32)), .val (.ref b2), .unset, .unset, .unset, .unset, .unset, .unset] [(.int (0 : Int32)), .null, .null, (.ref b4), (.ref b4)])) rfl (by rw [hml]; rfl) (Steps.refl _) (a := b4) (argsL := [.null, .null, (.int (0 : Int32))]) (rest := [(.ref b4)]) (lenOf pd_0_1 rfl) rfl (by show 2 * 0 + _ ≤ _; exact Nat.le_of_eq rfl) (hb hby at_74) (fun _ _ => ⟨rfl, e4, (by decide : 2 + 0 ≤ _), (by decide : 13 + 0 ≤ _)⟩)
  dsimp only [Pt.U, Pt.locs, Pt.cells, Pt.slots] at X5 l5 y5 z5 st5 hQ5
  subst l5 y5 z5
  obtain ⟨rfl, N5q, Kq5, Ex5, Fn5, Fo5⟩ := hQ5
  have N5 := Fr.app N3 N5q
  obtain ⟨T6, h6, X6, e6, E6, A6, D6, -, st6⟩ := newO X5 hx hZ hown (hw _ (List.mem_of_getElem? (i := 9) rfl)) (hw _ (List.mem_of_getElem? (i := 10) rfl)) (hw _ (List.mem_of_getElem? (i := 11) rfl)) rfl (g := (mkF m 79 #[.val (.int p1), .val (.int (1 : Int32)), .val (.int (0 : Int32)), .val (.int (1 : Int32)), .val (.int (0 : Int32)), .val (.ref b2), .val (.ref b4), .unset, .unset, .unset, .unset, .unset] [])) rfl (hb hby at_79) (by decide) (by decide)
  obtain ⟨b6, g6⟩ : ∃ z, z = T5.heap.size := ⟨_, rfl⟩
  rw [← g6] at A6 D6 st6
  have F_pool_b6 : Fld Z h6 b6 "com/example/idlewell/idlewell/engine/PooledObject" "pool" "Lcom/example/idlewell/idlewell/engine/BoundedPool;" .null := D6 (Or.inr (hw _ (List.mem_of_getElem? (i := 17) rfl))) (ty := (.object "com/example/idlewell/idlewell/engine/BoundedPool")) (by decide)
  have F_object_b6 : Fld Z h6 b6 "com/example/idlewell/idlewell/engine/PooledObject" "object" "Ljava/lang/Object;" .null := D6 (Or.inr (hw _ (List.mem_of_getElem? (i := 19) rfl))) (ty := (.object "java/lang/Object")) (by decide)
  have F_slot_b6 : Fld Z h6 b6 "com/example/idlewell/idlewell/engine/PooledObject" "slot" "Lcom/example/idlewell/idlewell/engine/ThreadSlot;" .null := D6 (Or.inr (hw _ (List.mem_of_getElem? (i := 21) rfl))) (ty := (.object "com/example/idlewell/idlewell/engine/ThreadSlot")) (by decide)
  have F_older_b6 : Fld Z h6 b6 "com/example/idlewell/idlewell/engine/PooledObject" "older" "Lcom/example/idlewell/idlewell/engine/PooledObject;" .null := D6 (Or.inl (hw _ (List.mem_of_getElem? (i := 49) rfl))) (ty := (.object "com/example/idlewell/idlewell/engine/PooledObject")) (by decide)
  have F_newer_b6 : Fld Z h6 b6 "com/example/idlewell/idlewell/engine/PooledObject" "newer" "Lcom/example/idlewell/idlewell/engine/PooledObject;" .null := D6 (Or.inl (hw _ (List.mem_of_getElem? (i := 51) rfl))) (ty := (.object "com/example/idlewell/idlewell/engine/PooledObject")) (by decide)
  have E_b6 := A6
  have g_b6 : n0 ≤ b6 := Nat.le_trans (Nat.le_trans (Nat.le_trans (Nat.le_trans Z0 E2.1) E4.1) Kq5.1) (Nat.le_of_eq g6.symm)
  obtain ⟨_, _, ⟨T7, L7, k7, n7⟩, -, X7, ⟨Lc7, hQ7, l7, y7, z7⟩, st7⟩ := X6.specialBack hx (y := (⟨"com/example/idlewell/idlewell/engine/PooledObject", "<init>", "(Lcom/example/idlewell/idlewell/engine/BoundedPool;Ljava/lang/Object;Z)V"⟩ : MethodName)) rfl hown (mvT hZ (hw _ (List.mem_of_getElem? (i := 12) rfl))) (mvT hZ (hw _ (List.mem_of_getElem? (i := 13) rfl))) (mvT hZ (hw _ (List.mem_of_getElem? (i := 14) rfl))) (by decide) (backOf (W := 1) (rm3 l Z a0 hw [] b6 (0 : Int32) .null .null .null h6 n0 (Nat.le_trans (Nat.le_trans (Nat.le_trans (Nat.le_trans Z0 E2.1) E4.1) Kq5.1) E6.1) E_b6 F_newer_b6 F_older_b6 F_pool_b6 g_b6 F_object_b6 F_slot_b6 rfl) hZ (hw _ (List.mem_of_getElem? (i := 14) rfl)) (hw _ (List.mem_of_getElem? (i := 11) rfl)) (by decide) (by decide)) (g := (mkF m 86 #[.val (.int p1), .val (.int (1 : Int32)), .val (.int (0 : Int32)), .val (.int (1 : Int32)), .val (.int (0 : Int32)), .val (.ref b2), .val (.ref b4), .unset, .unset, .unset, .unset, .unset] [(.int (0 : Int32)), .null, .null, (.ref b6), (.ref b6)])) rfl (by rw [hml]; rfl) (Steps.refl _) (a := b6) (argsL := [.null, .null, (.int (0 : Int32))]) (rest := [(.ref b6)]) (lenOf pd_0_1 rfl) rfl (by show 2 * 0 + _ ≤ _; exact Nat.le_of_eq rfl) (hb hby at_86) (fun _ _ => ⟨rfl, e6, (by decide : 3 + 0 ≤ _), (by decide : 23 + 0 ≤ _)⟩)
  dsimp only [Pt.U, Pt.locs, Pt.cells, Pt.slots] at X7 l7 y7 z7 st7 hQ7
  subst l7 y7 z7
  obtain ⟨rfl, N7q, Kq7, Ex7, Fn7, Fo7⟩ := hQ7
  have N7 := Fr.app N5 N7q
  obtain ⟨cq8, kq8, q8a, q8b, q8c⟩ := isOf hZ rfl ((((E_b2.ext E4).keep Kq5).ext E6).keep Kq7)
  obtain ⟨_, _, ⟨T8, L8, k8, n8⟩, -, X8, ⟨Lc8, hQ8, l8, y8, z8⟩, st8⟩ := X7.virtualBack hx (y := (⟨"com/example/idlewell/idlewell/engine/ObjectList", "addNewest", "(Lcom/example/idlewell/idlewell/engine/PooledObject;)V"⟩ : MethodName)) (z := (⟨"com/example/idlewell/idlewell/engine/ObjectList", "addNewest", "(Lcom/example/idlewell/idlewell/engine/PooledObject;)V"⟩ : MethodName)) hown (mvT hZ (hw _ (List.mem_of_getElem? (i := 36) rfl))) (mvT hZ (hw _ (List.mem_of_getElem? (i := 37) rfl))) (notFace_of_selects (args := #[]) (mvT hZ (hw _ (List.mem_of_getElem? (i := 39) rfl)))) (mvT hZ (hw _ (List.mem_of_getElem? (i := 39) rfl))) (mvT hZ (hw _ (List.mem_of_getElem? (i := 38) rfl))) (by decide) (backOf (W := 0) (rm6A l Z a0 hw [] b2 b4 b6 (0 : Int32) T7.heap n0 (Nat.le_trans (Nat.le_trans (Nat.le_trans (Nat.le_trans (Nat.le_trans Z0 E2.1) E4.1) Kq5.1) E6.1) Kq7.1) ⟨((((E_b2.ext E4).keep Kq5).ext E6).keep Kq7), ((Ex5.ext E6).keep Kq7), Ex7, ((((F_newest_b2.ext E4).keep Kq5 (fun q_ => (Nat.ne_of_lt (Nat.lt_of_lt_of_le E_b2.lt (Nat.le_of_eq g4.symm))) (List.mem_singleton.mp q_))).ext E6).keep Kq7 (fun q_ => (Nat.ne_of_lt (Nat.lt_of_lt_of_le ((E_b2.ext E4).keep Kq5).lt (Nat.le_of_eq g6.symm))) (List.mem_singleton.mp q_))), ((((F_oldest_b2.ext E4).keep Kq5 (fun q_ => (Nat.ne_of_lt (Nat.lt_of_lt_of_le E_b2.lt (Nat.le_of_eq g4.symm))) (List.mem_singleton.mp q_))).ext E6).keep Kq7 (fun q_ => (Nat.ne_of_lt (Nat.lt_of_lt_of_le ((E_b2.ext E4).keep Kq5).lt (Nat.le_of_eq g6.symm))) (List.mem_singleton.mp q_))), ((((F_size_b2.ext E4).keep Kq5 (fun q_ => (Nat.ne_of_lt (Nat.lt_of_lt_of_le E_b2.lt (Nat.le_of_eq g4.symm))) (List.mem_singleton.mp q_))).ext E6).keep Kq7 (fun q_ => (Nat.ne_of_lt (Nat.lt_of_lt_of_le ((E_b2.ext E4).keep Kq5).lt (Nat.le_of_eq g6.symm))) (List.mem_singleton.mp q_))), ((Fn5.ext E6).keep Kq7 (fun q_ => (Nat.ne_of_lt (Nat.lt_of_lt_of_le Ex5.lt (Nat.le_of_eq g6.symm))) (List.mem_singleton.mp q_))), ((Fo5.ext E6).keep Kq7 (fun q_ => (Nat.ne_of_lt (Nat.lt_of_lt_of_le Ex5.lt (Nat.le_of_eq g6.symm))) (List.mem_singleton.mp q_))), Fn7, Fo7⟩ g_b2 g_b4 g_b6 (Nat.ne_of_lt (Nat.lt_of_lt_of_le E_b2.lt (Nat.le_of_eq g4.symm))) (Nat.ne_of_lt (Nat.lt_of_lt_of_le ((E_b2.ext E4).keep Kq5).lt (Nat.le_of_eq g6.symm))) (Nat.ne_of_lt (Nat.lt_of_lt_of_le Ex5.lt (Nat.le_of_eq g6.symm)))) hZ (hw _ (List.mem_of_getElem? (i := 40) rfl)) (hw _ (List.mem_of_getElem? (i := 2) rfl)) (by decide) (by decide)) q8a q8c (g := (mkF m 102 #[.val (.int p1), .val (.int (1 : Int32)), .val (.int (0 : Int32)), .val (.int (1 : Int32)), .val (.int (0 : Int32)), .val (.ref b2), .val (.ref b4), .val (.ref b6), .val (.int (0 : Int32)), .unset, .unset, .unset] [(.ref b4), (.ref b2)])) rfl (by rw [hml]; rfl) (Steps.refl _) (argsL := [(.ref b4)]) (rest := []) (lenOf pd_0_4 rfl) rfl (by show 2 * 0 + _ ≤ _; exact Nat.le_of_eq rfl) (hb hby at_102) (fun _ _ => ⟨rfl, rfl, (by decide : 3 + 0 ≤ _), (by decide : 23 + 0 ≤ _)⟩)
  dsimp only [Pt.U, Pt.locs, Pt.cells, Pt.slots] at X8 l8 y8 z8 st8 hQ8
  subst l8 y8 z8
  obtain ⟨rfl, N8q, Kq8, ⟨E_o8, E_p8, E_q8, Fnw8, Fod8, Fsz8, Fpn8, Fpo8, Fqn8, Fqo8⟩⟩ := hQ8
  have N8 := Fr.app N7 N8q
  obtain ⟨cq9, kq9, q9a, q9b, q9c⟩ := isOf hZ rfl E_o8
  obtain ⟨_, _, ⟨T9, L9, k9, n9⟩, -, X9, ⟨Lc9, hQ9, l9, y9, z9⟩, st9⟩ := X8.virtualBack hx (y := (⟨"com/example/idlewell/idlewell/engine/ObjectList", "remove", "(Lcom/example/idlewell/idlewell/engine/PooledObject;)V"⟩ : MethodName)) (z := (⟨"com/example/idlewell/idlewell/engine/ObjectList", "remove", "(Lcom/example/idlewell/idlewell/engine/PooledObject;)V"⟩ : MethodName)) hown (mvT hZ (hw _ (List.mem_of_getElem? (i := 52) rfl))) (mvT hZ (hw _ (List.mem_of_getElem? (i := 53) rfl))) (notFace_of_selects (args := #[]) (mvT hZ (hw _ (List.mem_of_getElem? (i := 55) rfl)))) (mvT hZ (hw _ (List.mem_of_getElem? (i := 55) rfl))) (mvT hZ (hw _ (List.mem_of_getElem? (i := 54) rfl))) (by decide) (backOf (W := 0) (rm8only l Z a0 hw [] b2 b4 b6 ((0 : Int32) + (1 : Int32)) T8.heap n0 (Nat.le_trans (Nat.le_trans (Nat.le_trans (Nat.le_trans (Nat.le_trans (Nat.le_trans Z0 E2.1) E4.1) Kq5.1) E6.1) Kq7.1) Kq8.1) ⟨E_o8, E_p8, E_q8, Fnw8, Fod8, Fsz8, Fpn8, Fpo8, Fqn8, Fqo8⟩ g_b2 g_b4 g_b6 (Nat.ne_of_lt (Nat.lt_of_lt_of_le E_b2.lt (Nat.le_of_eq g4.symm))) (Nat.ne_of_lt (Nat.lt_of_lt_of_le ((E_b2.ext E4).keep Kq5).lt (Nat.le_of_eq g6.symm))) (Nat.ne_of_lt (Nat.lt_of_lt_of_le Ex5.lt (Nat.le_of_eq g6.symm)))) hZ (hw _ (List.mem_of_getElem? (i := 56) rfl)) (hw _ (List.mem_of_getElem? (i := 2) rfl)) (by decide) (by decide)) q9a q9c (g := (mkF m 136 #[.val (.int p1), .val (.int (1 : Int32)), .val (.int (0 : Int32)), .val (.int (1 : Int32)), .val (.int (0 : Int32)), .val (.ref b2), .val (.ref b4), .val (.ref b6), .val (.int ((0 : Int32) + (1 : Int32))), .unset, .unset, .unset] [(.ref b4), (.ref b2)])) rfl (by rw [hml]; rfl) (Steps.refl _) (argsL := [(.ref b4)]) (rest := []) (lenOf pd_0_4 rfl) rfl (by show 2 * 0 + _ ≤ _; exact Nat.le_of_eq rfl) (hb hby at_136) (fun _ _ => ⟨rfl, rfl, (by decide : 3 + 0 ≤ _), (by decide : 23 + 0 ≤ _)⟩)
  dsimp only [Pt.U, Pt.locs, Pt.cells, Pt.slots] at X9 l9 y9 z9 st9 hQ9
  subst l9 y9 z9
  obtain ⟨rfl, N9q, Kq9, ⟨E_o9, E_p9, E_q9, Fnw9, Fod9, Fsz9, Fpn9, Fpo9, Fqn9, Fqo9⟩⟩ := hQ9
  have N9 := Fr.app N8 N9q
  obtain ⟨cq10, kq10, q10a, q10b, q10c⟩ := isOf hZ rfl E_o9
  obtain ⟨_, _, ⟨T10, L10, k10, n10⟩, -, X10, ⟨Lc10, hQ10, l10, y10, z10⟩, st10⟩ := X9.virtualBack hx (y := (⟨"com/example/idlewell/idlewell/engine/ObjectList", "isEmpty", "()Z"⟩ : MethodName)) (z := (⟨"com/example/idlewell/idlewell/engine/ObjectList", "isEmpty", "()Z"⟩ : MethodName)) hown (mvT hZ (hw _ (List.mem_of_getElem? (i := 22) rfl))) (mvT hZ (hw _ (List.mem_of_getElem? (i := 23) rfl))) (notFace_of_selects (args := #[]) (mvT hZ (hw _ (List.mem_of_getElem? (i := 25) rfl)))) (mvT hZ (hw _ (List.mem_of_getElem? (i := 25) rfl))) (mvT hZ (hw _ (List.mem_of_getElem? (i := 24) rfl))) (by decide) (backOf (W := 0) (rm4 l Z a0 hw [] b2 (((0 : Int32) + (1 : Int32)) - (1 : Int32)) T9.heap n0 (Nat.le_trans (Nat.le_trans (Nat.le_trans (Nat.le_trans (Nat.le_trans (Nat.le_trans (Nat.le_trans Z0 E2.1) E4.1) Kq5.1) E6.1) Kq7.1) Kq8.1) Kq9.1) Fsz9) hZ (hw _ (List.mem_of_getElem? (i := 26) rfl)) (hw _ (List.mem_of_getElem? (i := 2) rfl)) (by decide) (by decide)) q10a q10c (g := (mkF m 177 #[.val (.int p1), .val (.int (1 : Int32)), .val (.int (0 : Int32)), .val (.int (1 : Int32)), .val (.int (0 : Int32)), .val (.ref b2), .val (.ref b4), .val (.ref b6), .val (.int (((0 : Int32) + (1 : Int32)) - (1 : Int32))), .val (.int (if (((0 : Int32) + (1 : Int32)) - (1 : Int32)) = (0 : Int32) then (1 : Int32) else 0)), .unset, .unset] [(.ref b2)])) rfl (by rw [hml]; rfl) (Steps.refl _) (argsL := []) (rest := []) (lenOf pd_0_2 rfl) rfl (by show 2 * 0 + _ ≤ _; exact Nat.le_of_eq rfl) (hb hby at_177) (fun _ _ => ⟨rfl, rfl, (by decide : 3 + 0 ≤ _), (by decide : 23 + 0 ≤ _)⟩)
  dsimp only [Pt.U, Pt.locs, Pt.cells, Pt.slots] at X10 l10 y10 z10 st10 hQ10
  subst l10 y10 z10
  obtain ⟨rfl, N10q, e10⟩ := hQ10
  have N10 := Fr.app N9 N10q
  obtain ⟨cq11, kq11, q11a, q11b, q11c⟩ := isOf hZ e10 E_o9
  obtain ⟨_, _, ⟨T11, L11, k11, n11⟩, -, X11, ⟨Lc11, hQ11, l11, y11, z11⟩, st11⟩ := X10.virtualBack hx (y := (⟨"com/example/idlewell/idlewell/engine/ObjectList", "newest", "()Lcom/example/idlewell/idlewell/engine/PooledObject;"⟩ : MethodName)) (z := (⟨"com/example/idlewell/idlewell/engine/ObjectList", "newest", "()Lcom/example/idlewell/idlewell/engine/PooledObject;"⟩ : MethodName)) hown (mvT hZ (hw _ (List.mem_of_getElem? (i := 29) rfl))) (mvT hZ (hw _ (List.mem_of_getElem? (i := 30) rfl))) (notFace_of_selects (args := #[]) (mvT hZ (hw _ (List.mem_of_getElem? (i := 32) rfl)))) (mvT hZ (hw _ (List.mem_of_getElem? (i := 32) rfl))) (mvT hZ (hw _ (List.mem_of_getElem? (i := 31) rfl))) (by decide) (backOf (W := 0) (rm5n l Z a0 hw [] b2  T9.heap n0 (Nat.le_trans (Nat.le_trans (Nat.le_trans (Nat.le_trans (Nat.le_trans (Nat.le_trans (Nat.le_trans Z0 E2.1) E4.1) Kq5.1) E6.1) Kq7.1) Kq8.1) Kq9.1) Fnw9) hZ (hw _ (List.mem_of_getElem? (i := 33) rfl)) (hw _ (List.mem_of_getElem? (i := 2) rfl)) (by decide) (by decide)) q11a q11c (g := (mkF m 184 #[.val (.int p1), .val (.int (1 : Int32)), .val (.int (0 : Int32)), .val (.int (1 : Int32)), .val (.int (0 : Int32)), .val (.ref b2), .val (.ref b4), .val (.ref b6), .val (.int (((0 : Int32) + (1 : Int32)) - (1 : Int32))), .val (.int (if (((0 : Int32) + (1 : Int32)) - (1 : Int32)) = (0 : Int32) then (1 : Int32) else 0)), .val (.int (if (((0 : Int32) + (1 : Int32)) - (1 : Int32)) = (0 : Int32) then (1 : Int32) else 0)), .unset] [(.ref b2)])) rfl (by rw [hml]; rfl) (Steps.refl _) (argsL := []) (rest := []) (lenOf pd_0_3 rfl) rfl (by show 2 * 0 + _ ≤ _; exact Nat.le_of_eq rfl) (hb hby at_184) (fun _ _ => ⟨rfl, e10, (by decide : 3 + 0 ≤ _), (by decide : 23 + 0 ≤ _)⟩)
  dsimp only [Pt.U, Pt.locs, Pt.cells, Pt.slots] at X11 l11 y11 z11 st11 hQ11
  subst l11 y11 z11
  obtain ⟨rfl, N11q, e11⟩ := hQ11
  have N11 := Fr.app N10 N11q
  obtain ⟨fs, hr, hrun, hended, hW, hsame⟩ := X11.leave (v := some (.int (1 : Int32))) (fun h => by rw [Bd.returns] at h; cases h)
  refine ⟨_, _, pre0 _ ?_, hrun, hended, _, _, rfl, ?_, ⟨_, rfl⟩, hW, hsame.mono (by decide) (by decide)⟩
  · show Steps p.tables e below (s₁.setTop (mkF m 0 #[.val (.int p1), .unset, .unset, .unset, .unset, .unset, .unset, .unset, .unset, .unset, .unset, .unset] [])) _
    refine XS.iloadN X0.here hx rfl (hb hby at_0) rfl ?_
    show Steps p.tables e below (s₁.setTop (mkF m 1 #[.val (.int p1), .unset, .unset, .unset, .unset, .unset, .unset, .unset, .unset, .unset, .unset, .unset] [(.int p1)])) _
    refine XS.iconst X0.here hx rfl (hb hby at_1) ?_
    show Steps p.tables e below (s₁.setTop (mkF m 2 #[.val (.int p1), .unset, .unset, .unset, .unset, .unset, .unset, .unset, .unset, .unset, .unset, .unset] [(.int (1 : Int32)), (.int p1)])) _
    refine XS.iand X0.here hx rfl (hb hby at_2) rfl ?_
    show Steps p.tables e below (s₁.setTop (mkF m 3 #[.val (.int p1), .unset, .unset, .unset, .unset, .unset, .unset, .unset, .unset, .unset, .unset, .unset] [(.int (p1 &&& (1 : Int32)))])) _
    refine XS.ifNo X0.here hx rfl (hb hby at_3) rfl ((if0 _ _).trans (feq hc3).1) ?_
    show Steps p.tables e below (s₁.setTop (mkF m 6 #[.val (.int p1), .unset, .unset, .unset, .unset, .unset, .unset, .unset, .unset, .unset, .unset, .unset] [])) _
    refine XS.iconst X0.here hx rfl (hb hby at_6) ?_
    show Steps p.tables e below (s₁.setTop (mkF m 7 #[.val (.int p1), .unset, .unset, .unset, .unset, .unset, .unset, .unset, .unset, .unset, .unset, .unset] [(.int (1 : Int32))])) _
    refine XS.goto X0.here hx rfl (pc0 := 7) (pc' := 11) rfl (hb hby at_7) (by decide) (by decide) ?_
    show Steps p.tables e below (s₁.setTop (mkF m 11 #[.val (.int p1), .unset, .unset, .unset, .unset, .unset, .unset, .unset, .unset, .unset, .unset, .unset] [(.int (1 : Int32))])) _
    refine XS.istoreN X0.here hx rfl (hb hby at_11) rfl (l' := #[.val (.int p1), .val (.int (1 : Int32)), .unset, .unset, .unset, .unset, .unset, .unset, .unset, .unset, .unset, .unset]) rfl ?_
    show Steps p.tables e below (s₁.setTop (mkF m 12 #[.val (.int p1), .val (.int (1 : Int32)), .unset, .unset, .unset, .unset, .unset, .unset, .unset, .unset, .unset, .unset] [])) _
    refine XS.iloadN X0.here hx rfl (hb hby at_12) rfl ?_
    show Steps p.tables e below (s₁.setTop (mkF m 13 #[.val (.int p1), .val (.int (1 : Int32)), .unset, .unset, .unset, .unset, .unset, .unset, .unset, .unset, .unset, .unset] [(.int p1)])) _
    refine XS.iconst X0.here hx rfl (hb hby at_13) ?_
    show Steps p.tables e below (s₁.setTop (mkF m 14 #[.val (.int p1), .val (.int (1 : Int32)), .unset, .unset, .unset, .unset, .unset, .unset, .unset, .unset, .unset, .unset] [(.int (2 : Int32)), (.int p1)])) _
    refine XS.iand X0.here hx rfl (hb hby at_14) rfl ?_
    show Steps p.tables e below (s₁.setTop (mkF m 15 #[.val (.int p1), .val (.int (1 : Int32)), .unset, .unset, .unset, .unset, .unset, .unset, .unset, .unset, .unset, .unset] [(.int (p1 &&& (2 : Int32)))])) _
    refine XS.ifYes X0.here hx rfl (pc0 := 15) (pc' := 22) rfl (hb hby at_15) rfl ((if0 _ _).trans (teq hc15).1) (by decide) (by decide) ?_
    show Steps p.tables e below (s₁.setTop (mkF m 22 #[.val (.int p1), .val (.int (1 : Int32)), .unset, .unset, .unset, .unset, .unset, .unset, .unset, .unset, .unset, .unset] [])) _
    refine XS.iconst X0.here hx rfl (hb hby at_22) ?_
    show Steps p.tables e below (s₁.setTop (mkF m 23 #[.val (.int p1), .val (.int (1 : Int32)), .unset, .unset, .unset, .unset, .unset, .unset, .unset, .unset, .unset, .unset] [(.int (0 : Int32))])) _
    refine XS.istoreN X0.here hx rfl (hb hby at_23) rfl (l' := #[.val (.int p1), .val (.int (1 : Int32)), .val (.int (0 : Int32)), .unset, .unset, .unset, .unset, .unset, .unset, .unset, .unset, .unset]) rfl ?_
    show Steps p.tables e below (s₁.setTop (mkF m 24 #[.val (.int p1), .val (.int (1 : Int32)), .val (.int (0 : Int32)), .unset, .unset, .unset, .unset, .unset, .unset, .unset, .unset, .unset] [])) _
    refine XS.iloadN X0.here hx rfl (hb hby at_24) rfl ?_
    show Steps p.tables e below (s₁.setTop (mkF m 25 #[.val (.int p1), .val (.int (1 : Int32)), .val (.int (0 : Int32)), .unset, .unset, .unset, .unset, .unset, .unset, .unset, .unset, .unset] [(.int (1 : Int32))])) _
    refine XS.ifNo X0.here hx rfl (hb hby at_25) rfl ((if0 _ _).trans (feq hc25).1) ?_
    show Steps p.tables e below (s₁.setTop (mkF m 28 #[.val (.int p1), .val (.int (1 : Int32)), .val (.int (0 : Int32)), .unset, .unset, .unset, .unset, .unset, .unset, .unset, .unset, .unset] [])) _
    refine XS.iloadN X0.here hx rfl (hb hby at_28) rfl ?_
    show Steps p.tables e below (s₁.setTop (mkF m 29 #[.val (.int p1), .val (.int (1 : Int32)), .val (.int (0 : Int32)), .unset, .unset, .unset, .unset, .unset, .unset, .unset, .unset, .unset] [(.int p1)])) _
    refine XS.iconst X0.here hx rfl (hb hby at_29) ?_
    show Steps p.tables e below (s₁.setTop (mkF m 30 #[.val (.int p1), .val (.int (1 : Int32)), .val (.int (0 : Int32)), .unset, .unset, .unset, .unset, .unset, .unset, .unset, .unset, .unset] [(.int (4 : Int32)), (.int p1)])) _
    refine XS.iand X0.here hx rfl (hb hby at_30) rfl ?_
    show Steps p.tables e below (s₁.setTop (mkF m 31 #[.val (.int p1), .val (.int (1 : Int32)), .val (.int (0 : Int32)), .unset, .unset, .unset, .unset, .unset, .unset, .unset, .unset, .unset] [(.int (p1 &&& (4 : Int32)))])) _
    refine XS.ifNo X0.here hx rfl (hb hby at_31) rfl ((if0 _ _).trans (feq hc31).1) ?_
    show Steps p.tables e below (s₁.setTop (mkF m 34 #[.val (.int p1), .val (.int (1 : Int32)), .val (.int (0 : Int32)), .unset, .unset, .unset, .unset, .unset, .unset, .unset, .unset, .unset] [])) _
    refine XS.iconst X0.here hx rfl (hb hby at_34) ?_
    show Steps p.tables e below (s₁.setTop (mkF m 35 #[.val (.int p1), .val (.int (1 : Int32)), .val (.int (0 : Int32)), .unset, .unset, .unset, .unset, .unset, .unset, .unset, .unset, .unset] [(.int (1 : Int32))])) _
    refine XS.goto X0.here hx rfl (pc0 := 35) (pc' := 39) rfl (hb hby at_35) (by decide) (by decide) ?_
    show Steps p.tables e below (s₁.setTop (mkF m 39 #[.val (.int p1), .val (.int (1 : Int32)), .val (.int (0 : Int32)), .unset, .unset, .unset, .unset, .unset, .unset, .unset, .unset, .unset] [(.int (1 : Int32))])) _
    refine XS.istoreN X0.here hx rfl (hb hby at_39) rfl (l' := #[.val (.int p1), .val (.int (1 : Int32)), .val (.int (0 : Int32)), .val (.int (1 : Int32)), .unset, .unset, .unset, .unset, .unset, .unset, .unset, .unset]) rfl ?_
    show Steps p.tables e below (s₁.setTop (mkF m 40 #[.val (.int p1), .val (.int (1 : Int32)), .val (.int (0 : Int32)), .val (.int (1 : Int32)), .unset, .unset, .unset, .unset, .unset, .unset, .unset, .unset] [])) _
    refine XS.iloadN X0.here hx rfl (hb hby at_40) rfl ?_
    show Steps p.tables e below (s₁.setTop (mkF m 41 #[.val (.int p1), .val (.int (1 : Int32)), .val (.int (0 : Int32)), .val (.int (1 : Int32)), .unset, .unset, .unset, .unset, .unset, .unset, .unset, .unset] [(.int (0 : Int32))])) _
    refine XS.ifYes X0.here hx rfl (pc0 := 41) (pc' := 55) rfl (hb hby at_41) rfl ((if0 _ _).trans (teq (rfl : (0 : Int32) = (0 : Int32))).1) (by decide) (by decide) ?_
    show Steps p.tables e below (s₁.setTop (mkF m 55 #[.val (.int p1), .val (.int (1 : Int32)), .val (.int (0 : Int32)), .val (.int (1 : Int32)), .unset, .unset, .unset, .unset, .unset, .unset, .unset, .unset] [])) _
    refine XS.iconst X0.here hx rfl (hb hby at_55) ?_
    show Steps p.tables e below (s₁.setTop (mkF m 56 #[.val (.int p1), .val (.int (1 : Int32)), .val (.int (0 : Int32)), .val (.int (1 : Int32)), .unset, .unset, .unset, .unset, .unset, .unset, .unset, .unset] [(.int (0 : Int32))])) _
    refine XS.istore X0.here hx rfl (hb hby at_56) rfl (l' := #[.val (.int p1), .val (.int (1 : Int32)), .val (.int (0 : Int32)), .val (.int (1 : Int32)), .val (.int (0 : Int32)), .unset, .unset, .unset, .unset, .unset, .unset, .unset]) rfl ?_
    show Steps p.tables e below (s₁.setTop (mkF m 58 #[.val (.int p1), .val (.int (1 : Int32)), .val (.int (0 : Int32)), .val (.int (1 : Int32)), .val (.int (0 : Int32)), .unset, .unset, .unset, .unset, .unset, .unset, .unset] [])) _
    refine st2 _ ?_
    show Steps p.tables e below (T2.setTop (mkF m 61 #[.val (.int p1), .val (.int (1 : Int32)), .val (.int (0 : Int32)), .val (.int (1 : Int32)), .val (.int (0 : Int32)), .unset, .unset, .unset, .unset, .unset, .unset, .unset] [(.ref b2)])) _
    refine XS.dup X2.here hx rfl (hb hby at_61) rfl rfl ?_
    show Steps p.tables e below (T2.setTop (mkF m 62 #[.val (.int p1), .val (.int (1 : Int32)), .val (.int (0 : Int32)), .val (.int (1 : Int32)), .val (.int (0 : Int32)), .unset, .unset, .unset, .unset, .unset, .unset, .unset] [(.ref b2), (.ref b2)])) _
    refine st3.trans ?_
    show Steps p.tables e below (T3.setTop (mkF m 65 #[.val (.int p1), .val (.int (1 : Int32)), .val (.int (0 : Int32)), .val (.int (1 : Int32)), .val (.int (0 : Int32)), .unset, .unset, .unset, .unset, .unset, .unset, .unset] [(.ref b2)])) _
    refine XS.astore X3.here hx rfl (hb hby at_65) rfl rfl (l' := #[.val (.int p1), .val (.int (1 : Int32)), .val (.int (0 : Int32)), .val (.int (1 : Int32)), .val (.int (0 : Int32)), .val (.ref b2), .unset, .unset, .unset, .unset, .unset, .unset]) rfl ?_
    show Steps p.tables e below (T3.setTop (mkF m 67 #[.val (.int p1), .val (.int (1 : Int32)), .val (.int (0 : Int32)), .val (.int (1 : Int32)), .val (.int (0 : Int32)), .val (.ref b2), .unset, .unset, .unset, .unset, .unset, .unset] [])) _
    refine st4 _ ?_
    show Steps p.tables e below (T4.setTop (mkF m 70 #[.val (.int p1), .val (.int (1 : Int32)), .val (.int (0 : Int32)), .val (.int (1 : Int32)), .val (.int (0 : Int32)), .val (.ref b2), .unset, .unset, .unset, .unset, .unset, .unset] [(.ref b4)])) _
    refine XS.dup X4.here hx rfl (hb hby at_70) rfl rfl ?_
    show Steps p.tables e below (T4.setTop (mkF m 71 #[.val (.int p1), .val (.int (1 : Int32)), .val (.int (0 : Int32)), .val (.int (1 : Int32)), .val (.int (0 : Int32)), .val (.ref b2), .unset, .unset, .unset, .unset, .unset, .unset] [(.ref b4), (.ref b4)])) _
    refine XS.aconstNull X4.here hx rfl (hb hby at_71) ?_
    show Steps p.tables e below (T4.setTop (mkF m 72 #[.val (.int p1), .val (.int (1 : Int32)), .val (.int (0 : Int32)), .val (.int (1 : Int32)), .val (.int (0 : Int32)), .val (.ref b2), .unset, .unset, .unset, .unset, .unset, .unset] [.null, (.ref b4), (.ref b4)])) _
    refine XS.aconstNull X4.here hx rfl (hb hby at_72) ?_
    show Steps p.tables e below (T4.setTop (mkF m 73 #[.val (.int p1), .val (.int (1 : Int32)), .val (.int (0 : Int32)), .val (.int (1 : Int32)), .val (.int (0 : Int32)), .val (.ref b2), .unset, .unset, .unset, .unset, .unset, .unset] [.null, .null, (.ref b4), (.ref b4)])) _
    refine XS.iconst X4.here hx rfl (hb hby at_73) ?_
    show Steps p.tables e below (T4.setTop (mkF m 74 #[.val (.int p1), .val (.int (1 : Int32)), .val (.int (0 : Int32)), .val (.int (1 : Int32)), .val (.int (0 : Int32)), .val (.ref b2), .unset, .unset, .unset, .unset, .unset, .unset] [(.int (0 : Int32)), .null, .null, (.ref b4), (.ref b4)])) _
    refine st5.trans ?_
    show Steps p.tables e below (T5.setTop (mkF m 77 #[.val (.int p1), .val (.int (1 : Int32)), .val (.int (0 : Int32)), .val (.int (1 : Int32)), .val (.int (0 : Int32)), .val (.ref b2), .unset, .unset, .unset, .unset, .unset, .unset] [(.ref b4)])) _
    refine XS.astore X5.here hx rfl (hb hby at_77) rfl rfl (l' := #[.val (.int p1), .val (.int (1 : Int32)), .val (.int (0 : Int32)), .val (.int (1 : Int32)), .val (.int (0 : Int32)), .val (.ref b2), .val (.ref b4), .unset, .unset, .unset, .unset, .unset]) rfl ?_
    show Steps p.tables e below (T5.setTop (mkF m 79 #[.val (.int p1), .val (.int (1 : Int32)), .val (.int (0 : Int32)), .val (.int (1 : Int32)), .val (.int (0 : Int32)), .val (.ref b2), .val (.ref b4), .unset, .unset, .unset, .unset, .unset] [])) _
    refine st6 _ ?_
    show Steps p.tables e below (T6.setTop (mkF m 82 #[.val (.int p1), .val (.int (1 : Int32)), .val (.int (0 : Int32)), .val (.int (1 : Int32)), .val (.int (0 : Int32)), .val (.ref b2), .val (.ref b4), .unset, .unset, .unset, .unset, .unset] [(.ref b6)])) _
    refine XS.dup X6.here hx rfl (hb hby at_82) rfl rfl ?_
    show Steps p.tables e below (T6.setTop (mkF m 83 #[.val (.int p1), .val (.int (1 : Int32)), .val (.int (0 : Int32)), .val (.int (1 : Int32)), .val (.int (0 : Int32)), .val (.ref b2), .val (.ref b4), .unset, .unset, .unset, .unset, .unset] [(.ref b6), (.ref b6)])) _
    refine XS.aconstNull X6.here hx rfl (hb hby at_83) ?_
    show Steps p.tables e below (T6.setTop (mkF m 84 #[.val (.int p1), .val (.int (1 : Int32)), .val (.int (0 : Int32)), .val (.int (1 : Int32)), .val (.int (0 : Int32)), .val (.ref b2), .val (.ref b4), .unset, .unset, .unset, .unset, .unset] [.null, (.ref b6), (.ref b6)])) _
    refine XS.aconstNull X6.here hx rfl (hb hby at_84) ?_
    show Steps p.tables e below (T6.setTop (mkF m 85 #[.val (.int p1), .val (.int (1 : Int32)), .val (.int (0 : Int32)), .val (.int (1 : Int32)), .val (.int (0 : Int32)), .val (.ref b2), .val (.ref b4), .unset, .unset, .unset, .unset, .unset] [.null, .null, (.ref b6), (.ref b6)])) _
    refine XS.iconst X6.here hx rfl (hb hby at_85) ?_
    show Steps p.tables e below (T6.setTop (mkF m 86 #[.val (.int p1), .val (.int (1 : Int32)), .val (.int (0 : Int32)), .val (.int (1 : Int32)), .val (.int (0 : Int32)), .val (.ref b2), .val (.ref b4), .unset, .unset, .unset, .unset, .unset] [(.int (0 : Int32)), .null, .null, (.ref b6), (.ref b6)])) _
    refine st7.trans ?_
    show Steps p.tables e below (T7.setTop (mkF m 89 #[.val (.int p1), .val (.int (1 : Int32)), .val (.int (0 : Int32)), .val (.int (1 : Int32)), .val (.int (0 : Int32)), .val (.ref b2), .val (.ref b4), .unset, .unset, .unset, .unset, .unset] [(.ref b6)])) _
    refine XS.astore X7.here hx rfl (hb hby at_89) rfl rfl (l' := #[.val (.int p1), .val (.int (1 : Int32)), .val (.int (0 : Int32)), .val (.int (1 : Int32)), .val (.int (0 : Int32)), .val (.ref b2), .val (.ref b4), .val (.ref b6), .unset, .unset, .unset, .unset]) rfl ?_
    show Steps p.tables e below (T7.setTop (mkF m 91 #[.val (.int p1), .val (.int (1 : Int32)), .val (.int (0 : Int32)), .val (.int (1 : Int32)), .val (.int (0 : Int32)), .val (.ref b2), .val (.ref b4), .val (.ref b6), .unset, .unset, .unset, .unset] [])) _
    refine XS.iconst X7.here hx rfl (hb hby at_91) ?_
    show Steps p.tables e below (T7.setTop (mkF m 92 #[.val (.int p1), .val (.int (1 : Int32)), .val (.int (0 : Int32)), .val (.int (1 : Int32)), .val (.int (0 : Int32)), .val (.ref b2), .val (.ref b4), .val (.ref b6), .unset, .unset, .unset, .unset] [(.int (0 : Int32))])) _
    refine XS.istore X7.here hx rfl (hb hby at_92) rfl (l' := #[.val (.int p1), .val (.int (1 : Int32)), .val (.int (0 : Int32)), .val (.int (1 : Int32)), .val (.int (0 : Int32)), .val (.ref b2), .val (.ref b4), .val (.ref b6), .val (.int (0 : Int32)), .unset, .unset, .unset]) rfl ?_
    show Steps p.tables e below (T7.setTop (mkF m 94 #[.val (.int p1), .val (.int (1 : Int32)), .val (.int (0 : Int32)), .val (.int (1 : Int32)), .val (.int (0 : Int32)), .val (.ref b2), .val (.ref b4), .val (.ref b6), .val (.int (0 : Int32)), .unset, .unset, .unset] [])) _
    refine XS.iloadN X7.here hx rfl (hb hby at_94) rfl ?_
    show Steps p.tables e below (T7.setTop (mkF m 95 #[.val (.int p1), .val (.int (1 : Int32)), .val (.int (0 : Int32)), .val (.int (1 : Int32)), .val (.int (0 : Int32)), .val (.ref b2), .val (.ref b4), .val (.ref b6), .val (.int (0 : Int32)), .unset, .unset, .unset] [(.int (1 : Int32))])) _
    refine XS.ifNo X7.here hx rfl (hb hby at_95) rfl ((if0 _ _).trans (feq hc95).1) ?_
    show Steps p.tables e below (T7.setTop (mkF m 98 #[.val (.int p1), .val (.int (1 : Int32)), .val (.int (0 : Int32)), .val (.int (1 : Int32)), .val (.int (0 : Int32)), .val (.ref b2), .val (.ref b4), .val (.ref b6), .val (.int (0 : Int32)), .unset, .unset, .unset] [])) _
    refine XS.aload X7.here hx rfl (hb hby at_98) rfl rfl ?_
    show Steps p.tables e below (T7.setTop (mkF m 100 #[.val (.int p1), .val (.int (1 : Int32)), .val (.int (0 : Int32)), .val (.int (1 : Int32)), .val (.int (0 : Int32)), .val (.ref b2), .val (.ref b4), .val (.ref b6), .val (.int (0 : Int32)), .unset, .unset, .unset] [(.ref b2)])) _
    refine XS.aload X7.here hx rfl (hb hby at_100) rfl rfl ?_
    show Steps p.tables e below (T7.setTop (mkF m 102 #[.val (.int p1), .val (.int (1 : Int32)), .val (.int (0 : Int32)), .val (.int (1 : Int32)), .val (.int (0 : Int32)), .val (.ref b2), .val (.ref b4), .val (.ref b6), .val (.int (0 : Int32)), .unset, .unset, .unset] [(.ref b4), (.ref b2)])) _
    refine st8.trans ?_
    show Steps p.tables e below (T8.setTop (mkF m 105 #[.val (.int p1), .val (.int (1 : Int32)), .val (.int (0 : Int32)), .val (.int (1 : Int32)), .val (.int (0 : Int32)), .val (.ref b2), .val (.ref b4), .val (.ref b6), .val (.int (0 : Int32)), .unset, .unset, .unset] [])) _
    refine XS.iload X8.here hx rfl (hb hby at_105) rfl ?_
    show Steps p.tables e below (T8.setTop (mkF m 107 #[.val (.int p1), .val (.int (1 : Int32)), .val (.int (0 : Int32)), .val (.int (1 : Int32)), .val (.int (0 : Int32)), .val (.ref b2), .val (.ref b4), .val (.ref b6), .val (.int (0 : Int32)), .unset, .unset, .unset] [(.int (0 : Int32))])) _
    refine XS.iconst X8.here hx rfl (hb hby at_107) ?_
    show Steps p.tables e below (T8.setTop (mkF m 108 #[.val (.int p1), .val (.int (1 : Int32)), .val (.int (0 : Int32)), .val (.int (1 : Int32)), .val (.int (0 : Int32)), .val (.ref b2), .val (.ref b4), .val (.ref b6), .val (.int (0 : Int32)), .unset, .unset, .unset] [(.int (1 : Int32)), (.int (0 : Int32))])) _
    refine XS.iadd X8.here hx rfl (hb hby at_108) rfl ?_
    show Steps p.tables e below (T8.setTop (mkF m 109 #[.val (.int p1), .val (.int (1 : Int32)), .val (.int (0 : Int32)), .val (.int (1 : Int32)), .val (.int (0 : Int32)), .val (.ref b2), .val (.ref b4), .val (.ref b6), .val (.int (0 : Int32)), .unset, .unset, .unset] [(.int ((0 : Int32) + (1 : Int32)))])) _
    refine XS.istore X8.here hx rfl (hb hby at_109) rfl (l' := #[.val (.int p1), .val (.int (1 : Int32)), .val (.int (0 : Int32)), .val (.int (1 : Int32)), .val (.int (0 : Int32)), .val (.ref b2), .val (.ref b4), .val (.ref b6), .val (.int ((0 : Int32) + (1 : Int32))), .unset, .unset, .unset]) rfl ?_
    show Steps p.tables e below (T8.setTop (mkF m 111 #[.val (.int p1), .val (.int (1 : Int32)), .val (.int (0 : Int32)), .val (.int (1 : Int32)), .val (.int (0 : Int32)), .val (.ref b2), .val (.ref b4), .val (.ref b6), .val (.int ((0 : Int32) + (1 : Int32))), .unset, .unset, .unset] [])) _
    refine XS.iloadN X8.here hx rfl (hb hby at_111) rfl ?_
    show Steps p.tables e below (T8.setTop (mkF m 112 #[.val (.int p1), .val (.int (1 : Int32)), .val (.int (0 : Int32)), .val (.int (1 : Int32)), .val (.int (0 : Int32)), .val (.ref b2), .val (.ref b4), .val (.ref b6), .val (.int ((0 : Int32) + (1 : Int32))), .unset, .unset, .unset] [(.int (0 : Int32))])) _
    refine XS.ifYes X8.here hx rfl (pc0 := 112) (pc' := 128) rfl (hb hby at_112) rfl ((if0 _ _).trans (teq (rfl : (0 : Int32) = (0 : Int32))).1) (by decide) (by decide) ?_
    show Steps p.tables e below (T8.setTop (mkF m 128 #[.val (.int p1), .val (.int (1 : Int32)), .val (.int (0 : Int32)), .val (.int (1 : Int32)), .val (.int (0 : Int32)), .val (.ref b2), .val (.ref b4), .val (.ref b6), .val (.int ((0 : Int32) + (1 : Int32))), .unset, .unset, .unset] [])) _
    refine XS.iloadN X8.here hx rfl (hb hby at_128) rfl ?_
    show Steps p.tables e below (T8.setTop (mkF m 129 #[.val (.int p1), .val (.int (1 : Int32)), .val (.int (0 : Int32)), .val (.int (1 : Int32)), .val (.int (0 : Int32)), .val (.ref b2), .val (.ref b4), .val (.ref b6), .val (.int ((0 : Int32) + (1 : Int32))), .unset, .unset, .unset] [(.int (1 : Int32))])) _
    refine XS.ifNo X8.here hx rfl (hb hby at_129) rfl ((if0 _ _).trans (feq hc129).1) ?_
    show Steps p.tables e below (T8.setTop (mkF m 132 #[.val (.int p1), .val (.int (1 : Int32)), .val (.int (0 : Int32)), .val (.int (1 : Int32)), .val (.int (0 : Int32)), .val (.ref b2), .val (.ref b4), .val (.ref b6), .val (.int ((0 : Int32) + (1 : Int32))), .unset, .unset, .unset] [])) _
    refine XS.aload X8.here hx rfl (hb hby at_132) rfl rfl ?_
    show Steps p.tables e below (T8.setTop (mkF m 134 #[.val (.int p1), .val (.int (1 : Int32)), .val (.int (0 : Int32)), .val (.int (1 : Int32)), .val (.int (0 : Int32)), .val (.ref b2), .val (.ref b4), .val (.ref b6), .val (.int ((0 : Int32) + (1 : Int32))), .unset, .unset, .unset] [(.ref b2)])) _
    refine XS.aload X8.here hx rfl (hb hby at_134) rfl rfl ?_
    show Steps p.tables e below (T8.setTop (mkF m 136 #[.val (.int p1), .val (.int (1 : Int32)), .val (.int (0 : Int32)), .val (.int (1 : Int32)), .val (.int (0 : Int32)), .val (.ref b2), .val (.ref b4), .val (.ref b6), .val (.int ((0 : Int32) + (1 : Int32))), .unset, .unset, .unset] [(.ref b4), (.ref b2)])) _
    refine st9.trans ?_
    show Steps p.tables e below (T9.setTop (mkF m 139 #[.val (.int p1), .val (.int (1 : Int32)), .val (.int (0 : Int32)), .val (.int (1 : Int32)), .val (.int (0 : Int32)), .val (.ref b2), .val (.ref b4), .val (.ref b6), .val (.int ((0 : Int32) + (1 : Int32))), .unset, .unset, .unset] [])) _
    refine XS.iload X9.here hx rfl (hb hby at_139) rfl ?_
    show Steps p.tables e below (T9.setTop (mkF m 141 #[.val (.int p1), .val (.int (1 : Int32)), .val (.int (0 : Int32)), .val (.int (1 : Int32)), .val (.int (0 : Int32)), .val (.ref b2), .val (.ref b4), .val (.ref b6), .val (.int ((0 : Int32) + (1 : Int32))), .unset, .unset, .unset] [(.int ((0 : Int32) + (1 : Int32)))])) _
    refine XS.iconst X9.here hx rfl (hb hby at_141) ?_
    show Steps p.tables e below (T9.setTop (mkF m 142 #[.val (.int p1), .val (.int (1 : Int32)), .val (.int (0 : Int32)), .val (.int (1 : Int32)), .val (.int (0 : Int32)), .val (.ref b2), .val (.ref b4), .val (.ref b6), .val (.int ((0 : Int32) + (1 : Int32))), .unset, .unset, .unset] [(.int (1 : Int32)), (.int ((0 : Int32) + (1 : Int32)))])) _
    refine XS.isub X9.here hx rfl (hb hby at_142) rfl ?_
    show Steps p.tables e below (T9.setTop (mkF m 143 #[.val (.int p1), .val (.int (1 : Int32)), .val (.int (0 : Int32)), .val (.int (1 : Int32)), .val (.int (0 : Int32)), .val (.ref b2), .val (.ref b4), .val (.ref b6), .val (.int ((0 : Int32) + (1 : Int32))), .unset, .unset, .unset] [(.int (((0 : Int32) + (1 : Int32)) - (1 : Int32)))])) _
    refine XS.istore X9.here hx rfl (hb hby at_143) rfl (l' := #[.val (.int p1), .val (.int (1 : Int32)), .val (.int (0 : Int32)), .val (.int (1 : Int32)), .val (.int (0 : Int32)), .val (.ref b2), .val (.ref b4), .val (.ref b6), .val (.int (((0 : Int32) + (1 : Int32)) - (1 : Int32))), .unset, .unset, .unset]) rfl ?_
    show Steps p.tables e below (T9.setTop (mkF m 145 #[.val (.int p1), .val (.int (1 : Int32)), .val (.int (0 : Int32)), .val (.int (1 : Int32)), .val (.int (0 : Int32)), .val (.ref b2), .val (.ref b4), .val (.ref b6), .val (.int (((0 : Int32) + (1 : Int32)) - (1 : Int32))), .unset, .unset, .unset] [])) _
    refine XS.iload X9.here hx rfl (hb hby at_145) rfl ?_
    show Steps p.tables e below (T9.setTop (mkF m 147 #[.val (.int p1), .val (.int (1 : Int32)), .val (.int (0 : Int32)), .val (.int (1 : Int32)), .val (.int (0 : Int32)), .val (.ref b2), .val (.ref b4), .val (.ref b6), .val (.int (((0 : Int32) + (1 : Int32)) - (1 : Int32))), .unset, .unset, .unset] [(.int (0 : Int32))])) _
    refine XS.ifYes X9.here hx rfl (pc0 := 147) (pc' := 163) rfl (hb hby at_147) rfl ((if0 _ _).trans (teq (rfl : (0 : Int32) = (0 : Int32))).1) (by decide) (by decide) ?_
    show Steps p.tables e below (T9.setTop (mkF m 163 #[.val (.int p1), .val (.int (1 : Int32)), .val (.int (0 : Int32)), .val (.int (1 : Int32)), .val (.int (0 : Int32)), .val (.ref b2), .val (.ref b4), .val (.ref b6), .val (.int (((0 : Int32) + (1 : Int32)) - (1 : Int32))), .unset, .unset, .unset] [])) _
    refine XS.iload X9.here hx rfl (hb hby at_163) rfl ?_
    show Steps p.tables e below (T9.setTop (mkF m 165 #[.val (.int p1), .val (.int (1 : Int32)), .val (.int (0 : Int32)), .val (.int (1 : Int32)), .val (.int (0 : Int32)), .val (.ref b2), .val (.ref b4), .val (.ref b6), .val (.int (((0 : Int32) + (1 : Int32)) - (1 : Int32))), .unset, .unset, .unset] [(.int (((0 : Int32) + (1 : Int32)) - (1 : Int32)))])) _
    refine own_tif_ne X9.here hx (hb hby at_165) (hb hby at_168) (hb hby at_169) (hb hby at_172) ?_
    show Steps p.tables e below (T9.setTop (mkF m 173 #[.val (.int p1), .val (.int (1 : Int32)), .val (.int (0 : Int32)), .val (.int (1 : Int32)), .val (.int (0 : Int32)), .val (.ref b2), .val (.ref b4), .val (.ref b6), .val (.int (((0 : Int32) + (1 : Int32)) - (1 : Int32))), .unset, .unset, .unset] [(.int (if (((0 : Int32) + (1 : Int32)) - (1 : Int32)) = (0 : Int32) then (1 : Int32) else 0))])) _
    refine XS.istore X9.here hx rfl (hb hby at_173) rfl (l' := #[.val (.int p1), .val (.int (1 : Int32)), .val (.int (0 : Int32)), .val (.int (1 : Int32)), .val (.int (0 : Int32)), .val (.ref b2), .val (.ref b4), .val (.ref b6), .val (.int (((0 : Int32) + (1 : Int32)) - (1 : Int32))), .val (.int (if (((0 : Int32) + (1 : Int32)) - (1 : Int32)) = (0 : Int32) then (1 : Int32) else 0)), .unset, .unset]) rfl ?_
    show Steps p.tables e below (T9.setTop (mkF m 175 #[.val (.int p1), .val (.int (1 : Int32)), .val (.int (0 : Int32)), .val (.int (1 : Int32)), .val (.int (0 : Int32)), .val (.ref b2), .val (.ref b4), .val (.ref b6), .val (.int (((0 : Int32) + (1 : Int32)) - (1 : Int32))), .val (.int (if (((0 : Int32) + (1 : Int32)) - (1 : Int32)) = (0 : Int32) then (1 : Int32) else 0)), .unset, .unset] [])) _
    refine XS.aload X9.here hx rfl (hb hby at_175) rfl rfl ?_
    show Steps p.tables e below (T9.setTop (mkF m 177 #[.val (.int p1), .val (.int (1 : Int32)), .val (.int (0 : Int32)), .val (.int (1 : Int32)), .val (.int (0 : Int32)), .val (.ref b2), .val (.ref b4), .val (.ref b6), .val (.int (((0 : Int32) + (1 : Int32)) - (1 : Int32))), .val (.int (if (((0 : Int32) + (1 : Int32)) - (1 : Int32)) = (0 : Int32) then (1 : Int32) else 0)), .unset, .unset] [(.ref b2)])) _
    refine st10.trans ?_
    show Steps p.tables e below (T10.setTop (mkF m 180 #[.val (.int p1), .val (.int (1 : Int32)), .val (.int (0 : Int32)), .val (.int (1 : Int32)), .val (.int (0 : Int32)), .val (.ref b2), .val (.ref b4), .val (.ref b6), .val (.int (((0 : Int32) + (1 : Int32)) - (1 : Int32))), .val (.int (if (((0 : Int32) + (1 : Int32)) - (1 : Int32)) = (0 : Int32) then (1 : Int32) else 0)), .unset, .unset] [(.int (if (((0 : Int32) + (1 : Int32)) - (1 : Int32)) = (0 : Int32) then (1 : Int32) else 0))])) _
    refine XS.istore X10.here hx rfl (hb hby at_180) rfl (l' := #[.val (.int p1), .val (.int (1 : Int32)), .val (.int (0 : Int32)), .val (.int (1 : Int32)), .val (.int (0 : Int32)), .val (.ref b2), .val (.ref b4), .val (.ref b6), .val (.int (((0 : Int32) + (1 : Int32)) - (1 : Int32))), .val (.int (if (((0 : Int32) + (1 : Int32)) - (1 : Int32)) = (0 : Int32) then (1 : Int32) else 0)), .val (.int (if (((0 : Int32) + (1 : Int32)) - (1 : Int32)) = (0 : Int32) then (1 : Int32) else 0)), .unset]) rfl ?_
    show Steps p.tables e below (T10.setTop (mkF m 182 #[.val (.int p1), .val (.int (1 : Int32)), .val (.int (0 : Int32)), .val (.int (1 : Int32)), .val (.int (0 : Int32)), .val (.ref b2), .val (.ref b4), .val (.ref b6), .val (.int (((0 : Int32) + (1 : Int32)) - (1 : Int32))), .val (.int (if (((0 : Int32) + (1 : Int32)) - (1 : Int32)) = (0 : Int32) then (1 : Int32) else 0)), .val (.int (if (((0 : Int32) + (1 : Int32)) - (1 : Int32)) = (0 : Int32) then (1 : Int32) else 0)), .unset] [])) _
    refine XS.aload X10.here hx rfl (hb hby at_182) rfl rfl ?_
    show Steps p.tables e below (T10.setTop (mkF m 184 #[.val (.int p1), .val (.int (1 : Int32)), .val (.int (0 : Int32)), .val (.int (1 : Int32)), .val (.int (0 : Int32)), .val (.ref b2), .val (.ref b4), .val (.ref b6), .val (.int (((0 : Int32) + (1 : Int32)) - (1 : Int32))), .val (.int (if (((0 : Int32) + (1 : Int32)) - (1 : Int32)) = (0 : Int32) then (1 : Int32) else 0)), .val (.int (if (((0 : Int32) + (1 : Int32)) - (1 : Int32)) = (0 : Int32) then (1 : Int32) else 0)), .unset] [(.ref b2)])) _
    refine st11.trans ?_
    show Steps p.tables e below (T11.setTop (mkF m 187 #[.val (.int p1), .val (.int (1 : Int32)), .val (.int (0 : Int32)), .val (.int (1 : Int32)), .val (.int (0 : Int32)), .val (.ref b2), .val (.ref b4), .val (.ref b6), .val (.int (((0 : Int32) + (1 : Int32)) - (1 : Int32))), .val (.int (if (((0 : Int32) + (1 : Int32)) - (1 : Int32)) = (0 : Int32) then (1 : Int32) else 0)), .val (.int (if (((0 : Int32) + (1 : Int32)) - (1 : Int32)) = (0 : Int32) then (1 : Int32) else 0)), .unset] [.null])) _
    refine XS.ifnonnullNo X11.here hx rfl (hb hby at_187) rfl ?_
    show Steps p.tables e below (T11.setTop (mkF m 190 #[.val (.int p1), .val (.int (1 : Int32)), .val (.int (0 : Int32)), .val (.int (1 : Int32)), .val (.int (0 : Int32)), .val (.ref b2), .val (.ref b4), .val (.ref b6), .val (.int (((0 : Int32) + (1 : Int32)) - (1 : Int32))), .val (.int (if (((0 : Int32) + (1 : Int32)) - (1 : Int32)) = (0 : Int32) then (1 : Int32) else 0)), .val (.int (if (((0 : Int32) + (1 : Int32)) - (1 : Int32)) = (0 : Int32) then (1 : Int32) else 0)), .unset] [])) _
    refine XS.iconst X11.here hx rfl (hb hby at_190) ?_
    show Steps p.tables e below (T11.setTop (mkF m 191 #[.val (.int p1), .val (.int (1 : Int32)), .val (.int (0 : Int32)), .val (.int (1 : Int32)), .val (.int (0 : Int32)), .val (.ref b2), .val (.ref b4), .val (.ref b6), .val (.int (((0 : Int32) + (1 : Int32)) - (1 : Int32))), .val (.int (if (((0 : Int32) + (1 : Int32)) - (1 : Int32)) = (0 : Int32) then (1 : Int32) else 0)), .val (.int (if (((0 : Int32) + (1 : Int32)) - (1 : Int32)) = (0 : Int32) then (1 : Int32) else 0)), .unset] [(.int (1 : Int32))])) _
    refine XS.goto X11.here hx rfl (pc0 := 191) (pc' := 195) rfl (hb hby at_191) (by decide) (by decide) ?_
    show Steps p.tables e below (T11.setTop (mkF m 195 #[.val (.int p1), .val (.int (1 : Int32)), .val (.int (0 : Int32)), .val (.int (1 : Int32)), .val (.int (0 : Int32)), .val (.ref b2), .val (.ref b4), .val (.ref b6), .val (.int (((0 : Int32) + (1 : Int32)) - (1 : Int32))), .val (.int (if (((0 : Int32) + (1 : Int32)) - (1 : Int32)) = (0 : Int32) then (1 : Int32) else 0)), .val (.int (if (((0 : Int32) + (1 : Int32)) - (1 : Int32)) = (0 : Int32) then (1 : Int32) else 0)), .unset] [(.int (1 : Int32))])) _
    refine XS.istore X11.here hx rfl (hb hby at_195) rfl (l' := #[.val (.int p1), .val (.int (1 : Int32)), .val (.int (0 : Int32)), .val (.int (1 : Int32)), .val (.int (0 : Int32)), .val (.ref b2), .val (.ref b4), .val (.ref b6), .val (.int (((0 : Int32) + (1 : Int32)) - (1 : Int32))), .val (.int (if (((0 : Int32) + (1 : Int32)) - (1 : Int32)) = (0 : Int32) then (1 : Int32) else 0)), .val (.int (if (((0 : Int32) + (1 : Int32)) - (1 : Int32)) = (0 : Int32) then (1 : Int32) else 0)), .val (.int (1 : Int32))]) rfl ?_
    show Steps p.tables e below (T11.setTop (mkF m 197 #[.val (.int p1), .val (.int (1 : Int32)), .val (.int (0 : Int32)), .val (.int (1 : Int32)), .val (.int (0 : Int32)), .val (.ref b2), .val (.ref b4), .val (.ref b6), .val (.int (((0 : Int32) + (1 : Int32)) - (1 : Int32))), .val (.int (if (((0 : Int32) + (1 : Int32)) - (1 : Int32)) = (0 : Int32) then (1 : Int32) else 0)), .val (.int (if (((0 : Int32) + (1 : Int32)) - (1 : Int32)) = (0 : Int32) then (1 : Int32) else 0)), .val (.int (1 : Int32))] [])) _
    refine XS.iload X11.here hx rfl (hb hby at_197) rfl ?_
    show Steps p.tables e below (T11.setTop (mkF m 199 #[.val (.int p1), .val (.int (1 : Int32)), .val (.int (0 : Int32)), .val (.int (1 : Int32)), .val (.int (0 : Int32)), .val (.ref b2), .val (.ref b4), .val (.ref b6), .val (.int (((0 : Int32) + (1 : Int32)) - (1 : Int32))), .val (.int (if (((0 : Int32) + (1 : Int32)) - (1 : Int32)) = (0 : Int32) then (1 : Int32) else 0)), .val (.int (if (((0 : Int32) + (1 : Int32)) - (1 : Int32)) = (0 : Int32) then (1 : Int32) else 0)), .val (.int (1 : Int32))] [(.int (if (((0 : Int32) + (1 : Int32)) - (1 : Int32)) = (0 : Int32) then (1 : Int32) else 0))])) _
    refine XS.iload X11.here hx rfl (hb hby at_199) rfl ?_
    show Steps p.tables e below (T11.setTop (mkF m 201 #[.val (.int p1), .val (.int (1 : Int32)), .val (.int (0 : Int32)), .val (.int (1 : Int32)), .val (.int (0 : Int32)), .val (.ref b2), .val (.ref b4), .val (.ref b6), .val (.int (((0 : Int32) + (1 : Int32)) - (1 : Int32))), .val (.int (if (((0 : Int32) + (1 : Int32)) - (1 : Int32)) = (0 : Int32) then (1 : Int32) else 0)), .val (.int (if (((0 : Int32) + (1 : Int32)) - (1 : Int32)) = (0 : Int32) then (1 : Int32) else 0)), .val (.int (1 : Int32))] [(.int (if (((0 : Int32) + (1 : Int32)) - (1 : Int32)) = (0 : Int32) then (1 : Int32) else 0)), (.int (if (((0 : Int32) + (1 : Int32)) - (1 : Int32)) = (0 : Int32) then (1 : Int32) else 0))])) _
    refine XS.icmpNo X11.here hx rfl (hb hby at_201) rfl (teq (rfl : (if (((0 : Int32) + (1 : Int32)) - (1 : Int32)) = (0 : Int32) then (1 : Int32) else 0) = (if (((0 : Int32) + (1 : Int32)) - (1 : Int32)) = (0 : Int32) then (1 : Int32) else 0))).2 ?_
    show Steps p.tables e below (T11.setTop (mkF m 204 #[.val (.int p1), .val (.int (1 : Int32)), .val (.int (0 : Int32)), .val (.int (1 : Int32)), .val (.int (0 : Int32)), .val (.ref b2), .val (.ref b4), .val (.ref b6), .val (.int (((0 : Int32) + (1 : Int32)) - (1 : Int32))), .val (.int (if (((0 : Int32) + (1 : Int32)) - (1 : Int32)) = (0 : Int32) then (1 : Int32) else 0)), .val (.int (if (((0 : Int32) + (1 : Int32)) - (1 : Int32)) = (0 : Int32) then (1 : Int32) else 0)), .val (.int (1 : Int32))] [])) _
    refine XS.iload X11.here hx rfl (hb hby at_204) rfl ?_
    show Steps p.tables e below (T11.setTop (mkF m 206 #[.val (.int p1), .val (.int (1 : Int32)), .val (.int (0 : Int32)), .val (.int (1 : Int32)), .val (.int (0 : Int32)), .val (.ref b2), .val (.ref b4), .val (.ref b6), .val (.int (((0 : Int32) + (1 : Int32)) - (1 : Int32))), .val (.int (if (((0 : Int32) + (1 : Int32)) - (1 : Int32)) = (0 : Int32) then (1 : Int32) else 0)), .val (.int (if (((0 : Int32) + (1 : Int32)) - (1 : Int32)) = (0 : Int32) then (1 : Int32) else 0)), .val (.int (1 : Int32))] [(.int (1 : Int32))])) _
    refine XS.iload X11.here hx rfl (hb hby at_206) rfl ?_
    show Steps p.tables e below (T11.setTop (mkF m 208 #[.val (.int p1), .val (.int (1 : Int32)), .val (.int (0 : Int32)), .val (.int (1 : Int32)), .val (.int (0 : Int32)), .val (.ref b2), .val (.ref b4), .val (.ref b6), .val (.int (((0 : Int32) + (1 : Int32)) - (1 : Int32))), .val (.int (if (((0 : Int32) + (1 : Int32)) - (1 : Int32)) = (0 : Int32) then (1 : Int32) else 0)), .val (.int (if (((0 : Int32) + (1 : Int32)) - (1 : Int32)) = (0 : Int32) then (1 : Int32) else 0)), .val (.int (1 : Int32))] [(.int (if (((0 : Int32) + (1 : Int32)) - (1 : Int32)) = (0 : Int32) then (1 : Int32) else 0)), (.int (1 : Int32))])) _
    refine XS.icmpNo X11.here hx rfl (hb hby at_208) rfl (teq hc208).2 ?_
    show Steps p.tables e below (T11.setTop (mkF m 211 #[.val (.int p1), .val (.int (1 : Int32)), .val (.int (0 : Int32)), .val (.int (1 : Int32)), .val (.int (0 : Int32)), .val (.ref b2), .val (.ref b4), .val (.ref b6), .val (.int (((0 : Int32) + (1 : Int32)) - (1 : Int32))), .val (.int (if (((0 : Int32) + (1 : Int32)) - (1 : Int32)) = (0 : Int32) then (1 : Int32) else 0)), .val (.int (if (((0 : Int32) + (1 : Int32)) - (1 : Int32)) = (0 : Int32) then (1 : Int32) else 0)), .val (.int (1 : Int32))] [])) _
    refine XS.iconst X11.here hx rfl (hb hby at_211) ?_
    show Steps p.tables e below (T11.setTop (mkF m 212 #[.val (.int p1), .val (.int (1 : Int32)), .val (.int (0 : Int32)), .val (.int (1 : Int32)), .val (.int (0 : Int32)), .val (.ref b2), .val (.ref b4), .val (.ref b6), .val (.int (((0 : Int32) + (1 : Int32)) - (1 : Int32))), .val (.int (if (((0 : Int32) + (1 : Int32)) - (1 : Int32)) = (0 : Int32) then (1 : Int32) else 0)), .val (.int (if (((0 : Int32) + (1 : Int32)) - (1 : Int32)) = (0 : Int32) then (1 : Int32) else 0)), .val (.int (1 : Int32))] [(.int (1 : Int32))])) _
    refine XS.goto X11.here hx rfl (pc0 := 212) (pc' := 216) rfl (hb hby at_212) (by decide) (by decide) ?_
    show Steps p.tables e below (T11.setTop (mkF m 216 #[.val (.int p1), .val (.int (1 : Int32)), .val (.int (0 : Int32)), .val (.int (1 : Int32)), .val (.int (0 : Int32)), .val (.ref b2), .val (.ref b4), .val (.ref b6), .val (.int (((0 : Int32) + (1 : Int32)) - (1 : Int32))), .val (.int (if (((0 : Int32) + (1 : Int32)) - (1 : Int32)) = (0 : Int32) then (1 : Int32) else 0)), .val (.int (if (((0 : Int32) + (1 : Int32)) - (1 : Int32)) = (0 : Int32) then (1 : Int32) else 0)), .val (.int (1 : Int32))] [(.int (1 : Int32))])) _
    exact retN X11 hx (t := .boolean) Bd.returns (by simp) (hb hby at_216) hr
  · show Q0 Z p1 h0 n0 _ T11.heap _
    rw [e11]
    exact ⟨rfl, N11⟩

set_option maxRecDepth 65536 in
set_option maxHeartbeats 40000000 in
theorem rm0_5 (l : Launch) (Z : State) (a0 : Array Value) (hw : ∀ d ∈ tables_1, d.before a0 Z = true) (ws : List Jvm.Cond) (p1 : Int32) (h0 : Heap) (n0 : Nat) (Z0 : n0 ≤ h0.size) (hc3 : ¬ ((p1 &&& (1 : Int32)) = (0 : Int32))) (hc15 : ¬ ((p1 &&& (2 : Int32)) = (0 : Int32))) (hc25 : ¬ ((1 : Int32) = (0 : Int32))) (hc31 : (p1 &&& (4 : Int32)) = (0 : Int32)) (hc41 : ¬ ((1 : Int32) = (0 : Int32))) (hc48 : (p1 &&& (8 : Int32)) = (0 : Int32)) (hc95 : ¬ ((1 : Int32) = (0 : Int32))) (hc112 : ¬ ((1 : Int32) = (0 : Int32))) (hc208 : (0 : Int32) = (if (((0 : Int32) + (1 : Int32)) + (1 : Int32)) = (0 : Int32) then (1 : Int32) else 0)) :
    MetFree l x (head1 (Jvm.Cond.code x code maxLocals ret :: ws) room_1) (fun a U => a = #[(.int p1)] ∧ Z.Warmed39 U.vm ∧ U.heap = h0) (fun _ _ _ _ _ => True) (fun _ U o U' => ∃ v L, o = .returned v ∧ Q0 Z p1 h0 n0 v U'.heap L ∧ FrameEnd U o U' L room_1.cells room_1.slots) := by
  refine MetFree.of_bodySF (plainFor_of_name pn_0) hisR ?_
  intro p e s m args below meth c s₁ Bd hml0 hP hK
  obtain ⟨rfl, hZ, hh⟩ := hP
  have hx := Bd.exec
  have hby := Bd.bytes
  have hml : c.maxLocals = 12 := hml0
  have hown : s.vm.findClass "com/example/idlewell/idlewell/engine/ObjectListIsEmptyPinLaw" = some m.cls := findClass_of_methodNamed Bd.named
  have hnm := (name_of_methodNamed Bd.named Bd.method).1
  have X0 : Stand p l e room_1 s m #[(.int p1)] below meth c s₁ [] 0 0 := Stand.of_body Bd
  have e0 : s₁.heap = h0 := by rw [← hh, Bd.state]; rfl
  have N0 := Fr.nil n0
  have pre0 : ∀ t, Steps p.tables e below (s₁.setTop (mkF m 0 #[.val (.int p1), .unset, .unset, .unset, .unset, .unset, .unset, .unset, .unset, .unset, .unset, .unset] [])) t → Steps p.tables e below (s₁.setTop (entryFrame m #[(.int p1)] maxLocals)) t := fun t k => castTop (ef_0 m p1) k
  obtain ⟨T2, h2, X2, e2, E2, A2, D2, -, st2⟩ := newO X0 hx hZ hown (hw _ (List.mem_of_getElem? (i := 0) rfl)) (hw _ (List.mem_of_getElem? (i := 1) rfl)) (hw _ (List.mem_of_getElem? (i := 2) rfl)) e0 (g := (mkF m 58 #[.val (.int p1), .val (.int (1 : Int32)), .val (.int (1 : Int32)), .val (.int (0 : Int32)), .val (.int (0 : Int32)), .unset, .unset, .unset, .unset, .unset, .unset, .unset] [])) rfl (hb hby at_58) (by decide) (by decide)
  obtain ⟨b2, g2⟩ : ∃ z, z = h0.size := ⟨_, rfl⟩
  rw [← g2] at A2 D2 st2
  have F_size_b2 : Fld Z h2 b2 "com/example/idlewell/idlewell/engine/ObjectList" "size" "I" (.int (0 : Int32)) := D2 (Or.inl (hw _ (List.mem_of_getElem? (i := 28) rfl))) (ty := .int) (by decide)
  have F_newest_b2 : Fld Z h2 b2 "com/example/idlewell/idlewell/engine/ObjectList" "newest" "Lcom/example/idlewell/idlewell/engine/PooledObject;" .null := D2 (Or.inl (hw _ (List.mem_of_getElem? (i := 35) rfl))) (ty := (.object "com/example/idlewell/idlewell/engine/PooledObject")) (by decide)
  have F_oldest_b2 : Fld Z h2 b2 "com/example/idlewell/idlewell/engine/ObjectList" "oldest" "Lcom/example/idlewell/idlewell/engine/PooledObject;" .null := D2 (Or.inl (hw _ (List.mem_of_getElem? (i := 47) rfl))) (ty := (.object "com/example/idlewell/idlewell/engine/PooledObject")) (by decide)
  have E_b2 := A2
  have g_b2 : n0 ≤ b2 := Nat.le_trans Z0 (Nat.le_of_eq g2.symm)
  have sz_b2 : h0.size ≤ b2 := (Nat.le_trans (Keep.refl h0 []).1 (Nat.le_of_eq g2.symm))
  have K2 : Keep h0 h2 [] := (Keep.refl h0 []).ext E2
  obtain ⟨_, _, ⟨T3, L3, k3, n3⟩, -, X3, ⟨Lc3, hQ3, l3, y3, z3⟩, st3⟩ := X2.specialBack hx (y := (⟨"com/example/idlewell/idlewell/engine/ObjectList", "<init>", "()V"⟩ : MethodName)) rfl hown (mvT hZ (hw _ (List.mem_of_getElem? (i := 3) rfl))) (mvT hZ (hw _ (List.mem_of_getElem? (i := 4) rfl))) (mvT hZ (hw _ (List.mem_of_getElem? (i := 5) rfl))) (by decide) (backOf (W := 1) (rm1 l Z a0 hw [] b2  h2 n0 (Nat.le_trans Z0 E2.1)) hZ (hw _ (List.mem_of_getElem? (i := 5) rfl)) (hw _ (List.mem_of_getElem? (i := 2) rfl)) (by decide) (by decide)) (g := (mkF m 62 #[.val (.int p1), .val (.int (1 : Int32)), .val (.int (1 : Int32)), .val (.int (0 : Int32)), .val (.int (0 : Int32)), .unset, .unset, .unset, .unset, .unset, .unset, .unset] [(.ref b2), (.ref b2)])) rfl (by rw [hml]; rfl) (Steps.refl _) (a := b2) (argsL := []) (rest := [(.ref b2)]) (lenOf pd_0_0 rfl) rfl (by show 2 * 0 + _ ≤ _; exact Nat.le_of_eq rfl) (hb hby at_62) (fun _ _ => ⟨rfl, e2, (by decide : 1 + 0 ≤ _), (by decide : 3 + 0 ≤ _)⟩)
  dsimp only [Pt.U, Pt.locs, Pt.cells, Pt.slots] at X3 l3 y3 z3 st3 hQ3
  subst l3 y3 z3
  obtain ⟨rfl, N3q, e3⟩ := hQ3
  have N3 := Fr.app N0 N3q
  obtain ⟨T4, h4, X4, e4, E4, A4, D4, -, st4⟩ := newO X3 hx hZ hown (hw _ (List.mem_of_getElem? (i := 9) rfl)) (hw _ (List.mem_of_getElem? (i := 10) rfl)) (hw _ (List.mem_of_getElem? (i := 11) rfl)) e3 (g := (mkF m 67 #[.val (.int p1), .val (.int (1 : Int32)), .val (.int (1 : Int32)), .val (.int (0 : Int32)), .val (.int (0 : Int32)), .val (.ref b2), .unset, .unset, .unset, .unset, .unset, .unset] [])) rfl (hb hby at_67) (by decide) (by decide)
  obtain ⟨b4, g4⟩ : ∃ z, z = h2.size := ⟨_, rfl⟩
  rw [← g4] at A4 D4 st4
  have F_pool_b4 : Fld Z h4 b4 "com/example/idlewell/idlewell/engine/PooledObject" "pool" "Lcom/example/idlewell/idlewell/engine/BoundedPool;" .null := D4 (Or.inr (hw _ (List.mem_of_getElem? (i := 17) rfl))) (ty := (.object "com/example/idlewell/idlewell/engine/BoundedPool")) (by decide)
  have F_object_b4 : Fld Z h4 b4 "com/example/idlewell/idlewell/engine/PooledObject" "object" "Ljava/lang/Object;" .null := D4 (Or.inr (hw _ (List.mem_of_getElem? (i := 19) rfl))) (ty := (.object "java/lang/Object")) (by decide)
  have F_slot_b4 : Fld Z h4 b4 "com/example/idlewell/idlewell/engine/PooledObject" "slot" "Lcom/example/idlewell/idlewell/engine/ThreadSlot;" .null := D4 (Or.inr (hw _ (List.mem_of_getElem? (i := 21) rfl))) (ty := (.object "com/example/idlewell/idlewell/engine/ThreadSlot")) (by decide)
  have F_older_b4 : Fld Z h4 b4 "com/example/idlewell/idlewell/engine/PooledObject" "older" "Lcom/example/idlewell/idlewell/engine/PooledObject;" .null := D4 (Or.inl (hw _ (List.mem_of_getElem? (i := 49) rfl))) (ty := (.object "com/example/idlewell/idlewell/engine/PooledObject")) (by decide)
  have F_newer_b4 : Fld Z h4 b4 "com/example/idlewell/idlewell/engine/PooledObject" "newer" "Lcom/example/idlewell/idlewell/engine/PooledObject;" .null := D4 (Or.inl (hw _ (List.mem_of_getElem? (i := 51) rfl))) (ty := (.object "com/example/idlewell/idlewell/engine/PooledObject")) (by decide)
  have E_b4 := A4
  have g_b4 : n0 ≤ b4 := Nat.le_trans (Nat.le_trans Z0 E2.1) (Nat.le_of_eq g4.symm)
  have sz_b4 : h0.size ≤ b4 := (Nat.le_trans K2.1 (Nat.le_of_eq g4.symm))
  have K4 : Keep h0 h4 [] := K2.ext E4
  obtain ⟨_, _, ⟨T5, L5, k5, n5⟩, -, X5, ⟨Lc5, hQ5, l5, y5, z5⟩, st5⟩ := X4.specialBack hx (y := (⟨"com/example/idlewell/idlewell/engine/PooledObject", "<init>", "(Lcom/example/idlewell/idlewell/engine/BoundedPool;Ljava/lang/Object;Z)V"⟩ : MethodName)) rfl hown (mvT hZ (hw _ (List.mem_of_getElem? (i := 12) rfl))) (mvT hZ (hw _ (List.mem_of_getElem? (i := 13) rfl))) (mvT hZ (hw _ (List.mem_of_getElem? (i := 14) rfl))) (by decide) (backOf (W := 1) (rm3 l Z a0 hw [] b4 (0 : Int32) .null .null .null h4 n0 (Nat.le_trans (Nat.le_trans Z0 E2.1) E4.1) E_b4 F_newer_b4 F_older_b4 F_pool_b4 g_b4 F_object_b4 F_slot_b4 rfl) hZ (hw _ (List.mem_of_getElem? (i := 14) rfl)) (hw _ (List.mem_of_getElem? (i := 11) rfl)) (by decide) (by decide)) (g := (mkF m 74 #[.val (.int p1), .val (.int (1 : Int32)), .val (.int (1 : Int32)), .val (.int (0 : Int32)), .val (.int (0 : Int32)), .val (.ref b2), .unset, .unset, .unset, .unset, .unset, .unset] [(.int (0 : Int32)), .null, .null, (.ref b4), (.ref b4)])) rfl (by rw [hml]; rfl) (Steps.refl _) (a := b4) (argsL := [.null, .null, (.int (0 : Int32))]) (rest := [(.ref b4)]) (lenOf pd_0_1 rfl) rfl (by show 2 * 0 + _ ≤ _; exact Nat.le_of_eq rfl) (hb hby at_74) (fun _ _ => ⟨rfl, e4, (by decide : 2 + 0 ≤ _), (by decide : 13 + 0 ≤ _)⟩)
  dsimp only [Pt.U, Pt.locs, Pt.cells, Pt.slots] at X5 l5 y5 z5 st5 hQ5
  subst l5 y5 z5
  obtain ⟨rfl, N5q, Kq5, Ex5, Fn5, Fo5⟩ := hQ5
  have N5 := Fr.app N3 N5q
  obtain ⟨T6, h6, X6, e6, E6, A6, D6, -, st6⟩ := newO X5 hx hZ hown (hw _ (List.mem_of_getElem? (i := 9) rfl)) (hw _ (List.mem_of_getElem? (i := 10) rfl)) (hw _ (List.mem_of_getElem? (i := 11) rfl)) rfl (g := (mkF m 79 #[.val (.int p1), .val (.int (1 : Int32)), .val (.int (1 : Int32)), .val (.int (0 : Int32)), .val (.int (0 : Int32)), .val (.ref b2), .val (.ref b4), .unset, .unset, .unset, .unset, .unset] [])) rfl (hb hby at_79) (by decide) (by decide)
  obtain ⟨b6, g6⟩ : ∃ z, z = T5.heap.size := ⟨_, rfl⟩
  rw [← g6] at A6 D6 st6
  have F_pool_b6 : Fld Z h6 b6 "com/example/idlewell/idlewell/engine/PooledObject" "pool" "Lcom/example/idlewell/idlewell/engine/BoundedPool;" .null := D6 (Or.inr (hw _ (List.mem_of_getElem? (i := 17) rfl))) (ty := (.object "com/example/idlewell/idlewell/engine/BoundedPool")) (by decide)
  have F_object_b6 : Fld Z h6 b6 "com/example/idlewell/idlewell/engine/PooledObject" "object" "Ljava/lang/Object;" .null := D6 (Or.inr (hw _ (List.mem_of_getElem? (i := 19) rfl))) (ty := (.object "java/lang/Object")) (by decide)
  have F_slot_b6 : Fld Z h6 b6 "com/example/idlewell/idlewell/engine/PooledObject" "slot" "Lcom/example/idlewell/idlewell/engine/ThreadSlot;" .null := D6 (Or.inr (hw _ (List.mem_of_getElem? (i := 21) rfl))) (ty := (.object "com/example/idlewell/idlewell/engine/ThreadSlot")) (by decide)
  have F_older_b6 : Fld Z h6 b6 "com/example/idlewell/idlewell/engine/PooledObject" "older" "Lcom/example/idlewell/idlewell/engine/PooledObject;" .null := D6 (Or.inl (hw _ (List.mem_of_getElem? (i := 49) rfl))) (ty := (.object "com/example/idlewell/idlewell/engine/PooledObject")) (by decide)
  have F_newer_b6 : Fld Z h6 b6 "com/example/idlewell/idlewell/engine/PooledObject" "newer" "Lcom/example/idlewell/idlewell/engine/PooledObject;" .null := D6 (Or.inl (hw _ (List.mem_of_getElem? (i := 51) rfl))) (ty := (.object "com/example/idlewell/idlewell/engine/PooledObject")) (by decide)
  have E_b6 := A6
  have g_b6 : n0 ≤ b6 := Nat.le_trans (Nat.le_trans (Nat.le_trans (Nat.le_trans Z0 E2.1) E4.1) Kq5.1) (Nat.le_of_eq g6.symm)
  obtain ⟨_, _, ⟨T7, L7, k7, n7⟩, -, X7, ⟨Lc7, hQ7, l7, y7, z7⟩, st7⟩ := X6.specialBack hx (y := (⟨"com/example/idlewell/idlewell/engine/PooledObject", "<init>", "(Lcom/example/idlewell/idlewell/engine/BoundedPool;Ljava/lang/Object;Z)V"⟩ : MethodName)) rfl hown (mvT hZ (hw _ (List.mem_of_getElem? (i := 12) rfl))) (mvT hZ (hw _ (List.mem_of_getElem? (i := 13) rfl))) (mvT hZ (hw _ (List.mem_of_getElem? (i := 14) rfl))) (by decide) (backOf (W := 1) (rm3 l Z a0 hw [] b6 (0 : Int32) .null .null .null h6 n0 (Nat.le_trans (Nat.le_trans (Nat.le_trans (Nat.le_trans Z0 E2.1) E4.1) Kq5.1) E6.1) E_b6 F_newer_b6 F_older_b6 F_pool_b6 g_b6 F_object_b6 F_slot_b6 rfl) hZ (hw _ (List.mem_of_getElem? (i := 14) rfl)) (hw _ (List.mem_of_getElem? (i := 11) rfl)) (by decide) (by decide)) (g := (mkF m 86 #[.val (.int p1), .val (.int (1 : Int32)), .val (.int (1 : Int32)), .val (.int (0 : Int32)), .val (.int (0 : Int32)), .val (.ref b2), .val (.ref b4), .unset, .unset, .unset, .unset, .unset] [(.int (0 : Int32)), .null, .null, (.ref b6), (.ref b6)])) rfl (by rw [hml]; rfl) (Steps.refl _) (a := b6) (argsL := [.null, .null, (.int (0 : Int32))]) (rest := [(.ref b6)]) (lenOf pd_0_1 rfl) rfl (by show 2 * 0 + _ ≤ _; exact Nat.le_of_eq rfl) (hb hby at_86) (fun _ _ => ⟨rfl, e6, (by decide : 3 + 0 ≤ _), (by decide : 23 + 0 ≤ _)⟩)
  dsimp only [Pt.U, Pt.locs, Pt.cells, Pt.slots] at X7 l7 y7 z7 st7 hQ7
  subst l7 y7 z7
  obtain ⟨rfl, N7q, Kq7, Ex7, Fn7, Fo7⟩ := hQ7
  have N7 := Fr.app N5 N7q
  obtain ⟨cq8, kq8, q8a, q8b, q8c⟩ := isOf hZ rfl ((((E_b2.ext E4).keep Kq5).ext E6).keep Kq7)
  obtain ⟨_, _, ⟨T8, L8, k8, n8⟩, -, X8, ⟨Lc8, hQ8, l8, y8, z8⟩, st8⟩ := X7.virtualBack hx (y := (⟨"com/example/idlewell/idlewell/engine/ObjectList", "addNewest", "(Lcom/example/idlewell/idlewell/engine/PooledObject;)V"⟩ : MethodName)) (z := (⟨"com/example/idlewell/idlewell/engine/ObjectList", "addNewest", "(Lcom/example/idlewell/idlewell/engine/PooledObject;)V"⟩ : MethodName)) hown (mvT hZ (hw _ (List.mem_of_getElem? (i := 36) rfl))) (mvT hZ (hw _ (List.mem_of_getElem? (i := 37) rfl))) (notFace_of_selects (args := #[]) (mvT hZ (hw _ (List.mem_of_getElem? (i := 39) rfl)))) (mvT hZ (hw _ (List.mem_of_getElem? (i := 39) rfl))) (mvT hZ (hw _ (List.mem_of_getElem? (i := 38) rfl))) (by decide) (backOf (W := 0) (rm6A l Z a0 hw [] b2 b4 b6 (0 : Int32) T7.heap n0 (Nat.le_trans (Nat.le_trans (Nat.le_trans (Nat.le_trans (Nat.le_trans Z0 E2.1) E4.1) Kq5.1) E6.1) Kq7.1) ⟨((((E_b2.ext E4).keep Kq5).ext E6).keep Kq7), ((Ex5.ext E6).keep Kq7), Ex7, ((((F_newest_b2.ext E4).keep Kq5 (fun q_ => (Nat.ne_of_lt (Nat.lt_of_lt_of_le E_b2.lt (Nat.le_of_eq g4.symm))) (List.mem_singleton.mp q_))).ext E6).keep Kq7 (fun q_ => (Nat.ne_of_lt (Nat.lt_of_lt_of_le ((E_b2.ext E4).keep Kq5).lt (Nat.le_of_eq g6.symm))) (List.mem_singleton.mp q_))), ((((F_oldest_b2.ext E4).keep Kq5 (fun q_ => (Nat.ne_of_lt (Nat.lt_of_lt_of_le E_b2.lt (Nat.le_of_eq g4.symm))) (List.mem_singleton.mp q_))).ext E6).keep Kq7 (fun q_ => (Nat.ne_of_lt (Nat.lt_of_lt_of_le ((E_b2.ext E4).keep Kq5).lt (Nat.le_of_eq g6.symm))) (List.mem_singleton.mp q_))), ((((F_size_b2.ext E4).keep Kq5 (fun q_ => (Nat.ne_of_lt (Nat.lt_of_lt_of_le E_b2.lt (Nat.le_of_eq g4.symm))) (List.mem_singleton.mp q_))).ext E6).keep Kq7 (fun q_ => (Nat.ne_of_lt (Nat.lt_of_lt_of_le ((E_b2.ext E4).keep Kq5).lt (Nat.le_of_eq g6.symm))) (List.mem_singleton.mp q_))), ((Fn5.ext E6).keep Kq7 (fun q_ => (Nat.ne_of_lt (Nat.lt_of_lt_of_le Ex5.lt (Nat.le_of_eq g6.symm))) (List.mem_singleton.mp q_))), ((Fo5.ext E6).keep Kq7 (fun q_ => (Nat.ne_of_lt (Nat.lt_of_lt_of_le Ex5.lt (Nat.le_of_eq g6.symm))) (List.mem_singleton.mp q_))), Fn7, Fo7⟩ g_b2 g_b4 g_b6 (Nat.ne_of_lt (Nat.lt_of_lt_of_le E_b2.lt (Nat.le_of_eq g4.symm))) (Nat.ne_of_lt (Nat.lt_of_lt_of_le ((E_b2.ext E4).keep Kq5).lt (Nat.le_of_eq g6.symm))) (Nat.ne_of_lt (Nat.lt_of_lt_of_le Ex5.lt (Nat.le_of_eq g6.symm)))) hZ (hw _ (List.mem_of_getElem? (i := 40) rfl)) (hw _ (List.mem_of_getElem? (i := 2) rfl)) (by decide) (by decide)) q8a q8c (g := (mkF m 102 #[.val (.int p1), .val (.int (1 : Int32)), .val (.int (1 : Int32)), .val (.int (0 : Int32)), .val (.int (0 : Int32)), .val (.ref b2), .val (.ref b4), .val (.ref b6), .val (.int (0 : Int32)), .unset, .unset, .unset] [(.ref b4), (.ref b2)])) rfl (by rw [hml]; rfl) (Steps.refl _) (argsL := [(.ref b4)]) (rest := []) (lenOf pd_0_4 rfl) rfl (by show 2 * 0 + _ ≤ _; exact Nat.le_of_eq rfl) (hb hby at_102) (fun _ _ => ⟨rfl, rfl, (by decide : 3 + 0 ≤ _), (by decide : 23 + 0 ≤ _)⟩)
  dsimp only [Pt.U, Pt.locs, Pt.cells, Pt.slots] at X8 l8 y8 z8 st8 hQ8
  subst l8 y8 z8
  obtain ⟨rfl, N8q, Kq8, ⟨E_o8, E_p8, E_q8, Fnw8, Fod8, Fsz8, Fpn8, Fpo8, Fqn8, Fqo8⟩⟩ := hQ8
  have N8 := Fr.app N7 N8q
  obtain ⟨cq9, kq9, q9a, q9b, q9c⟩ := isOf hZ rfl E_o8
  obtain ⟨_, _, ⟨T9, L9, k9, n9⟩, -, X9, ⟨Lc9, hQ9, l9, y9, z9⟩, st9⟩ := X8.virtualBack hx (y := (⟨"com/example/idlewell/idlewell/engine/ObjectList", "addNewest", "(Lcom/example/idlewell/idlewell/engine/PooledObject;)V"⟩ : MethodName)) (z := (⟨"com/example/idlewell/idlewell/engine/ObjectList", "addNewest", "(Lcom/example/idlewell/idlewell/engine/PooledObject;)V"⟩ : MethodName)) hown (mvT hZ (hw _ (List.mem_of_getElem? (i := 36) rfl))) (mvT hZ (hw _ (List.mem_of_getElem? (i := 37) rfl))) (notFace_of_selects (args := #[]) (mvT hZ (hw _ (List.mem_of_getElem? (i := 39) rfl)))) (mvT hZ (hw _ (List.mem_of_getElem? (i := 39) rfl))) (mvT hZ (hw _ (List.mem_of_getElem? (i := 38) rfl))) (by decide) (backOf (W := 0) (rm6B l Z a0 hw [] b2 b6 b4 ((0 : Int32) + (1 : Int32)) T8.heap n0 (Nat.le_trans (Nat.le_trans (Nat.le_trans (Nat.le_trans (Nat.le_trans (Nat.le_trans Z0 E2.1) E4.1) Kq5.1) E6.1) Kq7.1) Kq8.1) ⟨E_o8, E_q8, E_p8, Fnw8, Fod8, Fsz8, Fqn8, Fqo8, Fpn8, Fpo8⟩ g_b2 g_b6 g_b4 (Nat.ne_of_lt (Nat.lt_of_lt_of_le ((E_b2.ext E4).keep Kq5).lt (Nat.le_of_eq g6.symm))) (Nat.ne_of_lt (Nat.lt_of_lt_of_le E_b2.lt (Nat.le_of_eq g4.symm))) (Ne.symm (Nat.ne_of_lt (Nat.lt_of_lt_of_le Ex5.lt (Nat.le_of_eq g6.symm))))) hZ (hw _ (List.mem_of_getElem? (i := 40) rfl)) (hw _ (List.mem_of_getElem? (i := 2) rfl)) (by decide) (by decide)) q9a q9c (g := (mkF m 119 #[.val (.int p1), .val (.int (1 : Int32)), .val (.int (1 : Int32)), .val (.int (0 : Int32)), .val (.int (0 : Int32)), .val (.ref b2), .val (.ref b4), .val (.ref b6), .val (.int ((0 : Int32) + (1 : Int32))), .unset, .unset, .unset] [(.ref b6), (.ref b2)])) rfl (by rw [hml]; rfl) (Steps.refl _) (argsL := [(.ref b6)]) (rest := []) (lenOf pd_0_4 rfl) rfl (by show 2 * 0 + _ ≤ _; exact Nat.le_of_eq rfl) (hb hby at_119) (fun _ _ => ⟨rfl, rfl, (by decide : 3 + 0 ≤ _), (by decide : 23 + 0 ≤ _)⟩)
  dsimp only [Pt.U, Pt.locs, Pt.cells, Pt.slots] at X9 l9 y9 z9 st9 hQ9
  subst l9 y9 z9
  obtain ⟨rfl, N9q, Kq9, ⟨E_o9, E_p9, E_q9, Fnw9, Fod9, Fsz9, Fpn9, Fpo9, Fqn9, Fqo9⟩⟩ := hQ9
  have N9 := Fr.app N8 N9q
  obtain ⟨cq10, kq10, q10a, q10b, q10c⟩ := isOf hZ rfl E_o9
  obtain ⟨_, _, ⟨T10, L10, k10, n10⟩, -, X10, ⟨Lc10, hQ10, l10, y10, z10⟩, st10⟩ := X9.virtualBack hx (y := (⟨"com/example/idlewell/idlewell/engine/ObjectList", "isEmpty", "()Z"⟩ : MethodName)) (z := (⟨"com/example/idlewell/idlewell/engine/ObjectList", "isEmpty", "()Z"⟩ : MethodName)) hown (mvT hZ (hw _ (List.mem_of_getElem? (i := 22) rfl))) (mvT hZ (hw _ (List.mem_of_getElem? (i := 23) rfl))) (notFace_of_selects (args := #[]) (mvT hZ (hw _ (List.mem_of_getElem? (i := 25) rfl)))) (mvT hZ (hw _ (List.mem_of_getElem? (i := 25) rfl))) (mvT hZ (hw _ (List.mem_of_getElem? (i := 24) rfl))) (by decide) (backOf (W := 0) (rm4 l Z a0 hw [] b2 (((0 : Int32) + (1 : Int32)) + (1 : Int32)) T9.heap n0 (Nat.le_trans (Nat.le_trans (Nat.le_trans (Nat.le_trans (Nat.le_trans (Nat.le_trans (Nat.le_trans Z0 E2.1) E4.1) Kq5.1) E6.1) Kq7.1) Kq8.1) Kq9.1) Fsz9) hZ (hw _ (List.mem_of_getElem? (i := 26) rfl)) (hw _ (List.mem_of_getElem? (i := 2) rfl)) (by decide) (by decide)) q10a q10c (g := (mkF m 177 #[.val (.int p1), .val (.int (1 : Int32)), .val (.int (1 : Int32)), .val (.int (0 : Int32)), .val (.int (0 : Int32)), .val (.ref b2), .val (.ref b4), .val (.ref b6), .val (.int (((0 : Int32) + (1 : Int32)) + (1 : Int32))), .val (.int (if (((0 : Int32) + (1 : Int32)) + (1 : Int32)) = (0 : Int32) then (1 : Int32) else 0)), .unset, .unset] [(.ref b2)])) rfl (by rw [hml]; rfl) (Steps.refl _) (argsL := []) (rest := []) (lenOf pd_0_2 rfl) rfl (by show 2 * 0 + _ ≤ _; exact Nat.le_of_eq rfl) (hb hby at_177) (fun _ _ => ⟨rfl, rfl, (by decide : 3 + 0 ≤ _), (by decide : 23 + 0 ≤ _)⟩)
  dsimp only [Pt.U, Pt.locs, Pt.cells, Pt.slots] at X10 l10 y10 z10 st10 hQ10
  subst l10 y10 z10
  obtain ⟨rfl, N10q, e10⟩ := hQ10
  have N10 := Fr.app N9 N10q
  obtain ⟨cq11, kq11, q11a, q11b, q11c⟩ := isOf hZ e10 E_o9
  obtain ⟨_, _, ⟨T11, L11, k11, n11⟩, -, X11, ⟨Lc11, hQ11, l11, y11, z11⟩, st11⟩ := X10.virtualBack hx (y := (⟨"com/example/idlewell/idlewell/engine/ObjectList", "newest", "()Lcom/example/idlewell/idlewell/engine/PooledObject;"⟩ : MethodName)) (z := (⟨"com/example/idlewell/idlewell/engine/ObjectList", "newest", "()Lcom/example/idlewell/idlewell/engine/PooledObject;"⟩ : MethodName)) hown (mvT hZ (hw _ (List.mem_of_getElem? (i := 29) rfl))) (mvT hZ (hw _ (List.mem_of_getElem? (i := 30) rfl))) (notFace_of_selects (args := #[]) (mvT hZ (hw _ (List.mem_of_getElem? (i := 32) rfl)))) (mvT hZ (hw _ (List.mem_of_getElem? (i := 32) rfl))) (mvT hZ (hw _ (List.mem_of_getElem? (i := 31) rfl))) (by decide) (backOf (W := 0) (rm5r l Z a0 hw [] b2 b6 T9.heap n0 (Nat.le_trans (Nat.le_trans (Nat.le_trans (Nat.le_trans (Nat.le_trans (Nat.le_trans (Nat.le_trans Z0 E2.1) E4.1) Kq5.1) E6.1) Kq7.1) Kq8.1) Kq9.1) Fnw9) hZ (hw _ (List.mem_of_getElem? (i := 33) rfl)) (hw _ (List.mem_of_getElem? (i := 2) rfl)) (by decide) (by decide)) q11a q11c (g := (mkF m 184 #[.val (.int p1), .val (.int (1 : Int32)), .val (.int (1 : Int32)), .val (.int (0 : Int32)), .val (.int (0 : Int32)), .val (.ref b2), .val (.ref b4), .val (.ref b6), .val (.int (((0 : Int32) + (1 : Int32)) + (1 : Int32))), .val (.int (if (((0 : Int32) + (1 : Int32)) + (1 : Int32)) = (0 : Int32) then (1 : Int32) else 0)), .val (.int (if (((0 : Int32) + (1 : Int32)) + (1 : Int32)) = (0 : Int32) then (1 : Int32) else 0)), .unset] [(.ref b2)])) rfl (by rw [hml]; rfl) (Steps.refl _) (argsL := []) (rest := []) (lenOf pd_0_3 rfl) rfl (by show 2 * 0 + _ ≤ _; exact Nat.le_of_eq rfl) (hb hby at_184) (fun _ _ => ⟨rfl, e10, (by decide : 3 + 0 ≤ _), (by decide : 23 + 0 ≤ _)⟩)
  dsimp only [Pt.U, Pt.locs, Pt.cells, Pt.slots] at X11 l11 y11 z11 st11 hQ11
  subst l11 y11 z11
  obtain ⟨rfl, N11q, e11⟩ := hQ11
  have N11 := Fr.app N10 N11q
  obtain ⟨fs, hr, hrun, hended, hW, hsame⟩ := X11.leave (v := some (.int (1 : Int32))) (fun h => by rw [Bd.returns] at h; cases h)
  refine ⟨_, _, pre0 _ ?_, hrun, hended, _, _, rfl, ?_, ⟨_, rfl⟩, hW, hsame.mono (by decide) (by decide)⟩
  · show Steps p.tables e below (s₁.setTop (mkF m 0 #[.val (.int p1), .unset, .unset, .unset, .unset, .unset, .unset, .unset, .unset, .unset, .unset, .unset] [])) _
    refine XS.iloadN X0.here hx rfl (hb hby at_0) rfl ?_
    show Steps p.tables e below (s₁.setTop (mkF m 1 #[.val (.int p1), .unset, .unset, .unset, .unset, .unset, .unset, .unset, .unset, .unset, .unset, .unset] [(.int p1)])) _
    refine XS.iconst X0.here hx rfl (hb hby at_1) ?_
    show Steps p.tables e below (s₁.setTop (mkF m 2 #[.val (.int p1), .unset, .unset, .unset, .unset, .unset, .unset, .unset, .unset, .unset, .unset, .unset] [(.int (1 : Int32)), (.int p1)])) _
    refine XS.iand X0.here hx rfl (hb hby at_2) rfl ?_
    show Steps p.tables e below (s₁.setTop (mkF m 3 #[.val (.int p1), .unset, .unset, .unset, .unset, .unset, .unset, .unset, .unset, .unset, .unset, .unset] [(.int (p1 &&& (1 : Int32)))])) _
    refine XS.ifNo X0.here hx rfl (hb hby at_3) rfl ((if0 _ _).trans (feq hc3).1) ?_
    show Steps p.tables e below (s₁.setTop (mkF m 6 #[.val (.int p1), .unset, .unset, .unset, .unset, .unset, .unset, .unset, .unset, .unset, .unset, .unset] [])) _
    refine XS.iconst X0.here hx rfl (hb hby at_6) ?_
    show Steps p.tables e below (s₁.setTop (mkF m 7 #[.val (.int p1), .unset, .unset, .unset, .unset, .unset, .unset, .unset, .unset, .unset, .unset, .unset] [(.int (1 : Int32))])) _
    refine XS.goto X0.here hx rfl (pc0 := 7) (pc' := 11) rfl (hb hby at_7) (by decide) (by decide) ?_
    show Steps p.tables e below (s₁.setTop (mkF m 11 #[.val (.int p1), .unset, .unset, .unset, .unset, .unset, .unset, .unset, .unset, .unset, .unset, .unset] [(.int (1 : Int32))])) _
    refine XS.istoreN X0.here hx rfl (hb hby at_11) rfl (l' := #[.val (.int p1), .val (.int (1 : Int32)), .unset, .unset, .unset, .unset, .unset, .unset, .unset, .unset, .unset, .unset]) rfl ?_
    show Steps p.tables e below (s₁.setTop (mkF m 12 #[.val (.int p1), .val (.int (1 : Int32)), .unset, .unset, .unset, .unset, .unset, .unset, .unset, .unset, .unset, .unset] [])) _
    refine XS.iloadN X0.here hx rfl (hb hby at_12) rfl ?_
    show Steps p.tables e below (s₁.setTop (mkF m 13 #[.val (.int p1), .val (.int (1 : Int32)), .unset, .unset, .unset, .unset, .unset, .unset, .unset, .unset, .unset, .unset] [(.int p1)])) _
    refine XS.iconst X0.here hx rfl (hb hby at_13) ?_
    show Steps p.tables e below (s₁.setTop (mkF m 14 #[.val (.int p1), .val (.int (1 : Int32)), .unset, .unset, .unset, .unset, .unset, .unset, .unset, .unset, .unset, .unset] [(.int (2 : Int32)), (.int p1)])) _
    refine XS.iand X0.here hx rfl (hb hby at_14) rfl ?_
    show Steps p.tables e below (s₁.setTop (mkF m 15 #[.val (.int p1), .val (.int (1 : Int32)), .unset, .unset, .unset, .unset, .unset, .unset, .unset, .unset, .unset, .unset] [(.int (p1 &&& (2 : Int32)))])) _
    refine XS.ifNo X0.here hx rfl (hb hby at_15) rfl ((if0 _ _).trans (feq hc15).1) ?_
    show Steps p.tables e below (s₁.setTop (mkF m 18 #[.val (.int p1), .val (.int (1 : Int32)), .unset, .unset, .unset, .unset, .unset, .unset, .unset, .unset, .unset, .unset] [])) _
    refine XS.iconst X0.here hx rfl (hb hby at_18) ?_
    show Steps p.tables e below (s₁.setTop (mkF m 19 #[.val (.int p1), .val (.int (1 : Int32)), .unset, .unset, .unset, .unset, .unset, .unset, .unset, .unset, .unset, .unset] [(.int (1 : Int32))])) _
    refine XS.goto X0.here hx rfl (pc0 := 19) (pc' := 23) rfl (hb hby at_19) (by decide) (by decide) ?_
    show Steps p.tables e below (s₁.setTop (mkF m 23 #[.val (.int p1), .val (.int (1 : Int32)), .unset, .unset, .unset, .unset, .unset, .unset, .unset, .unset, .unset, .unset] [(.int (1 : Int32))])) _
    refine XS.istoreN X0.here hx rfl (hb hby at_23) rfl (l' := #[.val (.int p1), .val (.int (1 : Int32)), .val (.int (1 : Int32)), .unset, .unset, .unset, .unset, .unset, .unset, .unset, .unset, .unset]) rfl ?_
    show Steps p.tables e below (s₁.setTop (mkF m 24 #[.val (.int p1), .val (.int (1 : Int32)), .val (.int (1 : Int32)), .unset, .unset, .unset, .unset, .unset, .unset, .unset, .unset, .unset] [])) _
    refine XS.iloadN X0.here hx rfl (hb hby at_24) rfl ?_
    show Steps p.tables e below (s₁.setTop (mkF m 25 #[.val (.int p1), .val (.int (1 : Int32)), .val (.int (1 : Int32)), .unset, .unset, .unset, .unset, .unset, .unset, .unset, .unset, .unset] [(.int (1 : Int32))])) _
    refine XS.ifNo X0.here hx rfl (hb hby at_25) rfl ((if0 _ _).trans (feq hc25).1) ?_
    show Steps p.tables e below (s₁.setTop (mkF m 28 #[.val (.int p1), .val (.int (1 : Int32)), .val (.int (1 : Int32)), .unset, .unset, .unset, .unset, .unset, .unset, .unset, .unset, .unset] [])) _
    refine XS.iloadN X0.here hx rfl (hb hby at_28) rfl ?_
    show Steps p.tables e below (s₁.setTop (mkF m 29 #[.val (.int p1), .val (.int (1 : Int32)), .val (.int (1 : Int32)), .unset, .unset, .unset, .unset, .unset, .unset, .unset, .unset, .unset] [(.int p1)])) _
    refine XS.iconst X0.here hx rfl (hb hby at_29) ?_
    show Steps p.tables e below (s₁.setTop (mkF m 30 #[.val (.int p1), .val (.int (1 : Int32)), .val (.int (1 : Int32)), .unset, .unset, .unset, .unset, .unset, .unset, .unset, .unset, .unset] [(.int (4 : Int32)), (.int p1)])) _
    refine XS.iand X0.here hx rfl (hb hby at_30) rfl ?_
    show Steps p.tables e below (s₁.setTop (mkF m 31 #[.val (.int p1), .val (.int (1 : Int32)), .val (.int (1 : Int32)), .unset, .unset, .unset, .unset, .unset, .unset, .unset, .unset, .unset] [(.int (p1 &&& (4 : Int32)))])) _
    refine XS.ifYes X0.here hx rfl (pc0 := 31) (pc' := 38) rfl (hb hby at_31) rfl ((if0 _ _).trans (teq hc31).1) (by decide) (by decide) ?_
    show Steps p.tables e below (s₁.setTop (mkF m 38 #[.val (.int p1), .val (.int (1 : Int32)), .val (.int (1 : Int32)), .unset, .unset, .unset, .unset, .unset, .unset, .unset, .unset, .unset] [])) _
    refine XS.iconst X0.here hx rfl (hb hby at_38) ?_
    show Steps p.tables e below (s₁.setTop (mkF m 39 #[.val (.int p1), .val (.int (1 : Int32)), .val (.int (1 : Int32)), .unset, .unset, .unset, .unset, .unset, .unset, .unset, .unset, .unset] [(.int (0 : Int32))])) _
    refine XS.istoreN X0.here hx rfl (hb hby at_39) rfl (l' := #[.val (.int p1), .val (.int (1 : Int32)), .val (.int (1 : Int32)), .val (.int (0 : Int32)), .unset, .unset, .unset, .unset, .unset, .unset, .unset, .unset]) rfl ?_
    show Steps p.tables e below (s₁.setTop (mkF m 40 #[.val (.int p1), .val (.int (1 : Int32)), .val (.int (1 : Int32)), .val (.int (0 : Int32)), .unset, .unset, .unset, .unset, .unset, .unset, .unset, .unset] [])) _
    refine XS.iloadN X0.here hx rfl (hb hby at_40) rfl ?_
    show Steps p.tables e below (s₁.setTop (mkF m 41 #[.val (.int p1), .val (.int (1 : Int32)), .val (.int (1 : Int32)), .val (.int (0 : Int32)), .unset, .unset, .unset, .unset, .unset, .unset, .unset, .unset] [(.int (1 : Int32))])) _
    refine XS.ifNo X0.here hx rfl (hb hby at_41) rfl ((if0 _ _).trans (feq hc41).1) ?_
    show Steps p.tables e below (s₁.setTop (mkF m 44 #[.val (.int p1), .val (.int (1 : Int32)), .val (.int (1 : Int32)), .val (.int (0 : Int32)), .unset, .unset, .unset, .unset, .unset, .unset, .unset, .unset] [])) _
    refine XS.iloadN X0.here hx rfl (hb hby at_44) rfl ?_
    show Steps p.tables e below (s₁.setTop (mkF m 45 #[.val (.int p1), .val (.int (1 : Int32)), .val (.int (1 : Int32)), .val (.int (0 : Int32)), .unset, .unset, .unset, .unset, .unset, .unset, .unset, .unset] [(.int p1)])) _
    refine XS.bipush X0.here hx rfl (hb hby at_45) ?_
    show Steps p.tables e below (s₁.setTop (mkF m 47 #[.val (.int p1), .val (.int (1 : Int32)), .val (.int (1 : Int32)), .val (.int (0 : Int32)), .unset, .unset, .unset, .unset, .unset, .unset, .unset, .unset] [(.int (8 : Int32)), (.int p1)])) _
    refine XS.iand X0.here hx rfl (hb hby at_47) rfl ?_
    show Steps p.tables e below (s₁.setTop (mkF m 48 #[.val (.int p1), .val (.int (1 : Int32)), .val (.int (1 : Int32)), .val (.int (0 : Int32)), .unset, .unset, .unset, .unset, .unset, .unset, .unset, .unset] [(.int (p1 &&& (8 : Int32)))])) _
    refine XS.ifYes X0.here hx rfl (pc0 := 48) (pc' := 55) rfl (hb hby at_48) rfl ((if0 _ _).trans (teq hc48).1) (by decide) (by decide) ?_
    show Steps p.tables e below (s₁.setTop (mkF m 55 #[.val (.int p1), .val (.int (1 : Int32)), .val (.int (1 : Int32)), .val (.int (0 : Int32)), .unset, .unset, .unset, .unset, .unset, .unset, .unset, .unset] [])) _
    refine XS.iconst X0.here hx rfl (hb hby at_55) ?_
    show Steps p.tables e below (s₁.setTop (mkF m 56 #[.val (.int p1), .val (.int (1 : Int32)), .val (.int (1 : Int32)), .val (.int (0 : Int32)), .unset, .unset, .unset, .unset, .unset, .unset, .unset, .unset] [(.int (0 : Int32))])) _
    refine XS.istore X0.here hx rfl (hb hby at_56) rfl (l' := #[.val (.int p1), .val (.int (1 : Int32)), .val (.int (1 : Int32)), .val (.int (0 : Int32)), .val (.int (0 : Int32)), .unset, .unset, .unset, .unset, .unset, .unset, .unset]) rfl ?_
    show Steps p.tables e below (s₁.setTop (mkF m 58 #[.val (.int p1), .val (.int (1 : Int32)), .val (.int (1 : Int32)), .val (.int (0 : Int32)), .val (.int (0 : Int32)), .unset, .unset, .unset, .unset, .unset, .unset, .unset] [])) _
    refine st2 _ ?_
    show Steps p.tables e below (T2.setTop (mkF m 61 #[.val (.int p1), .val (.int (1 : Int32)), .val (.int (1 : Int32)), .val (.int (0 : Int32)), .val (.int (0 : Int32)), .unset, .unset, .unset, .unset, .unset, .unset, .unset] [(.ref b2)])) _
    refine XS.dup X2.here hx rfl (hb hby at_61) rfl rfl ?_
    show Steps p.tables e below (T2.setTop (mkF m 62 #[.val (.int p1), .val (.int (1 : Int32)), .val (.int (1 : Int32)), .val (.int (0 : Int32)), .val (.int (0 : Int32)), .unset, .unset, .unset, .unset, .unset, .unset, .unset] [(.ref b2), (.ref b2)])) _
    refine st3.trans ?_
    show Steps p.tables e below (T3.setTop (mkF m 65 #[.val (.int p1), .val (.int (1 : Int32)), .val (.int (1 : Int32)), .val (.int (0 : Int32)), .val (.int (0 : Int32)), .unset, .unset, .unset, .unset, .unset, .unset, .unset] [(.ref b2)])) _
    refine XS.astore X3.here hx rfl (hb hby at_65) rfl rfl (l' := #[.val (.int p1), .val (.int (1 : Int32)), .val (.int (1 : Int32)), .val (.int (0 : Int32)), .val (.int (0 : Int32)), .val (.ref b2), .unset, .unset, .unset, .unset, .unset, .unset]) rfl ?_
    show Steps p.tables e below (T3.setTop (mkF m 67 #[.val (.int p1), .val (.int (1 : Int32)), .val (.int (1 : Int32)), .val (.int (0 : Int32)), .val (.int (0 : Int32)), .val (.ref b2), .unset, .unset, .unset, .unset, .unset, .unset] [])) _
    refine st4 _ ?_
    show Steps p.tables e below (T4.setTop (mkF m 70 #[.val (.int p1), .val (.int (1 : Int32)), .val (.int (1 : Int32)), .val (.int (0 : Int32)), .val (.int (0 : Int32)), .val (.ref b2), .unset, .unset, .unset, .unset, .unset, .unset] [(.ref b4)])) _
    refine XS.dup X4.here hx rfl (hb hby at_70) rfl rfl ?_
    show Steps p.tables e below (T4.setTop (mkF m 71 #[.val (.int p1), .val (.int (1 : Int32)), .val (.int (1 : Int32)), .val (.int (0 : Int32)), .val (.int (0 : Int32)), .val (.ref b2), .unset, .unset, .unset, .unset, .unset, .unset] [(.ref b4), (.ref b4)])) _
    refine XS.aconstNull X4.here hx rfl (hb hby at_71) ?_
    show Steps p.tables e below (T4.setTop (mkF m 72 #[.val (.int p1), .val (.int (1 : Int32)), .val (.int (1 : Int32)), .val (.int (0 : Int32)), .val (.int (0 : Int32)), .val (.ref b2), .unset, .unset, .unset, .unset, .unset, .unset] [.null, (.ref b4), (.ref b4)])) _
    refine XS.aconstNull X4.here hx rfl (hb hby at_72) ?_
    show Steps p.tables e below (T4.setTop (mkF m 73 #[.val (.int p1), .val (.int (1 : Int32)), .val (.int (1 : Int32)), .val (.int (0 : Int32)), .val (.int (0 : Int32)), .val (.ref b2), .unset, .unset, .unset, .unset, .unset, .unset] [.null, .null, (.ref b4), (.ref b4)])) _
    refine XS.iconst X4.here hx rfl (hb hby at_73) ?_
    show Steps p.tables e below (T4.setTop (mkF m 74 #[.val (.int p1), .val (.int (1 : Int32)), .val (.int (1 : Int32)), .val (.int (0 : Int32)), .val (.int (0 : Int32)), .val (.ref b2), .unset, .unset, .unset, .unset, .unset, .unset] [(.int (0 : Int32)), .null, .null, (.ref b4), (.ref b4)])) _
    refine st5.trans ?_
    show Steps p.tables e below (T5.setTop (mkF m 77 #[.val (.int p1), .val (.int (1 : Int32)), .val (.int (1 : Int32)), .val (.int (0 : Int32)), .val (.int (0 : Int32)), .val (.ref b2), .unset, .unset, .unset, .unset, .unset, .unset] [(.ref b4)])) _
    refine XS.astore X5.here hx rfl (hb hby at_77) rfl rfl (l' := #[.val (.int p1), .val (.int (1 : Int32)), .val (.int (1 : Int32)), .val (.int (0 : Int32)), .val (.int (0 : Int32)), .val (.ref b2), .val (.ref b4), .unset, .unset, .unset, .unset, .unset]) rfl ?_
    show Steps p.tables e below (T5.setTop (mkF m 79 #[.val (.int p1), .val (.int (1 : Int32)), .val (.int (1 : Int32)), .val (.int (0 : Int32)), .val (.int (0 : Int32)), .val (.ref b2), .val (.ref b4), .unset, .unset, .unset, .unset, .unset] [])) _
    refine st6 _ ?_
    show Steps p.tables e below (T6.setTop (mkF m 82 #[.val (.int p1), .val (.int (1 : Int32)), .val (.int (1 : Int32)), .val (.int (0 : Int32)), .val (.int (0 : Int32)), .val (.ref b2), .val (.ref b4), .unset, .unset, .unset, .unset, .unset] [(.ref b6)])) _
    refine XS.dup X6.here hx rfl (hb hby at_82) rfl rfl ?_
    show Steps p.tables e below (T6.setTop (mkF m 83 #[.val (.int p1), .val (.int (1 : Int32)), .val (.int (1 : Int32)), .val (.int (0 : Int32)), .val (.int (0 : Int32)), .val (.ref b2), .val (.ref b4), .unset, .unset, .unset, .unset, .unset] [(.ref b6), (.ref b6)])) _
    refine XS.aconstNull X6.here hx rfl (hb hby at_83) ?_
    show Steps p.tables e below (T6.setTop (mkF m 84 #[.val (.int p1), .val (.int (1 : Int32)), .val (.int (1 : Int32)), .val (.int (0 : Int32)), .val (.int (0 : Int32)), .val (.ref b2), .val (.ref b4), .unset, .unset, .unset, .unset, .unset] [.null, (.ref b6), (.ref b6)])) _
    refine XS.aconstNull X6.here hx rfl (hb hby at_84) ?_
    show Steps p.tables e below (T6.setTop (mkF m 85 #[.val (.int p1), .val (.int (1 : Int32)), .val (.int (1 : Int32)), .val (.int (0 : Int32)), .val (.int (0 : Int32)), .val (.ref b2), .val (.ref b4), .unset, .unset, .unset, .unset, .unset] [.null, .null, (.ref b6), (.ref b6)])) _
    refine XS.iconst X6.here hx rfl (hb hby at_85) ?_
    show Steps p.tables e below (T6.setTop (mkF m 86 #[.val (.int p1), .val (.int (1 : Int32)), .val (.int (1 : Int32)), .val (.int (0 : Int32)), .val (.int (0 : Int32)), .val (.ref b2), .val (.ref b4), .unset, .unset, .unset, .unset, .unset] [(.int (0 : Int32)), .null, .null, (.ref b6), (.ref b6)])) _
    refine st7.trans ?_
    show Steps p.tables e below (T7.setTop (mkF m 89 #[.val (.int p1), .val (.int (1 : Int32)), .val (.int (1 : Int32)), .val (.int (0 : Int32)), .val (.int (0 : Int32)), .val (.ref b2), .val (.ref b4), .unset, .unset, .unset, .unset, .unset] [(.ref b6)])) _
    refine XS.astore X7.here hx rfl (hb hby at_89) rfl rfl (l' := #[.val (.int p1), .val (.int (1 : Int32)), .val (.int (1 : Int32)), .val (.int (0 : Int32)), .val (.int (0 : Int32)), .val (.ref b2), .val (.ref b4), .val (.ref b6), .unset, .unset, .unset, .unset]) rfl ?_
    show Steps p.tables e below (T7.setTop (mkF m 91 #[.val (.int p1), .val (.int (1 : Int32)), .val (.int (1 : Int32)), .val (.int (0 : Int32)), .val (.int (0 : Int32)), .val (.ref b2), .val (.ref b4), .val (.ref b6), .unset, .unset, .unset, .unset] [])) _
    refine XS.iconst X7.here hx rfl (hb hby at_91) ?_
    show Steps p.tables e below (T7.setTop (mkF m 92 #[.val (.int p1), .val (.int (1 : Int32)), .val (.int (1 : Int32)), .val (.int (0 : Int32)), .val (.int (0 : Int32)), .val (.ref b2), .val (.ref b4), .val (.ref b6), .unset, .unset, .unset, .unset] [(.int (0 : Int32))])) _
    refine XS.istore X7.here hx rfl (hb hby at_92) rfl (l' := #[.val (.int p1), .val (.int (1 : Int32)), .val (.int (1 : Int32)), .val (.int (0 : Int32)), .val (.int (0 : Int32)), .val (.ref b2), .val (.ref b4), .val (.ref b6), .val (.int (0 : Int32)), .unset, .unset, .unset]) rfl ?_
    show Steps p.tables e below (T7.setTop (mkF m 94 #[.val (.int p1), .val (.int (1 : Int32)), .val (.int (1 : Int32)), .val (.int (0 : Int32)), .val (.int (0 : Int32)), .val (.ref b2), .val (.ref b4), .val (.ref b6), .val (.int (0 : Int32)), .unset, .unset, .unset] [])) _
    refine XS.iloadN X7.here hx rfl (hb hby at_94) rfl ?_
    show Steps p.tables e below (T7.setTop (mkF m 95 #[.val (.int p1), .val (.int (1 : Int32)), .val (.int (1 : Int32)), .val (.int (0 : Int32)), .val (.int (0 : Int32)), .val (.ref b2), .val (.ref b4), .val (.ref b6), .val (.int (0 : Int32)), .unset, .unset, .unset] [(.int (1 : Int32))])) _
    refine XS.ifNo X7.here hx rfl (hb hby at_95) rfl ((if0 _ _).trans (feq hc95).1) ?_
    show Steps p.tables e below (T7.setTop (mkF m 98 #[.val (.int p1), .val (.int (1 : Int32)), .val (.int (1 : Int32)), .val (.int (0 : Int32)), .val (.int (0 : Int32)), .val (.ref b2), .val (.ref b4), .val (.ref b6), .val (.int (0 : Int32)), .unset, .unset, .unset] [])) _
    refine XS.aload X7.here hx rfl (hb hby at_98) rfl rfl ?_
    show Steps p.tables e below (T7.setTop (mkF m 100 #[.val (.int p1), .val (.int (1 : Int32)), .val (.int (1 : Int32)), .val (.int (0 : Int32)), .val (.int (0 : Int32)), .val (.ref b2), .val (.ref b4), .val (.ref b6), .val (.int (0 : Int32)), .unset, .unset, .unset] [(.ref b2)])) _
    refine XS.aload X7.here hx rfl (hb hby at_100) rfl rfl ?_
    show Steps p.tables e below (T7.setTop (mkF m 102 #[.val (.int p1), .val (.int (1 : Int32)), .val (.int (1 : Int32)), .val (.int (0 : Int32)), .val (.int (0 : Int32)), .val (.ref b2), .val (.ref b4), .val (.ref b6), .val (.int (0 : Int32)), .unset, .unset, .unset] [(.ref b4), (.ref b2)])) _
    refine st8.trans ?_
    show Steps p.tables e below (T8.setTop (mkF m 105 #[.val (.int p1), .val (.int (1 : Int32)), .val (.int (1 : Int32)), .val (.int (0 : Int32)), .val (.int (0 : Int32)), .val (.ref b2), .val (.ref b4), .val (.ref b6), .val (.int (0 : Int32)), .unset, .unset, .unset] [])) _
    refine XS.iload X8.here hx rfl (hb hby at_105) rfl ?_
    show Steps p.tables e below (T8.setTop (mkF m 107 #[.val (.int p1), .val (.int (1 : Int32)), .val (.int (1 : Int32)), .val (.int (0 : Int32)), .val (.int (0 : Int32)), .val (.ref b2), .val (.ref b4), .val (.ref b6), .val (.int (0 : Int32)), .unset, .unset, .unset] [(.int (0 : Int32))])) _
    refine XS.iconst X8.here hx rfl (hb hby at_107) ?_
    show Steps p.tables e below (T8.setTop (mkF m 108 #[.val (.int p1), .val (.int (1 : Int32)), .val (.int (1 : Int32)), .val (.int (0 : Int32)), .val (.int (0 : Int32)), .val (.ref b2), .val (.ref b4), .val (.ref b6), .val (.int (0 : Int32)), .unset, .unset, .unset] [(.int (1 : Int32)), (.int (0 : Int32))])) _
    refine XS.iadd X8.here hx rfl (hb hby at_108) rfl ?_
    show Steps p.tables e below (T8.setTop (mkF m 109 #[.val (.int p1), .val (.int (1 : Int32)), .val (.int (1 : Int32)), .val (.int (0 : Int32)), .val (.int (0 : Int32)), .val (.ref b2), .val (.ref b4), .val (.ref b6), .val (.int (0 : Int32)), .unset, .unset, .unset] [(.int ((0 : Int32) + (1 : Int32)))])) _
    refine XS.istore X8.here hx rfl (hb hby at_109) rfl (l' := #[.val (.int p1), .val (.int (1 : Int32)), .val (.int (1 : Int32)), .val (.int (0 : Int32)), .val (.int (0 : Int32)), .val (.ref b2), .val (.ref b4), .val (.ref b6), .val (.int ((0 : Int32) + (1 : Int32))), .unset, .unset, .unset]) rfl ?_
    show Steps p.tables e below (T8.setTop (mkF m 111 #[.val (.int p1), .val (.int (1 : Int32)), .val (.int (1 : Int32)), .val (.int (0 : Int32)), .val (.int (0 : Int32)), .val (.ref b2), .val (.ref b4), .val (.ref b6), .val (.int ((0 : Int32) + (1 : Int32))), .unset, .unset, .unset] [])) _
    refine XS.iloadN X8.here hx rfl (hb hby at_111) rfl ?_
    show Steps p.tables e below (T8.setTop (mkF m 112 #[.val (.int p1), .val (.int (1 : Int32)), .val (.int (1 : Int32)), .val (.int (0 : Int32)), .val (.int (0 : Int32)), .val (.ref b2), .val (.ref b4), .val (.ref b6), .val (.int ((0 : Int32) + (1 : Int32))), .unset, .unset, .unset] [(.int (1 : Int32))])) _
    refine XS.ifNo X8.here hx rfl (hb hby at_112) rfl ((if0 _ _).trans (feq hc112).1) ?_
    show Steps p.tables e below (T8.setTop (mkF m 115 #[.val (.int p1), .val (.int (1 : Int32)), .val (.int (1 : Int32)), .val (.int (0 : Int32)), .val (.int (0 : Int32)), .val (.ref b2), .val (.ref b4), .val (.ref b6), .val (.int ((0 : Int32) + (1 : Int32))), .unset, .unset, .unset] [])) _
    refine XS.aload X8.here hx rfl (hb hby at_115) rfl rfl ?_
    show Steps p.tables e below (T8.setTop (mkF m 117 #[.val (.int p1), .val (.int (1 : Int32)), .val (.int (1 : Int32)), .val (.int (0 : Int32)), .val (.int (0 : Int32)), .val (.ref b2), .val (.ref b4), .val (.ref b6), .val (.int ((0 : Int32) + (1 : Int32))), .unset, .unset, .unset] [(.ref b2)])) _
    refine XS.aload X8.here hx rfl (hb hby at_117) rfl rfl ?_
    show Steps p.tables e below (T8.setTop (mkF m 119 #[.val (.int p1), .val (.int (1 : Int32)), .val (.int (1 : Int32)), .val (.int (0 : Int32)), .val (.int (0 : Int32)), .val (.ref b2), .val (.ref b4), .val (.ref b6), .val (.int ((0 : Int32) + (1 : Int32))), .unset, .unset, .unset] [(.ref b6), (.ref b2)])) _
    refine st9.trans ?_
    show Steps p.tables e below (T9.setTop (mkF m 122 #[.val (.int p1), .val (.int (1 : Int32)), .val (.int (1 : Int32)), .val (.int (0 : Int32)), .val (.int (0 : Int32)), .val (.ref b2), .val (.ref b4), .val (.ref b6), .val (.int ((0 : Int32) + (1 : Int32))), .unset, .unset, .unset] [])) _
    refine XS.iload X9.here hx rfl (hb hby at_122) rfl ?_
    show Steps p.tables e below (T9.setTop (mkF m 124 #[.val (.int p1), .val (.int (1 : Int32)), .val (.int (1 : Int32)), .val (.int (0 : Int32)), .val (.int (0 : Int32)), .val (.ref b2), .val (.ref b4), .val (.ref b6), .val (.int ((0 : Int32) + (1 : Int32))), .unset, .unset, .unset] [(.int ((0 : Int32) + (1 : Int32)))])) _
    refine XS.iconst X9.here hx rfl (hb hby at_124) ?_
    show Steps p.tables e below (T9.setTop (mkF m 125 #[.val (.int p1), .val (.int (1 : Int32)), .val (.int (1 : Int32)), .val (.int (0 : Int32)), .val (.int (0 : Int32)), .val (.ref b2), .val (.ref b4), .val (.ref b6), .val (.int ((0 : Int32) + (1 : Int32))), .unset, .unset, .unset] [(.int (1 : Int32)), (.int ((0 : Int32) + (1 : Int32)))])) _
    refine XS.iadd X9.here hx rfl (hb hby at_125) rfl ?_
    show Steps p.tables e below (T9.setTop (mkF m 126 #[.val (.int p1), .val (.int (1 : Int32)), .val (.int (1 : Int32)), .val (.int (0 : Int32)), .val (.int (0 : Int32)), .val (.ref b2), .val (.ref b4), .val (.ref b6), .val (.int ((0 : Int32) + (1 : Int32))), .unset, .unset, .unset] [(.int (((0 : Int32) + (1 : Int32)) + (1 : Int32)))])) _
    refine XS.istore X9.here hx rfl (hb hby at_126) rfl (l' := #[.val (.int p1), .val (.int (1 : Int32)), .val (.int (1 : Int32)), .val (.int (0 : Int32)), .val (.int (0 : Int32)), .val (.ref b2), .val (.ref b4), .val (.ref b6), .val (.int (((0 : Int32) + (1 : Int32)) + (1 : Int32))), .unset, .unset, .unset]) rfl ?_
    show Steps p.tables e below (T9.setTop (mkF m 128 #[.val (.int p1), .val (.int (1 : Int32)), .val (.int (1 : Int32)), .val (.int (0 : Int32)), .val (.int (0 : Int32)), .val (.ref b2), .val (.ref b4), .val (.ref b6), .val (.int (((0 : Int32) + (1 : Int32)) + (1 : Int32))), .unset, .unset, .unset] [])) _
    refine XS.iloadN X9.here hx rfl (hb hby at_128) rfl ?_
    show Steps p.tables e below (T9.setTop (mkF m 129 #[.val (.int p1), .val (.int (1 : Int32)), .val (.int (1 : Int32)), .val (.int (0 : Int32)), .val (.int (0 : Int32)), .val (.ref b2), .val (.ref b4), .val (.ref b6), .val (.int (((0 : Int32) + (1 : Int32)) + (1 : Int32))), .unset, .unset, .unset] [(.int (0 : Int32))])) _
    refine XS.ifYes X9.here hx rfl (pc0 := 129) (pc' := 145) rfl (hb hby at_129) rfl ((if0 _ _).trans (teq (rfl : (0 : Int32) = (0 : Int32))).1) (by decide) (by decide) ?_
    show Steps p.tables e below (T9.setTop (mkF m 145 #[.val (.int p1), .val (.int (1 : Int32)), .val (.int (1 : Int32)), .val (.int (0 : Int32)), .val (.int (0 : Int32)), .val (.ref b2), .val (.ref b4), .val (.ref b6), .val (.int (((0 : Int32) + (1 : Int32)) + (1 : Int32))), .unset, .unset, .unset] [])) _
    refine XS.iload X9.here hx rfl (hb hby at_145) rfl ?_
    show Steps p.tables e below (T9.setTop (mkF m 147 #[.val (.int p1), .val (.int (1 : Int32)), .val (.int (1 : Int32)), .val (.int (0 : Int32)), .val (.int (0 : Int32)), .val (.ref b2), .val (.ref b4), .val (.ref b6), .val (.int (((0 : Int32) + (1 : Int32)) + (1 : Int32))), .unset, .unset, .unset] [(.int (0 : Int32))])) _
    refine XS.ifYes X9.here hx rfl (pc0 := 147) (pc' := 163) rfl (hb hby at_147) rfl ((if0 _ _).trans (teq (rfl : (0 : Int32) = (0 : Int32))).1) (by decide) (by decide) ?_
    show Steps p.tables e below (T9.setTop (mkF m 163 #[.val (.int p1), .val (.int (1 : Int32)), .val (.int (1 : Int32)), .val (.int (0 : Int32)), .val (.int (0 : Int32)), .val (.ref b2), .val (.ref b4), .val (.ref b6), .val (.int (((0 : Int32) + (1 : Int32)) + (1 : Int32))), .unset, .unset, .unset] [])) _
    refine XS.iload X9.here hx rfl (hb hby at_163) rfl ?_
    show Steps p.tables e below (T9.setTop (mkF m 165 #[.val (.int p1), .val (.int (1 : Int32)), .val (.int (1 : Int32)), .val (.int (0 : Int32)), .val (.int (0 : Int32)), .val (.ref b2), .val (.ref b4), .val (.ref b6), .val (.int (((0 : Int32) + (1 : Int32)) + (1 : Int32))), .unset, .unset, .unset] [(.int (((0 : Int32) + (1 : Int32)) + (1 : Int32)))])) _
    refine own_tif_ne X9.here hx (hb hby at_165) (hb hby at_168) (hb hby at_169) (hb hby at_172) ?_
    show Steps p.tables e below (T9.setTop (mkF m 173 #[.val (.int p1), .val (.int (1 : Int32)), .val (.int (1 : Int32)), .val (.int (0 : Int32)), .val (.int (0 : Int32)), .val (.ref b2), .val (.ref b4), .val (.ref b6), .val (.int (((0 : Int32) + (1 : Int32)) + (1 : Int32))), .unset, .unset, .unset] [(.int (if (((0 : Int32) + (1 : Int32)) + (1 : Int32)) = (0 : Int32) then (1 : Int32) else 0))])) _
    refine XS.istore X9.here hx rfl (hb hby at_173) rfl (l' := #[.val (.int p1), .val (.int (1 : Int32)), .val (.int (1 : Int32)), .val (.int (0 : Int32)), .val (.int (0 : Int32)), .val (.ref b2), .val (.ref b4), .val (.ref b6), .val (.int (((0 : Int32) + (1 : Int32)) + (1 : Int32))), .val (.int (if (((0 : Int32) + (1 : Int32)) + (1 : Int32)) = (0 : Int32) then (1 : Int32) else 0)), .unset, .unset]) rfl ?_
    show Steps p.tables e below (T9.setTop (mkF m 175 #[.val (.int p1), .val (.int (1 : Int32)), .val (.int (1 : Int32)), .val (.int (0 : Int32)), .val (.int (0 : Int32)), .val (.ref b2), .val (.ref b4), .val (.ref b6), .val (.int (((0 : Int32) + (1 : Int32)) + (1 : Int32))), .val (.int (if (((0 : Int32) + (1 : Int32)) + (1 : Int32)) = (0 : Int32) then (1 : Int32) else 0)), .unset, .unset] [])) _
    refine XS.aload X9.here hx rfl (hb hby at_175) rfl rfl ?_
    show Steps p.tables e below (T9.setTop (mkF m 177 #[.val (.int p1), .val (.int (1 : Int32)), .val (.int (1 : Int32)), .val (.int (0 : Int32)), .val (.int (0 : Int32)), .val (.ref b2), .val (.ref b4), .val (.ref b6), .val (.int (((0 : Int32) + (1 : Int32)) + (1 : Int32))), .val (.int (if (((0 : Int32) + (1 : Int32)) + (1 : Int32)) = (0 : Int32) then (1 : Int32) else 0)), .unset, .unset] [(.ref b2)])) _
    refine st10.trans ?_
    show Steps p.tables e below (T10.setTop (mkF m 180 #[.val (.int p1), .val (.int (1 : Int32)), .val (.int (1 : Int32)), .val (.int (0 : Int32)), .val (.int (0 : Int32)), .val (.ref b2), .val (.ref b4), .val (.ref b6), .val (.int (((0 : Int32) + (1 : Int32)) + (1 : Int32))), .val (.int (if (((0 : Int32) + (1 : Int32)) + (1 : Int32)) = (0 : Int32) then (1 : Int32) else 0)), .unset, .unset] [(.int (if (((0 : Int32) + (1 : Int32)) + (1 : Int32)) = (0 : Int32) then (1 : Int32) else 0))])) _
    refine XS.istore X10.here hx rfl (hb hby at_180) rfl (l' := #[.val (.int p1), .val (.int (1 : Int32)), .val (.int (1 : Int32)), .val (.int (0 : Int32)), .val (.int (0 : Int32)), .val (.ref b2), .val (.ref b4), .val (.ref b6), .val (.int (((0 : Int32) + (1 : Int32)) + (1 : Int32))), .val (.int (if (((0 : Int32) + (1 : Int32)) + (1 : Int32)) = (0 : Int32) then (1 : Int32) else 0)), .val (.int (if (((0 : Int32) + (1 : Int32)) + (1 : Int32)) = (0 : Int32) then (1 : Int32) else 0)), .unset]) rfl ?_
    show Steps p.tables e below (T10.setTop (mkF m 182 #[.val (.int p1), .val (.int (1 : Int32)), .val (.int (1 : Int32)), .val (.int (0 : Int32)), .val (.int (0 : Int32)), .val (.ref b2), .val (.ref b4), .val (.ref b6), .val (.int (((0 : Int32) + (1 : Int32)) + (1 : Int32))), .val (.int (if (((0 : Int32) + (1 : Int32)) + (1 : Int32)) = (0 : Int32) then (1 : Int32) else 0)), .val (.int (if (((0 : Int32) + (1 : Int32)) + (1 : Int32)) = (0 : Int32) then (1 : Int32) else 0)), .unset] [])) _
    refine XS.aload X10.here hx rfl (hb hby at_182) rfl rfl ?_
    show Steps p.tables e below (T10.setTop (mkF m 184 #[.val (.int p1), .val (.int (1 : Int32)), .val (.int (1 : Int32)), .val (.int (0 : Int32)), .val (.int (0 : Int32)), .val (.ref b2), .val (.ref b4), .val (.ref b6), .val (.int (((0 : Int32) + (1 : Int32)) + (1 : Int32))), .val (.int (if (((0 : Int32) + (1 : Int32)) + (1 : Int32)) = (0 : Int32) then (1 : Int32) else 0)), .val (.int (if (((0 : Int32) + (1 : Int32)) + (1 : Int32)) = (0 : Int32) then (1 : Int32) else 0)), .unset] [(.ref b2)])) _
    refine st11.trans ?_
    show Steps p.tables e below (T11.setTop (mkF m 187 #[.val (.int p1), .val (.int (1 : Int32)), .val (.int (1 : Int32)), .val (.int (0 : Int32)), .val (.int (0 : Int32)), .val (.ref b2), .val (.ref b4), .val (.ref b6), .val (.int (((0 : Int32) + (1 : Int32)) + (1 : Int32))), .val (.int (if (((0 : Int32) + (1 : Int32)) + (1 : Int32)) = (0 : Int32) then (1 : Int32) else 0)), .val (.int (if (((0 : Int32) + (1 : Int32)) + (1 : Int32)) = (0 : Int32) then (1 : Int32) else 0)), .unset] [(.ref b6)])) _
    refine XS.ifnonnullYes X11.here hx rfl (pc0 := 187) (pc' := 194) rfl (hb hby at_187) rfl (by decide) (by decide) ?_
    show Steps p.tables e below (T11.setTop (mkF m 194 #[.val (.int p1), .val (.int (1 : Int32)), .val (.int (1 : Int32)), .val (.int (0 : Int32)), .val (.int (0 : Int32)), .val (.ref b2), .val (.ref b4), .val (.ref b6), .val (.int (((0 : Int32) + (1 : Int32)) + (1 : Int32))), .val (.int (if (((0 : Int32) + (1 : Int32)) + (1 : Int32)) = (0 : Int32) then (1 : Int32) else 0)), .val (.int (if (((0 : Int32) + (1 : Int32)) + (1 : Int32)) = (0 : Int32) then (1 : Int32) else 0)), .unset] [])) _
    refine XS.iconst X11.here hx rfl (hb hby at_194) ?_
    show Steps p.tables e below (T11.setTop (mkF m 195 #[.val (.int p1), .val (.int (1 : Int32)), .val (.int (1 : Int32)), .val (.int (0 : Int32)), .val (.int (0 : Int32)), .val (.ref b2), .val (.ref b4), .val (.ref b6), .val (.int (((0 : Int32) + (1 : Int32)) + (1 : Int32))), .val (.int (if (((0 : Int32) + (1 : Int32)) + (1 : Int32)) = (0 : Int32) then (1 : Int32) else 0)), .val (.int (if (((0 : Int32) + (1 : Int32)) + (1 : Int32)) = (0 : Int32) then (1 : Int32) else 0)), .unset] [(.int (0 : Int32))])) _
    refine XS.istore X11.here hx rfl (hb hby at_195) rfl (l' := #[.val (.int p1), .val (.int (1 : Int32)), .val (.int (1 : Int32)), .val (.int (0 : Int32)), .val (.int (0 : Int32)), .val (.ref b2), .val (.ref b4), .val (.ref b6), .val (.int (((0 : Int32) + (1 : Int32)) + (1 : Int32))), .val (.int (if (((0 : Int32) + (1 : Int32)) + (1 : Int32)) = (0 : Int32) then (1 : Int32) else 0)), .val (.int (if (((0 : Int32) + (1 : Int32)) + (1 : Int32)) = (0 : Int32) then (1 : Int32) else 0)), .val (.int (0 : Int32))]) rfl ?_
    show Steps p.tables e below (T11.setTop (mkF m 197 #[.val (.int p1), .val (.int (1 : Int32)), .val (.int (1 : Int32)), .val (.int (0 : Int32)), .val (.int (0 : Int32)), .val (.ref b2), .val (.ref b4), .val (.ref b6), .val (.int (((0 : Int32) + (1 : Int32)) + (1 : Int32))), .val (.int (if (((0 : Int32) + (1 : Int32)) + (1 : Int32)) = (0 : Int32) then (1 : Int32) else 0)), .val (.int (if (((0 : Int32) + (1 : Int32)) + (1 : Int32)) = (0 : Int32) then (1 : Int32) else 0)), .val (.int (0 : Int32))] [])) _
    refine XS.iload X11.here hx rfl (hb hby at_197) rfl ?_
    show Steps p.tables e below (T11.setTop (mkF m 199 #[.val (.int p1), .val (.int (1 : Int32)), .val (.int (1 : Int32)), .val (.int (0 : Int32)), .val (.int (0 : Int32)), .val (.ref b2), .val (.ref b4), .val (.ref b6), .val (.int (((0 : Int32) + (1 : Int32)) + (1 : Int32))), .val (.int (if (((0 : Int32) + (1 : Int32)) + (1 : Int32)) = (0 : Int32) then (1 : Int32) else 0)), .val (.int (if (((0 : Int32) + (1 : Int32)) + (1 : Int32)) = (0 : Int32) then (1 : Int32) else 0)), .val (.int (0 : Int32))] [(.int (if (((0 : Int32) + (1 : Int32)) + (1 : Int32)) = (0 : Int32) then (1 : Int32) else 0))])) _
    refine XS.iload X11.here hx rfl (hb hby at_199) rfl ?_
    show Steps p.tables e below (T11.setTop (mkF m 201 #[.val (.int p1), .val (.int (1 : Int32)), .val (.int (1 : Int32)), .val (.int (0 : Int32)), .val (.int (0 : Int32)), .val (.ref b2), .val (.ref b4), .val (.ref b6), .val (.int (((0 : Int32) + (1 : Int32)) + (1 : Int32))), .val (.int (if (((0 : Int32) + (1 : Int32)) + (1 : Int32)) = (0 : Int32) then (1 : Int32) else 0)), .val (.int (if (((0 : Int32) + (1 : Int32)) + (1 : Int32)) = (0 : Int32) then (1 : Int32) else 0)), .val (.int (0 : Int32))] [(.int (if (((0 : Int32) + (1 : Int32)) + (1 : Int32)) = (0 : Int32) then (1 : Int32) else 0)), (.int (if (((0 : Int32) + (1 : Int32)) + (1 : Int32)) = (0 : Int32) then (1 : Int32) else 0))])) _
    refine XS.icmpNo X11.here hx rfl (hb hby at_201) rfl (teq (rfl : (if (((0 : Int32) + (1 : Int32)) + (1 : Int32)) = (0 : Int32) then (1 : Int32) else 0) = (if (((0 : Int32) + (1 : Int32)) + (1 : Int32)) = (0 : Int32) then (1 : Int32) else 0))).2 ?_
    show Steps p.tables e below (T11.setTop (mkF m 204 #[.val (.int p1), .val (.int (1 : Int32)), .val (.int (1 : Int32)), .val (.int (0 : Int32)), .val (.int (0 : Int32)), .val (.ref b2), .val (.ref b4), .val (.ref b6), .val (.int (((0 : Int32) + (1 : Int32)) + (1 : Int32))), .val (.int (if (((0 : Int32) + (1 : Int32)) + (1 : Int32)) = (0 : Int32) then (1 : Int32) else 0)), .val (.int (if (((0 : Int32) + (1 : Int32)) + (1 : Int32)) = (0 : Int32) then (1 : Int32) else 0)), .val (.int (0 : Int32))] [])) _
    refine XS.iload X11.here hx rfl (hb hby at_204) rfl ?_
    show Steps p.tables e below (T11.setTop (mkF m 206 #[.val (.int p1), .val (.int (1 : Int32)), .val (.int (1 : Int32)), .val (.int (0 : Int32)), .val (.int (0 : Int32)), .val (.ref b2), .val (.ref b4), .val (.ref b6), .val (.int (((0 : Int32) + (1 : Int32)) + (1 : Int32))), .val (.int (if (((0 : Int32) + (1 : Int32)) + (1 : Int32)) = (0 : Int32) then (1 : Int32) else 0)), .val (.int (if (((0 : Int32) + (1 : Int32)) + (1 : Int32)) = (0 : Int32) then (1 : Int32) else 0)), .val (.int (0 : Int32))] [(.int (0 : Int32))])) _
    refine XS.iload X11.here hx rfl (hb hby at_206) rfl ?_
    show Steps p.tables e below (T11.setTop (mkF m 208 #[.val (.int p1), .val (.int (1 : Int32)), .val (.int (1 : Int32)), .val (.int (0 : Int32)), .val (.int (0 : Int32)), .val (.ref b2), .val (.ref b4), .val (.ref b6), .val (.int (((0 : Int32) + (1 : Int32)) + (1 : Int32))), .val (.int (if (((0 : Int32) + (1 : Int32)) + (1 : Int32)) = (0 : Int32) then (1 : Int32) else 0)), .val (.int (if (((0 : Int32) + (1 : Int32)) + (1 : Int32)) = (0 : Int32) then (1 : Int32) else 0)), .val (.int (0 : Int32))] [(.int (if (((0 : Int32) + (1 : Int32)) + (1 : Int32)) = (0 : Int32) then (1 : Int32) else 0)), (.int (0 : Int32))])) _
    refine XS.icmpNo X11.here hx rfl (hb hby at_208) rfl (teq hc208).2 ?_
    show Steps p.tables e below (T11.setTop (mkF m 211 #[.val (.int p1), .val (.int (1 : Int32)), .val (.int (1 : Int32)), .val (.int (0 : Int32)), .val (.int (0 : Int32)), .val (.ref b2), .val (.ref b4), .val (.ref b6), .val (.int (((0 : Int32) + (1 : Int32)) + (1 : Int32))), .val (.int (if (((0 : Int32) + (1 : Int32)) + (1 : Int32)) = (0 : Int32) then (1 : Int32) else 0)), .val (.int (if (((0 : Int32) + (1 : Int32)) + (1 : Int32)) = (0 : Int32) then (1 : Int32) else 0)), .val (.int (0 : Int32))] [])) _
    refine XS.iconst X11.here hx rfl (hb hby at_211) ?_
    show Steps p.tables e below (T11.setTop (mkF m 212 #[.val (.int p1), .val (.int (1 : Int32)), .val (.int (1 : Int32)), .val (.int (0 : Int32)), .val (.int (0 : Int32)), .val (.ref b2), .val (.ref b4), .val (.ref b6), .val (.int (((0 : Int32) + (1 : Int32)) + (1 : Int32))), .val (.int (if (((0 : Int32) + (1 : Int32)) + (1 : Int32)) = (0 : Int32) then (1 : Int32) else 0)), .val (.int (if (((0 : Int32) + (1 : Int32)) + (1 : Int32)) = (0 : Int32) then (1 : Int32) else 0)), .val (.int (0 : Int32))] [(.int (1 : Int32))])) _
    refine XS.goto X11.here hx rfl (pc0 := 212) (pc' := 216) rfl (hb hby at_212) (by decide) (by decide) ?_
    show Steps p.tables e below (T11.setTop (mkF m 216 #[.val (.int p1), .val (.int (1 : Int32)), .val (.int (1 : Int32)), .val (.int (0 : Int32)), .val (.int (0 : Int32)), .val (.ref b2), .val (.ref b4), .val (.ref b6), .val (.int (((0 : Int32) + (1 : Int32)) + (1 : Int32))), .val (.int (if (((0 : Int32) + (1 : Int32)) + (1 : Int32)) = (0 : Int32) then (1 : Int32) else 0)), .val (.int (if (((0 : Int32) + (1 : Int32)) + (1 : Int32)) = (0 : Int32) then (1 : Int32) else 0)), .val (.int (0 : Int32))] [(.int (1 : Int32))])) _
    exact retN X11 hx (t := .boolean) Bd.returns (by simp) (hb hby at_216) hr
  · show Q0 Z p1 h0 n0 _ T11.heap _
    rw [e11]
    exact ⟨rfl, N11⟩

set_option maxRecDepth 65536 in
set_option maxHeartbeats 40000000 in
theorem rm0_6 (l : Launch) (Z : State) (a0 : Array Value) (hw : ∀ d ∈ tables_1, d.before a0 Z = true) (ws : List Jvm.Cond) (p1 : Int32) (h0 : Heap) (n0 : Nat) (Z0 : n0 ≤ h0.size) (hc3 : ¬ ((p1 &&& (1 : Int32)) = (0 : Int32))) (hc15 : ¬ ((p1 &&& (2 : Int32)) = (0 : Int32))) (hc25 : ¬ ((1 : Int32) = (0 : Int32))) (hc31 : (p1 &&& (4 : Int32)) = (0 : Int32)) (hc41 : ¬ ((1 : Int32) = (0 : Int32))) (hc48 : ¬ ((p1 &&& (8 : Int32)) = (0 : Int32))) (hc95 : ¬ ((1 : Int32) = (0 : Int32))) (hc112 : ¬ ((1 : Int32) = (0 : Int32))) (hc147 : ¬ ((1 : Int32) = (0 : Int32))) (hc208 : (0 : Int32) = (if ((((0 : Int32) + (1 : Int32)) + (1 : Int32)) - (1 : Int32)) = (0 : Int32) then (1 : Int32) else 0)) :
    MetFree l x (head1 (Jvm.Cond.code x code maxLocals ret :: ws) room_1) (fun a U => a = #[(.int p1)] ∧ Z.Warmed39 U.vm ∧ U.heap = h0) (fun _ _ _ _ _ => True) (fun _ U o U' => ∃ v L, o = .returned v ∧ Q0 Z p1 h0 n0 v U'.heap L ∧ FrameEnd U o U' L room_1.cells room_1.slots) := by
  refine MetFree.of_bodySF (plainFor_of_name pn_0) hisR ?_
  intro p e s m args below meth c s₁ Bd hml0 hP hK
  obtain ⟨rfl, hZ, hh⟩ := hP
  have hx := Bd.exec
  have hby := Bd.bytes
  have hml : c.maxLocals = 12 := hml0
  have hown : s.vm.findClass "com/example/idlewell/idlewell/engine/ObjectListIsEmptyPinLaw" = some m.cls := findClass_of_methodNamed Bd.named
  have hnm := (name_of_methodNamed Bd.named Bd.method).1
  have X0 : Stand p l e room_1 s m #[(.int p1)] below meth c s₁ [] 0 0 := Stand.of_body Bd
  have e0 : s₁.heap = h0 := by rw [← hh, Bd.state]; rfl
  have N0 := Fr.nil n0
  have pre0 : ∀ t, Steps p.tables e below (s₁.setTop (mkF m 0 #[.val (.int p1), .unset, .unset, .unset, .unset, .unset, .unset, .unset, .unset, .unset, .unset, .unset] [])) t → Steps p.tables e below (s₁.setTop (entryFrame m #[(.int p1)] maxLocals)) t := fun t k => castTop (ef_0 m p1) k
  obtain ⟨T2, h2, X2, e2, E2, A2, D2, -, st2⟩ := newO X0 hx hZ hown (hw _ (List.mem_of_getElem? (i := 0) rfl)) (hw _ (List.mem_of_getElem? (i := 1) rfl)) (hw _ (List.mem_of_getElem? (i := 2) rfl)) e0 (g := (mkF m 58 #[.val (.int p1), .val (.int (1 : Int32)), .val (.int (1 : Int32)), .val (.int (0 : Int32)), .val (.int (1 : Int32)), .unset, .unset, .unset, .unset, .unset, .unset, .unset] [])) rfl (hb hby at_58) (by decide) (by decide)
  obtain ⟨b2, g2⟩ : ∃ z, z = h0.size := ⟨_, rfl⟩
  rw [← g2] at A2 D2 st2
  have F_size_b2 : Fld Z h2 b2 "com/example/idlewell/idlewell/engine/ObjectList" "size" "I" (.int (0 : Int32)) := D2 (Or.inl (hw _ (List.mem_of_getElem? (i := 28) rfl))) (ty := .int) (by decide)
  have F_newest_b2 : Fld Z h2 b2 "com/example/idlewell/idlewell/engine/ObjectList" "newest" "Lcom/example/idlewell/idlewell/engine/PooledObject;" .null := D2 (Or.inl (hw _ (List.mem_of_getElem? (i := 35) rfl))) (ty := (.object "com/example/idlewell/idlewell/engine/PooledObject")) (by decide)
  have F_oldest_b2 : Fld Z h2 b2 "com/example/idlewell/idlewell/engine/ObjectList" "oldest" "Lcom/example/idlewell/idlewell/engine/PooledObject;" .null := D2 (Or.inl (hw _ (List.mem_of_getElem? (i := 47) rfl))) (ty := (.object "com/example/idlewell/idlewell/engine/PooledObject")) (by decide)
  have E_b2 := A2
  have g_b2 : n0 ≤ b2 := Nat.le_trans Z0 (Nat.le_of_eq g2.symm)
  have sz_b2 : h0.size ≤ b2 := (Nat.le_trans (Keep.refl h0 []).1 (Nat.le_of_eq g2.symm))
  have K2 : Keep h0 h2 [] := (Keep.refl h0 []).ext E2
  obtain ⟨_, _, ⟨T3, L3, k3, n3⟩, -, X3, ⟨Lc3, hQ3, l3, y3, z3⟩, st3⟩ := X2.specialBack hx (y := (⟨"com/example/idlewell/idlewell/engine/ObjectList", "<init>", "()V"⟩ : MethodName)) rfl hown (mvT hZ (hw _ (List.mem_of_getElem? (i := 3) rfl))) (mvT hZ (hw _ (List.mem_of_getElem? (i := 4) rfl))) (mvT hZ (hw _ (List.mem_of_getElem? (i := 5) rfl))) (by decide) (backOf (W := 1) (rm1 l Z a0 hw [] b2  h2 n0 (Nat.le_trans Z0 E2.1)) hZ (hw _ (List.mem_of_getElem? (i := 5) rfl)) (hw _ (List.mem_of_getElem? (i := 2) rfl)) (by decide) (by decide)) (g := (mkF m 62 #[.val (.int p1), .val (.int (1 : Int32)), .val (.int (1 : Int32)), .val (.int (0 : Int32)), .val (.int (1 : Int32)), .unset, .unset, .unset, .unset, .unset, .unset, .unset] [(.ref b2), (.ref b2)])) rfl (by rw [hml]; rfl) (Steps.refl _) (a := b2) (argsL := []) (rest := [(.ref b2)]) (lenOf pd_0_0 rfl) rfl (by show 2 * 0 + _ ≤ _; exact Nat.le_of_eq rfl) (hb hby at_62) (fun _ _ => ⟨rfl, e2, (by decide : 1 + 0 ≤ _), (by decide : 3 + 0 ≤ _)⟩)
  dsimp only [Pt.U, Pt.locs, Pt.cells, Pt.slots] at X3 l3 y3 z3 st3 hQ3
  subst l3 y3 z3
  obtain ⟨rfl, N3q, e3⟩ := hQ3
  have N3 := Fr.app N0 N3q
  obtain ⟨T4, h4, X4, e4, E4, A4, D4, -, st4⟩ := newO X3 hx hZ hown (hw _ (List.mem_of_getElem? (i := 9) rfl)) (hw _ (List.mem_of_getElem? (i := 10) rfl)) (hw _ (List.mem_of_getElem? (i := 11) rfl)) e3 (g := (mkF m 67 #[.val (.int p1), .val (.int (1 : Int32)), .val (.int (1 : Int32)), .val (.int (0 : Int32)), .val (.int (1 : Int32)), .val (.ref b2), .unset, .unset, .unset, .unset, .unset, .unset] [])) rfl (hb hby at_67) (by decide) (by decide)
  obtain ⟨b4, g4⟩ : ∃ z, z = h2.size := ⟨_, rfl⟩
  rw [← g4] at A4 D4 st4
  have F_pool_b4 : Fld Z h4 b4 "com/example/idlewell/idlewell/engine/PooledObject" "pool" "Lcom/example/idlewell/idlewell/engine/BoundedPool;" .null := D4 (Or.inr (hw _ (List.mem_of_getElem? (i := 17) rfl))) (ty := (.object "com/example/idlewell/idlewell/engine/BoundedPool")) (by decide)
  have F_object_b4 : Fld Z h4 b4 "com/example/idlewell/idlewell/engine/PooledObject" "object" "Ljava/lang/Object;" .null := D4 (Or.inr (hw _ (List.mem_of_getElem? (i := 19) rfl))) (ty := (.object "java/lang/Object")) (by decide)
  have F_slot_b4 : Fld Z h4 b4 "com/example/idlewell/idlewell/engine/PooledObject" "slot" "Lcom/example/idlewell/idlewell/engine/ThreadSlot;" .null := D4 (Or.inr (hw _ (List.mem_of_getElem? (i := 21) rfl))) (ty := (.object "com/example/idlewell/idlewell/engine/ThreadSlot")) (by decide)
  have F_older_b4 : Fld Z h4 b4 "com/example/idlewell/idlewell/engine/PooledObject" "older" "Lcom/example/idlewell/idlewell/engine/PooledObject;" .null := D4 (Or.inl (hw _ (List.mem_of_getElem? (i := 49) rfl))) (ty := (.object "com/example/idlewell/idlewell/engine/PooledObject")) (by decide)
  have F_newer_b4 : Fld Z h4 b4 "com/example/idlewell/idlewell/engine/PooledObject" "newer" "Lcom/example/idlewell/idlewell/engine/PooledObject;" .null := D4 (Or.inl (hw _ (List.mem_of_getElem? (i := 51) rfl))) (ty := (.object "com/example/idlewell/idlewell/engine/PooledObject")) (by decide)
  have E_b4 := A4
  have g_b4 : n0 ≤ b4 := Nat.le_trans (Nat.le_trans Z0 E2.1) (Nat.le_of_eq g4.symm)
  have sz_b4 : h0.size ≤ b4 := (Nat.le_trans K2.1 (Nat.le_of_eq g4.symm))
  have K4 : Keep h0 h4 [] := K2.ext E4
  obtain ⟨_, _, ⟨T5, L5, k5, n5⟩, -, X5, ⟨Lc5, hQ5, l5, y5, z5⟩, st5⟩ := X4.specialBack hx (y := (⟨"com/example/idlewell/idlewell/engine/PooledObject", "<init>", "(Lcom/example/idlewell/idlewell/engine/BoundedPool;Ljava/lang/Object;Z)V"⟩ : MethodName)) rfl hown (mvT hZ (hw _ (List.mem_of_getElem? (i := 12) rfl))) (mvT hZ (hw _ (List.mem_of_getElem? (i := 13) rfl))) (mvT hZ (hw _ (List.mem_of_getElem? (i := 14) rfl))) (by decide) (backOf (W := 1) (rm3 l Z a0 hw [] b4 (0 : Int32) .null .null .null h4 n0 (Nat.le_trans (Nat.le_trans Z0 E2.1) E4.1) E_b4 F_newer_b4 F_older_b4 F_pool_b4 g_b4 F_object_b4 F_slot_b4 rfl) hZ (hw _ (List.mem_of_getElem? (i := 14) rfl)) (hw _ (List.mem_of_getElem? (i := 11) rfl)) (by decide) (by decide)) (g := (mkF m 74 #[.val (.int p1), .val (.int (1 : Int32)), .val (.int (1 : Int32)), .val (.int (0 : Int32)), .val (.int (1 : Int32)), .val (.ref b2), .unset, .unset, .unset, .unset, .unset, .unset] [(.int (0 : Int32)), .null, .null, (.ref b4), (.ref b4)])) rfl (by rw [hml]; rfl) (Steps.refl _) (a := b4) (argsL := [.null, .null, (.int (0 : Int32))]) (rest := [(.ref b4)]) (lenOf pd_0_1 rfl) rfl (by show 2 * 0 + _ ≤ _; exact Nat.le_of_eq rfl) (hb hby at_74) (fun _ _ => ⟨rfl, e4, (by decide : 2 + 0 ≤ _), (by decide : 13 + 0 ≤ _)⟩)
  dsimp only [Pt.U, Pt.locs, Pt.cells, Pt.slots] at X5 l5 y5 z5 st5 hQ5
  subst l5 y5 z5
  obtain ⟨rfl, N5q, Kq5, Ex5, Fn5, Fo5⟩ := hQ5
  have N5 := Fr.app N3 N5q
  obtain ⟨T6, h6, X6, e6, E6, A6, D6, -, st6⟩ := newO X5 hx hZ hown (hw _ (List.mem_of_getElem? (i := 9) rfl)) (hw _ (List.mem_of_getElem? (i := 10) rfl)) (hw _ (List.mem_of_getElem? (i := 11) rfl)) rfl (g := (mkF m 79 #[.val (.int p1), .val (.int (1 : Int32)), .val (.int (1 : Int32)), .val (.int (0 : Int32)), .val (.int (1 : Int32)), .val (.ref b2), .val (.ref b4), .unset, .unset, .unset, .unset, .unset] [])) rfl (hb hby at_79) (by decide) (by decide)
  obtain ⟨b6, g6⟩ : ∃ z, z = T5.heap.size := ⟨_, rfl⟩
  rw [← g6] at A6 D6 st6
  have F_pool_b6 : Fld Z h6 b6 "com/example/idlewell/idlewell/engine/PooledObject" "pool" "Lcom/example/idlewell/idlewell/engine/BoundedPool;" .null := D6 (Or.inr (hw _ (List.mem_of_getElem? (i := 17) rfl))) (ty := (.object "com/example/idlewell/idlewell/engine/BoundedPool")) (by decide)
  have F_object_b6 : Fld Z h6 b6 "com/example/idlewell/idlewell/engine/PooledObject" "object" "Ljava/lang/Object;" .null := D6 (Or.inr (hw _ (List.mem_of_getElem? (i := 19) rfl))) (ty := (.object "java/lang/Object")) (by decide)
  have F_slot_b6 : Fld Z h6 b6 "com/example/idlewell/idlewell/engine/PooledObject" "slot" "Lcom/example/idlewell/idlewell/engine/ThreadSlot;" .null := D6 (Or.inr (hw _ (List.mem_of_getElem? (i := 21) rfl))) (ty := (.object "com/example/idlewell/idlewell/engine/ThreadSlot")) (by decide)
  have F_older_b6 : Fld Z h6 b6 "com/example/idlewell/idlewell/engine/PooledObject" "older" "Lcom/example/idlewell/idlewell/engine/PooledObject;" .null := D6 (Or.inl (hw _ (List.mem_of_getElem? (i := 49) rfl))) (ty := (.object "com/example/idlewell/idlewell/engine/PooledObject")) (by decide)
  have F_newer_b6 : Fld Z h6 b6 "com/example/idlewell/idlewell/engine/PooledObject" "newer" "Lcom/example/idlewell/idlewell/engine/PooledObject;" .null := D6 (Or.inl (hw _ (List.mem_of_getElem? (i := 51) rfl))) (ty := (.object "com/example/idlewell/idlewell/engine/PooledObject")) (by decide)
  have E_b6 := A6
  have g_b6 : n0 ≤ b6 := Nat.le_trans (Nat.le_trans (Nat.le_trans (Nat.le_trans Z0 E2.1) E4.1) Kq5.1) (Nat.le_of_eq g6.symm)
  obtain ⟨_, _, ⟨T7, L7, k7, n7⟩, -, X7, ⟨Lc7, hQ7, l7, y7, z7⟩, st7⟩ := X6.specialBack hx (y := (⟨"com/example/idlewell/idlewell/engine/PooledObject", "<init>", "(Lcom/example/idlewell/idlewell/engine/BoundedPool;Ljava/lang/Object;Z)V"⟩ : MethodName)) rfl hown (mvT hZ (hw _ (List.mem_of_getElem? (i := 12) rfl))) (mvT hZ (hw _ (List.mem_of_getElem? (i := 13) rfl))) (mvT hZ (hw _ (List.mem_of_getElem? (i := 14) rfl))) (by decide) (backOf (W := 1) (rm3 l Z a0 hw [] b6 (0 : Int32) .null .null .null h6 n0 (Nat.le_trans (Nat.le_trans (Nat.le_trans (Nat.le_trans Z0 E2.1) E4.1) Kq5.1) E6.1) E_b6 F_newer_b6 F_older_b6 F_pool_b6 g_b6 F_object_b6 F_slot_b6 rfl) hZ (hw _ (List.mem_of_getElem? (i := 14) rfl)) (hw _ (List.mem_of_getElem? (i := 11) rfl)) (by decide) (by decide)) (g := (mkF m 86 #[.val (.int p1), .val (.int (1 : Int32)), .val (.int (1 : Int32)), .val (.int (0 : Int32)), .val (.int (1 : Int32)), .val (.ref b2), .val (.ref b4), .unset, .unset, .unset, .unset, .unset] [(.int (0 : Int32)), .null, .null, (.ref b6), (.ref b6)])) rfl (by rw [hml]; rfl) (Steps.refl _) (a := b6) (argsL := [.null, .null, (.int (0 : Int32))]) (rest := [(.ref b6)]) (lenOf pd_0_1 rfl) rfl (by show 2 * 0 + _ ≤ _; exact Nat.le_of_eq rfl) (hb hby at_86) (fun _ _ => ⟨rfl, e6, (by decide : 3 + 0 ≤ _), (by decide : 23 + 0 ≤ _)⟩)
  dsimp only [Pt.U, Pt.locs, Pt.cells, Pt.slots] at X7 l7 y7 z7 st7 hQ7
  subst l7 y7 z7
  obtain ⟨rfl, N7q, Kq7, Ex7, Fn7, Fo7⟩ := hQ7
  have N7 := Fr.app N5 N7q
  obtain ⟨cq8, kq8, q8a, q8b, q8c⟩ := isOf hZ rfl ((((E_b2.ext E4).keep Kq5).ext E6).keep Kq7)
  obtain ⟨_, _, ⟨T8, L8, k8, n8⟩, -, X8, ⟨Lc8, hQ8, l8, y8, z8⟩, st8⟩ := X7.virtualBack hx (y := (⟨"com/example/idlewell/idlewell/engine/ObjectList", "addNewest", "(Lcom/example/idlewell/idlewell/engine/PooledObject;)V"⟩ : MethodName)) (z := (⟨"com/example/idlewell/idlewell/engine/ObjectList", "addNewest", "(Lcom/example/idlewell/idlewell/engine/PooledObject;)V"⟩ : MethodName)) hown (mvT hZ (hw _ (List.mem_of_getElem? (i := 36) rfl))) (mvT hZ (hw _ (List.mem_of_getElem? (i := 37) rfl))) (notFace_of_selects (args := #[]) (mvT hZ (hw _ (List.mem_of_getElem? (i := 39) rfl)))) (mvT hZ (hw _ (List.mem_of_getElem? (i := 39) rfl))) (mvT hZ (hw _ (List.mem_of_getElem? (i := 38) rfl))) (by decide) (backOf (W := 0) (rm6A l Z a0 hw [] b2 b4 b6 (0 : Int32) T7.heap n0 (Nat.le_trans (Nat.le_trans (Nat.le_trans (Nat.le_trans (Nat.le_trans Z0 E2.1) E4.1) Kq5.1) E6.1) Kq7.1) ⟨((((E_b2.ext E4).keep Kq5).ext E6).keep Kq7), ((Ex5.ext E6).keep Kq7), Ex7, ((((F_newest_b2.ext E4).keep Kq5 (fun q_ => (Nat.ne_of_lt (Nat.lt_of_lt_of_le E_b2.lt (Nat.le_of_eq g4.symm))) (List.mem_singleton.mp q_))).ext E6).keep Kq7 (fun q_ => (Nat.ne_of_lt (Nat.lt_of_lt_of_le ((E_b2.ext E4).keep Kq5).lt (Nat.le_of_eq g6.symm))) (List.mem_singleton.mp q_))), ((((F_oldest_b2.ext E4).keep Kq5 (fun q_ => (Nat.ne_of_lt (Nat.lt_of_lt_of_le E_b2.lt (Nat.le_of_eq g4.symm))) (List.mem_singleton.mp q_))).ext E6).keep Kq7 (fun q_ => (Nat.ne_of_lt (Nat.lt_of_lt_of_le ((E_b2.ext E4).keep Kq5).lt (Nat.le_of_eq g6.symm))) (List.mem_singleton.mp q_))), ((((F_size_b2.ext E4).keep Kq5 (fun q_ => (Nat.ne_of_lt (Nat.lt_of_lt_of_le E_b2.lt (Nat.le_of_eq g4.symm))) (List.mem_singleton.mp q_))).ext E6).keep Kq7 (fun q_ => (Nat.ne_of_lt (Nat.lt_of_lt_of_le ((E_b2.ext E4).keep Kq5).lt (Nat.le_of_eq g6.symm))) (List.mem_singleton.mp q_))), ((Fn5.ext E6).keep Kq7 (fun q_ => (Nat.ne_of_lt (Nat.lt_of_lt_of_le Ex5.lt (Nat.le_of_eq g6.symm))) (List.mem_singleton.mp q_))), ((Fo5.ext E6).keep Kq7 (fun q_ => (Nat.ne_of_lt (Nat.lt_of_lt_of_le Ex5.lt (Nat.le_of_eq g6.symm))) (List.mem_singleton.mp q_))), Fn7, Fo7⟩ g_b2 g_b4 g_b6 (Nat.ne_of_lt (Nat.lt_of_lt_of_le E_b2.lt (Nat.le_of_eq g4.symm))) (Nat.ne_of_lt (Nat.lt_of_lt_of_le ((E_b2.ext E4).keep Kq5).lt (Nat.le_of_eq g6.symm))) (Nat.ne_of_lt (Nat.lt_of_lt_of_le Ex5.lt (Nat.le_of_eq g6.symm)))) hZ (hw _ (List.mem_of_getElem? (i := 40) rfl)) (hw _ (List.mem_of_getElem? (i := 2) rfl)) (by decide) (by decide)) q8a q8c (g := (mkF m 102 #[.val (.int p1), .val (.int (1 : Int32)), .val (.int (1 : Int32)), .val (.int (0 : Int32)), .val (.int (1 : Int32)), .val (.ref b2), .val (.ref b4), .val (.ref b6), .val (.int (0 : Int32)), .unset, .unset, .unset] [(.ref b4), (.ref b2)])) rfl (by rw [hml]; rfl) (Steps.refl _) (argsL := [(.ref b4)]) (rest := []) (lenOf pd_0_4 rfl) rfl (by show 2 * 0 + _ ≤ _; exact Nat.le_of_eq rfl) (hb hby at_102) (fun _ _ => ⟨rfl, rfl, (by decide : 3 + 0 ≤ _), (by decide : 23 + 0 ≤ _)⟩)
  dsimp only [Pt.U, Pt.locs, Pt.cells, Pt.slots] at X8 l8 y8 z8 st8 hQ8
  subst l8 y8 z8
  obtain ⟨rfl, N8q, Kq8, ⟨E_o8, E_p8, E_q8, Fnw8, Fod8, Fsz8, Fpn8, Fpo8, Fqn8, Fqo8⟩⟩ := hQ8
  have N8 := Fr.app N7 N8q
  obtain ⟨cq9, kq9, q9a, q9b, q9c⟩ := isOf hZ rfl E_o8
  obtain ⟨_, _, ⟨T9, L9, k9, n9⟩, -, X9, ⟨Lc9, hQ9, l9, y9, z9⟩, st9⟩ := X8.virtualBack hx (y := (⟨"com/example/idlewell/idlewell/engine/ObjectList", "addNewest", "(Lcom/example/idlewell/idlewell/engine/PooledObject;)V"⟩ : MethodName)) (z := (⟨"com/example/idlewell/idlewell/engine/ObjectList", "addNewest", "(Lcom/example/idlewell/idlewell/engine/PooledObject;)V"⟩ : MethodName)) hown (mvT hZ (hw _ (List.mem_of_getElem? (i := 36) rfl))) (mvT hZ (hw _ (List.mem_of_getElem? (i := 37) rfl))) (notFace_of_selects (args := #[]) (mvT hZ (hw _ (List.mem_of_getElem? (i := 39) rfl)))) (mvT hZ (hw _ (List.mem_of_getElem? (i := 39) rfl))) (mvT hZ (hw _ (List.mem_of_getElem? (i := 38) rfl))) (by decide) (backOf (W := 0) (rm6B l Z a0 hw [] b2 b6 b4 ((0 : Int32) + (1 : Int32)) T8.heap n0 (Nat.le_trans (Nat.le_trans (Nat.le_trans (Nat.le_trans (Nat.le_trans (Nat.le_trans Z0 E2.1) E4.1) Kq5.1) E6.1) Kq7.1) Kq8.1) ⟨E_o8, E_q8, E_p8, Fnw8, Fod8, Fsz8, Fqn8, Fqo8, Fpn8, Fpo8⟩ g_b2 g_b6 g_b4 (Nat.ne_of_lt (Nat.lt_of_lt_of_le ((E_b2.ext E4).keep Kq5).lt (Nat.le_of_eq g6.symm))) (Nat.ne_of_lt (Nat.lt_of_lt_of_le E_b2.lt (Nat.le_of_eq g4.symm))) (Ne.symm (Nat.ne_of_lt (Nat.lt_of_lt_of_le Ex5.lt (Nat.le_of_eq g6.symm))))) hZ (hw _ (List.mem_of_getElem? (i := 40) rfl)) (hw _ (List.mem_of_getElem? (i := 2) rfl)) (by decide) (by decide)) q9a q9c (g := (mkF m 119 #[.val (.int p1), .val (.int (1 : Int32)), .val (.int (1 : Int32)), .val (.int (0 : Int32)), .val (.int (1 : Int32)), .val (.ref b2), .val (.ref b4), .val (.ref b6), .val (.int ((0 : Int32) + (1 : Int32))), .unset, .unset, .unset] [(.ref b6), (.ref b2)])) rfl (by rw [hml]; rfl) (Steps.refl _) (argsL := [(.ref b6)]) (rest := []) (lenOf pd_0_4 rfl) rfl (by show 2 * 0 + _ ≤ _; exact Nat.le_of_eq rfl) (hb hby at_119) (fun _ _ => ⟨rfl, rfl, (by decide : 3 + 0 ≤ _), (by decide : 23 + 0 ≤ _)⟩)
  dsimp only [Pt.U, Pt.locs, Pt.cells, Pt.slots] at X9 l9 y9 z9 st9 hQ9
  subst l9 y9 z9
  obtain ⟨rfl, N9q, Kq9, ⟨E_o9, E_p9, E_q9, Fnw9, Fod9, Fsz9, Fpn9, Fpo9, Fqn9, Fqo9⟩⟩ := hQ9
  have N9 := Fr.app N8 N9q
  obtain ⟨cq10, kq10, q10a, q10b, q10c⟩ := isOf hZ rfl E_o9
  obtain ⟨_, _, ⟨T10, L10, k10, n10⟩, -, X10, ⟨Lc10, hQ10, l10, y10, z10⟩, st10⟩ := X9.virtualBack hx (y := (⟨"com/example/idlewell/idlewell/engine/ObjectList", "remove", "(Lcom/example/idlewell/idlewell/engine/PooledObject;)V"⟩ : MethodName)) (z := (⟨"com/example/idlewell/idlewell/engine/ObjectList", "remove", "(Lcom/example/idlewell/idlewell/engine/PooledObject;)V"⟩ : MethodName)) hown (mvT hZ (hw _ (List.mem_of_getElem? (i := 52) rfl))) (mvT hZ (hw _ (List.mem_of_getElem? (i := 53) rfl))) (notFace_of_selects (args := #[]) (mvT hZ (hw _ (List.mem_of_getElem? (i := 55) rfl)))) (mvT hZ (hw _ (List.mem_of_getElem? (i := 55) rfl))) (mvT hZ (hw _ (List.mem_of_getElem? (i := 54) rfl))) (by decide) (backOf (W := 0) (rm8new l Z a0 hw [] b2 b6 b4 (((0 : Int32) + (1 : Int32)) + (1 : Int32)) T9.heap n0 (Nat.le_trans (Nat.le_trans (Nat.le_trans (Nat.le_trans (Nat.le_trans (Nat.le_trans (Nat.le_trans Z0 E2.1) E4.1) Kq5.1) E6.1) Kq7.1) Kq8.1) Kq9.1) ⟨E_o9, E_p9, E_q9, Fnw9, Fod9, Fsz9, Fpn9, Fpo9, Fqn9, Fqo9⟩ g_b2 g_b6 g_b4 (Nat.ne_of_lt (Nat.lt_of_lt_of_le ((E_b2.ext E4).keep Kq5).lt (Nat.le_of_eq g6.symm))) (Nat.ne_of_lt (Nat.lt_of_lt_of_le E_b2.lt (Nat.le_of_eq g4.symm))) (Ne.symm (Nat.ne_of_lt (Nat.lt_of_lt_of_le Ex5.lt (Nat.le_of_eq g6.symm))))) hZ (hw _ (List.mem_of_getElem? (i := 56) rfl)) (hw _ (List.mem_of_getElem? (i := 2) rfl)) (by decide) (by decide)) q10a q10c (g := (mkF m 154 #[.val (.int p1), .val (.int (1 : Int32)), .val (.int (1 : Int32)), .val (.int (0 : Int32)), .val (.int (1 : Int32)), .val (.ref b2), .val (.ref b4), .val (.ref b6), .val (.int (((0 : Int32) + (1 : Int32)) + (1 : Int32))), .unset, .unset, .unset] [(.ref b6), (.ref b2)])) rfl (by rw [hml]; rfl) (Steps.refl _) (argsL := [(.ref b6)]) (rest := []) (lenOf pd_0_4 rfl) rfl (by show 2 * 0 + _ ≤ _; exact Nat.le_of_eq rfl) (hb hby at_154) (fun _ _ => ⟨rfl, rfl, (by decide : 3 + 0 ≤ _), (by decide : 23 + 0 ≤ _)⟩)
  dsimp only [Pt.U, Pt.locs, Pt.cells, Pt.slots] at X10 l10 y10 z10 st10 hQ10
  subst l10 y10 z10
  obtain ⟨rfl, N10q, Kq10, ⟨E_o10, E_p10, E_q10, Fnw10, Fod10, Fsz10, Fpn10, Fpo10, Fqn10, Fqo10⟩⟩ := hQ10
  have N10 := Fr.app N9 N10q
  obtain ⟨cq11, kq11, q11a, q11b, q11c⟩ := isOf hZ rfl E_o10
  obtain ⟨_, _, ⟨T11, L11, k11, n11⟩, -, X11, ⟨Lc11, hQ11, l11, y11, z11⟩, st11⟩ := X10.virtualBack hx (y := (⟨"com/example/idlewell/idlewell/engine/ObjectList", "isEmpty", "()Z"⟩ : MethodName)) (z := (⟨"com/example/idlewell/idlewell/engine/ObjectList", "isEmpty", "()Z"⟩ : MethodName)) hown (mvT hZ (hw _ (List.mem_of_getElem? (i := 22) rfl))) (mvT hZ (hw _ (List.mem_of_getElem? (i := 23) rfl))) (notFace_of_selects (args := #[]) (mvT hZ (hw _ (List.mem_of_getElem? (i := 25) rfl)))) (mvT hZ (hw _ (List.mem_of_getElem? (i := 25) rfl))) (mvT hZ (hw _ (List.mem_of_getElem? (i := 24) rfl))) (by decide) (backOf (W := 0) (rm4 l Z a0 hw [] b2 ((((0 : Int32) + (1 : Int32)) + (1 : Int32)) - (1 : Int32)) T10.heap n0 (Nat.le_trans (Nat.le_trans (Nat.le_trans (Nat.le_trans (Nat.le_trans (Nat.le_trans (Nat.le_trans (Nat.le_trans Z0 E2.1) E4.1) Kq5.1) E6.1) Kq7.1) Kq8.1) Kq9.1) Kq10.1) Fsz10) hZ (hw _ (List.mem_of_getElem? (i := 26) rfl)) (hw _ (List.mem_of_getElem? (i := 2) rfl)) (by decide) (by decide)) q11a q11c (g := (mkF m 177 #[.val (.int p1), .val (.int (1 : Int32)), .val (.int (1 : Int32)), .val (.int (0 : Int32)), .val (.int (1 : Int32)), .val (.ref b2), .val (.ref b4), .val (.ref b6), .val (.int ((((0 : Int32) + (1 : Int32)) + (1 : Int32)) - (1 : Int32))), .val (.int (if ((((0 : Int32) + (1 : Int32)) + (1 : Int32)) - (1 : Int32)) = (0 : Int32) then (1 : Int32) else 0)), .unset, .unset] [(.ref b2)])) rfl (by rw [hml]; rfl) (Steps.refl _) (argsL := []) (rest := []) (lenOf pd_0_2 rfl) rfl (by show 2 * 0 + _ ≤ _; exact Nat.le_of_eq rfl) (hb hby at_177) (fun _ _ => ⟨rfl, rfl, (by decide : 3 + 0 ≤ _), (by decide : 23 + 0 ≤ _)⟩)
  dsimp only [Pt.U, Pt.locs, Pt.cells, Pt.slots] at X11 l11 y11 z11 st11 hQ11
  subst l11 y11 z11
  obtain ⟨rfl, N11q, e11⟩ := hQ11
  have N11 := Fr.app N10 N11q
  obtain ⟨cq12, kq12, q12a, q12b, q12c⟩ := isOf hZ e11 E_o10
  obtain ⟨_, _, ⟨T12, L12, k12, n12⟩, -, X12, ⟨Lc12, hQ12, l12, y12, z12⟩, st12⟩ := X11.virtualBack hx (y := (⟨"com/example/idlewell/idlewell/engine/ObjectList", "newest", "()Lcom/example/idlewell/idlewell/engine/PooledObject;"⟩ : MethodName)) (z := (⟨"com/example/idlewell/idlewell/engine/ObjectList", "newest", "()Lcom/example/idlewell/idlewell/engine/PooledObject;"⟩ : MethodName)) hown (mvT hZ (hw _ (List.mem_of_getElem? (i := 29) rfl))) (mvT hZ (hw _ (List.mem_of_getElem? (i := 30) rfl))) (notFace_of_selects (args := #[]) (mvT hZ (hw _ (List.mem_of_getElem? (i := 32) rfl)))) (mvT hZ (hw _ (List.mem_of_getElem? (i := 32) rfl))) (mvT hZ (hw _ (List.mem_of_getElem? (i := 31) rfl))) (by decide) (backOf (W := 0) (rm5r l Z a0 hw [] b2 b4 T10.heap n0 (Nat.le_trans (Nat.le_trans (Nat.le_trans (Nat.le_trans (Nat.le_trans (Nat.le_trans (Nat.le_trans (Nat.le_trans Z0 E2.1) E4.1) Kq5.1) E6.1) Kq7.1) Kq8.1) Kq9.1) Kq10.1) Fnw10) hZ (hw _ (List.mem_of_getElem? (i := 33) rfl)) (hw _ (List.mem_of_getElem? (i := 2) rfl)) (by decide) (by decide)) q12a q12c (g := (mkF m 184 #[.val (.int p1), .val (.int (1 : Int32)), .val (.int (1 : Int32)), .val (.int (0 : Int32)), .val (.int (1 : Int32)), .val (.ref b2), .val (.ref b4), .val (.ref b6), .val (.int ((((0 : Int32) + (1 : Int32)) + (1 : Int32)) - (1 : Int32))), .val (.int (if ((((0 : Int32) + (1 : Int32)) + (1 : Int32)) - (1 : Int32)) = (0 : Int32) then (1 : Int32) else 0)), .val (.int (if ((((0 : Int32) + (1 : Int32)) + (1 : Int32)) - (1 : Int32)) = (0 : Int32) then (1 : Int32) else 0)), .unset] [(.ref b2)])) rfl (by rw [hml]; rfl) (Steps.refl _) (argsL := []) (rest := []) (lenOf pd_0_3 rfl) rfl (by show 2 * 0 + _ ≤ _; exact Nat.le_of_eq rfl) (hb hby at_184) (fun _ _ => ⟨rfl, e11, (by decide : 3 + 0 ≤ _), (by decide : 23 + 0 ≤ _)⟩)
  dsimp only [Pt.U, Pt.locs, Pt.cells, Pt.slots] at X12 l12 y12 z12 st12 hQ12
  subst l12 y12 z12
  obtain ⟨rfl, N12q, e12⟩ := hQ12
  have N12 := Fr.app N11 N12q
  obtain ⟨fs, hr, hrun, hended, hW, hsame⟩ := X12.leave (v := some (.int (1 : Int32))) (fun h => by rw [Bd.returns] at h; cases h)
  refine ⟨_, _, pre0 _ ?_, hrun, hended, _, _, rfl, ?_, ⟨_, rfl⟩, hW, hsame.mono (by decide) (by decide)⟩
  · show Steps p.tables e below (s₁.setTop (mkF m 0 #[.val (.int p1), .unset, .unset, .unset, .unset, .unset, .unset, .unset, .unset, .unset, .unset, .unset] [])) _
    refine XS.iloadN X0.here hx rfl (hb hby at_0) rfl ?_
    show Steps p.tables e below (s₁.setTop (mkF m 1 #[.val (.int p1), .unset, .unset, .unset, .unset, .unset, .unset, .unset, .unset, .unset, .unset, .unset] [(.int p1)])) _
    refine XS.iconst X0.here hx rfl (hb hby at_1) ?_
    show Steps p.tables e below (s₁.setTop (mkF m 2 #[.val (.int p1), .unset, .unset, .unset, .unset, .unset, .unset, .unset, .unset, .unset, .unset, .unset] [(.int (1 : Int32)), (.int p1)])) _
    refine XS.iand X0.here hx rfl (hb hby at_2) rfl ?_
    show Steps p.tables e below (s₁.setTop (mkF m 3 #[.val (.int p1), .unset, .unset, .unset, .unset, .unset, .unset, .unset, .unset, .unset, .unset, .unset] [(.int (p1 &&& (1 : Int32)))])) _
    refine XS.ifNo X0.here hx rfl (hb hby at_3) rfl ((if0 _ _).trans (feq hc3).1) ?_
    show Steps p.tables e below (s₁.setTop (mkF m 6 #[.val (.int p1), .unset, .unset, .unset, .unset, .unset, .unset, .unset, .unset, .unset, .unset, .unset] [])) _
    refine XS.iconst X0.here hx rfl (hb hby at_6) ?_
    show Steps p.tables e below (s₁.setTop (mkF m 7 #[.val (.int p1), .unset, .unset, .unset, .unset, .unset, .unset, .unset, .unset, .unset, .unset, .unset] [(.int (1 : Int32))])) _
    refine XS.goto X0.here hx rfl (pc0 := 7) (pc' := 11) rfl (hb hby at_7) (by decide) (by decide) ?_
    show Steps p.tables e below (s₁.setTop (mkF m 11 #[.val (.int p1), .unset, .unset, .unset, .unset, .unset, .unset, .unset, .unset, .unset, .unset, .unset] [(.int (1 : Int32))])) _
    refine XS.istoreN X0.here hx rfl (hb hby at_11) rfl (l' := #[.val (.int p1), .val (.int (1 : Int32)), .unset, .unset, .unset, .unset, .unset, .unset, .unset, .unset, .unset, .unset]) rfl ?_
    show Steps p.tables e below (s₁.setTop (mkF m 12 #[.val (.int p1), .val (.int (1 : Int32)), .unset, .unset, .unset, .unset, .unset, .unset, .unset, .unset, .unset, .unset] [])) _
    refine XS.iloadN X0.here hx rfl (hb hby at_12) rfl ?_
    show Steps p.tables e below (s₁.setTop (mkF m 13 #[.val (.int p1), .val (.int (1 : Int32)), .unset, .unset, .unset, .unset, .unset, .unset, .unset, .unset, .unset, .unset] [(.int p1)])) _
    refine XS.iconst X0.here hx rfl (hb hby at_13) ?_
    show Steps p.tables e below (s₁.setTop (mkF m 14 #[.val (.int p1), .val (.int (1 : Int32)), .unset, .unset, .unset, .unset, .unset, .unset, .unset, .unset, .unset, .unset] [(.int (2 : Int32)), (.int p1)])) _
    refine XS.iand X0.here hx rfl (hb hby at_14) rfl ?_
    show Steps p.tables e below (s₁.setTop (mkF m 15 #[.val (.int p1), .val (.int (1 : Int32)), .unset, .unset, .unset, .unset, .unset, .unset, .unset, .unset, .unset, .unset] [(.int (p1 &&& (2 : Int32)))])) _
    refine XS.ifNo X0.here hx rfl (hb hby at_15) rfl ((if0 _ _).trans (feq hc15).1) ?_
    show Steps p.tables e below (s₁.setTop (mkF m 18 #[.val (.int p1), .val (.int (1 : Int32)), .unset, .unset, .unset, .unset, .unset, .unset, .unset, .unset, .unset, .unset] [])) _
    refine XS.iconst X0.here hx rfl (hb hby at_18) ?_
    show Steps p.tables e below (s₁.setTop (mkF m 19 #[.val (.int p1), .val (.int (1 : Int32)), .unset, .unset, .unset, .unset, .unset, .unset, .unset, .unset, .unset, .unset] [(.int (1 : Int32))])) _
    refine XS.goto X0.here hx rfl (pc0 := 19) (pc' := 23) rfl (hb hby at_19) (by decide) (by decide) ?_
    show Steps p.tables e below (s₁.setTop (mkF m 23 #[.val (.int p1), .val (.int (1 : Int32)), .unset, .unset, .unset, .unset, .unset, .unset, .unset, .unset, .unset, .unset] [(.int (1 : Int32))])) _
    refine XS.istoreN X0.here hx rfl (hb hby at_23) rfl (l' := #[.val (.int p1), .val (.int (1 : Int32)), .val (.int (1 : Int32)), .unset, .unset, .unset, .unset, .unset, .unset, .unset, .unset, .unset]) rfl ?_
    show Steps p.tables e below (s₁.setTop (mkF m 24 #[.val (.int p1), .val (.int (1 : Int32)), .val (.int (1 : Int32)), .unset, .unset, .unset, .unset, .unset, .unset, .unset, .unset, .unset] [])) _
    refine XS.iloadN X0.here hx rfl (hb hby at_24) rfl ?_
    show Steps p.tables e below (s₁.setTop (mkF m 25 #[.val (.int p1), .val (.int (1 : Int32)), .val (.int (1 : Int32)), .unset, .unset, .unset, .unset, .unset, .unset, .unset, .unset, .unset] [(.int (1 : Int32))])) _
    refine XS.ifNo X0.here hx rfl (hb hby at_25) rfl ((if0 _ _).trans (feq hc25).1) ?_
    show Steps p.tables e below (s₁.setTop (mkF m 28 #[.val (.int p1), .val (.int (1 : Int32)), .val (.int (1 : Int32)), .unset, .unset, .unset, .unset, .unset, .unset, .unset, .unset, .unset] [])) _
    refine XS.iloadN X0.here hx rfl (hb hby at_28) rfl ?_
    show Steps p.tables e below (s₁.setTop (mkF m 29 #[.val (.int p1), .val (.int (1 : Int32)), .val (.int (1 : Int32)), .unset, .unset, .unset, .unset, .unset, .unset, .unset, .unset, .unset] [(.int p1)])) _
    refine XS.iconst X0.here hx rfl (hb hby at_29) ?_
    show Steps p.tables e below (s₁.setTop (mkF m 30 #[.val (.int p1), .val (.int (1 : Int32)), .val (.int (1 : Int32)), .unset, .unset, .unset, .unset, .unset, .unset, .unset, .unset, .unset] [(.int (4 : Int32)), (.int p1)])) _
    refine XS.iand X0.here hx rfl (hb hby at_30) rfl ?_
    show Steps p.tables e below (s₁.setTop (mkF m 31 #[.val (.int p1), .val (.int (1 : Int32)), .val (.int (1 : Int32)), .unset, .unset, .unset, .unset, .unset, .unset, .unset, .unset, .unset] [(.int (p1 &&& (4 : Int32)))])) _
    refine XS.ifYes X0.here hx rfl (pc0 := 31) (pc' := 38) rfl (hb hby at_31) rfl ((if0 _ _).trans (teq hc31).1) (by decide) (by decide) ?_
    show Steps p.tables e below (s₁.setTop (mkF m 38 #[.val (.int p1), .val (.int (1 : Int32)), .val (.int (1 : Int32)), .unset, .unset, .unset, .unset, .unset, .unset, .unset, .unset, .unset] [])) _
    refine XS.iconst X0.here hx rfl (hb hby at_38) ?_
    show Steps p.tables e below (s₁.setTop (mkF m 39 #[.val (.int p1), .val (.int (1 : Int32)), .val (.int (1 : Int32)), .unset, .unset, .unset, .unset, .unset, .unset, .unset, .unset, .unset] [(.int (0 : Int32))])) _
    refine XS.istoreN X0.here hx rfl (hb hby at_39) rfl (l' := #[.val (.int p1), .val (.int (1 : Int32)), .val (.int (1 : Int32)), .val (.int (0 : Int32)), .unset, .unset, .unset, .unset, .unset, .unset, .unset, .unset]) rfl ?_
    show Steps p.tables e below (s₁.setTop (mkF m 40 #[.val (.int p1), .val (.int (1 : Int32)), .val (.int (1 : Int32)), .val (.int (0 : Int32)), .unset, .unset, .unset, .unset, .unset, .unset, .unset, .unset] [])) _
    refine XS.iloadN X0.here hx rfl (hb hby at_40) rfl ?_
    show Steps p.tables e below (s₁.setTop (mkF m 41 #[.val (.int p1), .val (.int (1 : Int32)), .val (.int (1 : Int32)), .val (.int (0 : Int32)), .unset, .unset, .unset, .unset, .unset, .unset, .unset, .unset] [(.int (1 : Int32))])) _
    refine XS.ifNo X0.here hx rfl (hb hby at_41) rfl ((if0 _ _).trans (feq hc41).1) ?_
    show Steps p.tables e below (s₁.setTop (mkF m 44 #[.val (.int p1), .val (.int (1 : Int32)), .val (.int (1 : Int32)), .val (.int (0 : Int32)), .unset, .unset, .unset, .unset, .unset, .unset, .unset, .unset] [])) _
    refine XS.iloadN X0.here hx rfl (hb hby at_44) rfl ?_
    show Steps p.tables e below (s₁.setTop (mkF m 45 #[.val (.int p1), .val (.int (1 : Int32)), .val (.int (1 : Int32)), .val (.int (0 : Int32)), .unset, .unset, .unset, .unset, .unset, .unset, .unset, .unset] [(.int p1)])) _
    refine XS.bipush X0.here hx rfl (hb hby at_45) ?_
    show Steps p.tables e below (s₁.setTop (mkF m 47 #[.val (.int p1), .val (.int (1 : Int32)), .val (.int (1 : Int32)), .val (.int (0 : Int32)), .unset, .unset, .unset, .unset, .unset, .unset, .unset, .unset] [(.int (8 : Int32)), (.int p1)])) _
    refine XS.iand X0.here hx rfl (hb hby at_47) rfl ?_
    show Steps p.tables e below (s₁.setTop (mkF m 48 #[.val (.int p1), .val (.int (1 : Int32)), .val (.int (1 : Int32)), .val (.int (0 : Int32)), .unset, .unset, .unset, .unset, .unset, .unset, .unset, .unset] [(.int (p1 &&& (8 : Int32)))])) _
    refine XS.ifNo X0.here hx rfl (hb hby at_48) rfl ((if0 _ _).trans (feq hc48).1) ?_
    show Steps p.tables e below (s₁.setTop (mkF m 51 #[.val (.int p1), .val (.int (1 : Int32)), .val (.int (1 : Int32)), .val (.int (0 : Int32)), .unset, .unset, .unset, .unset, .unset, .unset, .unset, .unset] [])) _
    refine XS.iconst X0.here hx rfl (hb hby at_51) ?_
    show Steps p.tables e below (s₁.setTop (mkF m 52 #[.val (.int p1), .val (.int (1 : Int32)), .val (.int (1 : Int32)), .val (.int (0 : Int32)), .unset, .unset, .unset, .unset, .unset, .unset, .unset, .unset] [(.int (1 : Int32))])) _
    refine XS.goto X0.here hx rfl (pc0 := 52) (pc' := 56) rfl (hb hby at_52) (by decide) (by decide) ?_
    show Steps p.tables e below (s₁.setTop (mkF m 56 #[.val (.int p1), .val (.int (1 : Int32)), .val (.int (1 : Int32)), .val (.int (0 : Int32)), .unset, .unset, .unset, .unset, .unset, .unset, .unset, .unset] [(.int (1 : Int32))])) _
    refine XS.istore X0.here hx rfl (hb hby at_56) rfl (l' := #[.val (.int p1), .val (.int (1 : Int32)), .val (.int (1 : Int32)), .val (.int (0 : Int32)), .val (.int (1 : Int32)), .unset, .unset, .unset, .unset, .unset, .unset, .unset]) rfl ?_
    show Steps p.tables e below (s₁.setTop (mkF m 58 #[.val (.int p1), .val (.int (1 : Int32)), .val (.int (1 : Int32)), .val (.int (0 : Int32)), .val (.int (1 : Int32)), .unset, .unset, .unset, .unset, .unset, .unset, .unset] [])) _
    refine st2 _ ?_
    show Steps p.tables e below (T2.setTop (mkF m 61 #[.val (.int p1), .val (.int (1 : Int32)), .val (.int (1 : Int32)), .val (.int (0 : Int32)), .val (.int (1 : Int32)), .unset, .unset, .unset, .unset, .unset, .unset, .unset] [(.ref b2)])) _
    refine XS.dup X2.here hx rfl (hb hby at_61) rfl rfl ?_
    show Steps p.tables e below (T2.setTop (mkF m 62 #[.val (.int p1), .val (.int (1 : Int32)), .val (.int (1 : Int32)), .val (.int (0 : Int32)), .val (.int (1 : Int32)), .unset, .unset, .unset, .unset, .unset, .unset, .unset] [(.ref b2), (.ref b2)])) _
    refine st3.trans ?_
    show Steps p.tables e below (T3.setTop (mkF m 65 #[.val (.int p1), .val (.int (1 : Int32)), .val (.int (1 : Int32)), .val (.int (0 : Int32)), .val (.int (1 : Int32)), .unset, .unset, .unset, .unset, .unset, .unset, .unset] [(.ref b2)])) _
    refine XS.astore X3.here hx rfl (hb hby at_65) rfl rfl (l' := #[.val (.int p1), .val (.int (1 : Int32)), .val (.int (1 : Int32)), .val (.int (0 : Int32)), .val (.int (1 : Int32)), .val (.ref b2), .unset, .unset, .unset, .unset, .unset, .unset]) rfl ?_
    show Steps p.tables e below (T3.setTop (mkF m 67 #[.val (.int p1), .val (.int (1 : Int32)), .val (.int (1 : Int32)), .val (.int (0 : Int32)), .val (.int (1 : Int32)), .val (.ref b2), .unset, .unset, .unset, .unset, .unset, .unset] [])) _
    refine st4 _ ?_
    show Steps p.tables e below (T4.setTop (mkF m 70 #[.val (.int p1), .val (.int (1 : Int32)), .val (.int (1 : Int32)), .val (.int (0 : Int32)), .val (.int (1 : Int32)), .val (.ref b2), .unset, .unset, .unset, .unset, .unset, .unset] [(.ref b4)])) _
    refine XS.dup X4.here hx rfl (hb hby at_70) rfl rfl ?_
    show Steps p.tables e below (T4.setTop (mkF m 71 #[.val (.int p1), .val (.int (1 : Int32)), .val (.int (1 : Int32)), .val (.int (0 : Int32)), .val (.int (1 : Int32)), .val (.ref b2), .unset, .unset, .unset, .unset, .unset, .unset] [(.ref b4), (.ref b4)])) _
    refine XS.aconstNull X4.here hx rfl (hb hby at_71) ?_
    show Steps p.tables e below (T4.setTop (mkF m 72 #[.val (.int p1), .val (.int (1 : Int32)), .val (.int (1 : Int32)), .val (.int (0 : Int32)), .val (.int (1 : Int32)), .val (.ref b2), .unset, .unset, .unset, .unset, .unset, .unset] [.null, (.ref b4), (.ref b4)])) _
    refine XS.aconstNull X4.here hx rfl (hb hby at_72) ?_
    show Steps p.tables e below (T4.setTop (mkF m 73 #[.val (.int p1), .val (.int (1 : Int32)), .val (.int (1 : Int32)), .val (.int (0 : Int32)), .val (.int (1 : Int32)), .val (.ref b2), .unset, .unset, .unset, .unset, .unset, .unset] [.null, .null, (.ref b4), (.ref b4)])) _
    refine XS.iconst X4.here hx rfl (hb hby at_73) ?_
    show Steps p.tables e below (T4.setTop (mkF m 74 #[.val (.int p1), .val (.int (1 : Int32)), .val (.int (1 : Int32)), .val (.int (0 : Int32)), .val (.int (1 : Int32)), .val (.ref b2), .unset, .unset, .unset, .unset, .unset, .unset] [(.int (0 : Int32)), .null, .null, (.ref b4), (.ref b4)])) _
    refine st5.trans ?_
    show Steps p.tables e below (T5.setTop (mkF m 77 #[.val (.int p1), .val (.int (1 : Int32)), .val (.int (1 : Int32)), .val (.int (0 : Int32)), .val (.int (1 : Int32)), .val (.ref b2), .unset, .unset, .unset, .unset, .unset, .unset] [(.ref b4)])) _
    refine XS.astore X5.here hx rfl (hb hby at_77) rfl rfl (l' := #[.val (.int p1), .val (.int (1 : Int32)), .val (.int (1 : Int32)), .val (.int (0 : Int32)), .val (.int (1 : Int32)), .val (.ref b2), .val (.ref b4), .unset, .unset, .unset, .unset, .unset]) rfl ?_
    show Steps p.tables e below (T5.setTop (mkF m 79 #[.val (.int p1), .val (.int (1 : Int32)), .val (.int (1 : Int32)), .val (.int (0 : Int32)), .val (.int (1 : Int32)), .val (.ref b2), .val (.ref b4), .unset, .unset, .unset, .unset, .unset] [])) _
    refine st6 _ ?_
    show Steps p.tables e below (T6.setTop (mkF m 82 #[.val (.int p1), .val (.int (1 : Int32)), .val (.int (1 : Int32)), .val (.int (0 : Int32)), .val (.int (1 : Int32)), .val (.ref b2), .val (.ref b4), .unset, .unset, .unset, .unset, .unset] [(.ref b6)])) _
    refine XS.dup X6.here hx rfl (hb hby at_82) rfl rfl ?_
    show Steps p.tables e below (T6.setTop (mkF m 83 #[.val (.int p1), .val (.int (1 : Int32)), .val (.int (1 : Int32)), .val (.int (0 : Int32)), .val (.int (1 : Int32)), .val (.ref b2), .val (.ref b4), .unset, .unset, .unset, .unset, .unset] [(.ref b6), (.ref b6)])) _
    refine XS.aconstNull X6.here hx rfl (hb hby at_83) ?_
    show Steps p.tables e below (T6.setTop (mkF m 84 #[.val (.int p1), .val (.int (1 : Int32)), .val (.int (1 : Int32)), .val (.int (0 : Int32)), .val (.int (1 : Int32)), .val (.ref b2), .val (.ref b4), .unset, .unset, .unset, .unset, .unset] [.null, (.ref b6), (.ref b6)])) _
    refine XS.aconstNull X6.here hx rfl (hb hby at_84) ?_
    show Steps p.tables e below (T6.setTop (mkF m 85 #[.val (.int p1), .val (.int (1 : Int32)), .val (.int (1 : Int32)), .val (.int (0 : Int32)), .val (.int (1 : Int32)), .val (.ref b2), .val (.ref b4), .unset, .unset, .unset, .unset, .unset] [.null, .null, (.ref b6), (.ref b6)])) _
    refine XS.iconst X6.here hx rfl (hb hby at_85) ?_
    show Steps p.tables e below (T6.setTop (mkF m 86 #[.val (.int p1), .val (.int (1 : Int32)), .val (.int (1 : Int32)), .val (.int (0 : Int32)), .val (.int (1 : Int32)), .val (.ref b2), .val (.ref b4), .unset, .unset, .unset, .unset, .unset] [(.int (0 : Int32)), .null, .null, (.ref b6), (.ref b6)])) _
    refine st7.trans ?_
    show Steps p.tables e below (T7.setTop (mkF m 89 #[.val (.int p1), .val (.int (1 : Int32)), .val (.int (1 : Int32)), .val (.int (0 : Int32)), .val (.int (1 : Int32)), .val (.ref b2), .val (.ref b4), .unset, .unset, .unset, .unset, .unset] [(.ref b6)])) _
    refine XS.astore X7.here hx rfl (hb hby at_89) rfl rfl (l' := #[.val (.int p1), .val (.int (1 : Int32)), .val (.int (1 : Int32)), .val (.int (0 : Int32)), .val (.int (1 : Int32)), .val (.ref b2), .val (.ref b4), .val (.ref b6), .unset, .unset, .unset, .unset]) rfl ?_
    show Steps p.tables e below (T7.setTop (mkF m 91 #[.val (.int p1), .val (.int (1 : Int32)), .val (.int (1 : Int32)), .val (.int (0 : Int32)), .val (.int (1 : Int32)), .val (.ref b2), .val (.ref b4), .val (.ref b6), .unset, .unset, .unset, .unset] [])) _
    refine XS.iconst X7.here hx rfl (hb hby at_91) ?_
    show Steps p.tables e below (T7.setTop (mkF m 92 #[.val (.int p1), .val (.int (1 : Int32)), .val (.int (1 : Int32)), .val (.int (0 : Int32)), .val (.int (1 : Int32)), .val (.ref b2), .val (.ref b4), .val (.ref b6), .unset, .unset, .unset, .unset] [(.int (0 : Int32))])) _
    refine XS.istore X7.here hx rfl (hb hby at_92) rfl (l' := #[.val (.int p1), .val (.int (1 : Int32)), .val (.int (1 : Int32)), .val (.int (0 : Int32)), .val (.int (1 : Int32)), .val (.ref b2), .val (.ref b4), .val (.ref b6), .val (.int (0 : Int32)), .unset, .unset, .unset]) rfl ?_
    show Steps p.tables e below (T7.setTop (mkF m 94 #[.val (.int p1), .val (.int (1 : Int32)), .val (.int (1 : Int32)), .val (.int (0 : Int32)), .val (.int (1 : Int32)), .val (.ref b2), .val (.ref b4), .val (.ref b6), .val (.int (0 : Int32)), .unset, .unset, .unset] [])) _
    refine XS.iloadN X7.here hx rfl (hb hby at_94) rfl ?_
    show Steps p.tables e below (T7.setTop (mkF m 95 #[.val (.int p1), .val (.int (1 : Int32)), .val (.int (1 : Int32)), .val (.int (0 : Int32)), .val (.int (1 : Int32)), .val (.ref b2), .val (.ref b4), .val (.ref b6), .val (.int (0 : Int32)), .unset, .unset, .unset] [(.int (1 : Int32))])) _
    refine XS.ifNo X7.here hx rfl (hb hby at_95) rfl ((if0 _ _).trans (feq hc95).1) ?_
    show Steps p.tables e below (T7.setTop (mkF m 98 #[.val (.int p1), .val (.int (1 : Int32)), .val (.int (1 : Int32)), .val (.int (0 : Int32)), .val (.int (1 : Int32)), .val (.ref b2), .val (.ref b4), .val (.ref b6), .val (.int (0 : Int32)), .unset, .unset, .unset] [])) _
    refine XS.aload X7.here hx rfl (hb hby at_98) rfl rfl ?_
    show Steps p.tables e below (T7.setTop (mkF m 100 #[.val (.int p1), .val (.int (1 : Int32)), .val (.int (1 : Int32)), .val (.int (0 : Int32)), .val (.int (1 : Int32)), .val (.ref b2), .val (.ref b4), .val (.ref b6), .val (.int (0 : Int32)), .unset, .unset, .unset] [(.ref b2)])) _
    refine XS.aload X7.here hx rfl (hb hby at_100) rfl rfl ?_
    show Steps p.tables e below (T7.setTop (mkF m 102 #[.val (.int p1), .val (.int (1 : Int32)), .val (.int (1 : Int32)), .val (.int (0 : Int32)), .val (.int (1 : Int32)), .val (.ref b2), .val (.ref b4), .val (.ref b6), .val (.int (0 : Int32)), .unset, .unset, .unset] [(.ref b4), (.ref b2)])) _
    refine st8.trans ?_
    show Steps p.tables e below (T8.setTop (mkF m 105 #[.val (.int p1), .val (.int (1 : Int32)), .val (.int (1 : Int32)), .val (.int (0 : Int32)), .val (.int (1 : Int32)), .val (.ref b2), .val (.ref b4), .val (.ref b6), .val (.int (0 : Int32)), .unset, .unset, .unset] [])) _
    refine XS.iload X8.here hx rfl (hb hby at_105) rfl ?_
    show Steps p.tables e below (T8.setTop (mkF m 107 #[.val (.int p1), .val (.int (1 : Int32)), .val (.int (1 : Int32)), .val (.int (0 : Int32)), .val (.int (1 : Int32)), .val (.ref b2), .val (.ref b4), .val (.ref b6), .val (.int (0 : Int32)), .unset, .unset, .unset] [(.int (0 : Int32))])) _
    refine XS.iconst X8.here hx rfl (hb hby at_107) ?_
    show Steps p.tables e below (T8.setTop (mkF m 108 #[.val (.int p1), .val (.int (1 : Int32)), .val (.int (1 : Int32)), .val (.int (0 : Int32)), .val (.int (1 : Int32)), .val (.ref b2), .val (.ref b4), .val (.ref b6), .val (.int (0 : Int32)), .unset, .unset, .unset] [(.int (1 : Int32)), (.int (0 : Int32))])) _
    refine XS.iadd X8.here hx rfl (hb hby at_108) rfl ?_
    show Steps p.tables e below (T8.setTop (mkF m 109 #[.val (.int p1), .val (.int (1 : Int32)), .val (.int (1 : Int32)), .val (.int (0 : Int32)), .val (.int (1 : Int32)), .val (.ref b2), .val (.ref b4), .val (.ref b6), .val (.int (0 : Int32)), .unset, .unset, .unset] [(.int ((0 : Int32) + (1 : Int32)))])) _
    refine XS.istore X8.here hx rfl (hb hby at_109) rfl (l' := #[.val (.int p1), .val (.int (1 : Int32)), .val (.int (1 : Int32)), .val (.int (0 : Int32)), .val (.int (1 : Int32)), .val (.ref b2), .val (.ref b4), .val (.ref b6), .val (.int ((0 : Int32) + (1 : Int32))), .unset, .unset, .unset]) rfl ?_
    show Steps p.tables e below (T8.setTop (mkF m 111 #[.val (.int p1), .val (.int (1 : Int32)), .val (.int (1 : Int32)), .val (.int (0 : Int32)), .val (.int (1 : Int32)), .val (.ref b2), .val (.ref b4), .val (.ref b6), .val (.int ((0 : Int32) + (1 : Int32))), .unset, .unset, .unset] [])) _
    refine XS.iloadN X8.here hx rfl (hb hby at_111) rfl ?_
    show Steps p.tables e below (T8.setTop (mkF m 112 #[.val (.int p1), .val (.int (1 : Int32)), .val (.int (1 : Int32)), .val (.int (0 : Int32)), .val (.int (1 : Int32)), .val (.ref b2), .val (.ref b4), .val (.ref b6), .val (.int ((0 : Int32) + (1 : Int32))), .unset, .unset, .unset] [(.int (1 : Int32))])) _
    refine XS.ifNo X8.here hx rfl (hb hby at_112) rfl ((if0 _ _).trans (feq hc112).1) ?_
    show Steps p.tables e below (T8.setTop (mkF m 115 #[.val (.int p1), .val (.int (1 : Int32)), .val (.int (1 : Int32)), .val (.int (0 : Int32)), .val (.int (1 : Int32)), .val (.ref b2), .val (.ref b4), .val (.ref b6), .val (.int ((0 : Int32) + (1 : Int32))), .unset, .unset, .unset] [])) _
    refine XS.aload X8.here hx rfl (hb hby at_115) rfl rfl ?_
    show Steps p.tables e below (T8.setTop (mkF m 117 #[.val (.int p1), .val (.int (1 : Int32)), .val (.int (1 : Int32)), .val (.int (0 : Int32)), .val (.int (1 : Int32)), .val (.ref b2), .val (.ref b4), .val (.ref b6), .val (.int ((0 : Int32) + (1 : Int32))), .unset, .unset, .unset] [(.ref b2)])) _
    refine XS.aload X8.here hx rfl (hb hby at_117) rfl rfl ?_
    show Steps p.tables e below (T8.setTop (mkF m 119 #[.val (.int p1), .val (.int (1 : Int32)), .val (.int (1 : Int32)), .val (.int (0 : Int32)), .val (.int (1 : Int32)), .val (.ref b2), .val (.ref b4), .val (.ref b6), .val (.int ((0 : Int32) + (1 : Int32))), .unset, .unset, .unset] [(.ref b6), (.ref b2)])) _
    refine st9.trans ?_
    show Steps p.tables e below (T9.setTop (mkF m 122 #[.val (.int p1), .val (.int (1 : Int32)), .val (.int (1 : Int32)), .val (.int (0 : Int32)), .val (.int (1 : Int32)), .val (.ref b2), .val (.ref b4), .val (.ref b6), .val (.int ((0 : Int32) + (1 : Int32))), .unset, .unset, .unset] [])) _
    refine XS.iload X9.here hx rfl (hb hby at_122) rfl ?_
    show Steps p.tables e below (T9.setTop (mkF m 124 #[.val (.int p1), .val (.int (1 : Int32)), .val (.int (1 : Int32)), .val (.int (0 : Int32)), .val (.int (1 : Int32)), .val (.ref b2), .val (.ref b4), .val (.ref b6), .val (.int ((0 : Int32) + (1 : Int32))), .unset, .unset, .unset] [(.int ((0 : Int32) + (1 : Int32)))])) _
    refine XS.iconst X9.here hx rfl (hb hby at_124) ?_
    show Steps p.tables e below (T9.setTop (mkF m 125 #[.val (.int p1), .val (.int (1 : Int32)), .val (.int (1 : Int32)), .val (.int (0 : Int32)), .val (.int (1 : Int32)), .val (.ref b2), .val (.ref b4), .val (.ref b6), .val (.int ((0 : Int32) + (1 : Int32))), .unset, .unset, .unset] [(.int (1 : Int32)), (.int ((0 : Int32) + (1 : Int32)))])) _
    refine XS.iadd X9.here hx rfl (hb hby at_125) rfl ?_
    show Steps p.tables e below (T9.setTop (mkF m 126 #[.val (.int p1), .val (.int (1 : Int32)), .val (.int (1 : Int32)), .val (.int (0 : Int32)), .val (.int (1 : Int32)), .val (.ref b2), .val (.ref b4), .val (.ref b6), .val (.int ((0 : Int32) + (1 : Int32))), .unset, .unset, .unset] [(.int (((0 : Int32) + (1 : Int32)) + (1 : Int32)))])) _
    refine XS.istore X9.here hx rfl (hb hby at_126) rfl (l' := #[.val (.int p1), .val (.int (1 : Int32)), .val (.int (1 : Int32)), .val (.int (0 : Int32)), .val (.int (1 : Int32)), .val (.ref b2), .val (.ref b4), .val (.ref b6), .val (.int (((0 : Int32) + (1 : Int32)) + (1 : Int32))), .unset, .unset, .unset]) rfl ?_
    show Steps p.tables e below (T9.setTop (mkF m 128 #[.val (.int p1), .val (.int (1 : Int32)), .val (.int (1 : Int32)), .val (.int (0 : Int32)), .val (.int (1 : Int32)), .val (.ref b2), .val (.ref b4), .val (.ref b6), .val (.int (((0 : Int32) + (1 : Int32)) + (1 : Int32))), .unset, .unset, .unset] [])) _
    refine XS.iloadN X9.here hx rfl (hb hby at_128) rfl ?_
    show Steps p.tables e below (T9.setTop (mkF m 129 #[.val (.int p1), .val (.int (1 : Int32)), .val (.int (1 : Int32)), .val (.int (0 : Int32)), .val (.int (1 : Int32)), .val (.ref b2), .val (.ref b4), .val (.ref b6), .val (.int (((0 : Int32) + (1 : Int32)) + (1 : Int32))), .unset, .unset, .unset] [(.int (0 : Int32))])) _
    refine XS.ifYes X9.here hx rfl (pc0 := 129) (pc' := 145) rfl (hb hby at_129) rfl ((if0 _ _).trans (teq (rfl : (0 : Int32) = (0 : Int32))).1) (by decide) (by decide) ?_
    show Steps p.tables e below (T9.setTop (mkF m 145 #[.val (.int p1), .val (.int (1 : Int32)), .val (.int (1 : Int32)), .val (.int (0 : Int32)), .val (.int (1 : Int32)), .val (.ref b2), .val (.ref b4), .val (.ref b6), .val (.int (((0 : Int32) + (1 : Int32)) + (1 : Int32))), .unset, .unset, .unset] [])) _
    refine XS.iload X9.here hx rfl (hb hby at_145) rfl ?_
    show Steps p.tables e below (T9.setTop (mkF m 147 #[.val (.int p1), .val (.int (1 : Int32)), .val (.int (1 : Int32)), .val (.int (0 : Int32)), .val (.int (1 : Int32)), .val (.ref b2), .val (.ref b4), .val (.ref b6), .val (.int (((0 : Int32) + (1 : Int32)) + (1 : Int32))), .unset, .unset, .unset] [(.int (1 : Int32))])) _
    refine XS.ifNo X9.here hx rfl (hb hby at_147) rfl ((if0 _ _).trans (feq hc147).1) ?_
    show Steps p.tables e below (T9.setTop (mkF m 150 #[.val (.int p1), .val (.int (1 : Int32)), .val (.int (1 : Int32)), .val (.int (0 : Int32)), .val (.int (1 : Int32)), .val (.ref b2), .val (.ref b4), .val (.ref b6), .val (.int (((0 : Int32) + (1 : Int32)) + (1 : Int32))), .unset, .unset, .unset] [])) _
    refine XS.aload X9.here hx rfl (hb hby at_150) rfl rfl ?_
    show Steps p.tables e below (T9.setTop (mkF m 152 #[.val (.int p1), .val (.int (1 : Int32)), .val (.int (1 : Int32)), .val (.int (0 : Int32)), .val (.int (1 : Int32)), .val (.ref b2), .val (.ref b4), .val (.ref b6), .val (.int (((0 : Int32) + (1 : Int32)) + (1 : Int32))), .unset, .unset, .unset] [(.ref b2)])) _
    refine XS.aload X9.here hx rfl (hb hby at_152) rfl rfl ?_
    show Steps p.tables e below (T9.setTop (mkF m 154 #[.val (.int p1), .val (.int (1 : Int32)), .val (.int (1 : Int32)), .val (.int (0 : Int32)), .val (.int (1 : Int32)), .val (.ref b2), .val (.ref b4), .val (.ref b6), .val (.int (((0 : Int32) + (1 : Int32)) + (1 : Int32))), .unset, .unset, .unset] [(.ref b6), (.ref b2)])) _
    refine st10.trans ?_
    show Steps p.tables e below (T10.setTop (mkF m 157 #[.val (.int p1), .val (.int (1 : Int32)), .val (.int (1 : Int32)), .val (.int (0 : Int32)), .val (.int (1 : Int32)), .val (.ref b2), .val (.ref b4), .val (.ref b6), .val (.int (((0 : Int32) + (1 : Int32)) + (1 : Int32))), .unset, .unset, .unset] [])) _
    refine XS.iload X10.here hx rfl (hb hby at_157) rfl ?_
    show Steps p.tables e below (T10.setTop (mkF m 159 #[.val (.int p1), .val (.int (1 : Int32)), .val (.int (1 : Int32)), .val (.int (0 : Int32)), .val (.int (1 : Int32)), .val (.ref b2), .val (.ref b4), .val (.ref b6), .val (.int (((0 : Int32) + (1 : Int32)) + (1 : Int32))), .unset, .unset, .unset] [(.int (((0 : Int32) + (1 : Int32)) + (1 : Int32)))])) _
    refine XS.iconst X10.here hx rfl (hb hby at_159) ?_
    show Steps p.tables e below (T10.setTop (mkF m 160 #[.val (.int p1), .val (.int (1 : Int32)), .val (.int (1 : Int32)), .val (.int (0 : Int32)), .val (.int (1 : Int32)), .val (.ref b2), .val (.ref b4), .val (.ref b6), .val (.int (((0 : Int32) + (1 : Int32)) + (1 : Int32))), .unset, .unset, .unset] [(.int (1 : Int32)), (.int (((0 : Int32) + (1 : Int32)) + (1 : Int32)))])) _
    refine XS.isub X10.here hx rfl (hb hby at_160) rfl ?_
    show Steps p.tables e below (T10.setTop (mkF m 161 #[.val (.int p1), .val (.int (1 : Int32)), .val (.int (1 : Int32)), .val (.int (0 : Int32)), .val (.int (1 : Int32)), .val (.ref b2), .val (.ref b4), .val (.ref b6), .val (.int (((0 : Int32) + (1 : Int32)) + (1 : Int32))), .unset, .unset, .unset] [(.int ((((0 : Int32) + (1 : Int32)) + (1 : Int32)) - (1 : Int32)))])) _
    refine XS.istore X10.here hx rfl (hb hby at_161) rfl (l' := #[.val (.int p1), .val (.int (1 : Int32)), .val (.int (1 : Int32)), .val (.int (0 : Int32)), .val (.int (1 : Int32)), .val (.ref b2), .val (.ref b4), .val (.ref b6), .val (.int ((((0 : Int32) + (1 : Int32)) + (1 : Int32)) - (1 : Int32))), .unset, .unset, .unset]) rfl ?_
    show Steps p.tables e below (T10.setTop (mkF m 163 #[.val (.int p1), .val (.int (1 : Int32)), .val (.int (1 : Int32)), .val (.int (0 : Int32)), .val (.int (1 : Int32)), .val (.ref b2), .val (.ref b4), .val (.ref b6), .val (.int ((((0 : Int32) + (1 : Int32)) + (1 : Int32)) - (1 : Int32))), .unset, .unset, .unset] [])) _
    refine XS.iload X10.here hx rfl (hb hby at_163) rfl ?_
    show Steps p.tables e below (T10.setTop (mkF m 165 #[.val (.int p1), .val (.int (1 : Int32)), .val (.int (1 : Int32)), .val (.int (0 : Int32)), .val (.int (1 : Int32)), .val (.ref b2), .val (.ref b4), .val (.ref b6), .val (.int ((((0 : Int32) + (1 : Int32)) + (1 : Int32)) - (1 : Int32))), .unset, .unset, .unset] [(.int ((((0 : Int32) + (1 : Int32)) + (1 : Int32)) - (1 : Int32)))])) _
    refine own_tif_ne X10.here hx (hb hby at_165) (hb hby at_168) (hb hby at_169) (hb hby at_172) ?_
    show Steps p.tables e below (T10.setTop (mkF m 173 #[.val (.int p1), .val (.int (1 : Int32)), .val (.int (1 : Int32)), .val (.int (0 : Int32)), .val (.int (1 : Int32)), .val (.ref b2), .val (.ref b4), .val (.ref b6), .val (.int ((((0 : Int32) + (1 : Int32)) + (1 : Int32)) - (1 : Int32))), .unset, .unset, .unset] [(.int (if ((((0 : Int32) + (1 : Int32)) + (1 : Int32)) - (1 : Int32)) = (0 : Int32) then (1 : Int32) else 0))])) _
    refine XS.istore X10.here hx rfl (hb hby at_173) rfl (l' := #[.val (.int p1), .val (.int (1 : Int32)), .val (.int (1 : Int32)), .val (.int (0 : Int32)), .val (.int (1 : Int32)), .val (.ref b2), .val (.ref b4), .val (.ref b6), .val (.int ((((0 : Int32) + (1 : Int32)) + (1 : Int32)) - (1 : Int32))), .val (.int (if ((((0 : Int32) + (1 : Int32)) + (1 : Int32)) - (1 : Int32)) = (0 : Int32) then (1 : Int32) else 0)), .unset, .unset]) rfl ?_
    show Steps p.tables e below (T10.setTop (mkF m 175 #[.val (.int p1), .val (.int (1 : Int32)), .val (.int (1 : Int32)), .val (.int (0 : Int32)), .val (.int (1 : Int32)), .val (.ref b2), .val (.ref b4), .val (.ref b6), .val (.int ((((0 : Int32) + (1 : Int32)) + (1 : Int32)) - (1 : Int32))), .val (.int (if ((((0 : Int32) + (1 : Int32)) + (1 : Int32)) - (1 : Int32)) = (0 : Int32) then (1 : Int32) else 0)), .unset, .unset] [])) _
    refine XS.aload X10.here hx rfl (hb hby at_175) rfl rfl ?_
    show Steps p.tables e below (T10.setTop (mkF m 177 #[.val (.int p1), .val (.int (1 : Int32)), .val (.int (1 : Int32)), .val (.int (0 : Int32)), .val (.int (1 : Int32)), .val (.ref b2), .val (.ref b4), .val (.ref b6), .val (.int ((((0 : Int32) + (1 : Int32)) + (1 : Int32)) - (1 : Int32))), .val (.int (if ((((0 : Int32) + (1 : Int32)) + (1 : Int32)) - (1 : Int32)) = (0 : Int32) then (1 : Int32) else 0)), .unset, .unset] [(.ref b2)])) _
    refine st11.trans ?_
    show Steps p.tables e below (T11.setTop (mkF m 180 #[.val (.int p1), .val (.int (1 : Int32)), .val (.int (1 : Int32)), .val (.int (0 : Int32)), .val (.int (1 : Int32)), .val (.ref b2), .val (.ref b4), .val (.ref b6), .val (.int ((((0 : Int32) + (1 : Int32)) + (1 : Int32)) - (1 : Int32))), .val (.int (if ((((0 : Int32) + (1 : Int32)) + (1 : Int32)) - (1 : Int32)) = (0 : Int32) then (1 : Int32) else 0)), .unset, .unset] [(.int (if ((((0 : Int32) + (1 : Int32)) + (1 : Int32)) - (1 : Int32)) = (0 : Int32) then (1 : Int32) else 0))])) _
    refine XS.istore X11.here hx rfl (hb hby at_180) rfl (l' := #[.val (.int p1), .val (.int (1 : Int32)), .val (.int (1 : Int32)), .val (.int (0 : Int32)), .val (.int (1 : Int32)), .val (.ref b2), .val (.ref b4), .val (.ref b6), .val (.int ((((0 : Int32) + (1 : Int32)) + (1 : Int32)) - (1 : Int32))), .val (.int (if ((((0 : Int32) + (1 : Int32)) + (1 : Int32)) - (1 : Int32)) = (0 : Int32) then (1 : Int32) else 0)), .val (.int (if ((((0 : Int32) + (1 : Int32)) + (1 : Int32)) - (1 : Int32)) = (0 : Int32) then (1 : Int32) else 0)), .unset]) rfl ?_
    show Steps p.tables e below (T11.setTop (mkF m 182 #[.val (.int p1), .val (.int (1 : Int32)), .val (.int (1 : Int32)), .val (.int (0 : Int32)), .val (.int (1 : Int32)), .val (.ref b2), .val (.ref b4), .val (.ref b6), .val (.int ((((0 : Int32) + (1 : Int32)) + (1 : Int32)) - (1 : Int32))), .val (.int (if ((((0 : Int32) + (1 : Int32)) + (1 : Int32)) - (1 : Int32)) = (0 : Int32) then (1 : Int32) else 0)), .val (.int (if ((((0 : Int32) + (1 : Int32)) + (1 : Int32)) - (1 : Int32)) = (0 : Int32) then (1 : Int32) else 0)), .unset] [])) _
    refine XS.aload X11.here hx rfl (hb hby at_182) rfl rfl ?_
    show Steps p.tables e below (T11.setTop (mkF m 184 #[.val (.int p1), .val (.int (1 : Int32)), .val (.int (1 : Int32)), .val (.int (0 : Int32)), .val (.int (1 : Int32)), .val (.ref b2), .val (.ref b4), .val (.ref b6), .val (.int ((((0 : Int32) + (1 : Int32)) + (1 : Int32)) - (1 : Int32))), .val (.int (if ((((0 : Int32) + (1 : Int32)) + (1 : Int32)) - (1 : Int32)) = (0 : Int32) then (1 : Int32) else 0)), .val (.int (if ((((0 : Int32) + (1 : Int32)) + (1 : Int32)) - (1 : Int32)) = (0 : Int32) then (1 : Int32) else 0)), .unset] [(.ref b2)])) _
    refine st12.trans ?_
    show Steps p.tables e below (T12.setTop (mkF m 187 #[.val (.int p1), .val (.int (1 : Int32)), .val (.int (1 : Int32)), .val (.int (0 : Int32)), .val (.int (1 : Int32)), .val (.ref b2), .val (.ref b4), .val (.ref b6), .val (.int ((((0 : Int32) + (1 : Int32)) + (1 : Int32)) - (1 : Int32))), .val (.int (if ((((0 : Int32) + (1 : Int32)) + (1 : Int32)) - (1 : Int32)) = (0 : Int32) then (1 : Int32) else 0)), .val (.int (if ((((0 : Int32) + (1 : Int32)) + (1 : Int32)) - (1 : Int32)) = (0 : Int32) then (1 : Int32) else 0)), .unset] [(.ref b4)])) _
    refine XS.ifnonnullYes X12.here hx rfl (pc0 := 187) (pc' := 194) rfl (hb hby at_187) rfl (by decide) (by decide) ?_
    show Steps p.tables e below (T12.setTop (mkF m 194 #[.val (.int p1), .val (.int (1 : Int32)), .val (.int (1 : Int32)), .val (.int (0 : Int32)), .val (.int (1 : Int32)), .val (.ref b2), .val (.ref b4), .val (.ref b6), .val (.int ((((0 : Int32) + (1 : Int32)) + (1 : Int32)) - (1 : Int32))), .val (.int (if ((((0 : Int32) + (1 : Int32)) + (1 : Int32)) - (1 : Int32)) = (0 : Int32) then (1 : Int32) else 0)), .val (.int (if ((((0 : Int32) + (1 : Int32)) + (1 : Int32)) - (1 : Int32)) = (0 : Int32) then (1 : Int32) else 0)), .unset] [])) _
    refine XS.iconst X12.here hx rfl (hb hby at_194) ?_
    show Steps p.tables e below (T12.setTop (mkF m 195 #[.val (.int p1), .val (.int (1 : Int32)), .val (.int (1 : Int32)), .val (.int (0 : Int32)), .val (.int (1 : Int32)), .val (.ref b2), .val (.ref b4), .val (.ref b6), .val (.int ((((0 : Int32) + (1 : Int32)) + (1 : Int32)) - (1 : Int32))), .val (.int (if ((((0 : Int32) + (1 : Int32)) + (1 : Int32)) - (1 : Int32)) = (0 : Int32) then (1 : Int32) else 0)), .val (.int (if ((((0 : Int32) + (1 : Int32)) + (1 : Int32)) - (1 : Int32)) = (0 : Int32) then (1 : Int32) else 0)), .unset] [(.int (0 : Int32))])) _
    refine XS.istore X12.here hx rfl (hb hby at_195) rfl (l' := #[.val (.int p1), .val (.int (1 : Int32)), .val (.int (1 : Int32)), .val (.int (0 : Int32)), .val (.int (1 : Int32)), .val (.ref b2), .val (.ref b4), .val (.ref b6), .val (.int ((((0 : Int32) + (1 : Int32)) + (1 : Int32)) - (1 : Int32))), .val (.int (if ((((0 : Int32) + (1 : Int32)) + (1 : Int32)) - (1 : Int32)) = (0 : Int32) then (1 : Int32) else 0)), .val (.int (if ((((0 : Int32) + (1 : Int32)) + (1 : Int32)) - (1 : Int32)) = (0 : Int32) then (1 : Int32) else 0)), .val (.int (0 : Int32))]) rfl ?_
    show Steps p.tables e below (T12.setTop (mkF m 197 #[.val (.int p1), .val (.int (1 : Int32)), .val (.int (1 : Int32)), .val (.int (0 : Int32)), .val (.int (1 : Int32)), .val (.ref b2), .val (.ref b4), .val (.ref b6), .val (.int ((((0 : Int32) + (1 : Int32)) + (1 : Int32)) - (1 : Int32))), .val (.int (if ((((0 : Int32) + (1 : Int32)) + (1 : Int32)) - (1 : Int32)) = (0 : Int32) then (1 : Int32) else 0)), .val (.int (if ((((0 : Int32) + (1 : Int32)) + (1 : Int32)) - (1 : Int32)) = (0 : Int32) then (1 : Int32) else 0)), .val (.int (0 : Int32))] [])) _
    refine XS.iload X12.here hx rfl (hb hby at_197) rfl ?_
    show Steps p.tables e below (T12.setTop (mkF m 199 #[.val (.int p1), .val (.int (1 : Int32)), .val (.int (1 : Int32)), .val (.int (0 : Int32)), .val (.int (1 : Int32)), .val (.ref b2), .val (.ref b4), .val (.ref b6), .val (.int ((((0 : Int32) + (1 : Int32)) + (1 : Int32)) - (1 : Int32))), .val (.int (if ((((0 : Int32) + (1 : Int32)) + (1 : Int32)) - (1 : Int32)) = (0 : Int32) then (1 : Int32) else 0)), .val (.int (if ((((0 : Int32) + (1 : Int32)) + (1 : Int32)) - (1 : Int32)) = (0 : Int32) then (1 : Int32) else 0)), .val (.int (0 : Int32))] [(.int (if ((((0 : Int32) + (1 : Int32)) + (1 : Int32)) - (1 : Int32)) = (0 : Int32) then (1 : Int32) else 0))])) _
    refine XS.iload X12.here hx rfl (hb hby at_199) rfl ?_
    show Steps p.tables e below (T12.setTop (mkF m 201 #[.val (.int p1), .val (.int (1 : Int32)), .val (.int (1 : Int32)), .val (.int (0 : Int32)), .val (.int (1 : Int32)), .val (.ref b2), .val (.ref b4), .val (.ref b6), .val (.int ((((0 : Int32) + (1 : Int32)) + (1 : Int32)) - (1 : Int32))), .val (.int (if ((((0 : Int32) + (1 : Int32)) + (1 : Int32)) - (1 : Int32)) = (0 : Int32) then (1 : Int32) else 0)), .val (.int (if ((((0 : Int32) + (1 : Int32)) + (1 : Int32)) - (1 : Int32)) = (0 : Int32) then (1 : Int32) else 0)), .val (.int (0 : Int32))] [(.int (if ((((0 : Int32) + (1 : Int32)) + (1 : Int32)) - (1 : Int32)) = (0 : Int32) then (1 : Int32) else 0)), (.int (if ((((0 : Int32) + (1 : Int32)) + (1 : Int32)) - (1 : Int32)) = (0 : Int32) then (1 : Int32) else 0))])) _
    refine XS.icmpNo X12.here hx rfl (hb hby at_201) rfl (teq (rfl : (if ((((0 : Int32) + (1 : Int32)) + (1 : Int32)) - (1 : Int32)) = (0 : Int32) then (1 : Int32) else 0) = (if ((((0 : Int32) + (1 : Int32)) + (1 : Int32)) - (1 : Int32)) = (0 : Int32) then (1 : Int32) else 0))).2 ?_
    show Steps p.tables e below (T12.setTop (mkF m 204 #[.val (.int p1), .val (.int (1 : Int32)), .val (.int (1 : Int32)), .val (.int (0 : Int32)), .val (.int (1 : Int32)), .val (.ref b2), .val (.ref b4), .val (.ref b6), .val (.int ((((0 : Int32) + (1 : Int32)) + (1 : Int32)) - (1 : Int32))), .val (.int (if ((((0 : Int32) + (1 : Int32)) + (1 : Int32)) - (1 : Int32)) = (0 : Int32) then (1 : Int32) else 0)), .val (.int (if ((((0 : Int32) + (1 : Int32)) + (1 : Int32)) - (1 : Int32)) = (0 : Int32) then (1 : Int32) else 0)), .val (.int (0 : Int32))] [])) _
    refine XS.iload X12.here hx rfl (hb hby at_204) rfl ?_
    show Steps p.tables e below (T12.setTop (mkF m 206 #[.val (.int p1), .val (.int (1 : Int32)), .val (.int (1 : Int32)), .val (.int (0 : Int32)), .val (.int (1 : Int32)), .val (.ref b2), .val (.ref b4), .val (.ref b6), .val (.int ((((0 : Int32) + (1 : Int32)) + (1 : Int32)) - (1 : Int32))), .val (.int (if ((((0 : Int32) + (1 : Int32)) + (1 : Int32)) - (1 : Int32)) = (0 : Int32) then (1 : Int32) else 0)), .val (.int (if ((((0 : Int32) + (1 : Int32)) + (1 : Int32)) - (1 : Int32)) = (0 : Int32) then (1 : Int32) else 0)), .val (.int (0 : Int32))] [(.int (0 : Int32))])) _
    refine XS.iload X12.here hx rfl (hb hby at_206) rfl ?_
    show Steps p.tables e below (T12.setTop (mkF m 208 #[.val (.int p1), .val (.int (1 : Int32)), .val (.int (1 : Int32)), .val (.int (0 : Int32)), .val (.int (1 : Int32)), .val (.ref b2), .val (.ref b4), .val (.ref b6), .val (.int ((((0 : Int32) + (1 : Int32)) + (1 : Int32)) - (1 : Int32))), .val (.int (if ((((0 : Int32) + (1 : Int32)) + (1 : Int32)) - (1 : Int32)) = (0 : Int32) then (1 : Int32) else 0)), .val (.int (if ((((0 : Int32) + (1 : Int32)) + (1 : Int32)) - (1 : Int32)) = (0 : Int32) then (1 : Int32) else 0)), .val (.int (0 : Int32))] [(.int (if ((((0 : Int32) + (1 : Int32)) + (1 : Int32)) - (1 : Int32)) = (0 : Int32) then (1 : Int32) else 0)), (.int (0 : Int32))])) _
    refine XS.icmpNo X12.here hx rfl (hb hby at_208) rfl (teq hc208).2 ?_
    show Steps p.tables e below (T12.setTop (mkF m 211 #[.val (.int p1), .val (.int (1 : Int32)), .val (.int (1 : Int32)), .val (.int (0 : Int32)), .val (.int (1 : Int32)), .val (.ref b2), .val (.ref b4), .val (.ref b6), .val (.int ((((0 : Int32) + (1 : Int32)) + (1 : Int32)) - (1 : Int32))), .val (.int (if ((((0 : Int32) + (1 : Int32)) + (1 : Int32)) - (1 : Int32)) = (0 : Int32) then (1 : Int32) else 0)), .val (.int (if ((((0 : Int32) + (1 : Int32)) + (1 : Int32)) - (1 : Int32)) = (0 : Int32) then (1 : Int32) else 0)), .val (.int (0 : Int32))] [])) _
    refine XS.iconst X12.here hx rfl (hb hby at_211) ?_
    show Steps p.tables e below (T12.setTop (mkF m 212 #[.val (.int p1), .val (.int (1 : Int32)), .val (.int (1 : Int32)), .val (.int (0 : Int32)), .val (.int (1 : Int32)), .val (.ref b2), .val (.ref b4), .val (.ref b6), .val (.int ((((0 : Int32) + (1 : Int32)) + (1 : Int32)) - (1 : Int32))), .val (.int (if ((((0 : Int32) + (1 : Int32)) + (1 : Int32)) - (1 : Int32)) = (0 : Int32) then (1 : Int32) else 0)), .val (.int (if ((((0 : Int32) + (1 : Int32)) + (1 : Int32)) - (1 : Int32)) = (0 : Int32) then (1 : Int32) else 0)), .val (.int (0 : Int32))] [(.int (1 : Int32))])) _
    refine XS.goto X12.here hx rfl (pc0 := 212) (pc' := 216) rfl (hb hby at_212) (by decide) (by decide) ?_
    show Steps p.tables e below (T12.setTop (mkF m 216 #[.val (.int p1), .val (.int (1 : Int32)), .val (.int (1 : Int32)), .val (.int (0 : Int32)), .val (.int (1 : Int32)), .val (.ref b2), .val (.ref b4), .val (.ref b6), .val (.int ((((0 : Int32) + (1 : Int32)) + (1 : Int32)) - (1 : Int32))), .val (.int (if ((((0 : Int32) + (1 : Int32)) + (1 : Int32)) - (1 : Int32)) = (0 : Int32) then (1 : Int32) else 0)), .val (.int (if ((((0 : Int32) + (1 : Int32)) + (1 : Int32)) - (1 : Int32)) = (0 : Int32) then (1 : Int32) else 0)), .val (.int (0 : Int32))] [(.int (1 : Int32))])) _
    exact retN X12 hx (t := .boolean) Bd.returns (by simp) (hb hby at_216) hr
  · show Q0 Z p1 h0 n0 _ T12.heap _
    rw [e12]
    exact ⟨rfl, N12⟩

set_option maxRecDepth 65536 in
set_option maxHeartbeats 40000000 in
theorem rm0_7 (l : Launch) (Z : State) (a0 : Array Value) (hw : ∀ d ∈ tables_1, d.before a0 Z = true) (ws : List Jvm.Cond) (p1 : Int32) (h0 : Heap) (n0 : Nat) (Z0 : n0 ≤ h0.size) (hc3 : ¬ ((p1 &&& (1 : Int32)) = (0 : Int32))) (hc15 : ¬ ((p1 &&& (2 : Int32)) = (0 : Int32))) (hc25 : ¬ ((1 : Int32) = (0 : Int32))) (hc31 : ¬ ((p1 &&& (4 : Int32)) = (0 : Int32))) (hc41 : ¬ ((1 : Int32) = (0 : Int32))) (hc48 : (p1 &&& (8 : Int32)) = (0 : Int32)) (hc95 : ¬ ((1 : Int32) = (0 : Int32))) (hc112 : ¬ ((1 : Int32) = (0 : Int32))) (hc129 : ¬ ((1 : Int32) = (0 : Int32))) (hc208 : (0 : Int32) = (if ((((0 : Int32) + (1 : Int32)) + (1 : Int32)) - (1 : Int32)) = (0 : Int32) then (1 : Int32) else 0)) :
    MetFree l x (head1 (Jvm.Cond.code x code maxLocals ret :: ws) room_1) (fun a U => a = #[(.int p1)] ∧ Z.Warmed39 U.vm ∧ U.heap = h0) (fun _ _ _ _ _ => True) (fun _ U o U' => ∃ v L, o = .returned v ∧ Q0 Z p1 h0 n0 v U'.heap L ∧ FrameEnd U o U' L room_1.cells room_1.slots) := by
  refine MetFree.of_bodySF (plainFor_of_name pn_0) hisR ?_
  intro p e s m args below meth c s₁ Bd hml0 hP hK
  obtain ⟨rfl, hZ, hh⟩ := hP
  have hx := Bd.exec
  have hby := Bd.bytes
  have hml : c.maxLocals = 12 := hml0
  have hown : s.vm.findClass "com/example/idlewell/idlewell/engine/ObjectListIsEmptyPinLaw" = some m.cls := findClass_of_methodNamed Bd.named
  have hnm := (name_of_methodNamed Bd.named Bd.method).1
  have X0 : Stand p l e room_1 s m #[(.int p1)] below meth c s₁ [] 0 0 := Stand.of_body Bd
  have e0 : s₁.heap = h0 := by rw [← hh, Bd.state]; rfl
  have N0 := Fr.nil n0
  have pre0 : ∀ t, Steps p.tables e below (s₁.setTop (mkF m 0 #[.val (.int p1), .unset, .unset, .unset, .unset, .unset, .unset, .unset, .unset, .unset, .unset, .unset] [])) t → Steps p.tables e below (s₁.setTop (entryFrame m #[(.int p1)] maxLocals)) t := fun t k => castTop (ef_0 m p1) k
  obtain ⟨T2, h2, X2, e2, E2, A2, D2, -, st2⟩ := newO X0 hx hZ hown (hw _ (List.mem_of_getElem? (i := 0) rfl)) (hw _ (List.mem_of_getElem? (i := 1) rfl)) (hw _ (List.mem_of_getElem? (i := 2) rfl)) e0 (g := (mkF m 58 #[.val (.int p1), .val (.int (1 : Int32)), .val (.int (1 : Int32)), .val (.int (1 : Int32)), .val (.int (0 : Int32)), .unset, .unset, .unset, .unset, .unset, .unset, .unset] [])) rfl (hb hby at_58) (by decide) (by decide)
  obtain ⟨b2, g2⟩ : ∃ z, z = h0.size := ⟨_, rfl⟩
  rw [← g2] at A2 D2 st2
  have F_size_b2 : Fld Z h2 b2 "com/example/idlewell/idlewell/engine/ObjectList" "size" "I" (.int (0 : Int32)) := D2 (Or.inl (hw _ (List.mem_of_getElem? (i := 28) rfl))) (ty := .int) (by decide)
  have F_newest_b2 : Fld Z h2 b2 "com/example/idlewell/idlewell/engine/ObjectList" "newest" "Lcom/example/idlewell/idlewell/engine/PooledObject;" .null := D2 (Or.inl (hw _ (List.mem_of_getElem? (i := 35) rfl))) (ty := (.object "com/example/idlewell/idlewell/engine/PooledObject")) (by decide)
  have F_oldest_b2 : Fld Z h2 b2 "com/example/idlewell/idlewell/engine/ObjectList" "oldest" "Lcom/example/idlewell/idlewell/engine/PooledObject;" .null := D2 (Or.inl (hw _ (List.mem_of_getElem? (i := 47) rfl))) (ty := (.object "com/example/idlewell/idlewell/engine/PooledObject")) (by decide)
  have E_b2 := A2
  have g_b2 : n0 ≤ b2 := Nat.le_trans Z0 (Nat.le_of_eq g2.symm)
  have sz_b2 : h0.size ≤ b2 := (Nat.le_trans (Keep.refl h0 []).1 (Nat.le_of_eq g2.symm))
  have K2 : Keep h0 h2 [] := (Keep.refl h0 []).ext E2
  obtain ⟨_, _, ⟨T3, L3, k3, n3⟩, -, X3, ⟨Lc3, hQ3, l3, y3, z3⟩, st3⟩ := X2.specialBack hx (y := (⟨"com/example/idlewell/idlewell/engine/ObjectList", "<init>", "()V"⟩ : MethodName)) rfl hown (mvT hZ (hw _ (List.mem_of_getElem? (i := 3) rfl))) (mvT hZ (hw _ (List.mem_of_getElem? (i := 4) rfl))) (mvT hZ (hw _ (List.mem_of_getElem? (i := 5) rfl))) (by decide) (backOf (W := 1) (rm1 l Z a0 hw [] b2  h2 n0 (Nat.le_trans Z0 E2.1)) hZ (hw _ (List.mem_of_getElem? (i := 5) rfl)) (hw _ (List.mem_of_getElem? (i := 2) rfl)) (by decide) (by decide)) (g := (mkF m 62 #[.val (.int p1), .val (.int (1 : Int32)), .val (.int (1 : Int32)), .val (.int (1 : Int32)), .val (.int (0 : Int32)), .unset, .unset, .unset, .unset, .unset, .unset, .unset] [(.ref b2), (.ref b2)])) rfl (by rw [hml]; rfl) (Steps.refl _) (a := b2) (argsL := []) (rest := [(.ref b2)]) (lenOf pd_0_0 rfl) rfl (by show 2 * 0 + _ ≤ _; exact Nat.le_of_eq rfl) (hb hby at_62) (fun _ _ => ⟨rfl, e2, (by decide : 1 + 0 ≤ _), (by decide : 3 + 0 ≤ _)⟩)
  dsimp only [Pt.U, Pt.locs, Pt.cells, Pt.slots] at X3 l3 y3 z3 st3 hQ3
  subst l3 y3 z3
  obtain ⟨rfl, N3q, e3⟩ := hQ3
  have N3 := Fr.app N0 N3q
  obtain ⟨T4, h4, X4, e4, E4, A4, D4, -, st4⟩ := newO X3 hx hZ hown (hw _ (List.mem_of_getElem? (i := 9) rfl)) (hw _ (List.mem_of_getElem? (i := 10) rfl)) (hw _ (List.mem_of_getElem? (i := 11) rfl)) e3 (g := (mkF m 67 #[.val (.int p1), .val (.int (1 : Int32)), .val (.int (1 : Int32)), .val (.int (1 : Int32)), .val (.int (0 : Int32)), .val (.ref b2), .unset, .unset, .unset, .unset, .unset, .unset] [])) rfl (hb hby at_67) (by decide) (by decide)
  obtain ⟨b4, g4⟩ : ∃ z, z = h2.size := ⟨_, rfl⟩
  rw [← g4] at A4 D4 st4
  have F_pool_b4 : Fld Z h4 b4 "com/example/idlewell/idlewell/engine/PooledObject" "pool" "Lcom/example/idlewell/idlewell/engine/BoundedPool;" .null := D4 (Or.inr (hw _ (List.mem_of_getElem? (i := 17) rfl))) (ty := (.object "com/example/idlewell/idlewell/engine/BoundedPool")) (by decide)
  have F_object_b4 : Fld Z h4 b4 "com/example/idlewell/idlewell/engine/PooledObject" "object" "Ljava/lang/Object;" .null := D4 (Or.inr (hw _ (List.mem_of_getElem? (i := 19) rfl))) (ty := (.object "java/lang/Object")) (by decide)
  have F_slot_b4 : Fld Z h4 b4 "com/example/idlewell/idlewell/engine/PooledObject" "slot" "Lcom/example/idlewell/idlewell/engine/ThreadSlot;" .null := D4 (Or.inr (hw _ (List.mem_of_getElem? (i := 21) rfl))) (ty := (.object "com/example/idlewell/idlewell/engine/ThreadSlot")) (by decide)
  have F_older_b4 : Fld Z h4 b4 "com/example/idlewell/idlewell/engine/PooledObject" "older" "Lcom/example/idlewell/idlewell/engine/PooledObject;" .null := D4 (Or.inl (hw _ (List.mem_of_getElem? (i := 49) rfl))) (ty := (.object "com/example/idlewell/idlewell/engine/PooledObject")) (by decide)
  have F_newer_b4 : Fld Z h4 b4 "com/example/idlewell/idlewell/engine/PooledObject" "newer" "Lcom/example/idlewell/idlewell/engine/PooledObject;" .null := D4 (Or.inl (hw _ (List.mem_of_getElem? (i := 51) rfl))) (ty := (.object "com/example/idlewell/idlewell/engine/PooledObject")) (by decide)
  have E_b4 := A4
  have g_b4 : n0 ≤ b4 := Nat.le_trans (Nat.le_trans Z0 E2.1) (Nat.le_of_eq g4.symm)
  have sz_b4 : h0.size ≤ b4 := (Nat.le_trans K2.1 (Nat.le_of_eq g4.symm))
  have K4 : Keep h0 h4 [] := K2.ext E4
  obtain ⟨_, _, ⟨T5, L5, k5, n5⟩, -, X5, ⟨Lc5, hQ5, l5, y5, z5⟩, st5⟩ := X4.specialBack hx (y := (⟨"com/example/idlewell/idlewell/engine/PooledObject", "<init>", "(Lcom/example/idlewell/idlewell/engine/BoundedPool;Ljava/lang/Object;Z)V"⟩ : MethodName)) rfl hown (mvT hZ (hw _ (List.mem_of_getElem? (i := 12) rfl))) (mvT hZ (hw _ (List.mem_of_getElem? (i := 13) rfl))) (mvT hZ (hw _ (List.mem_of_getElem? (i := 14) rfl))) (by decide) (backOf (W := 1) (rm3 l Z a0 hw [] b4 (0 : Int32) .null .null .null h4 n0 (Nat.le_trans (Nat.le_trans Z0 E2.1) E4.1) E_b4 F_newer_b4 F_older_b4 F_pool_b4 g_b4 F_object_b4 F_slot_b4 rfl) hZ (hw _ (List.mem_of_getElem? (i := 14) rfl)) (hw _ (List.mem_of_getElem? (i := 11) rfl)) (by decide) (by decide)) (g := (mkF m 74 #[.val (.int p1), .val (.int (1 : Int32)), .val (.int (1 : Int32)), .val (.int (1 : Int32)), .val (.int (0 : Int32)), .val (.ref b2), .unset, .unset, .unset, .unset, .unset, .unset] [(.int (0 : Int32)), .null, .null, (.ref b4), (.ref b4)])) rfl (by rw [hml]; rfl) (Steps.refl _) (a := b4) (argsL := [.null, .null, (.int (0 : Int32))]) (rest := [(.ref b4)]) (lenOf pd_0_1 rfl) rfl (by show 2 * 0 + _ ≤ _; exact Nat.le_of_eq rfl) (hb hby at_74) (fun _ _ => ⟨rfl, e4, (by decide : 2 + 0 ≤ _), (by decide : 13 + 0 ≤ _)⟩)
  dsimp only [Pt.U, Pt.locs, Pt.cells, Pt.slots] at X5 l5 y5 z5 st5 hQ5
  subst l5 y5 z5
  obtain ⟨rfl, N5q, Kq5, Ex5, Fn5, Fo5⟩ := hQ5
  have N5 := Fr.app N3 N5q
  obtain ⟨T6, h6, X6, e6, E6, A6, D6, -, st6⟩ := newO X5 hx hZ hown (hw _ (List.mem_of_getElem? (i := 9) rfl)) (hw _ (List.mem_of_getElem? (i := 10) rfl)) (hw _ (List.mem_of_getElem? (i := 11) rfl)) rfl (g := (mkF m 79 #[.val (.int p1), .val (.int (1 : Int32)), .val (.int (1 : Int32)), .val (.int (1 : Int32)), .val (.int (0 : Int32)), .val (.ref b2), .val (.ref b4), .unset, .unset, .unset, .unset, .unset] [])) rfl (hb hby at_79) (by decide) (by decide)
  obtain ⟨b6, g6⟩ : ∃ z, z = T5.heap.size := ⟨_, rfl⟩
  rw [← g6] at A6 D6 st6
  have F_pool_b6 : Fld Z h6 b6 "com/example/idlewell/idlewell/engine/PooledObject" "pool" "Lcom/example/idlewell/idlewell/engine/BoundedPool;" .null := D6 (Or.inr (hw _ (List.mem_of_getElem? (i := 17) rfl))) (ty := (.object "com/example/idlewell/idlewell/engine/BoundedPool")) (by decide)
  have F_object_b6 : Fld Z h6 b6 "com/example/idlewell/idlewell/engine/PooledObject" "object" "Ljava/lang/Object;" .null := D6 (Or.inr (hw _ (List.mem_of_getElem? (i := 19) rfl))) (ty := (.object "java/lang/Object")) (by decide)
  have F_slot_b6 : Fld Z h6 b6 "com/example/idlewell/idlewell/engine/PooledObject" "slot" "Lcom/example/idlewell/idlewell/engine/ThreadSlot;" .null := D6 (Or.inr (hw _ (List.mem_of_getElem? (i := 21) rfl))) (ty := (.object "com/example/idlewell/idlewell/engine/ThreadSlot")) (by decide)
  have F_older_b6 : Fld Z h6 b6 "com/example/idlewell/idlewell/engine/PooledObject" "older" "Lcom/example/idlewell/idlewell/engine/PooledObject;" .null := D6 (Or.inl (hw _ (List.mem_of_getElem? (i := 49) rfl))) (ty := (.object "com/example/idlewell/idlewell/engine/PooledObject")) (by decide)
  have F_newer_b6 : Fld Z h6 b6 "com/example/idlewell/idlewell/engine/PooledObject" "newer" "Lcom/example/idlewell/idlewell/engine/PooledObject;" .null := D6 (Or.inl (hw _ (List.mem_of_getElem? (i := 51) rfl))) (ty := (.object "com/example/idlewell/idlewell/engine/PooledObject")) (by decide)
  have E_b6 := A6
  have g_b6 : n0 ≤ b6 := Nat.le_trans (Nat.le_trans (Nat.le_trans (Nat.le_trans Z0 E2.1) E4.1) Kq5.1) (Nat.le_of_eq g6.symm)
  obtain ⟨_, _, ⟨T7, L7, k7, n7⟩, -, X7, ⟨Lc7, hQ7, l7, y7, z7⟩, st7⟩ := X6.specialBack hx (y := (⟨"com/example/idlewell/idlewell/engine/PooledObject", "<init>", "(Lcom/example/idlewell/idlewell/engine/BoundedPool;Ljava/lang/Object;Z)V"⟩ : MethodName)) rfl hown (mvT hZ (hw _ (List.mem_of_getElem? (i := 12) rfl))) (mvT hZ (hw _ (List.mem_of_getElem? (i := 13) rfl))) (mvT hZ (hw _ (List.mem_of_getElem? (i := 14) rfl))) (by decide) (backOf (W := 1) (rm3 l Z a0 hw [] b6 (0 : Int32) .null .null .null h6 n0 (Nat.le_trans (Nat.le_trans (Nat.le_trans (Nat.le_trans Z0 E2.1) E4.1) Kq5.1) E6.1) E_b6 F_newer_b6 F_older_b6 F_pool_b6 g_b6 F_object_b6 F_slot_b6 rfl) hZ (hw _ (List.mem_of_getElem? (i := 14) rfl)) (hw _ (List.mem_of_getElem? (i := 11) rfl)) (by decide) (by decide)) (g := (mkF m 86 #[.val (.int p1), .val (.int (1 : Int32)), .val (.int (1 : Int32)), .val (.int (1 : Int32)), .val (.int (0 : Int32)), .val (.ref b2), .val (.ref b4), .unset, .unset, .unset, .unset, .unset] [(.int (0 : Int32)), .null, .null, (.ref b6), (.ref b6)])) rfl (by rw [hml]; rfl) (Steps.refl _) (a := b6) (argsL := [.null, .null, (.int (0 : Int32))]) (rest := [(.ref b6)]) (lenOf pd_0_1 rfl) rfl (by show 2 * 0 + _ ≤ _; exact Nat.le_of_eq rfl) (hb hby at_86) (fun _ _ => ⟨rfl, e6, (by decide : 3 + 0 ≤ _), (by decide : 23 + 0 ≤ _)⟩)
  dsimp only [Pt.U, Pt.locs, Pt.cells, Pt.slots] at X7 l7 y7 z7 st7 hQ7
  subst l7 y7 z7
  obtain ⟨rfl, N7q, Kq7, Ex7, Fn7, Fo7⟩ := hQ7
  have N7 := Fr.app N5 N7q
  obtain ⟨cq8, kq8, q8a, q8b, q8c⟩ := isOf hZ rfl ((((E_b2.ext E4).keep Kq5).ext E6).keep Kq7)
  obtain ⟨_, _, ⟨T8, L8, k8, n8⟩, -, X8, ⟨Lc8, hQ8, l8, y8, z8⟩, st8⟩ := X7.virtualBack hx (y := (⟨"com/example/idlewell/idlewell/engine/ObjectList", "addNewest", "(Lcom/example/idlewell/idlewell/engine/PooledObject;)V"⟩ : MethodName)) (z := (⟨"com/example/idlewell/idlewell/engine/ObjectList", "addNewest", "(Lcom/example/idlewell/idlewell/engine/PooledObject;)V"⟩ : MethodName)) hown (mvT hZ (hw _ (List.mem_of_getElem? (i := 36) rfl))) (mvT hZ (hw _ (List.mem_of_getElem? (i := 37) rfl))) (notFace_of_selects (args := #[]) (mvT hZ (hw _ (List.mem_of_getElem? (i := 39) rfl)))) (mvT hZ (hw _ (List.mem_of_getElem? (i := 39) rfl))) (mvT hZ (hw _ (List.mem_of_getElem? (i := 38) rfl))) (by decide) (backOf (W := 0) (rm6A l Z a0 hw [] b2 b4 b6 (0 : Int32) T7.heap n0 (Nat.le_trans (Nat.le_trans (Nat.le_trans (Nat.le_trans (Nat.le_trans Z0 E2.1) E4.1) Kq5.1) E6.1) Kq7.1) ⟨((((E_b2.ext E4).keep Kq5).ext E6).keep Kq7), ((Ex5.ext E6).keep Kq7), Ex7, ((((F_newest_b2.ext E4).keep Kq5 (fun q_ => (Nat.ne_of_lt (Nat.lt_of_lt_of_le E_b2.lt (Nat.le_of_eq g4.symm))) (List.mem_singleton.mp q_))).ext E6).keep Kq7 (fun q_ => (Nat.ne_of_lt (Nat.lt_of_lt_of_le ((E_b2.ext E4).keep Kq5).lt (Nat.le_of_eq g6.symm))) (List.mem_singleton.mp q_))), ((((F_oldest_b2.ext E4).keep Kq5 (fun q_ => (Nat.ne_of_lt (Nat.lt_of_lt_of_le E_b2.lt (Nat.le_of_eq g4.symm))) (List.mem_singleton.mp q_))).ext E6).keep Kq7 (fun q_ => (Nat.ne_of_lt (Nat.lt_of_lt_of_le ((E_b2.ext E4).keep Kq5).lt (Nat.le_of_eq g6.symm))) (List.mem_singleton.mp q_))), ((((F_size_b2.ext E4).keep Kq5 (fun q_ => (Nat.ne_of_lt (Nat.lt_of_lt_of_le E_b2.lt (Nat.le_of_eq g4.symm))) (List.mem_singleton.mp q_))).ext E6).keep Kq7 (fun q_ => (Nat.ne_of_lt (Nat.lt_of_lt_of_le ((E_b2.ext E4).keep Kq5).lt (Nat.le_of_eq g6.symm))) (List.mem_singleton.mp q_))), ((Fn5.ext E6).keep Kq7 (fun q_ => (Nat.ne_of_lt (Nat.lt_of_lt_of_le Ex5.lt (Nat.le_of_eq g6.symm))) (List.mem_singleton.mp q_))), ((Fo5.ext E6).keep Kq7 (fun q_ => (Nat.ne_of_lt (Nat.lt_of_lt_of_le Ex5.lt (Nat.le_of_eq g6.symm))) (List.mem_singleton.mp q_))), Fn7, Fo7⟩ g_b2 g_b4 g_b6 (Nat.ne_of_lt (Nat.lt_of_lt_of_le E_b2.lt (Nat.le_of_eq g4.symm))) (Nat.ne_of_lt (Nat.lt_of_lt_of_le ((E_b2.ext E4).keep Kq5).lt (Nat.le_of_eq g6.symm))) (Nat.ne_of_lt (Nat.lt_of_lt_of_le Ex5.lt (Nat.le_of_eq g6.symm)))) hZ (hw _ (List.mem_of_getElem? (i := 40) rfl)) (hw _ (List.mem_of_getElem? (i := 2) rfl)) (by decide) (by decide)) q8a q8c (g := (mkF m 102 #[.val (.int p1), .val (.int (1 : Int32)), .val (.int (1 : Int32)), .val (.int (1 : Int32)), .val (.int (0 : Int32)), .val (.ref b2), .val (.ref b4), .val (.ref b6), .val (.int (0 : Int32)), .unset, .unset, .unset] [(.ref b4), (.ref b2)])) rfl (by rw [hml]; rfl) (Steps.refl _) (argsL := [(.ref b4)]) (rest := []) (lenOf pd_0_4 rfl) rfl (by show 2 * 0 + _ ≤ _; exact Nat.le_of_eq rfl) (hb hby at_102) (fun _ _ => ⟨rfl, rfl, (by decide : 3 + 0 ≤ _), (by decide : 23 + 0 ≤ _)⟩)
  dsimp only [Pt.U, Pt.locs, Pt.cells, Pt.slots] at X8 l8 y8 z8 st8 hQ8
  subst l8 y8 z8
  obtain ⟨rfl, N8q, Kq8, ⟨E_o8, E_p8, E_q8, Fnw8, Fod8, Fsz8, Fpn8, Fpo8, Fqn8, Fqo8⟩⟩ := hQ8
  have N8 := Fr.app N7 N8q
  obtain ⟨cq9, kq9, q9a, q9b, q9c⟩ := isOf hZ rfl E_o8
  obtain ⟨_, _, ⟨T9, L9, k9, n9⟩, -, X9, ⟨Lc9, hQ9, l9, y9, z9⟩, st9⟩ := X8.virtualBack hx (y := (⟨"com/example/idlewell/idlewell/engine/ObjectList", "addNewest", "(Lcom/example/idlewell/idlewell/engine/PooledObject;)V"⟩ : MethodName)) (z := (⟨"com/example/idlewell/idlewell/engine/ObjectList", "addNewest", "(Lcom/example/idlewell/idlewell/engine/PooledObject;)V"⟩ : MethodName)) hown (mvT hZ (hw _ (List.mem_of_getElem? (i := 36) rfl))) (mvT hZ (hw _ (List.mem_of_getElem? (i := 37) rfl))) (notFace_of_selects (args := #[]) (mvT hZ (hw _ (List.mem_of_getElem? (i := 39) rfl)))) (mvT hZ (hw _ (List.mem_of_getElem? (i := 39) rfl))) (mvT hZ (hw _ (List.mem_of_getElem? (i := 38) rfl))) (by decide) (backOf (W := 0) (rm6B l Z a0 hw [] b2 b6 b4 ((0 : Int32) + (1 : Int32)) T8.heap n0 (Nat.le_trans (Nat.le_trans (Nat.le_trans (Nat.le_trans (Nat.le_trans (Nat.le_trans Z0 E2.1) E4.1) Kq5.1) E6.1) Kq7.1) Kq8.1) ⟨E_o8, E_q8, E_p8, Fnw8, Fod8, Fsz8, Fqn8, Fqo8, Fpn8, Fpo8⟩ g_b2 g_b6 g_b4 (Nat.ne_of_lt (Nat.lt_of_lt_of_le ((E_b2.ext E4).keep Kq5).lt (Nat.le_of_eq g6.symm))) (Nat.ne_of_lt (Nat.lt_of_lt_of_le E_b2.lt (Nat.le_of_eq g4.symm))) (Ne.symm (Nat.ne_of_lt (Nat.lt_of_lt_of_le Ex5.lt (Nat.le_of_eq g6.symm))))) hZ (hw _ (List.mem_of_getElem? (i := 40) rfl)) (hw _ (List.mem_of_getElem? (i := 2) rfl)) (by decide) (by decide)) q9a q9c (g := (mkF m 119 #[.val (.int p1), .val (.int (1 : Int32)), .val (.int (1 : Int32)), .val (.int (1 : Int32)), .val (.int (0 : Int32)), .val (.ref b2), .val (.ref b4), .val (.ref b6), .val (.int ((0 : Int32) + (1 : Int32))), .unset, .unset, .unset] [(.ref b6), (.ref b2)])) rfl (by rw [hml]; rfl) (Steps.refl _) (argsL := [(.ref b6)]) (rest := []) (lenOf pd_0_4 rfl) rfl (by show 2 * 0 + _ ≤ _; exact Nat.le_of_eq rfl) (hb hby at_119) (fun _ _ => ⟨rfl, rfl, (by decide : 3 + 0 ≤ _), (by decide : 23 + 0 ≤ _)⟩)
  dsimp only [Pt.U, Pt.locs, Pt.cells, Pt.slots] at X9 l9 y9 z9 st9 hQ9
  subst l9 y9 z9
  obtain ⟨rfl, N9q, Kq9, ⟨E_o9, E_p9, E_q9, Fnw9, Fod9, Fsz9, Fpn9, Fpo9, Fqn9, Fqo9⟩⟩ := hQ9
  have N9 := Fr.app N8 N9q
  obtain ⟨cq10, kq10, q10a, q10b, q10c⟩ := isOf hZ rfl E_o9
  obtain ⟨_, _, ⟨T10, L10, k10, n10⟩, -, X10, ⟨Lc10, hQ10, l10, y10, z10⟩, st10⟩ := X9.virtualBack hx (y := (⟨"com/example/idlewell/idlewell/engine/ObjectList", "remove", "(Lcom/example/idlewell/idlewell/engine/PooledObject;)V"⟩ : MethodName)) (z := (⟨"com/example/idlewell/idlewell/engine/ObjectList", "remove", "(Lcom/example/idlewell/idlewell/engine/PooledObject;)V"⟩ : MethodName)) hown (mvT hZ (hw _ (List.mem_of_getElem? (i := 52) rfl))) (mvT hZ (hw _ (List.mem_of_getElem? (i := 53) rfl))) (notFace_of_selects (args := #[]) (mvT hZ (hw _ (List.mem_of_getElem? (i := 55) rfl)))) (mvT hZ (hw _ (List.mem_of_getElem? (i := 55) rfl))) (mvT hZ (hw _ (List.mem_of_getElem? (i := 54) rfl))) (by decide) (backOf (W := 0) (rm8old l Z a0 hw [] b2 b4 b6 (((0 : Int32) + (1 : Int32)) + (1 : Int32)) T9.heap n0 (Nat.le_trans (Nat.le_trans (Nat.le_trans (Nat.le_trans (Nat.le_trans (Nat.le_trans (Nat.le_trans Z0 E2.1) E4.1) Kq5.1) E6.1) Kq7.1) Kq8.1) Kq9.1) ⟨E_o9, E_q9, E_p9, Fnw9, Fod9, Fsz9, Fqn9, Fqo9, Fpn9, Fpo9⟩ g_b2 g_b4 g_b6 (Nat.ne_of_lt (Nat.lt_of_lt_of_le E_b2.lt (Nat.le_of_eq g4.symm))) (Nat.ne_of_lt (Nat.lt_of_lt_of_le ((E_b2.ext E4).keep Kq5).lt (Nat.le_of_eq g6.symm))) (Nat.ne_of_lt (Nat.lt_of_lt_of_le Ex5.lt (Nat.le_of_eq g6.symm)))) hZ (hw _ (List.mem_of_getElem? (i := 56) rfl)) (hw _ (List.mem_of_getElem? (i := 2) rfl)) (by decide) (by decide)) q10a q10c (g := (mkF m 136 #[.val (.int p1), .val (.int (1 : Int32)), .val (.int (1 : Int32)), .val (.int (1 : Int32)), .val (.int (0 : Int32)), .val (.ref b2), .val (.ref b4), .val (.ref b6), .val (.int (((0 : Int32) + (1 : Int32)) + (1 : Int32))), .unset, .unset, .unset] [(.ref b4), (.ref b2)])) rfl (by rw [hml]; rfl) (Steps.refl _) (argsL := [(.ref b4)]) (rest := []) (lenOf pd_0_4 rfl) rfl (by show 2 * 0 + _ ≤ _; exact Nat.le_of_eq rfl) (hb hby at_136) (fun _ _ => ⟨rfl, rfl, (by decide : 3 + 0 ≤ _), (by decide : 23 + 0 ≤ _)⟩)
  dsimp only [Pt.U, Pt.locs, Pt.cells, Pt.slots] at X10 l10 y10 z10 st10 hQ10
  subst l10 y10 z10
  obtain ⟨rfl, N10q, Kq10, ⟨E_o10, E_p10, E_q10, Fnw10, Fod10, Fsz10, Fpn10, Fpo10, Fqn10, Fqo10⟩⟩ := hQ10
  have N10 := Fr.app N9 N10q
  obtain ⟨cq11, kq11, q11a, q11b, q11c⟩ := isOf hZ rfl E_o10
  obtain ⟨_, _, ⟨T11, L11, k11, n11⟩, -, X11, ⟨Lc11, hQ11, l11, y11, z11⟩, st11⟩ := X10.virtualBack hx (y := (⟨"com/example/idlewell/idlewell/engine/ObjectList", "isEmpty", "()Z"⟩ : MethodName)) (z := (⟨"com/example/idlewell/idlewell/engine/ObjectList", "isEmpty", "()Z"⟩ : MethodName)) hown (mvT hZ (hw _ (List.mem_of_getElem? (i := 22) rfl))) (mvT hZ (hw _ (List.mem_of_getElem? (i := 23) rfl))) (notFace_of_selects (args := #[]) (mvT hZ (hw _ (List.mem_of_getElem? (i := 25) rfl)))) (mvT hZ (hw _ (List.mem_of_getElem? (i := 25) rfl))) (mvT hZ (hw _ (List.mem_of_getElem? (i := 24) rfl))) (by decide) (backOf (W := 0) (rm4 l Z a0 hw [] b2 ((((0 : Int32) + (1 : Int32)) + (1 : Int32)) - (1 : Int32)) T10.heap n0 (Nat.le_trans (Nat.le_trans (Nat.le_trans (Nat.le_trans (Nat.le_trans (Nat.le_trans (Nat.le_trans (Nat.le_trans Z0 E2.1) E4.1) Kq5.1) E6.1) Kq7.1) Kq8.1) Kq9.1) Kq10.1) Fsz10) hZ (hw _ (List.mem_of_getElem? (i := 26) rfl)) (hw _ (List.mem_of_getElem? (i := 2) rfl)) (by decide) (by decide)) q11a q11c (g := (mkF m 177 #[.val (.int p1), .val (.int (1 : Int32)), .val (.int (1 : Int32)), .val (.int (1 : Int32)), .val (.int (0 : Int32)), .val (.ref b2), .val (.ref b4), .val (.ref b6), .val (.int ((((0 : Int32) + (1 : Int32)) + (1 : Int32)) - (1 : Int32))), .val (.int (if ((((0 : Int32) + (1 : Int32)) + (1 : Int32)) - (1 : Int32)) = (0 : Int32) then (1 : Int32) else 0)), .unset, .unset] [(.ref b2)])) rfl (by rw [hml]; rfl) (Steps.refl _) (argsL := []) (rest := []) (lenOf pd_0_2 rfl) rfl (by show 2 * 0 + _ ≤ _; exact Nat.le_of_eq rfl) (hb hby at_177) (fun _ _ => ⟨rfl, rfl, (by decide : 3 + 0 ≤ _), (by decide : 23 + 0 ≤ _)⟩)
  dsimp only [Pt.U, Pt.locs, Pt.cells, Pt.slots] at X11 l11 y11 z11 st11 hQ11
  subst l11 y11 z11
  obtain ⟨rfl, N11q, e11⟩ := hQ11
  have N11 := Fr.app N10 N11q
  obtain ⟨cq12, kq12, q12a, q12b, q12c⟩ := isOf hZ e11 E_o10
  obtain ⟨_, _, ⟨T12, L12, k12, n12⟩, -, X12, ⟨Lc12, hQ12, l12, y12, z12⟩, st12⟩ := X11.virtualBack hx (y := (⟨"com/example/idlewell/idlewell/engine/ObjectList", "newest", "()Lcom/example/idlewell/idlewell/engine/PooledObject;"⟩ : MethodName)) (z := (⟨"com/example/idlewell/idlewell/engine/ObjectList", "newest", "()Lcom/example/idlewell/idlewell/engine/PooledObject;"⟩ : MethodName)) hown (mvT hZ (hw _ (List.mem_of_getElem? (i := 29) rfl))) (mvT hZ (hw _ (List.mem_of_getElem? (i := 30) rfl))) (notFace_of_selects (args := #[]) (mvT hZ (hw _ (List.mem_of_getElem? (i := 32) rfl)))) (mvT hZ (hw _ (List.mem_of_getElem? (i := 32) rfl))) (mvT hZ (hw _ (List.mem_of_getElem? (i := 31) rfl))) (by decide) (backOf (W := 0) (rm5r l Z a0 hw [] b2 b6 T10.heap n0 (Nat.le_trans (Nat.le_trans (Nat.le_trans (Nat.le_trans (Nat.le_trans (Nat.le_trans (Nat.le_trans (Nat.le_trans Z0 E2.1) E4.1) Kq5.1) E6.1) Kq7.1) Kq8.1) Kq9.1) Kq10.1) Fnw10) hZ (hw _ (List.mem_of_getElem? (i := 33) rfl)) (hw _ (List.mem_of_getElem? (i := 2) rfl)) (by decide) (by decide)) q12a q12c (g := (mkF m 184 #[.val (.int p1), .val (.int (1 : Int32)), .val (.int (1 : Int32)), .val (.int (1 : Int32)), .val (.int (0 : Int32)), .val (.ref b2), .val (.ref b4), .val (.ref b6), .val (.int ((((0 : Int32) + (1 : Int32)) + (1 : Int32)) - (1 : Int32))), .val (.int (if ((((0 : Int32) + (1 : Int32)) + (1 : Int32)) - (1 : Int32)) = (0 : Int32) then (1 : Int32) else 0)), .val (.int (if ((((0 : Int32) + (1 : Int32)) + (1 : Int32)) - (1 : Int32)) = (0 : Int32) then (1 : Int32) else 0)), .unset] [(.ref b2)])) rfl (by rw [hml]; rfl) (Steps.refl _) (argsL := []) (rest := []) (lenOf pd_0_3 rfl) rfl (by show 2 * 0 + _ ≤ _; exact Nat.le_of_eq rfl) (hb hby at_184) (fun _ _ => ⟨rfl, e11, (by decide : 3 + 0 ≤ _), (by decide : 23 + 0 ≤ _)⟩)
  dsimp only [Pt.U, Pt.locs, Pt.cells, Pt.slots] at X12 l12 y12 z12 st12 hQ12
  subst l12 y12 z12
  obtain ⟨rfl, N12q, e12⟩ := hQ12
  have N12 := Fr.app N11 N12q
  obtain ⟨fs, hr, hrun, hended, hW, hsame⟩ := X12.leave (v := some (.int (1 : Int32))) (fun h => by rw [Bd.returns] at h; cases h)
  refine ⟨_, _, pre0 _ ?_, hrun, hended, _, _, rfl, ?_, ⟨_, rfl⟩, hW, hsame.mono (by decide) (by decide)⟩
  · show Steps p.tables e below (s₁.setTop (mkF m 0 #[.val (.int p1), .unset, .unset, .unset, .unset, .unset, .unset, .unset, .unset, .unset, .unset, .unset] [])) _
    refine XS.iloadN X0.here hx rfl (hb hby at_0) rfl ?_
    show Steps p.tables e below (s₁.setTop (mkF m 1 #[.val (.int p1), .unset, .unset, .unset, .unset, .unset, .unset, .unset, .unset, .unset, .unset, .unset] [(.int p1)])) _
    refine XS.iconst X0.here hx rfl (hb hby at_1) ?_
    show Steps p.tables e below (s₁.setTop (mkF m 2 #[.val (.int p1), .unset, .unset, .unset, .unset, .unset, .unset, .unset, .unset, .unset, .unset, .unset] [(.int (1 : Int32)), (.int p1)])) _
    refine XS.iand X0.here hx rfl (hb hby at_2) rfl ?_
    show Steps p.tables e below (s₁.setTop (mkF m 3 #[.val (.int p1), .unset, .unset, .unset, .unset, .unset, .unset, .unset, .unset, .unset, .unset, .unset] [(.int (p1 &&& (1 : Int32)))])) _
    refine XS.ifNo X0.here hx rfl (hb hby at_3) rfl ((if0 _ _).trans (feq hc3).1) ?_
    show Steps p.tables e below (s₁.setTop (mkF m 6 #[.val (.int p1), .unset, .unset, .unset, .unset, .unset, .unset, .unset, .unset, .unset, .unset, .unset] [])) _
    refine XS.iconst X0.here hx rfl (hb hby at_6) ?_
    show Steps p.tables e below (s₁.setTop (mkF m 7 #[.val (.int p1), .unset, .unset, .unset, .unset, .unset, .unset, .unset, .unset, .unset, .unset, .unset] [(.int (1 : Int32))])) _
    refine XS.goto X0.here hx rfl (pc0 := 7) (pc' := 11) rfl (hb hby at_7) (by decide) (by decide) ?_
    show Steps p.tables e below (s₁.setTop (mkF m 11 #[.val (.int p1), .unset, .unset, .unset, .unset, .unset, .unset, .unset, .unset, .unset, .unset, .unset] [(.int (1 : Int32))])) _
    refine XS.istoreN X0.here hx rfl (hb hby at_11) rfl (l' := #[.val (.int p1), .val (.int (1 : Int32)), .unset, .unset, .unset, .unset, .unset, .unset, .unset, .unset, .unset, .unset]) rfl ?_
    show Steps p.tables e below (s₁.setTop (mkF m 12 #[.val (.int p1), .val (.int (1 : Int32)), .unset, .unset, .unset, .unset, .unset, .unset, .unset, .unset, .unset, .unset] [])) _
    refine XS.iloadN X0.here hx rfl (hb hby at_12) rfl ?_
    show Steps p.tables e below (s₁.setTop (mkF m 13 #[.val (.int p1), .val (.int (1 : Int32)), .unset, .unset, .unset, .unset, .unset, .unset, .unset, .unset, .unset, .unset] [(.int p1)])) _
    refine XS.iconst X0.here hx rfl (hb hby at_13) ?_
    show Steps p.tables e below (s₁.setTop (mkF m 14 #[.val (.int p1), .val (.int (1 : Int32)), .unset, .unset, .unset, .unset, .unset, .unset, .unset, .unset, .unset, .unset] [(.int (2 : Int32)), (.int p1)])) _
    refine XS.iand X0.here hx rfl (hb hby at_14) rfl ?_
    show Steps p.tables e below (s₁.setTop (mkF m 15 #[.val (.int p1), .val (.int (1 : Int32)), .unset, .unset, .unset, .unset, .unset, .unset, .unset, .unset, .unset, .unset] [(.int (p1 &&& (2 : Int32)))])) _
    refine XS.ifNo X0.here hx rfl (hb hby at_15) rfl ((if0 _ _).trans (feq hc15).1) ?_
    show Steps p.tables e below (s₁.setTop (mkF m 18 #[.val (.int p1), .val (.int (1 : Int32)), .unset, .unset, .unset, .unset, .unset, .unset, .unset, .unset, .unset, .unset] [])) _
    refine XS.iconst X0.here hx rfl (hb hby at_18) ?_
    show Steps p.tables e below (s₁.setTop (mkF m 19 #[.val (.int p1), .val (.int (1 : Int32)), .unset, .unset, .unset, .unset, .unset, .unset, .unset, .unset, .unset, .unset] [(.int (1 : Int32))])) _
    refine XS.goto X0.here hx rfl (pc0 := 19) (pc' := 23) rfl (hb hby at_19) (by decide) (by decide) ?_
    show Steps p.tables e below (s₁.setTop (mkF m 23 #[.val (.int p1), .val (.int (1 : Int32)), .unset, .unset, .unset, .unset, .unset, .unset, .unset, .unset, .unset, .unset] [(.int (1 : Int32))])) _
    refine XS.istoreN X0.here hx rfl (hb hby at_23) rfl (l' := #[.val (.int p1), .val (.int (1 : Int32)), .val (.int (1 : Int32)), .unset, .unset, .unset, .unset, .unset, .unset, .unset, .unset, .unset]) rfl ?_
    show Steps p.tables e below (s₁.setTop (mkF m 24 #[.val (.int p1), .val (.int (1 : Int32)), .val (.int (1 : Int32)), .unset, .unset, .unset, .unset, .unset, .unset, .unset, .unset, .unset] [])) _
    refine XS.iloadN X0.here hx rfl (hb hby at_24) rfl ?_
    show Steps p.tables e below (s₁.setTop (mkF m 25 #[.val (.int p1), .val (.int (1 : Int32)), .val (.int (1 : Int32)), .unset, .unset, .unset, .unset, .unset, .unset, .unset, .unset, .unset] [(.int (1 : Int32))])) _
    refine XS.ifNo X0.here hx rfl (hb hby at_25) rfl ((if0 _ _).trans (feq hc25).1) ?_
    show Steps p.tables e below (s₁.setTop (mkF m 28 #[.val (.int p1), .val (.int (1 : Int32)), .val (.int (1 : Int32)), .unset, .unset, .unset, .unset, .unset, .unset, .unset, .unset, .unset] [])) _
    refine XS.iloadN X0.here hx rfl (hb hby at_28) rfl ?_
    show Steps p.tables e below (s₁.setTop (mkF m 29 #[.val (.int p1), .val (.int (1 : Int32)), .val (.int (1 : Int32)), .unset, .unset, .unset, .unset, .unset, .unset, .unset, .unset, .unset] [(.int p1)])) _
    refine XS.iconst X0.here hx rfl (hb hby at_29) ?_
    show Steps p.tables e below (s₁.setTop (mkF m 30 #[.val (.int p1), .val (.int (1 : Int32)), .val (.int (1 : Int32)), .unset, .unset, .unset, .unset, .unset, .unset, .unset, .unset, .unset] [(.int (4 : Int32)), (.int p1)])) _
    refine XS.iand X0.here hx rfl (hb hby at_30) rfl ?_
    show Steps p.tables e below (s₁.setTop (mkF m 31 #[.val (.int p1), .val (.int (1 : Int32)), .val (.int (1 : Int32)), .unset, .unset, .unset, .unset, .unset, .unset, .unset, .unset, .unset] [(.int (p1 &&& (4 : Int32)))])) _
    refine XS.ifNo X0.here hx rfl (hb hby at_31) rfl ((if0 _ _).trans (feq hc31).1) ?_
    show Steps p.tables e below (s₁.setTop (mkF m 34 #[.val (.int p1), .val (.int (1 : Int32)), .val (.int (1 : Int32)), .unset, .unset, .unset, .unset, .unset, .unset, .unset, .unset, .unset] [])) _
    refine XS.iconst X0.here hx rfl (hb hby at_34) ?_
    show Steps p.tables e below (s₁.setTop (mkF m 35 #[.val (.int p1), .val (.int (1 : Int32)), .val (.int (1 : Int32)), .unset, .unset, .unset, .unset, .unset, .unset, .unset, .unset, .unset] [(.int (1 : Int32))])) _
    refine XS.goto X0.here hx rfl (pc0 := 35) (pc' := 39) rfl (hb hby at_35) (by decide) (by decide) ?_
    show Steps p.tables e below (s₁.setTop (mkF m 39 #[.val (.int p1), .val (.int (1 : Int32)), .val (.int (1 : Int32)), .unset, .unset, .unset, .unset, .unset, .unset, .unset, .unset, .unset] [(.int (1 : Int32))])) _
    refine XS.istoreN X0.here hx rfl (hb hby at_39) rfl (l' := #[.val (.int p1), .val (.int (1 : Int32)), .val (.int (1 : Int32)), .val (.int (1 : Int32)), .unset, .unset, .unset, .unset, .unset, .unset, .unset, .unset]) rfl ?_
    show Steps p.tables e below (s₁.setTop (mkF m 40 #[.val (.int p1), .val (.int (1 : Int32)), .val (.int (1 : Int32)), .val (.int (1 : Int32)), .unset, .unset, .unset, .unset, .unset, .unset, .unset, .unset] [])) _
    refine XS.iloadN X0.here hx rfl (hb hby at_40) rfl ?_
    show Steps p.tables e below (s₁.setTop (mkF m 41 #[.val (.int p1), .val (.int (1 : Int32)), .val (.int (1 : Int32)), .val (.int (1 : Int32)), .unset, .unset, .unset, .unset, .unset, .unset, .unset, .unset] [(.int (1 : Int32))])) _
    refine XS.ifNo X0.here hx rfl (hb hby at_41) rfl ((if0 _ _).trans (feq hc41).1) ?_
    show Steps p.tables e below (s₁.setTop (mkF m 44 #[.val (.int p1), .val (.int (1 : Int32)), .val (.int (1 : Int32)), .val (.int (1 : Int32)), .unset, .unset, .unset, .unset, .unset, .unset, .unset, .unset] [])) _
    refine XS.iloadN X0.here hx rfl (hb hby at_44) rfl ?_
    show Steps p.tables e below (s₁.setTop (mkF m 45 #[.val (.int p1), .val (.int (1 : Int32)), .val (.int (1 : Int32)), .val (.int (1 : Int32)), .unset, .unset, .unset, .unset, .unset, .unset, .unset, .unset] [(.int p1)])) _
    refine XS.bipush X0.here hx rfl (hb hby at_45) ?_
    show Steps p.tables e below (s₁.setTop (mkF m 47 #[.val (.int p1), .val (.int (1 : Int32)), .val (.int (1 : Int32)), .val (.int (1 : Int32)), .unset, .unset, .unset, .unset, .unset, .unset, .unset, .unset] [(.int (8 : Int32)), (.int p1)])) _
    refine XS.iand X0.here hx rfl (hb hby at_47) rfl ?_
    show Steps p.tables e below (s₁.setTop (mkF m 48 #[.val (.int p1), .val (.int (1 : Int32)), .val (.int (1 : Int32)), .val (.int (1 : Int32)), .unset, .unset, .unset, .unset, .unset, .unset, .unset, .unset] [(.int (p1 &&& (8 : Int32)))])) _
    refine XS.ifYes X0.here hx rfl (pc0 := 48) (pc' := 55) rfl (hb hby at_48) rfl ((if0 _ _).trans (teq hc48).1) (by decide) (by decide) ?_
    show Steps p.tables e below (s₁.setTop (mkF m 55 #[.val (.int p1), .val (.int (1 : Int32)), .val (.int (1 : Int32)), .val (.int (1 : Int32)), .unset, .unset, .unset, .unset, .unset, .unset, .unset, .unset] [])) _
    refine XS.iconst X0.here hx rfl (hb hby at_55) ?_
    show Steps p.tables e below (s₁.setTop (mkF m 56 #[.val (.int p1), .val (.int (1 : Int32)), .val (.int (1 : Int32)), .val (.int (1 : Int32)), .unset, .unset, .unset, .unset, .unset, .unset, .unset, .unset] [(.int (0 : Int32))])) _
    refine XS.istore X0.here hx rfl (hb hby at_56) rfl (l' := #[.val (.int p1), .val (.int (1 : Int32)), .val (.int (1 : Int32)), .val (.int (1 : Int32)), .val (.int (0 : Int32)), .unset, .unset, .unset, .unset, .unset, .unset, .unset]) rfl ?_
    show Steps p.tables e below (s₁.setTop (mkF m 58 #[.val (.int p1), .val (.int (1 : Int32)), .val (.int (1 : Int32)), .val (.int (1 : Int32)), .val (.int (0 : Int32)), .unset, .unset, .unset, .unset, .unset, .unset, .unset] [])) _
    refine st2 _ ?_
    show Steps p.tables e below (T2.setTop (mkF m 61 #[.val (.int p1), .val (.int (1 : Int32)), .val (.int (1 : Int32)), .val (.int (1 : Int32)), .val (.int (0 : Int32)), .unset, .unset, .unset, .unset, .unset, .unset, .unset] [(.ref b2)])) _
    refine XS.dup X2.here hx rfl (hb hby at_61) rfl rfl ?_
    show Steps p.tables e below (T2.setTop (mkF m 62 #[.val (.int p1), .val (.int (1 : Int32)), .val (.int (1 : Int32)), .val (.int (1 : Int32)), .val (.int (0 : Int32)), .unset, .unset, .unset, .unset, .unset, .unset, .unset] [(.ref b2), (.ref b2)])) _
    refine st3.trans ?_
    show Steps p.tables e below (T3.setTop (mkF m 65 #[.val (.int p1), .val (.int (1 : Int32)), .val (.int (1 : Int32)), .val (.int (1 : Int32)), .val (.int (0 : Int32)), .unset, .unset, .unset, .unset, .unset, .unset, .unset] [(.ref b2)])) _
    refine XS.astore X3.here hx rfl (hb hby at_65) rfl rfl (l' := #[.val (.int p1), .val (.int (1 : Int32)), .val (.int (1 : Int32)), .val (.int (1 : Int32)), .val (.int (0 : Int32)), .val (.ref b2), .unset, .unset, .unset, .unset, .unset, .unset]) rfl ?_
    show Steps p.tables e below (T3.setTop (mkF m 67 #[.val (.int p1), .val (.int (1 : Int32)), .val (.int (1 : Int32)), .val (.int (1 : Int32)), .val (.int (0 : Int32)), .val (.ref b2), .unset, .unset, .unset, .unset, .unset, .unset] [])) _
    refine st4 _ ?_
    show Steps p.tables e below (T4.setTop (mkF m 70 #[.val (.int p1), .val (.int (1 : Int32)), .val (.int (1 : Int32)), .val (.int (1 : Int32)), .val (.int (0 : Int32)), .val (.ref b2), .unset, .unset, .unset, .unset, .unset, .unset] [(.ref b4)])) _
    refine XS.dup X4.here hx rfl (hb hby at_70) rfl rfl ?_
    show Steps p.tables e below (T4.setTop (mkF m 71 #[.val (.int p1), .val (.int (1 : Int32)), .val (.int (1 : Int32)), .val (.int (1 : Int32)), .val (.int (0 : Int32)), .val (.ref b2), .unset, .unset, .unset, .unset, .unset, .unset] [(.ref b4), (.ref b4)])) _
    refine XS.aconstNull X4.here hx rfl (hb hby at_71) ?_
    show Steps p.tables e below (T4.setTop (mkF m 72 #[.val (.int p1), .val (.int (1 : Int32)), .val (.int (1 : Int32)), .val (.int (1 : Int32)), .val (.int (0 : Int32)), .val (.ref b2), .unset, .unset, .unset, .unset, .unset, .unset] [.null, (.ref b4), (.ref b4)])) _
    refine XS.aconstNull X4.here hx rfl (hb hby at_72) ?_
    show Steps p.tables e below (T4.setTop (mkF m 73 #[.val (.int p1), .val (.int (1 : Int32)), .val (.int (1 : Int32)), .val (.int (1 : Int32)), .val (.int (0 : Int32)), .val (.ref b2), .unset, .unset, .unset, .unset, .unset, .unset] [.null, .null, (.ref b4), (.ref b4)])) _
    refine XS.iconst X4.here hx rfl (hb hby at_73) ?_
    show Steps p.tables e below (T4.setTop (mkF m 74 #[.val (.int p1), .val (.int (1 : Int32)), .val (.int (1 : Int32)), .val (.int (1 : Int32)), .val (.int (0 : Int32)), .val (.ref b2), .unset, .unset, .unset, .unset, .unset, .unset] [(.int (0 : Int32)), .null, .null, (.ref b4), (.ref b4)])) _
    refine st5.trans ?_
    show Steps p.tables e below (T5.setTop (mkF m 77 #[.val (.int p1), .val (.int (1 : Int32)), .val (.int (1 : Int32)), .val (.int (1 : Int32)), .val (.int (0 : Int32)), .val (.ref b2), .unset, .unset, .unset, .unset, .unset, .unset] [(.ref b4)])) _
    refine XS.astore X5.here hx rfl (hb hby at_77) rfl rfl (l' := #[.val (.int p1), .val (.int (1 : Int32)), .val (.int (1 : Int32)), .val (.int (1 : Int32)), .val (.int (0 : Int32)), .val (.ref b2), .val (.ref b4), .unset, .unset, .unset, .unset, .unset]) rfl ?_
    show Steps p.tables e below (T5.setTop (mkF m 79 #[.val (.int p1), .val (.int (1 : Int32)), .val (.int (1 : Int32)), .val (.int (1 : Int32)), .val (.int (0 : Int32)), .val (.ref b2), .val (.ref b4), .unset, .unset, .unset, .unset, .unset] [])) _
    refine st6 _ ?_
    show Steps p.tables e below (T6.setTop (mkF m 82 #[.val (.int p1), .val (.int (1 : Int32)), .val (.int (1 : Int32)), .val (.int (1 : Int32)), .val (.int (0 : Int32)), .val (.ref b2), .val (.ref b4), .unset, .unset, .unset, .unset, .unset] [(.ref b6)])) _
    refine XS.dup X6.here hx rfl (hb hby at_82) rfl rfl ?_
    show Steps p.tables e below (T6.setTop (mkF m 83 #[.val (.int p1), .val (.int (1 : Int32)), .val (.int (1 : Int32)), .val (.int (1 : Int32)), .val (.int (0 : Int32)), .val (.ref b2), .val (.ref b4), .unset, .unset, .unset, .unset, .unset] [(.ref b6), (.ref b6)])) _
    refine XS.aconstNull X6.here hx rfl (hb hby at_83) ?_
    show Steps p.tables e below (T6.setTop (mkF m 84 #[.val (.int p1), .val (.int (1 : Int32)), .val (.int (1 : Int32)), .val (.int (1 : Int32)), .val (.int (0 : Int32)), .val (.ref b2), .val (.ref b4), .unset, .unset, .unset, .unset, .unset] [.null, (.ref b6), (.ref b6)])) _
    refine XS.aconstNull X6.here hx rfl (hb hby at_84) ?_
    show Steps p.tables e below (T6.setTop (mkF m 85 #[.val (.int p1), .val (.int (1 : Int32)), .val (.int (1 : Int32)), .val (.int (1 : Int32)), .val (.int (0 : Int32)), .val (.ref b2), .val (.ref b4), .unset, .unset, .unset, .unset, .unset] [.null, .null, (.ref b6), (.ref b6)])) _
    refine XS.iconst X6.here hx rfl (hb hby at_85) ?_
    show Steps p.tables e below (T6.setTop (mkF m 86 #[.val (.int p1), .val (.int (1 : Int32)), .val (.int (1 : Int32)), .val (.int (1 : Int32)), .val (.int (0 : Int32)), .val (.ref b2), .val (.ref b4), .unset, .unset, .unset, .unset, .unset] [(.int (0 : Int32)), .null, .null, (.ref b6), (.ref b6)])) _
    refine st7.trans ?_
    show Steps p.tables e below (T7.setTop (mkF m 89 #[.val (.int p1), .val (.int (1 : Int32)), .val (.int (1 : Int32)), .val (.int (1 : Int32)), .val (.int (0 : Int32)), .val (.ref b2), .val (.ref b4), .unset, .unset, .unset, .unset, .unset] [(.ref b6)])) _
    refine XS.astore X7.here hx rfl (hb hby at_89) rfl rfl (l' := #[.val (.int p1), .val (.int (1 : Int32)), .val (.int (1 : Int32)), .val (.int (1 : Int32)), .val (.int (0 : Int32)), .val (.ref b2), .val (.ref b4), .val (.ref b6), .unset, .unset, .unset, .unset]) rfl ?_
    show Steps p.tables e below (T7.setTop (mkF m 91 #[.val (.int p1), .val (.int (1 : Int32)), .val (.int (1 : Int32)), .val (.int (1 : Int32)), .val (.int (0 : Int32)), .val (.ref b2), .val (.ref b4), .val (.ref b6), .unset, .unset, .unset, .unset] [])) _
    refine XS.iconst X7.here hx rfl (hb hby at_91) ?_
    show Steps p.tables e below (T7.setTop (mkF m 92 #[.val (.int p1), .val (.int (1 : Int32)), .val (.int (1 : Int32)), .val (.int (1 : Int32)), .val (.int (0 : Int32)), .val (.ref b2), .val (.ref b4), .val (.ref b6), .unset, .unset, .unset, .unset] [(.int (0 : Int32))])) _
    refine XS.istore X7.here hx rfl (hb hby at_92) rfl (l' := #[.val (.int p1), .val (.int (1 : Int32)), .val (.int (1 : Int32)), .val (.int (1 : Int32)), .val (.int (0 : Int32)), .val (.ref b2), .val (.ref b4), .val (.ref b6), .val (.int (0 : Int32)), .unset, .unset, .unset]) rfl ?_
    show Steps p.tables e below (T7.setTop (mkF m 94 #[.val (.int p1), .val (.int (1 : Int32)), .val (.int (1 : Int32)), .val (.int (1 : Int32)), .val (.int (0 : Int32)), .val (.ref b2), .val (.ref b4), .val (.ref b6), .val (.int (0 : Int32)), .unset, .unset, .unset] [])) _
    refine XS.iloadN X7.here hx rfl (hb hby at_94) rfl ?_
    show Steps p.tables e below (T7.setTop (mkF m 95 #[.val (.int p1), .val (.int (1 : Int32)), .val (.int (1 : Int32)), .val (.int (1 : Int32)), .val (.int (0 : Int32)), .val (.ref b2), .val (.ref b4), .val (.ref b6), .val (.int (0 : Int32)), .unset, .unset, .unset] [(.int (1 : Int32))])) _
    refine XS.ifNo X7.here hx rfl (hb hby at_95) rfl ((if0 _ _).trans (feq hc95).1) ?_
    show Steps p.tables e below (T7.setTop (mkF m 98 #[.val (.int p1), .val (.int (1 : Int32)), .val (.int (1 : Int32)), .val (.int (1 : Int32)), .val (.int (0 : Int32)), .val (.ref b2), .val (.ref b4), .val (.ref b6), .val (.int (0 : Int32)), .unset, .unset, .unset] [])) _
    refine XS.aload X7.here hx rfl (hb hby at_98) rfl rfl ?_
    show Steps p.tables e below (T7.setTop (mkF m 100 #[.val (.int p1), .val (.int (1 : Int32)), .val (.int (1 : Int32)), .val (.int (1 : Int32)), .val (.int (0 : Int32)), .val (.ref b2), .val (.ref b4), .val (.ref b6), .val (.int (0 : Int32)), .unset, .unset, .unset] [(.ref b2)])) _
    refine XS.aload X7.here hx rfl (hb hby at_100) rfl rfl ?_
    show Steps p.tables e below (T7.setTop (mkF m 102 #[.val (.int p1), .val (.int (1 : Int32)), .val (.int (1 : Int32)), .val (.int (1 : Int32)), .val (.int (0 : Int32)), .val (.ref b2), .val (.ref b4), .val (.ref b6), .val (.int (0 : Int32)), .unset, .unset, .unset] [(.ref b4), (.ref b2)])) _
    refine st8.trans ?_
    show Steps p.tables e below (T8.setTop (mkF m 105 #[.val (.int p1), .val (.int (1 : Int32)), .val (.int (1 : Int32)), .val (.int (1 : Int32)), .val (.int (0 : Int32)), .val (.ref b2), .val (.ref b4), .val (.ref b6), .val (.int (0 : Int32)), .unset, .unset, .unset] [])) _
    refine XS.iload X8.here hx rfl (hb hby at_105) rfl ?_
    show Steps p.tables e below (T8.setTop (mkF m 107 #[.val (.int p1), .val (.int (1 : Int32)), .val (.int (1 : Int32)), .val (.int (1 : Int32)), .val (.int (0 : Int32)), .val (.ref b2), .val (.ref b4), .val (.ref b6), .val (.int (0 : Int32)), .unset, .unset, .unset] [(.int (0 : Int32))])) _
    refine XS.iconst X8.here hx rfl (hb hby at_107) ?_
    show Steps p.tables e below (T8.setTop (mkF m 108 #[.val (.int p1), .val (.int (1 : Int32)), .val (.int (1 : Int32)), .val (.int (1 : Int32)), .val (.int (0 : Int32)), .val (.ref b2), .val (.ref b4), .val (.ref b6), .val (.int (0 : Int32)), .unset, .unset, .unset] [(.int (1 : Int32)), (.int (0 : Int32))])) _
    refine XS.iadd X8.here hx rfl (hb hby at_108) rfl ?_
    show Steps p.tables e below (T8.setTop (mkF m 109 #[.val (.int p1), .val (.int (1 : Int32)), .val (.int (1 : Int32)), .val (.int (1 : Int32)), .val (.int (0 : Int32)), .val (.ref b2), .val (.ref b4), .val (.ref b6), .val (.int (0 : Int32)), .unset, .unset, .unset] [(.int ((0 : Int32) + (1 : Int32)))])) _
    refine XS.istore X8.here hx rfl (hb hby at_109) rfl (l' := #[.val (.int p1), .val (.int (1 : Int32)), .val (.int (1 : Int32)), .val (.int (1 : Int32)), .val (.int (0 : Int32)), .val (.ref b2), .val (.ref b4), .val (.ref b6), .val (.int ((0 : Int32) + (1 : Int32))), .unset, .unset, .unset]) rfl ?_
    show Steps p.tables e below (T8.setTop (mkF m 111 #[.val (.int p1), .val (.int (1 : Int32)), .val (.int (1 : Int32)), .val (.int (1 : Int32)), .val (.int (0 : Int32)), .val (.ref b2), .val (.ref b4), .val (.ref b6), .val (.int ((0 : Int32) + (1 : Int32))), .unset, .unset, .unset] [])) _
    refine XS.iloadN X8.here hx rfl (hb hby at_111) rfl ?_
    show Steps p.tables e below (T8.setTop (mkF m 112 #[.val (.int p1), .val (.int (1 : Int32)), .val (.int (1 : Int32)), .val (.int (1 : Int32)), .val (.int (0 : Int32)), .val (.ref b2), .val (.ref b4), .val (.ref b6), .val (.int ((0 : Int32) + (1 : Int32))), .unset, .unset, .unset] [(.int (1 : Int32))])) _
    refine XS.ifNo X8.here hx rfl (hb hby at_112) rfl ((if0 _ _).trans (feq hc112).1) ?_
    show Steps p.tables e below (T8.setTop (mkF m 115 #[.val (.int p1), .val (.int (1 : Int32)), .val (.int (1 : Int32)), .val (.int (1 : Int32)), .val (.int (0 : Int32)), .val (.ref b2), .val (.ref b4), .val (.ref b6), .val (.int ((0 : Int32) + (1 : Int32))), .unset, .unset, .unset] [])) _
    refine XS.aload X8.here hx rfl (hb hby at_115) rfl rfl ?_
    show Steps p.tables e below (T8.setTop (mkF m 117 #[.val (.int p1), .val (.int (1 : Int32)), .val (.int (1 : Int32)), .val (.int (1 : Int32)), .val (.int (0 : Int32)), .val (.ref b2), .val (.ref b4), .val (.ref b6), .val (.int ((0 : Int32) + (1 : Int32))), .unset, .unset, .unset] [(.ref b2)])) _
    refine XS.aload X8.here hx rfl (hb hby at_117) rfl rfl ?_
    show Steps p.tables e below (T8.setTop (mkF m 119 #[.val (.int p1), .val (.int (1 : Int32)), .val (.int (1 : Int32)), .val (.int (1 : Int32)), .val (.int (0 : Int32)), .val (.ref b2), .val (.ref b4), .val (.ref b6), .val (.int ((0 : Int32) + (1 : Int32))), .unset, .unset, .unset] [(.ref b6), (.ref b2)])) _
    refine st9.trans ?_
    show Steps p.tables e below (T9.setTop (mkF m 122 #[.val (.int p1), .val (.int (1 : Int32)), .val (.int (1 : Int32)), .val (.int (1 : Int32)), .val (.int (0 : Int32)), .val (.ref b2), .val (.ref b4), .val (.ref b6), .val (.int ((0 : Int32) + (1 : Int32))), .unset, .unset, .unset] [])) _
    refine XS.iload X9.here hx rfl (hb hby at_122) rfl ?_
    show Steps p.tables e below (T9.setTop (mkF m 124 #[.val (.int p1), .val (.int (1 : Int32)), .val (.int (1 : Int32)), .val (.int (1 : Int32)), .val (.int (0 : Int32)), .val (.ref b2), .val (.ref b4), .val (.ref b6), .val (.int ((0 : Int32) + (1 : Int32))), .unset, .unset, .unset] [(.int ((0 : Int32) + (1 : Int32)))])) _
    refine XS.iconst X9.here hx rfl (hb hby at_124) ?_
    show Steps p.tables e below (T9.setTop (mkF m 125 #[.val (.int p1), .val (.int (1 : Int32)), .val (.int (1 : Int32)), .val (.int (1 : Int32)), .val (.int (0 : Int32)), .val (.ref b2), .val (.ref b4), .val (.ref b6), .val (.int ((0 : Int32) + (1 : Int32))), .unset, .unset, .unset] [(.int (1 : Int32)), (.int ((0 : Int32) + (1 : Int32)))])) _
    refine XS.iadd X9.here hx rfl (hb hby at_125) rfl ?_
    show Steps p.tables e below (T9.setTop (mkF m 126 #[.val (.int p1), .val (.int (1 : Int32)), .val (.int (1 : Int32)), .val (.int (1 : Int32)), .val (.int (0 : Int32)), .val (.ref b2), .val (.ref b4), .val (.ref b6), .val (.int ((0 : Int32) + (1 : Int32))), .unset, .unset, .unset] [(.int (((0 : Int32) + (1 : Int32)) + (1 : Int32)))])) _
    refine XS.istore X9.here hx rfl (hb hby at_126) rfl (l' := #[.val (.int p1), .val (.int (1 : Int32)), .val (.int (1 : Int32)), .val (.int (1 : Int32)), .val (.int (0 : Int32)), .val (.ref b2), .val (.ref b4), .val (.ref b6), .val (.int (((0 : Int32) + (1 : Int32)) + (1 : Int32))), .unset, .unset, .unset]) rfl ?_
    show Steps p.tables e below (T9.setTop (mkF m 128 #[.val (.int p1), .val (.int (1 : Int32)), .val (.int (1 : Int32)), .val (.int (1 : Int32)), .val (.int (0 : Int32)), .val (.ref b2), .val (.ref b4), .val (.ref b6), .val (.int (((0 : Int32) + (1 : Int32)) + (1 : Int32))), .unset, .unset, .unset] [])) _
    refine XS.iloadN X9.here hx rfl (hb hby at_128) rfl ?_
    show Steps p.tables e below (T9.setTop (mkF m 129 #[.val (.int p1), .val (.int (1 : Int32)), .val (.int (1 : Int32)), .val (.int (1 : Int32)), .val (.int (0 : Int32)), .val (.ref b2), .val (.ref b4), .val (.ref b6), .val (.int (((0 : Int32) + (1 : Int32)) + (1 : Int32))), .unset, .unset, .unset] [(.int (1 : Int32))])) _
    refine XS.ifNo X9.here hx rfl (hb hby at_129) rfl ((if0 _ _).trans (feq hc129).1) ?_
    show Steps p.tables e below (T9.setTop (mkF m 132 #[.val (.int p1), .val (.int (1 : Int32)), .val (.int (1 : Int32)), .val (.int (1 : Int32)), .val (.int (0 : Int32)), .val (.ref b2), .val (.ref b4), .val (.ref b6), .val (.int (((0 : Int32) + (1 : Int32)) + (1 : Int32))), .unset, .unset, .unset] [])) _
    refine XS.aload X9.here hx rfl (hb hby at_132) rfl rfl ?_
    show Steps p.tables e below (T9.setTop (mkF m 134 #[.val (.int p1), .val (.int (1 : Int32)), .val (.int (1 : Int32)), .val (.int (1 : Int32)), .val (.int (0 : Int32)), .val (.ref b2), .val (.ref b4), .val (.ref b6), .val (.int (((0 : Int32) + (1 : Int32)) + (1 : Int32))), .unset, .unset, .unset] [(.ref b2)])) _
    refine XS.aload X9.here hx rfl (hb hby at_134) rfl rfl ?_
    show Steps p.tables e below (T9.setTop (mkF m 136 #[.val (.int p1), .val (.int (1 : Int32)), .val (.int (1 : Int32)), .val (.int (1 : Int32)), .val (.int (0 : Int32)), .val (.ref b2), .val (.ref b4), .val (.ref b6), .val (.int (((0 : Int32) + (1 : Int32)) + (1 : Int32))), .unset, .unset, .unset] [(.ref b4), (.ref b2)])) _
    refine st10.trans ?_
    show Steps p.tables e below (T10.setTop (mkF m 139 #[.val (.int p1), .val (.int (1 : Int32)), .val (.int (1 : Int32)), .val (.int (1 : Int32)), .val (.int (0 : Int32)), .val (.ref b2), .val (.ref b4), .val (.ref b6), .val (.int (((0 : Int32) + (1 : Int32)) + (1 : Int32))), .unset, .unset, .unset] [])) _
    refine XS.iload X10.here hx rfl (hb hby at_139) rfl ?_
    show Steps p.tables e below (T10.setTop (mkF m 141 #[.val (.int p1), .val (.int (1 : Int32)), .val (.int (1 : Int32)), .val (.int (1 : Int32)), .val (.int (0 : Int32)), .val (.ref b2), .val (.ref b4), .val (.ref b6), .val (.int (((0 : Int32) + (1 : Int32)) + (1 : Int32))), .unset, .unset, .unset] [(.int (((0 : Int32) + (1 : Int32)) + (1 : Int32)))])) _
    refine XS.iconst X10.here hx rfl (hb hby at_141) ?_
    show Steps p.tables e below (T10.setTop (mkF m 142 #[.val (.int p1), .val (.int (1 : Int32)), .val (.int (1 : Int32)), .val (.int (1 : Int32)), .val (.int (0 : Int32)), .val (.ref b2), .val (.ref b4), .val (.ref b6), .val (.int (((0 : Int32) + (1 : Int32)) + (1 : Int32))), .unset, .unset, .unset] [(.int (1 : Int32)), (.int (((0 : Int32) + (1 : Int32)) + (1 : Int32)))])) _
    refine XS.isub X10.here hx rfl (hb hby at_142) rfl ?_
    show Steps p.tables e below (T10.setTop (mkF m 143 #[.val (.int p1), .val (.int (1 : Int32)), .val (.int (1 : Int32)), .val (.int (1 : Int32)), .val (.int (0 : Int32)), .val (.ref b2), .val (.ref b4), .val (.ref b6), .val (.int (((0 : Int32) + (1 : Int32)) + (1 : Int32))), .unset, .unset, .unset] [(.int ((((0 : Int32) + (1 : Int32)) + (1 : Int32)) - (1 : Int32)))])) _
    refine XS.istore X10.here hx rfl (hb hby at_143) rfl (l' := #[.val (.int p1), .val (.int (1 : Int32)), .val (.int (1 : Int32)), .val (.int (1 : Int32)), .val (.int (0 : Int32)), .val (.ref b2), .val (.ref b4), .val (.ref b6), .val (.int ((((0 : Int32) + (1 : Int32)) + (1 : Int32)) - (1 : Int32))), .unset, .unset, .unset]) rfl ?_
    show Steps p.tables e below (T10.setTop (mkF m 145 #[.val (.int p1), .val (.int (1 : Int32)), .val (.int (1 : Int32)), .val (.int (1 : Int32)), .val (.int (0 : Int32)), .val (.ref b2), .val (.ref b4), .val (.ref b6), .val (.int ((((0 : Int32) + (1 : Int32)) + (1 : Int32)) - (1 : Int32))), .unset, .unset, .unset] [])) _
    refine XS.iload X10.here hx rfl (hb hby at_145) rfl ?_
    show Steps p.tables e below (T10.setTop (mkF m 147 #[.val (.int p1), .val (.int (1 : Int32)), .val (.int (1 : Int32)), .val (.int (1 : Int32)), .val (.int (0 : Int32)), .val (.ref b2), .val (.ref b4), .val (.ref b6), .val (.int ((((0 : Int32) + (1 : Int32)) + (1 : Int32)) - (1 : Int32))), .unset, .unset, .unset] [(.int (0 : Int32))])) _
    refine XS.ifYes X10.here hx rfl (pc0 := 147) (pc' := 163) rfl (hb hby at_147) rfl ((if0 _ _).trans (teq (rfl : (0 : Int32) = (0 : Int32))).1) (by decide) (by decide) ?_
    show Steps p.tables e below (T10.setTop (mkF m 163 #[.val (.int p1), .val (.int (1 : Int32)), .val (.int (1 : Int32)), .val (.int (1 : Int32)), .val (.int (0 : Int32)), .val (.ref b2), .val (.ref b4), .val (.ref b6), .val (.int ((((0 : Int32) + (1 : Int32)) + (1 : Int32)) - (1 : Int32))), .unset, .unset, .unset] [])) _
    refine XS.iload X10.here hx rfl (hb hby at_163) rfl ?_
    show Steps p.tables e below (T10.setTop (mkF m 165 #[.val (.int p1), .val (.int (1 : Int32)), .val (.int (1 : Int32)), .val (.int (1 : Int32)), .val (.int (0 : Int32)), .val (.ref b2), .val (.ref b4), .val (.ref b6), .val (.int ((((0 : Int32) + (1 : Int32)) + (1 : Int32)) - (1 : Int32))), .unset, .unset, .unset] [(.int ((((0 : Int32) + (1 : Int32)) + (1 : Int32)) - (1 : Int32)))])) _
    refine own_tif_ne X10.here hx (hb hby at_165) (hb hby at_168) (hb hby at_169) (hb hby at_172) ?_
    show Steps p.tables e below (T10.setTop (mkF m 173 #[.val (.int p1), .val (.int (1 : Int32)), .val (.int (1 : Int32)), .val (.int (1 : Int32)), .val (.int (0 : Int32)), .val (.ref b2), .val (.ref b4), .val (.ref b6), .val (.int ((((0 : Int32) + (1 : Int32)) + (1 : Int32)) - (1 : Int32))), .unset, .unset, .unset] [(.int (if ((((0 : Int32) + (1 : Int32)) + (1 : Int32)) - (1 : Int32)) = (0 : Int32) then (1 : Int32) else 0))])) _
    refine XS.istore X10.here hx rfl (hb hby at_173) rfl (l' := #[.val (.int p1), .val (.int (1 : Int32)), .val (.int (1 : Int32)), .val (.int (1 : Int32)), .val (.int (0 : Int32)), .val (.ref b2), .val (.ref b4), .val (.ref b6), .val (.int ((((0 : Int32) + (1 : Int32)) + (1 : Int32)) - (1 : Int32))), .val (.int (if ((((0 : Int32) + (1 : Int32)) + (1 : Int32)) - (1 : Int32)) = (0 : Int32) then (1 : Int32) else 0)), .unset, .unset]) rfl ?_
    show Steps p.tables e below (T10.setTop (mkF m 175 #[.val (.int p1), .val (.int (1 : Int32)), .val (.int (1 : Int32)), .val (.int (1 : Int32)), .val (.int (0 : Int32)), .val (.ref b2), .val (.ref b4), .val (.ref b6), .val (.int ((((0 : Int32) + (1 : Int32)) + (1 : Int32)) - (1 : Int32))), .val (.int (if ((((0 : Int32) + (1 : Int32)) + (1 : Int32)) - (1 : Int32)) = (0 : Int32) then (1 : Int32) else 0)), .unset, .unset] [])) _
    refine XS.aload X10.here hx rfl (hb hby at_175) rfl rfl ?_
    show Steps p.tables e below (T10.setTop (mkF m 177 #[.val (.int p1), .val (.int (1 : Int32)), .val (.int (1 : Int32)), .val (.int (1 : Int32)), .val (.int (0 : Int32)), .val (.ref b2), .val (.ref b4), .val (.ref b6), .val (.int ((((0 : Int32) + (1 : Int32)) + (1 : Int32)) - (1 : Int32))), .val (.int (if ((((0 : Int32) + (1 : Int32)) + (1 : Int32)) - (1 : Int32)) = (0 : Int32) then (1 : Int32) else 0)), .unset, .unset] [(.ref b2)])) _
    refine st11.trans ?_
    show Steps p.tables e below (T11.setTop (mkF m 180 #[.val (.int p1), .val (.int (1 : Int32)), .val (.int (1 : Int32)), .val (.int (1 : Int32)), .val (.int (0 : Int32)), .val (.ref b2), .val (.ref b4), .val (.ref b6), .val (.int ((((0 : Int32) + (1 : Int32)) + (1 : Int32)) - (1 : Int32))), .val (.int (if ((((0 : Int32) + (1 : Int32)) + (1 : Int32)) - (1 : Int32)) = (0 : Int32) then (1 : Int32) else 0)), .unset, .unset] [(.int (if ((((0 : Int32) + (1 : Int32)) + (1 : Int32)) - (1 : Int32)) = (0 : Int32) then (1 : Int32) else 0))])) _
    refine XS.istore X11.here hx rfl (hb hby at_180) rfl (l' := #[.val (.int p1), .val (.int (1 : Int32)), .val (.int (1 : Int32)), .val (.int (1 : Int32)), .val (.int (0 : Int32)), .val (.ref b2), .val (.ref b4), .val (.ref b6), .val (.int ((((0 : Int32) + (1 : Int32)) + (1 : Int32)) - (1 : Int32))), .val (.int (if ((((0 : Int32) + (1 : Int32)) + (1 : Int32)) - (1 : Int32)) = (0 : Int32) then (1 : Int32) else 0)), .val (.int (if ((((0 : Int32) + (1 : Int32)) + (1 : Int32)) - (1 : Int32)) = (0 : Int32) then (1 : Int32) else 0)), .unset]) rfl ?_
    show Steps p.tables e below (T11.setTop (mkF m 182 #[.val (.int p1), .val (.int (1 : Int32)), .val (.int (1 : Int32)), .val (.int (1 : Int32)), .val (.int (0 : Int32)), .val (.ref b2), .val (.ref b4), .val (.ref b6), .val (.int ((((0 : Int32) + (1 : Int32)) + (1 : Int32)) - (1 : Int32))), .val (.int (if ((((0 : Int32) + (1 : Int32)) + (1 : Int32)) - (1 : Int32)) = (0 : Int32) then (1 : Int32) else 0)), .val (.int (if ((((0 : Int32) + (1 : Int32)) + (1 : Int32)) - (1 : Int32)) = (0 : Int32) then (1 : Int32) else 0)), .unset] [])) _
    refine XS.aload X11.here hx rfl (hb hby at_182) rfl rfl ?_
    show Steps p.tables e below (T11.setTop (mkF m 184 #[.val (.int p1), .val (.int (1 : Int32)), .val (.int (1 : Int32)), .val (.int (1 : Int32)), .val (.int (0 : Int32)), .val (.ref b2), .val (.ref b4), .val (.ref b6), .val (.int ((((0 : Int32) + (1 : Int32)) + (1 : Int32)) - (1 : Int32))), .val (.int (if ((((0 : Int32) + (1 : Int32)) + (1 : Int32)) - (1 : Int32)) = (0 : Int32) then (1 : Int32) else 0)), .val (.int (if ((((0 : Int32) + (1 : Int32)) + (1 : Int32)) - (1 : Int32)) = (0 : Int32) then (1 : Int32) else 0)), .unset] [(.ref b2)])) _
    refine st12.trans ?_
    show Steps p.tables e below (T12.setTop (mkF m 187 #[.val (.int p1), .val (.int (1 : Int32)), .val (.int (1 : Int32)), .val (.int (1 : Int32)), .val (.int (0 : Int32)), .val (.ref b2), .val (.ref b4), .val (.ref b6), .val (.int ((((0 : Int32) + (1 : Int32)) + (1 : Int32)) - (1 : Int32))), .val (.int (if ((((0 : Int32) + (1 : Int32)) + (1 : Int32)) - (1 : Int32)) = (0 : Int32) then (1 : Int32) else 0)), .val (.int (if ((((0 : Int32) + (1 : Int32)) + (1 : Int32)) - (1 : Int32)) = (0 : Int32) then (1 : Int32) else 0)), .unset] [(.ref b6)])) _
    refine XS.ifnonnullYes X12.here hx rfl (pc0 := 187) (pc' := 194) rfl (hb hby at_187) rfl (by decide) (by decide) ?_
    show Steps p.tables e below (T12.setTop (mkF m 194 #[.val (.int p1), .val (.int (1 : Int32)), .val (.int (1 : Int32)), .val (.int (1 : Int32)), .val (.int (0 : Int32)), .val (.ref b2), .val (.ref b4), .val (.ref b6), .val (.int ((((0 : Int32) + (1 : Int32)) + (1 : Int32)) - (1 : Int32))), .val (.int (if ((((0 : Int32) + (1 : Int32)) + (1 : Int32)) - (1 : Int32)) = (0 : Int32) then (1 : Int32) else 0)), .val (.int (if ((((0 : Int32) + (1 : Int32)) + (1 : Int32)) - (1 : Int32)) = (0 : Int32) then (1 : Int32) else 0)), .unset] [])) _
    refine XS.iconst X12.here hx rfl (hb hby at_194) ?_
    show Steps p.tables e below (T12.setTop (mkF m 195 #[.val (.int p1), .val (.int (1 : Int32)), .val (.int (1 : Int32)), .val (.int (1 : Int32)), .val (.int (0 : Int32)), .val (.ref b2), .val (.ref b4), .val (.ref b6), .val (.int ((((0 : Int32) + (1 : Int32)) + (1 : Int32)) - (1 : Int32))), .val (.int (if ((((0 : Int32) + (1 : Int32)) + (1 : Int32)) - (1 : Int32)) = (0 : Int32) then (1 : Int32) else 0)), .val (.int (if ((((0 : Int32) + (1 : Int32)) + (1 : Int32)) - (1 : Int32)) = (0 : Int32) then (1 : Int32) else 0)), .unset] [(.int (0 : Int32))])) _
    refine XS.istore X12.here hx rfl (hb hby at_195) rfl (l' := #[.val (.int p1), .val (.int (1 : Int32)), .val (.int (1 : Int32)), .val (.int (1 : Int32)), .val (.int (0 : Int32)), .val (.ref b2), .val (.ref b4), .val (.ref b6), .val (.int ((((0 : Int32) + (1 : Int32)) + (1 : Int32)) - (1 : Int32))), .val (.int (if ((((0 : Int32) + (1 : Int32)) + (1 : Int32)) - (1 : Int32)) = (0 : Int32) then (1 : Int32) else 0)), .val (.int (if ((((0 : Int32) + (1 : Int32)) + (1 : Int32)) - (1 : Int32)) = (0 : Int32) then (1 : Int32) else 0)), .val (.int (0 : Int32))]) rfl ?_
    show Steps p.tables e below (T12.setTop (mkF m 197 #[.val (.int p1), .val (.int (1 : Int32)), .val (.int (1 : Int32)), .val (.int (1 : Int32)), .val (.int (0 : Int32)), .val (.ref b2), .val (.ref b4), .val (.ref b6), .val (.int ((((0 : Int32) + (1 : Int32)) + (1 : Int32)) - (1 : Int32))), .val (.int (if ((((0 : Int32) + (1 : Int32)) + (1 : Int32)) - (1 : Int32)) = (0 : Int32) then (1 : Int32) else 0)), .val (.int (if ((((0 : Int32) + (1 : Int32)) + (1 : Int32)) - (1 : Int32)) = (0 : Int32) then (1 : Int32) else 0)), .val (.int (0 : Int32))] [])) _
    refine XS.iload X12.here hx rfl (hb hby at_197) rfl ?_
    show Steps p.tables e below (T12.setTop (mkF m 199 #[.val (.int p1), .val (.int (1 : Int32)), .val (.int (1 : Int32)), .val (.int (1 : Int32)), .val (.int (0 : Int32)), .val (.ref b2), .val (.ref b4), .val (.ref b6), .val (.int ((((0 : Int32) + (1 : Int32)) + (1 : Int32)) - (1 : Int32))), .val (.int (if ((((0 : Int32) + (1 : Int32)) + (1 : Int32)) - (1 : Int32)) = (0 : Int32) then (1 : Int32) else 0)), .val (.int (if ((((0 : Int32) + (1 : Int32)) + (1 : Int32)) - (1 : Int32)) = (0 : Int32) then (1 : Int32) else 0)), .val (.int (0 : Int32))] [(.int (if ((((0 : Int32) + (1 : Int32)) + (1 : Int32)) - (1 : Int32)) = (0 : Int32) then (1 : Int32) else 0))])) _
    refine XS.iload X12.here hx rfl (hb hby at_199) rfl ?_
    show Steps p.tables e below (T12.setTop (mkF m 201 #[.val (.int p1), .val (.int (1 : Int32)), .val (.int (1 : Int32)), .val (.int (1 : Int32)), .val (.int (0 : Int32)), .val (.ref b2), .val (.ref b4), .val (.ref b6), .val (.int ((((0 : Int32) + (1 : Int32)) + (1 : Int32)) - (1 : Int32))), .val (.int (if ((((0 : Int32) + (1 : Int32)) + (1 : Int32)) - (1 : Int32)) = (0 : Int32) then (1 : Int32) else 0)), .val (.int (if ((((0 : Int32) + (1 : Int32)) + (1 : Int32)) - (1 : Int32)) = (0 : Int32) then (1 : Int32) else 0)), .val (.int (0 : Int32))] [(.int (if ((((0 : Int32) + (1 : Int32)) + (1 : Int32)) - (1 : Int32)) = (0 : Int32) then (1 : Int32) else 0)), (.int (if ((((0 : Int32) + (1 : Int32)) + (1 : Int32)) - (1 : Int32)) = (0 : Int32) then (1 : Int32) else 0))])) _
    refine XS.icmpNo X12.here hx rfl (hb hby at_201) rfl (teq (rfl : (if ((((0 : Int32) + (1 : Int32)) + (1 : Int32)) - (1 : Int32)) = (0 : Int32) then (1 : Int32) else 0) = (if ((((0 : Int32) + (1 : Int32)) + (1 : Int32)) - (1 : Int32)) = (0 : Int32) then (1 : Int32) else 0))).2 ?_
    show Steps p.tables e below (T12.setTop (mkF m 204 #[.val (.int p1), .val (.int (1 : Int32)), .val (.int (1 : Int32)), .val (.int (1 : Int32)), .val (.int (0 : Int32)), .val (.ref b2), .val (.ref b4), .val (.ref b6), .val (.int ((((0 : Int32) + (1 : Int32)) + (1 : Int32)) - (1 : Int32))), .val (.int (if ((((0 : Int32) + (1 : Int32)) + (1 : Int32)) - (1 : Int32)) = (0 : Int32) then (1 : Int32) else 0)), .val (.int (if ((((0 : Int32) + (1 : Int32)) + (1 : Int32)) - (1 : Int32)) = (0 : Int32) then (1 : Int32) else 0)), .val (.int (0 : Int32))] [])) _
    refine XS.iload X12.here hx rfl (hb hby at_204) rfl ?_
    show Steps p.tables e below (T12.setTop (mkF m 206 #[.val (.int p1), .val (.int (1 : Int32)), .val (.int (1 : Int32)), .val (.int (1 : Int32)), .val (.int (0 : Int32)), .val (.ref b2), .val (.ref b4), .val (.ref b6), .val (.int ((((0 : Int32) + (1 : Int32)) + (1 : Int32)) - (1 : Int32))), .val (.int (if ((((0 : Int32) + (1 : Int32)) + (1 : Int32)) - (1 : Int32)) = (0 : Int32) then (1 : Int32) else 0)), .val (.int (if ((((0 : Int32) + (1 : Int32)) + (1 : Int32)) - (1 : Int32)) = (0 : Int32) then (1 : Int32) else 0)), .val (.int (0 : Int32))] [(.int (0 : Int32))])) _
    refine XS.iload X12.here hx rfl (hb hby at_206) rfl ?_
    show Steps p.tables e below (T12.setTop (mkF m 208 #[.val (.int p1), .val (.int (1 : Int32)), .val (.int (1 : Int32)), .val (.int (1 : Int32)), .val (.int (0 : Int32)), .val (.ref b2), .val (.ref b4), .val (.ref b6), .val (.int ((((0 : Int32) + (1 : Int32)) + (1 : Int32)) - (1 : Int32))), .val (.int (if ((((0 : Int32) + (1 : Int32)) + (1 : Int32)) - (1 : Int32)) = (0 : Int32) then (1 : Int32) else 0)), .val (.int (if ((((0 : Int32) + (1 : Int32)) + (1 : Int32)) - (1 : Int32)) = (0 : Int32) then (1 : Int32) else 0)), .val (.int (0 : Int32))] [(.int (if ((((0 : Int32) + (1 : Int32)) + (1 : Int32)) - (1 : Int32)) = (0 : Int32) then (1 : Int32) else 0)), (.int (0 : Int32))])) _
    refine XS.icmpNo X12.here hx rfl (hb hby at_208) rfl (teq hc208).2 ?_
    show Steps p.tables e below (T12.setTop (mkF m 211 #[.val (.int p1), .val (.int (1 : Int32)), .val (.int (1 : Int32)), .val (.int (1 : Int32)), .val (.int (0 : Int32)), .val (.ref b2), .val (.ref b4), .val (.ref b6), .val (.int ((((0 : Int32) + (1 : Int32)) + (1 : Int32)) - (1 : Int32))), .val (.int (if ((((0 : Int32) + (1 : Int32)) + (1 : Int32)) - (1 : Int32)) = (0 : Int32) then (1 : Int32) else 0)), .val (.int (if ((((0 : Int32) + (1 : Int32)) + (1 : Int32)) - (1 : Int32)) = (0 : Int32) then (1 : Int32) else 0)), .val (.int (0 : Int32))] [])) _
    refine XS.iconst X12.here hx rfl (hb hby at_211) ?_
    show Steps p.tables e below (T12.setTop (mkF m 212 #[.val (.int p1), .val (.int (1 : Int32)), .val (.int (1 : Int32)), .val (.int (1 : Int32)), .val (.int (0 : Int32)), .val (.ref b2), .val (.ref b4), .val (.ref b6), .val (.int ((((0 : Int32) + (1 : Int32)) + (1 : Int32)) - (1 : Int32))), .val (.int (if ((((0 : Int32) + (1 : Int32)) + (1 : Int32)) - (1 : Int32)) = (0 : Int32) then (1 : Int32) else 0)), .val (.int (if ((((0 : Int32) + (1 : Int32)) + (1 : Int32)) - (1 : Int32)) = (0 : Int32) then (1 : Int32) else 0)), .val (.int (0 : Int32))] [(.int (1 : Int32))])) _
    refine XS.goto X12.here hx rfl (pc0 := 212) (pc' := 216) rfl (hb hby at_212) (by decide) (by decide) ?_
    show Steps p.tables e below (T12.setTop (mkF m 216 #[.val (.int p1), .val (.int (1 : Int32)), .val (.int (1 : Int32)), .val (.int (1 : Int32)), .val (.int (0 : Int32)), .val (.ref b2), .val (.ref b4), .val (.ref b6), .val (.int ((((0 : Int32) + (1 : Int32)) + (1 : Int32)) - (1 : Int32))), .val (.int (if ((((0 : Int32) + (1 : Int32)) + (1 : Int32)) - (1 : Int32)) = (0 : Int32) then (1 : Int32) else 0)), .val (.int (if ((((0 : Int32) + (1 : Int32)) + (1 : Int32)) - (1 : Int32)) = (0 : Int32) then (1 : Int32) else 0)), .val (.int (0 : Int32))] [(.int (1 : Int32))])) _
    exact retN X12 hx (t := .boolean) Bd.returns (by simp) (hb hby at_216) hr
  · show Q0 Z p1 h0 n0 _ T12.heap _
    rw [e12]
    exact ⟨rfl, N12⟩

set_option maxRecDepth 65536 in
set_option maxHeartbeats 40000000 in
theorem rm0_8 (l : Launch) (Z : State) (a0 : Array Value) (hw : ∀ d ∈ tables_1, d.before a0 Z = true) (ws : List Jvm.Cond) (p1 : Int32) (h0 : Heap) (n0 : Nat) (Z0 : n0 ≤ h0.size) (hc3 : ¬ ((p1 &&& (1 : Int32)) = (0 : Int32))) (hc15 : ¬ ((p1 &&& (2 : Int32)) = (0 : Int32))) (hc25 : ¬ ((1 : Int32) = (0 : Int32))) (hc31 : ¬ ((p1 &&& (4 : Int32)) = (0 : Int32))) (hc41 : ¬ ((1 : Int32) = (0 : Int32))) (hc48 : ¬ ((p1 &&& (8 : Int32)) = (0 : Int32))) (hc95 : ¬ ((1 : Int32) = (0 : Int32))) (hc112 : ¬ ((1 : Int32) = (0 : Int32))) (hc129 : ¬ ((1 : Int32) = (0 : Int32))) (hc147 : ¬ ((1 : Int32) = (0 : Int32))) (hc208 : (1 : Int32) = (if (((((0 : Int32) + (1 : Int32)) + (1 : Int32)) - (1 : Int32)) - (1 : Int32)) = (0 : Int32) then (1 : Int32) else 0)) :
    MetFree l x (head1 (Jvm.Cond.code x code maxLocals ret :: ws) room_1) (fun a U => a = #[(.int p1)] ∧ Z.Warmed39 U.vm ∧ U.heap = h0) (fun _ _ _ _ _ => True) (fun _ U o U' => ∃ v L, o = .returned v ∧ Q0 Z p1 h0 n0 v U'.heap L ∧ FrameEnd U o U' L room_1.cells room_1.slots) := by
  refine MetFree.of_bodySF (plainFor_of_name pn_0) hisR ?_
  intro p e s m args below meth c s₁ Bd hml0 hP hK
  obtain ⟨rfl, hZ, hh⟩ := hP
  have hx := Bd.exec
  have hby := Bd.bytes
  have hml : c.maxLocals = 12 := hml0
  have hown : s.vm.findClass "com/example/idlewell/idlewell/engine/ObjectListIsEmptyPinLaw" = some m.cls := findClass_of_methodNamed Bd.named
  have hnm := (name_of_methodNamed Bd.named Bd.method).1
  have X0 : Stand p l e room_1 s m #[(.int p1)] below meth c s₁ [] 0 0 := Stand.of_body Bd
  have e0 : s₁.heap = h0 := by rw [← hh, Bd.state]; rfl
  have N0 := Fr.nil n0
  have pre0 : ∀ t, Steps p.tables e below (s₁.setTop (mkF m 0 #[.val (.int p1), .unset, .unset, .unset, .unset, .unset, .unset, .unset, .unset, .unset, .unset, .unset] [])) t → Steps p.tables e below (s₁.setTop (entryFrame m #[(.int p1)] maxLocals)) t := fun t k => castTop (ef_0 m p1) k
  obtain ⟨T2, h2, X2, e2, E2, A2, D2, -, st2⟩ := newO X0 hx hZ hown (hw _ (List.mem_of_getElem? (i := 0) rfl)) (hw _ (List.mem_of_getElem? (i := 1) rfl)) (hw _ (List.mem_of_getElem? (i := 2) rfl)) e0 (g := (mkF m 58 #[.val (.int p1), .val (.int (1 : Int32)), .val (.int (1 : Int32)), .val (.int (1 : Int32)), .val (.int (1 : Int32)), .unset, .unset, .unset, .unset, .unset, .unset, .unset] [])) rfl (hb hby at_58) (by decide) (by decide)
  obtain ⟨b2, g2⟩ : ∃ z, z = h0.size := ⟨_, rfl⟩
  rw [← g2] at A2 D2 st2
  have F_size_b2 : Fld Z h2 b2 "com/example/idlewell/idlewell/engine/ObjectList" "size" "I" (.int (0 : Int32)) := D2 (Or.inl (hw _ (List.mem_of_getElem? (i := 28) rfl))) (ty := .int) (by decide)
  have F_newest_b2 : Fld Z h2 b2 "com/example/idlewell/idlewell/engine/ObjectList" "newest" "Lcom/example/idlewell/idlewell/engine/PooledObject;" .null := D2 (Or.inl (hw _ (List.mem_of_getElem? (i := 35) rfl))) (ty := (.object "com/example/idlewell/idlewell/engine/PooledObject")) (by decide)
  have F_oldest_b2 : Fld Z h2 b2 "com/example/idlewell/idlewell/engine/ObjectList" "oldest" "Lcom/example/idlewell/idlewell/engine/PooledObject;" .null := D2 (Or.inl (hw _ (List.mem_of_getElem? (i := 47) rfl))) (ty := (.object "com/example/idlewell/idlewell/engine/PooledObject")) (by decide)
  have E_b2 := A2
  have g_b2 : n0 ≤ b2 := Nat.le_trans Z0 (Nat.le_of_eq g2.symm)
  have sz_b2 : h0.size ≤ b2 := (Nat.le_trans (Keep.refl h0 []).1 (Nat.le_of_eq g2.symm))
  have K2 : Keep h0 h2 [] := (Keep.refl h0 []).ext E2
  obtain ⟨_, _, ⟨T3, L3, k3, n3⟩, -, X3, ⟨Lc3, hQ3, l3, y3, z3⟩, st3⟩ := X2.specialBack hx (y := (⟨"com/example/idlewell/idlewell/engine/ObjectList", "<init>", "()V"⟩ : MethodName)) rfl hown (mvT hZ (hw _ (List.mem_of_getElem? (i := 3) rfl))) (mvT hZ (hw _ (List.mem_of_getElem? (i := 4) rfl))) (mvT hZ (hw _ (List.mem_of_getElem? (i := 5) rfl))) (by decide) (backOf (W := 1) (rm1 l Z a0 hw [] b2  h2 n0 (Nat.le_trans Z0 E2.1)) hZ (hw _ (List.mem_of_getElem? (i := 5) rfl)) (hw _ (List.mem_of_getElem? (i := 2) rfl)) (by decide) (by decide)) (g := (mkF m 62 #[.val (.int p1), .val (.int (1 : Int32)), .val (.int (1 : Int32)), .val (.int (1 : Int32)), .val (.int (1 : Int32)), .unset, .unset, .unset, .unset, .unset, .unset, .unset] [(.ref b2), (.ref b2)])) rfl (by rw [hml]; rfl) (Steps.refl _) (a := b2) (argsL := []) (rest := [(.ref b2)]) (lenOf pd_0_0 rfl) rfl (by show 2 * 0 + _ ≤ _; exact Nat.le_of_eq rfl) (hb hby at_62) (fun _ _ => ⟨rfl, e2, (by decide : 1 + 0 ≤ _), (by decide : 3 + 0 ≤ _)⟩)
  dsimp only [Pt.U, Pt.locs, Pt.cells, Pt.slots] at X3 l3 y3 z3 st3 hQ3
  subst l3 y3 z3
  obtain ⟨rfl, N3q, e3⟩ := hQ3
  have N3 := Fr.app N0 N3q
  obtain ⟨T4, h4, X4, e4, E4, A4, D4, -, st4⟩ := newO X3 hx hZ hown (hw _ (List.mem_of_getElem? (i := 9) rfl)) (hw _ (List.mem_of_getElem? (i := 10) rfl)) (hw _ (List.mem_of_getElem? (i := 11) rfl)) e3 (g := (mkF m 67 #[.val (.int p1), .val (.int (1 : Int32)), .val (.int (1 : Int32)), .val (.int (1 : Int32)), .val (.int (1 : Int32)), .val (.ref b2), .unset, .unset, .unset, .unset, .unset, .unset] [])) rfl (hb hby at_67) (by decide) (by decide)
  obtain ⟨b4, g4⟩ : ∃ z, z = h2.size := ⟨_, rfl⟩
  rw [← g4] at A4 D4 st4
  have F_pool_b4 : Fld Z h4 b4 "com/example/idlewell/idlewell/engine/PooledObject" "pool" "Lcom/example/idlewell/idlewell/engine/BoundedPool;" .null := D4 (Or.inr (hw _ (List.mem_of_getElem? (i := 17) rfl))) (ty := (.object "com/example/idlewell/idlewell/engine/BoundedPool")) (by decide)
  have F_object_b4 : Fld Z h4 b4 "com/example/idlewell/idlewell/engine/PooledObject" "object" "Ljava/lang/Object;" .null := D4 (Or.inr (hw _ (List.mem_of_getElem? (i := 19) rfl))) (ty := (.object "java/lang/Object")) (by decide)
  have F_slot_b4 : Fld Z h4 b4 "com/example/idlewell/idlewell/engine/PooledObject" "slot" "Lcom/example/idlewell/idlewell/engine/ThreadSlot;" .null := D4 (Or.inr (hw _ (List.mem_of_getElem? (i := 21) rfl))) (ty := (.object "com/example/idlewell/idlewell/engine/ThreadSlot")) (by decide)
  have F_older_b4 : Fld Z h4 b4 "com/example/idlewell/idlewell/engine/PooledObject" "older" "Lcom/example/idlewell/idlewell/engine/PooledObject;" .null := D4 (Or.inl (hw _ (List.mem_of_getElem? (i := 49) rfl))) (ty := (.object "com/example/idlewell/idlewell/engine/PooledObject")) (by decide)
  have F_newer_b4 : Fld Z h4 b4 "com/example/idlewell/idlewell/engine/PooledObject" "newer" "Lcom/example/idlewell/idlewell/engine/PooledObject;" .null := D4 (Or.inl (hw _ (List.mem_of_getElem? (i := 51) rfl))) (ty := (.object "com/example/idlewell/idlewell/engine/PooledObject")) (by decide)
  have E_b4 := A4
  have g_b4 : n0 ≤ b4 := Nat.le_trans (Nat.le_trans Z0 E2.1) (Nat.le_of_eq g4.symm)
  have sz_b4 : h0.size ≤ b4 := (Nat.le_trans K2.1 (Nat.le_of_eq g4.symm))
  have K4 : Keep h0 h4 [] := K2.ext E4
  obtain ⟨_, _, ⟨T5, L5, k5, n5⟩, -, X5, ⟨Lc5, hQ5, l5, y5, z5⟩, st5⟩ := X4.specialBack hx (y := (⟨"com/example/idlewell/idlewell/engine/PooledObject", "<init>", "(Lcom/example/idlewell/idlewell/engine/BoundedPool;Ljava/lang/Object;Z)V"⟩ : MethodName)) rfl hown (mvT hZ (hw _ (List.mem_of_getElem? (i := 12) rfl))) (mvT hZ (hw _ (List.mem_of_getElem? (i := 13) rfl))) (mvT hZ (hw _ (List.mem_of_getElem? (i := 14) rfl))) (by decide) (backOf (W := 1) (rm3 l Z a0 hw [] b4 (0 : Int32) .null .null .null h4 n0 (Nat.le_trans (Nat.le_trans Z0 E2.1) E4.1) E_b4 F_newer_b4 F_older_b4 F_pool_b4 g_b4 F_object_b4 F_slot_b4 rfl) hZ (hw _ (List.mem_of_getElem? (i := 14) rfl)) (hw _ (List.mem_of_getElem? (i := 11) rfl)) (by decide) (by decide)) (g := (mkF m 74 #[.val (.int p1), .val (.int (1 : Int32)), .val (.int (1 : Int32)), .val (.int (1 : Int32)), .val (.int (1 : Int32)), .val (.ref b2), .unset, .unset, .unset, .unset, .unset, .unset] [(.int (0 : Int32)), .null, .null, (.ref b4), (.ref b4)])) rfl (by rw [hml]; rfl) (Steps.refl _) (a := b4) (argsL := [.null, .null, (.int (0 : Int32))]) (rest := [(.ref b4)]) (lenOf pd_0_1 rfl) rfl (by show 2 * 0 + _ ≤ _; exact Nat.le_of_eq rfl) (hb hby at_74) (fun _ _ => ⟨rfl, e4, (by decide : 2 + 0 ≤ _), (by decide : 13 + 0 ≤ _)⟩)
  dsimp only [Pt.U, Pt.locs, Pt.cells, Pt.slots] at X5 l5 y5 z5 st5 hQ5
  subst l5 y5 z5
  obtain ⟨rfl, N5q, Kq5, Ex5, Fn5, Fo5⟩ := hQ5
  have N5 := Fr.app N3 N5q
  obtain ⟨T6, h6, X6, e6, E6, A6, D6, -, st6⟩ := newO X5 hx hZ hown (hw _ (List.mem_of_getElem? (i := 9) rfl)) (hw _ (List.mem_of_getElem? (i := 10) rfl)) (hw _ (List.mem_of_getElem? (i := 11) rfl)) rfl (g := (mkF m 79 #[.val (.int p1), .val (.int (1 : Int32)), .val (.int (1 : Int32)), .val (.int (1 : Int32)), .val (.int (1 : Int32)), .val (.ref b2), .val (.ref b4), .unset, .unset, .unset, .unset, .unset] [])) rfl (hb hby at_79) (by decide) (by decide)
  obtain ⟨b6, g6⟩ : ∃ z, z = T5.heap.size := ⟨_, rfl⟩
  rw [← g6] at A6 D6 st6
  have F_pool_b6 : Fld Z h6 b6 "com/example/idlewell/idlewell/engine/PooledObject" "pool" "Lcom/example/idlewell/idlewell/engine/BoundedPool;" .null := D6 (Or.inr (hw _ (List.mem_of_getElem? (i := 17) rfl))) (ty := (.object "com/example/idlewell/idlewell/engine/BoundedPool")) (by decide)
  have F_object_b6 : Fld Z h6 b6 "com/example/idlewell/idlewell/engine/PooledObject" "object" "Ljava/lang/Object;" .null := D6 (Or.inr (hw _ (List.mem_of_getElem? (i := 19) rfl))) (ty := (.object "java/lang/Object")) (by decide)
  have F_slot_b6 : Fld Z h6 b6 "com/example/idlewell/idlewell/engine/PooledObject" "slot" "Lcom/example/idlewell/idlewell/engine/ThreadSlot;" .null := D6 (Or.inr (hw _ (List.mem_of_getElem? (i := 21) rfl))) (ty := (.object "com/example/idlewell/idlewell/engine/ThreadSlot")) (by decide)
  have F_older_b6 : Fld Z h6 b6 "com/example/idlewell/idlewell/engine/PooledObject" "older" "Lcom/example/idlewell/idlewell/engine/PooledObject;" .null := D6 (Or.inl (hw _ (List.mem_of_getElem? (i := 49) rfl))) (ty := (.object "com/example/idlewell/idlewell/engine/PooledObject")) (by decide)
  have F_newer_b6 : Fld Z h6 b6 "com/example/idlewell/idlewell/engine/PooledObject" "newer" "Lcom/example/idlewell/idlewell/engine/PooledObject;" .null := D6 (Or.inl (hw _ (List.mem_of_getElem? (i := 51) rfl))) (ty := (.object "com/example/idlewell/idlewell/engine/PooledObject")) (by decide)
  have E_b6 := A6
  have g_b6 : n0 ≤ b6 := Nat.le_trans (Nat.le_trans (Nat.le_trans (Nat.le_trans Z0 E2.1) E4.1) Kq5.1) (Nat.le_of_eq g6.symm)
  obtain ⟨_, _, ⟨T7, L7, k7, n7⟩, -, X7, ⟨Lc7, hQ7, l7, y7, z7⟩, st7⟩ := X6.specialBack hx (y := (⟨"com/example/idlewell/idlewell/engine/PooledObject", "<init>", "(Lcom/example/idlewell/idlewell/engine/BoundedPool;Ljava/lang/Object;Z)V"⟩ : MethodName)) rfl hown (mvT hZ (hw _ (List.mem_of_getElem? (i := 12) rfl))) (mvT hZ (hw _ (List.mem_of_getElem? (i := 13) rfl))) (mvT hZ (hw _ (List.mem_of_getElem? (i := 14) rfl))) (by decide) (backOf (W := 1) (rm3 l Z a0 hw [] b6 (0 : Int32) .null .null .null h6 n0 (Nat.le_trans (Nat.le_trans (Nat.le_trans (Nat.le_trans Z0 E2.1) E4.1) Kq5.1) E6.1) E_b6 F_newer_b6 F_older_b6 F_pool_b6 g_b6 F_object_b6 F_slot_b6 rfl) hZ (hw _ (List.mem_of_getElem? (i := 14) rfl)) (hw _ (List.mem_of_getElem? (i := 11) rfl)) (by decide) (by decide)) (g := (mkF m 86 #[.val (.int p1), .val (.int (1 : Int32)), .val (.int (1 : Int32)), .val (.int (1 : Int32)), .val (.int (1 : Int32)), .val (.ref b2), .val (.ref b4), .unset, .unset, .unset, .unset, .unset] [(.int (0 : Int32)), .null, .null, (.ref b6), (.ref b6)])) rfl (by rw [hml]; rfl) (Steps.refl _) (a := b6) (argsL := [.null, .null, (.int (0 : Int32))]) (rest := [(.ref b6)]) (lenOf pd_0_1 rfl) rfl (by show 2 * 0 + _ ≤ _; exact Nat.le_of_eq rfl) (hb hby at_86) (fun _ _ => ⟨rfl, e6, (by decide : 3 + 0 ≤ _), (by decide : 23 + 0 ≤ _)⟩)
  dsimp only [Pt.U, Pt.locs, Pt.cells, Pt.slots] at X7 l7 y7 z7 st7 hQ7
  subst l7 y7 z7
  obtain ⟨rfl, N7q, Kq7, Ex7, Fn7, Fo7⟩ := hQ7
  have N7 := Fr.app N5 N7q
  obtain ⟨cq8, kq8, q8a, q8b, q8c⟩ := isOf hZ rfl ((((E_b2.ext E4).keep Kq5).ext E6).keep Kq7)
  obtain ⟨_, _, ⟨T8, L8, k8, n8⟩, -, X8, ⟨Lc8, hQ8, l8, y8, z8⟩, st8⟩ := X7.virtualBack hx (y := (⟨"com/example/idlewell/idlewell/engine/ObjectList", "addNewest", "(Lcom/example/idlewell/idlewell/engine/PooledObject;)V"⟩ : MethodName)) (z := (⟨"com/example/idlewell/idlewell/engine/ObjectList", "addNewest", "(Lcom/example/idlewell/idlewell/engine/PooledObject;)V"⟩ : MethodName)) hown (mvT hZ (hw _ (List.mem_of_getElem? (i := 36) rfl))) (mvT hZ (hw _ (List.mem_of_getElem? (i := 37) rfl))) (notFace_of_selects (args := #[]) (mvT hZ (hw _ (List.mem_of_getElem? (i := 39) rfl)))) (mvT hZ (hw _ (List.mem_of_getElem? (i := 39) rfl))) (mvT hZ (hw _ (List.mem_of_getElem? (i := 38) rfl))) (by decide) (backOf (W := 0) (rm6A l Z a0 hw [] b2 b4 b6 (0 : Int32) T7.heap n0 (Nat.le_trans (Nat.le_trans (Nat.le_trans (Nat.le_trans (Nat.le_trans Z0 E2.1) E4.1) Kq5.1) E6.1) Kq7.1) ⟨((((E_b2.ext E4).keep Kq5).ext E6).keep Kq7), ((Ex5.ext E6).keep Kq7), Ex7, ((((F_newest_b2.ext E4).keep Kq5 (fun q_ => (Nat.ne_of_lt (Nat.lt_of_lt_of_le E_b2.lt (Nat.le_of_eq g4.symm))) (List.mem_singleton.mp q_))).ext E6).keep Kq7 (fun q_ => (Nat.ne_of_lt (Nat.lt_of_lt_of_le ((E_b2.ext E4).keep Kq5).lt (Nat.le_of_eq g6.symm))) (List.mem_singleton.mp q_))), ((((F_oldest_b2.ext E4).keep Kq5 (fun q_ => (Nat.ne_of_lt (Nat.lt_of_lt_of_le E_b2.lt (Nat.le_of_eq g4.symm))) (List.mem_singleton.mp q_))).ext E6).keep Kq7 (fun q_ => (Nat.ne_of_lt (Nat.lt_of_lt_of_le ((E_b2.ext E4).keep Kq5).lt (Nat.le_of_eq g6.symm))) (List.mem_singleton.mp q_))), ((((F_size_b2.ext E4).keep Kq5 (fun q_ => (Nat.ne_of_lt (Nat.lt_of_lt_of_le E_b2.lt (Nat.le_of_eq g4.symm))) (List.mem_singleton.mp q_))).ext E6).keep Kq7 (fun q_ => (Nat.ne_of_lt (Nat.lt_of_lt_of_le ((E_b2.ext E4).keep Kq5).lt (Nat.le_of_eq g6.symm))) (List.mem_singleton.mp q_))), ((Fn5.ext E6).keep Kq7 (fun q_ => (Nat.ne_of_lt (Nat.lt_of_lt_of_le Ex5.lt (Nat.le_of_eq g6.symm))) (List.mem_singleton.mp q_))), ((Fo5.ext E6).keep Kq7 (fun q_ => (Nat.ne_of_lt (Nat.lt_of_lt_of_le Ex5.lt (Nat.le_of_eq g6.symm))) (List.mem_singleton.mp q_))), Fn7, Fo7⟩ g_b2 g_b4 g_b6 (Nat.ne_of_lt (Nat.lt_of_lt_of_le E_b2.lt (Nat.le_of_eq g4.symm))) (Nat.ne_of_lt (Nat.lt_of_lt_of_le ((E_b2.ext E4).keep Kq5).lt (Nat.le_of_eq g6.symm))) (Nat.ne_of_lt (Nat.lt_of_lt_of_le Ex5.lt (Nat.le_of_eq g6.symm)))) hZ (hw _ (List.mem_of_getElem? (i := 40) rfl)) (hw _ (List.mem_of_getElem? (i := 2) rfl)) (by decide) (by decide)) q8a q8c (g := (mkF m 102 #[.val (.int p1), .val (.int (1 : Int32)), .val (.int (1 : Int32)), .val (.int (1 : Int32)), .val (.int (1 : Int32)), .val (.ref b2), .val (.ref b4), .val (.ref b6), .val (.int (0 : Int32)), .unset, .unset, .unset] [(.ref b4), (.ref b2)])) rfl (by rw [hml]; rfl) (Steps.refl _) (argsL := [(.ref b4)]) (rest := []) (lenOf pd_0_4 rfl) rfl (by show 2 * 0 + _ ≤ _; exact Nat.le_of_eq rfl) (hb hby at_102) (fun _ _ => ⟨rfl, rfl, (by decide : 3 + 0 ≤ _), (by decide : 23 + 0 ≤ _)⟩)
  dsimp only [Pt.U, Pt.locs, Pt.cells, Pt.slots] at X8 l8 y8 z8 st8 hQ8
  subst l8 y8 z8
  obtain ⟨rfl, N8q, Kq8, ⟨E_o8, E_p8, E_q8, Fnw8, Fod8, Fsz8, Fpn8, Fpo8, Fqn8, Fqo8⟩⟩ := hQ8
  have N8 := Fr.app N7 N8q
  obtain ⟨cq9, kq9, q9a, q9b, q9c⟩ := isOf hZ rfl E_o8
  obtain ⟨_, _, ⟨T9, L9, k9, n9⟩, -, X9, ⟨Lc9, hQ9, l9, y9, z9⟩, st9⟩ := X8.virtualBack hx (y := (⟨"com/example/idlewell/idlewell/engine/ObjectList", "addNewest", "(Lcom/example/idlewell/idlewell/engine/PooledObject;)V"⟩ : MethodName)) (z := (⟨"com/example/idlewell/idlewell/engine/ObjectList", "addNewest", "(Lcom/example/idlewell/idlewell/engine/PooledObject;)V"⟩ : MethodName)) hown (mvT hZ (hw _ (List.mem_of_getElem? (i := 36) rfl))) (mvT hZ (hw _ (List.mem_of_getElem? (i := 37) rfl))) (notFace_of_selects (args := #[]) (mvT hZ (hw _ (List.mem_of_getElem? (i := 39) rfl)))) (mvT hZ (hw _ (List.mem_of_getElem? (i := 39) rfl))) (mvT hZ (hw _ (List.mem_of_getElem? (i := 38) rfl))) (by decide) (backOf (W := 0) (rm6B l Z a0 hw [] b2 b6 b4 ((0 : Int32) + (1 : Int32)) T8.heap n0 (Nat.le_trans (Nat.le_trans (Nat.le_trans (Nat.le_trans (Nat.le_trans (Nat.le_trans Z0 E2.1) E4.1) Kq5.1) E6.1) Kq7.1) Kq8.1) ⟨E_o8, E_q8, E_p8, Fnw8, Fod8, Fsz8, Fqn8, Fqo8, Fpn8, Fpo8⟩ g_b2 g_b6 g_b4 (Nat.ne_of_lt (Nat.lt_of_lt_of_le ((E_b2.ext E4).keep Kq5).lt (Nat.le_of_eq g6.symm))) (Nat.ne_of_lt (Nat.lt_of_lt_of_le E_b2.lt (Nat.le_of_eq g4.symm))) (Ne.symm (Nat.ne_of_lt (Nat.lt_of_lt_of_le Ex5.lt (Nat.le_of_eq g6.symm))))) hZ (hw _ (List.mem_of_getElem? (i := 40) rfl)) (hw _ (List.mem_of_getElem? (i := 2) rfl)) (by decide) (by decide)) q9a q9c (g := (mkF m 119 #[.val (.int p1), .val (.int (1 : Int32)), .val (.int (1 : Int32)), .val (.int (1 : Int32)), .val (.int (1 : Int32)), .val (.ref b2), .val (.ref b4), .val (.ref b6), .val (.int ((0 : Int32) + (1 : Int32))), .unset, .unset, .unset] [(.ref b6), (.ref b2)])) rfl (by rw [hml]; rfl) (Steps.refl _) (argsL := [(.ref b6)]) (rest := []) (lenOf pd_0_4 rfl) rfl (by show 2 * 0 + _ ≤ _; exact Nat.le_of_eq rfl) (hb hby at_119) (fun _ _ => ⟨rfl, rfl, (by decide : 3 + 0 ≤ _), (by decide : 23 + 0 ≤ _)⟩)
  dsimp only [Pt.U, Pt.locs, Pt.cells, Pt.slots] at X9 l9 y9 z9 st9 hQ9
  subst l9 y9 z9
  obtain ⟨rfl, N9q, Kq9, ⟨E_o9, E_p9, E_q9, Fnw9, Fod9, Fsz9, Fpn9, Fpo9, Fqn9, Fqo9⟩⟩ := hQ9
  have N9 := Fr.app N8 N9q
  obtain ⟨cq10, kq10, q10a, q10b, q10c⟩ := isOf hZ rfl E_o9
  obtain ⟨_, _, ⟨T10, L10, k10, n10⟩, -, X10, ⟨Lc10, hQ10, l10, y10, z10⟩, st10⟩ := X9.virtualBack hx (y := (⟨"com/example/idlewell/idlewell/engine/ObjectList", "remove", "(Lcom/example/idlewell/idlewell/engine/PooledObject;)V"⟩ : MethodName)) (z := (⟨"com/example/idlewell/idlewell/engine/ObjectList", "remove", "(Lcom/example/idlewell/idlewell/engine/PooledObject;)V"⟩ : MethodName)) hown (mvT hZ (hw _ (List.mem_of_getElem? (i := 52) rfl))) (mvT hZ (hw _ (List.mem_of_getElem? (i := 53) rfl))) (notFace_of_selects (args := #[]) (mvT hZ (hw _ (List.mem_of_getElem? (i := 55) rfl)))) (mvT hZ (hw _ (List.mem_of_getElem? (i := 55) rfl))) (mvT hZ (hw _ (List.mem_of_getElem? (i := 54) rfl))) (by decide) (backOf (W := 0) (rm8old l Z a0 hw [] b2 b4 b6 (((0 : Int32) + (1 : Int32)) + (1 : Int32)) T9.heap n0 (Nat.le_trans (Nat.le_trans (Nat.le_trans (Nat.le_trans (Nat.le_trans (Nat.le_trans (Nat.le_trans Z0 E2.1) E4.1) Kq5.1) E6.1) Kq7.1) Kq8.1) Kq9.1) ⟨E_o9, E_q9, E_p9, Fnw9, Fod9, Fsz9, Fqn9, Fqo9, Fpn9, Fpo9⟩ g_b2 g_b4 g_b6 (Nat.ne_of_lt (Nat.lt_of_lt_of_le E_b2.lt (Nat.le_of_eq g4.symm))) (Nat.ne_of_lt (Nat.lt_of_lt_of_le ((E_b2.ext E4).keep Kq5).lt (Nat.le_of_eq g6.symm))) (Nat.ne_of_lt (Nat.lt_of_lt_of_le Ex5.lt (Nat.le_of_eq g6.symm)))) hZ (hw _ (List.mem_of_getElem? (i := 56) rfl)) (hw _ (List.mem_of_getElem? (i := 2) rfl)) (by decide) (by decide)) q10a q10c (g := (mkF m 136 #[.val (.int p1), .val (.int (1 : Int32)), .val (.int (1 : Int32)), .val (.int (1 : Int32)), .val (.int (1 : Int32)), .val (.ref b2), .val (.ref b4), .val (.ref b6), .val (.int (((0 : Int32) + (1 : Int32)) + (1 : Int32))), .unset, .unset, .unset] [(.ref b4), (.ref b2)])) rfl (by rw [hml]; rfl) (Steps.refl _) (argsL := [(.ref b4)]) (rest := []) (lenOf pd_0_4 rfl) rfl (by show 2 * 0 + _ ≤ _; exact Nat.le_of_eq rfl) (hb hby at_136) (fun _ _ => ⟨rfl, rfl, (by decide : 3 + 0 ≤ _), (by decide : 23 + 0 ≤ _)⟩)
  dsimp only [Pt.U, Pt.locs, Pt.cells, Pt.slots] at X10 l10 y10 z10 st10 hQ10
  subst l10 y10 z10
  obtain ⟨rfl, N10q, Kq10, ⟨E_o10, E_p10, E_q10, Fnw10, Fod10, Fsz10, Fpn10, Fpo10, Fqn10, Fqo10⟩⟩ := hQ10
  have N10 := Fr.app N9 N10q
  obtain ⟨cq11, kq11, q11a, q11b, q11c⟩ := isOf hZ rfl E_o10
  obtain ⟨_, _, ⟨T11, L11, k11, n11⟩, -, X11, ⟨Lc11, hQ11, l11, y11, z11⟩, st11⟩ := X10.virtualBack hx (y := (⟨"com/example/idlewell/idlewell/engine/ObjectList", "remove", "(Lcom/example/idlewell/idlewell/engine/PooledObject;)V"⟩ : MethodName)) (z := (⟨"com/example/idlewell/idlewell/engine/ObjectList", "remove", "(Lcom/example/idlewell/idlewell/engine/PooledObject;)V"⟩ : MethodName)) hown (mvT hZ (hw _ (List.mem_of_getElem? (i := 52) rfl))) (mvT hZ (hw _ (List.mem_of_getElem? (i := 53) rfl))) (notFace_of_selects (args := #[]) (mvT hZ (hw _ (List.mem_of_getElem? (i := 55) rfl)))) (mvT hZ (hw _ (List.mem_of_getElem? (i := 55) rfl))) (mvT hZ (hw _ (List.mem_of_getElem? (i := 54) rfl))) (by decide) (backOf (W := 0) (rm8only l Z a0 hw [] b2 b6 b4 ((((0 : Int32) + (1 : Int32)) + (1 : Int32)) - (1 : Int32)) T10.heap n0 (Nat.le_trans (Nat.le_trans (Nat.le_trans (Nat.le_trans (Nat.le_trans (Nat.le_trans (Nat.le_trans (Nat.le_trans Z0 E2.1) E4.1) Kq5.1) E6.1) Kq7.1) Kq8.1) Kq9.1) Kq10.1) ⟨E_o10, E_q10, E_p10, Fnw10, Fod10, Fsz10, Fqn10, Fqo10, Fpn10, Fpo10⟩ g_b2 g_b6 g_b4 (Nat.ne_of_lt (Nat.lt_of_lt_of_le ((E_b2.ext E4).keep Kq5).lt (Nat.le_of_eq g6.symm))) (Nat.ne_of_lt (Nat.lt_of_lt_of_le E_b2.lt (Nat.le_of_eq g4.symm))) (Ne.symm (Nat.ne_of_lt (Nat.lt_of_lt_of_le Ex5.lt (Nat.le_of_eq g6.symm))))) hZ (hw _ (List.mem_of_getElem? (i := 56) rfl)) (hw _ (List.mem_of_getElem? (i := 2) rfl)) (by decide) (by decide)) q11a q11c (g := (mkF m 154 #[.val (.int p1), .val (.int (1 : Int32)), .val (.int (1 : Int32)), .val (.int (1 : Int32)), .val (.int (1 : Int32)), .val (.ref b2), .val (.ref b4), .val (.ref b6), .val (.int ((((0 : Int32) + (1 : Int32)) + (1 : Int32)) - (1 : Int32))), .unset, .unset, .unset] [(.ref b6), (.ref b2)])) rfl (by rw [hml]; rfl) (Steps.refl _) (argsL := [(.ref b6)]) (rest := []) (lenOf pd_0_4 rfl) rfl (by show 2 * 0 + _ ≤ _; exact Nat.le_of_eq rfl) (hb hby at_154) (fun _ _ => ⟨rfl, rfl, (by decide : 3 + 0 ≤ _), (by decide : 23 + 0 ≤ _)⟩)
  dsimp only [Pt.U, Pt.locs, Pt.cells, Pt.slots] at X11 l11 y11 z11 st11 hQ11
  subst l11 y11 z11
  obtain ⟨rfl, N11q, Kq11, ⟨E_o11, E_p11, E_q11, Fnw11, Fod11, Fsz11, Fpn11, Fpo11, Fqn11, Fqo11⟩⟩ := hQ11
  have N11 := Fr.app N10 N11q
  obtain ⟨cq12, kq12, q12a, q12b, q12c⟩ := isOf hZ rfl E_o11
  obtain ⟨_, _, ⟨T12, L12, k12, n12⟩, -, X12, ⟨Lc12, hQ12, l12, y12, z12⟩, st12⟩ := X11.virtualBack hx (y := (⟨"com/example/idlewell/idlewell/engine/ObjectList", "isEmpty", "()Z"⟩ : MethodName)) (z := (⟨"com/example/idlewell/idlewell/engine/ObjectList", "isEmpty", "()Z"⟩ : MethodName)) hown (mvT hZ (hw _ (List.mem_of_getElem? (i := 22) rfl))) (mvT hZ (hw _ (List.mem_of_getElem? (i := 23) rfl))) (notFace_of_selects (args := #[]) (mvT hZ (hw _ (List.mem_of_getElem? (i := 25) rfl)))) (mvT hZ (hw _ (List.mem_of_getElem? (i := 25) rfl))) (mvT hZ (hw _ (List.mem_of_getElem? (i := 24) rfl))) (by decide) (backOf (W := 0) (rm4 l Z a0 hw [] b2 (((((0 : Int32) + (1 : Int32)) + (1 : Int32)) - (1 : Int32)) - (1 : Int32)) T11.heap n0 (Nat.le_trans (Nat.le_trans (Nat.le_trans (Nat.le_trans (Nat.le_trans (Nat.le_trans (Nat.le_trans (Nat.le_trans (Nat.le_trans Z0 E2.1) E4.1) Kq5.1) E6.1) Kq7.1) Kq8.1) Kq9.1) Kq10.1) Kq11.1) Fsz11) hZ (hw _ (List.mem_of_getElem? (i := 26) rfl)) (hw _ (List.mem_of_getElem? (i := 2) rfl)) (by decide) (by decide)) q12a q12c (g := (mkF m 177 #[.val (.int p1), .val (.int (1 : Int32)), .val (.int (1 : Int32)), .val (.int (1 : Int32)), .val (.int (1 : Int32)), .val (.ref b2), .val (.ref b4), .val (.ref b6), .val (.int (((((0 : Int32) + (1 : Int32)) + (1 : Int32)) - (1 : Int32)) - (1 : Int32))), .val (.int (if (((((0 : Int32) + (1 : Int32)) + (1 : Int32)) - (1 : Int32)) - (1 : Int32)) = (0 : Int32) then (1 : Int32) else 0)), .unset, .unset] [(.ref b2)])) rfl (by rw [hml]; rfl) (Steps.refl _) (argsL := []) (rest := []) (lenOf pd_0_2 rfl) rfl (by show 2 * 0 + _ ≤ _; exact Nat.le_of_eq rfl) (hb hby at_177) (fun _ _ => ⟨rfl, rfl, (by decide : 3 + 0 ≤ _), (by decide : 23 + 0 ≤ _)⟩)
  dsimp only [Pt.U, Pt.locs, Pt.cells, Pt.slots] at X12 l12 y12 z12 st12 hQ12
  subst l12 y12 z12
  obtain ⟨rfl, N12q, e12⟩ := hQ12
  have N12 := Fr.app N11 N12q
  obtain ⟨cq13, kq13, q13a, q13b, q13c⟩ := isOf hZ e12 E_o11
  obtain ⟨_, _, ⟨T13, L13, k13, n13⟩, -, X13, ⟨Lc13, hQ13, l13, y13, z13⟩, st13⟩ := X12.virtualBack hx (y := (⟨"com/example/idlewell/idlewell/engine/ObjectList", "newest", "()Lcom/example/idlewell/idlewell/engine/PooledObject;"⟩ : MethodName)) (z := (⟨"com/example/idlewell/idlewell/engine/ObjectList", "newest", "()Lcom/example/idlewell/idlewell/engine/PooledObject;"⟩ : MethodName)) hown (mvT hZ (hw _ (List.mem_of_getElem? (i := 29) rfl))) (mvT hZ (hw _ (List.mem_of_getElem? (i := 30) rfl))) (notFace_of_selects (args := #[]) (mvT hZ (hw _ (List.mem_of_getElem? (i := 32) rfl)))) (mvT hZ (hw _ (List.mem_of_getElem? (i := 32) rfl))) (mvT hZ (hw _ (List.mem_of_getElem? (i := 31) rfl))) (by decide) (backOf (W := 0) (rm5n l Z a0 hw [] b2  T11.heap n0 (Nat.le_trans (Nat.le_trans (Nat.le_trans (Nat.le_trans (Nat.le_trans (Nat.le_trans (Nat.le_trans (Nat.le_trans (Nat.le_trans Z0 E2.1) E4.1) Kq5.1) E6.1) Kq7.1) Kq8.1) Kq9.1) Kq10.1) Kq11.1) Fnw11) hZ (hw _ (List.mem_of_getElem? (i := 33) rfl)) (hw _ (List.mem_of_getElem? (i := 2) rfl)) (by decide) (by decide)) q13a q13c (g := (mkF m 184 #[.val (.int p1), .val (.int (1 : Int32)), .val (.int (1 : Int32)), .val (.int (1 : Int32)), .val (.int (1 : Int32)), .val (.ref b2), .val (.ref b4), .val (.ref b6), .val (.int (((((0 : Int32) + (1 : Int32)) + (1 : Int32)) - (1 : Int32)) - (1 : Int32))), .val (.int (if (((((0 : Int32) + (1 : Int32)) + (1 : Int32)) - (1 : Int32)) - (1 : Int32)) = (0 : Int32) then (1 : Int32) else 0)), .val (.int (if (((((0 : Int32) + (1 : Int32)) + (1 : Int32)) - (1 : Int32)) - (1 : Int32)) = (0 : Int32) then (1 : Int32) else 0)), .unset] [(.ref b2)])) rfl (by rw [hml]; rfl) (Steps.refl _) (argsL := []) (rest := []) (lenOf pd_0_3 rfl) rfl (by show 2 * 0 + _ ≤ _; exact Nat.le_of_eq rfl) (hb hby at_184) (fun _ _ => ⟨rfl, e12, (by decide : 3 + 0 ≤ _), (by decide : 23 + 0 ≤ _)⟩)
  dsimp only [Pt.U, Pt.locs, Pt.cells, Pt.slots] at X13 l13 y13 z13 st13 hQ13
  subst l13 y13 z13
  obtain ⟨rfl, N13q, e13⟩ := hQ13
  have N13 := Fr.app N12 N13q
  obtain ⟨fs, hr, hrun, hended, hW, hsame⟩ := X13.leave (v := some (.int (1 : Int32))) (fun h => by rw [Bd.returns] at h; cases h)
  refine ⟨_, _, pre0 _ ?_, hrun, hended, _, _, rfl, ?_, ⟨_, rfl⟩, hW, hsame.mono (by decide) (by decide)⟩
  · show Steps p.tables e below (s₁.setTop (mkF m 0 #[.val (.int p1), .unset, .unset, .unset, .unset, .unset, .unset, .unset, .unset, .unset, .unset, .unset] [])) _
    refine XS.iloadN X0.here hx rfl (hb hby at_0) rfl ?_
    show Steps p.tables e below (s₁.setTop (mkF m 1 #[.val (.int p1), .unset, .unset, .unset, .unset, .unset, .unset, .unset, .unset, .unset, .unset, .unset] [(.int p1)])) _
    refine XS.iconst X0.here hx rfl (hb hby at_1) ?_
    show Steps p.tables e below (s₁.setTop (mkF m 2 #[.val (.int p1), .unset, .unset, .unset, .unset, .unset, .unset, .unset, .unset, .unset, .unset, .unset] [(.int (1 : Int32)), (.int p1)])) _
    refine XS.iand X0.here hx rfl (hb hby at_2) rfl ?_
    show Steps p.tables e below (s₁.setTop (mkF m 3 #[.val (.int p1), .unset, .unset, .unset, .unset, .unset, .unset, .unset, .unset, .unset, .unset, .unset] [(.int (p1 &&& (1 : Int32)))])) _
    refine XS.ifNo X0.here hx rfl (hb hby at_3) rfl ((if0 _ _).trans (feq hc3).1) ?_
    show Steps p.tables e below (s₁.setTop (mkF m 6 #[.val (.int p1), .unset, .unset, .unset, .unset, .unset, .unset, .unset, .unset, .unset, .unset, .unset] [])) _
    refine XS.iconst X0.here hx rfl (hb hby at_6) ?_
    show Steps p.tables e below (s₁.setTop (mkF m 7 #[.val (.int p1), .unset, .unset, .unset, .unset, .unset, .unset, .unset, .unset, .unset, .unset, .unset] [(.int (1 : Int32))])) _
    refine XS.goto X0.here hx rfl (pc0 := 7) (pc' := 11) rfl (hb hby at_7) (by decide) (by decide) ?_
    show Steps p.tables e below (s₁.setTop (mkF m 11 #[.val (.int p1), .unset, .unset, .unset, .unset, .unset, .unset, .unset, .unset, .unset, .unset, .unset] [(.int (1 : Int32))])) _
    refine XS.istoreN X0.here hx rfl (hb hby at_11) rfl (l' := #[.val (.int p1), .val (.int (1 : Int32)), .unset, .unset, .unset, .unset, .unset, .unset, .unset, .unset, .unset, .unset]) rfl ?_
    show Steps p.tables e below (s₁.setTop (mkF m 12 #[.val (.int p1), .val (.int (1 : Int32)), .unset, .unset, .unset, .unset, .unset, .unset, .unset, .unset, .unset, .unset] [])) _
    refine XS.iloadN X0.here hx rfl (hb hby at_12) rfl ?_
    show Steps p.tables e below (s₁.setTop (mkF m 13 #[.val (.int p1), .val (.int (1 : Int32)), .unset, .unset, .unset, .unset, .unset, .unset, .unset, .unset, .unset, .unset] [(.int p1)])) _
    refine XS.iconst X0.here hx rfl (hb hby at_13) ?_
    show Steps p.tables e below (s₁.setTop (mkF m 14 #[.val (.int p1), .val (.int (1 : Int32)), .unset, .unset, .unset, .unset, .unset, .unset, .unset, .unset, .unset, .unset] [(.int (2 : Int32)), (.int p1)])) _
    refine XS.iand X0.here hx rfl (hb hby at_14) rfl ?_
    show Steps p.tables e below (s₁.setTop (mkF m 15 #[.val (.int p1), .val (.int (1 : Int32)), .unset, .unset, .unset, .unset, .unset, .unset, .unset, .unset, .unset, .unset] [(.int (p1 &&& (2 : Int32)))])) _
    refine XS.ifNo X0.here hx rfl (hb hby at_15) rfl ((if0 _ _).trans (feq hc15).1) ?_
    show Steps p.tables e below (s₁.setTop (mkF m 18 #[.val (.int p1), .val (.int (1 : Int32)), .unset, .unset, .unset, .unset, .unset, .unset, .unset, .unset, .unset, .unset] [])) _
    refine XS.iconst X0.here hx rfl (hb hby at_18) ?_
    show Steps p.tables e below (s₁.setTop (mkF m 19 #[.val (.int p1), .val (.int (1 : Int32)), .unset, .unset, .unset, .unset, .unset, .unset, .unset, .unset, .unset, .unset] [(.int (1 : Int32))])) _
    refine XS.goto X0.here hx rfl (pc0 := 19) (pc' := 23) rfl (hb hby at_19) (by decide) (by decide) ?_
    show Steps p.tables e below (s₁.setTop (mkF m 23 #[.val (.int p1), .val (.int (1 : Int32)), .unset, .unset, .unset, .unset, .unset, .unset, .unset, .unset, .unset, .unset] [(.int (1 : Int32))])) _
    refine XS.istoreN X0.here hx rfl (hb hby at_23) rfl (l' := #[.val (.int p1), .val (.int (1 : Int32)), .val (.int (1 : Int32)), .unset, .unset, .unset, .unset, .unset, .unset, .unset, .unset, .unset]) rfl ?_
    show Steps p.tables e below (s₁.setTop (mkF m 24 #[.val (.int p1), .val (.int (1 : Int32)), .val (.int (1 : Int32)), .unset, .unset, .unset, .unset, .unset, .unset, .unset, .unset, .unset] [])) _
    refine XS.iloadN X0.here hx rfl (hb hby at_24) rfl ?_
    show Steps p.tables e below (s₁.setTop (mkF m 25 #[.val (.int p1), .val (.int (1 : Int32)), .val (.int (1 : Int32)), .unset, .unset, .unset, .unset, .unset, .unset, .unset, .unset, .unset] [(.int (1 : Int32))])) _
    refine XS.ifNo X0.here hx rfl (hb hby at_25) rfl ((if0 _ _).trans (feq hc25).1) ?_
    show Steps p.tables e below (s₁.setTop (mkF m 28 #[.val (.int p1), .val (.int (1 : Int32)), .val (.int (1 : Int32)), .unset, .unset, .unset, .unset, .unset, .unset, .unset, .unset, .unset] [])) _
    refine XS.iloadN X0.here hx rfl (hb hby at_28) rfl ?_
    show Steps p.tables e below (s₁.setTop (mkF m 29 #[.val (.int p1), .val (.int (1 : Int32)), .val (.int (1 : Int32)), .unset, .unset, .unset, .unset, .unset, .unset, .unset, .unset, .unset] [(.int p1)])) _
    refine XS.iconst X0.here hx rfl (hb hby at_29) ?_
    show Steps p.tables e below (s₁.setTop (mkF m 30 #[.val (.int p1), .val (.int (1 : Int32)), .val (.int (1 : Int32)), .unset, .unset, .unset, .unset, .unset, .unset, .unset, .unset, .unset] [(.int (4 : Int32)), (.int p1)])) _
    refine XS.iand X0.here hx rfl (hb hby at_30) rfl ?_
    show Steps p.tables e below (s₁.setTop (mkF m 31 #[.val (.int p1), .val (.int (1 : Int32)), .val (.int (1 : Int32)), .unset, .unset, .unset, .unset, .unset, .unset, .unset, .unset, .unset] [(.int (p1 &&& (4 : Int32)))])) _
    refine XS.ifNo X0.here hx rfl (hb hby at_31) rfl ((if0 _ _).trans (feq hc31).1) ?_
    show Steps p.tables e below (s₁.setTop (mkF m 34 #[.val (.int p1), .val (.int (1 : Int32)), .val (.int (1 : Int32)), .unset, .unset, .unset, .unset, .unset, .unset, .unset, .unset, .unset] [])) _
    refine XS.iconst X0.here hx rfl (hb hby at_34) ?_
    show Steps p.tables e below (s₁.setTop (mkF m 35 #[.val (.int p1), .val (.int (1 : Int32)), .val (.int (1 : Int32)), .unset, .unset, .unset, .unset, .unset, .unset, .unset, .unset, .unset] [(.int (1 : Int32))])) _
    refine XS.goto X0.here hx rfl (pc0 := 35) (pc' := 39) rfl (hb hby at_35) (by decide) (by decide) ?_
    show Steps p.tables e below (s₁.setTop (mkF m 39 #[.val (.int p1), .val (.int (1 : Int32)), .val (.int (1 : Int32)), .unset, .unset, .unset, .unset, .unset, .unset, .unset, .unset, .unset] [(.int (1 : Int32))])) _
    refine XS.istoreN X0.here hx rfl (hb hby at_39) rfl (l' := #[.val (.int p1), .val (.int (1 : Int32)), .val (.int (1 : Int32)), .val (.int (1 : Int32)), .unset, .unset, .unset, .unset, .unset, .unset, .unset, .unset]) rfl ?_
    show Steps p.tables e below (s₁.setTop (mkF m 40 #[.val (.int p1), .val (.int (1 : Int32)), .val (.int (1 : Int32)), .val (.int (1 : Int32)), .unset, .unset, .unset, .unset, .unset, .unset, .unset, .unset] [])) _
    refine XS.iloadN X0.here hx rfl (hb hby at_40) rfl ?_
    show Steps p.tables e below (s₁.setTop (mkF m 41 #[.val (.int p1), .val (.int (1 : Int32)), .val (.int (1 : Int32)), .val (.int (1 : Int32)), .unset, .unset, .unset, .unset, .unset, .unset, .unset, .unset] [(.int (1 : Int32))])) _
    refine XS.ifNo X0.here hx rfl (hb hby at_41) rfl ((if0 _ _).trans (feq hc41).1) ?_
    show Steps p.tables e below (s₁.setTop (mkF m 44 #[.val (.int p1), .val (.int (1 : Int32)), .val (.int (1 : Int32)), .val (.int (1 : Int32)), .unset, .unset, .unset, .unset, .unset, .unset, .unset, .unset] [])) _
    refine XS.iloadN X0.here hx rfl (hb hby at_44) rfl ?_
    show Steps p.tables e below (s₁.setTop (mkF m 45 #[.val (.int p1), .val (.int (1 : Int32)), .val (.int (1 : Int32)), .val (.int (1 : Int32)), .unset, .unset, .unset, .unset, .unset, .unset, .unset, .unset] [(.int p1)])) _
    refine XS.bipush X0.here hx rfl (hb hby at_45) ?_
    show Steps p.tables e below (s₁.setTop (mkF m 47 #[.val (.int p1), .val (.int (1 : Int32)), .val (.int (1 : Int32)), .val (.int (1 : Int32)), .unset, .unset, .unset, .unset, .unset, .unset, .unset, .unset] [(.int (8 : Int32)), (.int p1)])) _
    refine XS.iand X0.here hx rfl (hb hby at_47) rfl ?_
    show Steps p.tables e below (s₁.setTop (mkF m 48 #[.val (.int p1), .val (.int (1 : Int32)), .val (.int (1 : Int32)), .val (.int (1 : Int32)), .unset, .unset, .unset, .unset, .unset, .unset, .unset, .unset] [(.int (p1 &&& (8 : Int32)))])) _
    refine XS.ifNo X0.here hx rfl (hb hby at_48) rfl ((if0 _ _).trans (feq hc48).1) ?_
    show Steps p.tables e below (s₁.setTop (mkF m 51 #[.val (.int p1), .val (.int (1 : Int32)), .val (.int (1 : Int32)), .val (.int (1 : Int32)), .unset, .unset, .unset, .unset, .unset, .unset, .unset, .unset] [])) _
    refine XS.iconst X0.here hx rfl (hb hby at_51) ?_
    show Steps p.tables e below (s₁.setTop (mkF m 52 #[.val (.int p1), .val (.int (1 : Int32)), .val (.int (1 : Int32)), .val (.int (1 : Int32)), .unset, .unset, .unset, .unset, .unset, .unset, .unset, .unset] [(.int (1 : Int32))])) _
    refine XS.goto X0.here hx rfl (pc0 := 52) (pc' := 56) rfl (hb hby at_52) (by decide) (by decide) ?_
    show Steps p.tables e below (s₁.setTop (mkF m 56 #[.val (.int p1), .val (.int (1 : Int32)), .val (.int (1 : Int32)), .val (.int (1 : Int32)), .unset, .unset, .unset, .unset, .unset, .unset, .unset, .unset] [(.int (1 : Int32))])) _
    refine XS.istore X0.here hx rfl (hb hby at_56) rfl (l' := #[.val (.int p1), .val (.int (1 : Int32)), .val (.int (1 : Int32)), .val (.int (1 : Int32)), .val (.int (1 : Int32)), .unset, .unset, .unset, .unset, .unset, .unset, .unset]) rfl ?_
    show Steps p.tables e below (s₁.setTop (mkF m 58 #[.val (.int p1), .val (.int (1 : Int32)), .val (.int (1 : Int32)), .val (.int (1 : Int32)), .val (.int (1 : Int32)), .unset, .unset, .unset, .unset, .unset, .unset, .unset] [])) _
    refine st2 _ ?_
    show Steps p.tables e below (T2.setTop (mkF m 61 #[.val (.int p1), .val (.int (1 : Int32)), .val (.int (1 : Int32)), .val (.int (1 : Int32)), .val (.int (1 : Int32)), .unset, .unset, .unset, .unset, .unset, .unset, .unset] [(.ref b2)])) _
    refine XS.dup X2.here hx rfl (hb hby at_61) rfl rfl ?_
    show Steps p.tables e below (T2.setTop (mkF m 62 #[.val (.int p1), .val (.int (1 : Int32)), .val (.int (1 : Int32)), .val (.int (1 : Int32)), .val (.int (1 : Int32)), .unset, .unset, .unset, .unset, .unset, .unset, .unset] [(.ref b2), (.ref b2)])) _
    refine st3.trans ?_
    show Steps p.tables e below (T3.setTop (mkF m 65 #[.val (.int p1), .val (.int (1 : Int32)), .val (.int (1 : Int32)), .val (.int (1 : Int32)), .val (.int (1 : Int32)), .unset, .unset, .unset, .unset, .unset, .unset, .unset] [(.ref b2)])) _
    refine XS.astore X3.here hx rfl (hb hby at_65) rfl rfl (l' := #[.val (.int p1), .val (.int (1 : Int32)), .val (.int (1 : Int32)), .val (.int (1 : Int32)), .val (.int (1 : Int32)), .val (.ref b2), .unset, .unset, .unset, .unset, .unset, .unset]) rfl ?_
    show Steps p.tables e below (T3.setTop (mkF m 67 #[.val (.int p1), .val (.int (1 : Int32)), .val (.int (1 : Int32)), .val (.int (1 : Int32)), .val (.int (1 : Int32)), .val (.ref b2), .unset, .unset, .unset, .unset, .unset, .unset] [])) _
    refine st4 _ ?_
    show Steps p.tables e below (T4.setTop (mkF m 70 #[.val (.int p1), .val (.int (1 : Int32)), .val (.int (1 : Int32)), .val (.int (1 : Int32)), .val (.int (1 : Int32)), .val (.ref b2), .unset, .unset, .unset, .unset, .unset, .unset] [(.ref b4)])) _
    refine XS.dup X4.here hx rfl (hb hby at_70) rfl rfl ?_
    show Steps p.tables e below (T4.setTop (mkF m 71 #[.val (.int p1), .val (.int (1 : Int32)), .val (.int (1 : Int32)), .val (.int (1 : Int32)), .val (.int (1 : Int32)), .val (.ref b2), .unset, .unset, .unset, .unset, .unset, .unset] [(.ref b4), (.ref b4)])) _
    refine XS.aconstNull X4.here hx rfl (hb hby at_71) ?_
    show Steps p.tables e below (T4.setTop (mkF m 72 #[.val (.int p1), .val (.int (1 : Int32)), .val (.int (1 : Int32)), .val (.int (1 : Int32)), .val (.int (1 : Int32)), .val (.ref b2), .unset, .unset, .unset, .unset, .unset, .unset] [.null, (.ref b4), (.ref b4)])) _
    refine XS.aconstNull X4.here hx rfl (hb hby at_72) ?_
    show Steps p.tables e below (T4.setTop (mkF m 73 #[.val (.int p1), .val (.int (1 : Int32)), .val (.int (1 : Int32)), .val (.int (1 : Int32)), .val (.int (1 : Int32)), .val (.ref b2), .unset, .unset, .unset, .unset, .unset, .unset] [.null, .null, (.ref b4), (.ref b4)])) _
    refine XS.iconst X4.here hx rfl (hb hby at_73) ?_
    show Steps p.tables e below (T4.setTop (mkF m 74 #[.val (.int p1), .val (.int (1 : Int32)), .val (.int (1 : Int32)), .val (.int (1 : Int32)), .val (.int (1 : Int32)), .val (.ref b2), .unset, .unset, .unset, .unset, .unset, .unset] [(.int (0 : Int32)), .null, .null, (.ref b4), (.ref b4)])) _
    refine st5.trans ?_
    show Steps p.tables e below (T5.setTop (mkF m 77 #[.val (.int p1), .val (.int (1 : Int32)), .val (.int (1 : Int32)), .val (.int (1 : Int32)), .val (.int (1 : Int32)), .val (.ref b2), .unset, .unset, .unset, .unset, .unset, .unset] [(.ref b4)])) _
    refine XS.astore X5.here hx rfl (hb hby at_77) rfl rfl (l' := #[.val (.int p1), .val (.int (1 : Int32)), .val (.int (1 : Int32)), .val (.int (1 : Int32)), .val (.int (1 : Int32)), .val (.ref b2), .val (.ref b4), .unset, .unset, .unset, .unset, .unset]) rfl ?_
    show Steps p.tables e below (T5.setTop (mkF m 79 #[.val (.int p1), .val (.int (1 : Int32)), .val (.int (1 : Int32)), .val (.int (1 : Int32)), .val (.int (1 : Int32)), .val (.ref b2), .val (.ref b4), .unset, .unset, .unset, .unset, .unset] [])) _
    refine st6 _ ?_
    show Steps p.tables e below (T6.setTop (mkF m 82 #[.val (.int p1), .val (.int (1 : Int32)), .val (.int (1 : Int32)), .val (.int (1 : Int32)), .val (.int (1 : Int32)), .val (.ref b2), .val (.ref b4), .unset, .unset, .unset, .unset, .unset] [(.ref b6)])) _
    refine XS.dup X6.here hx rfl (hb hby at_82) rfl rfl ?_
    show Steps p.tables e below (T6.setTop (mkF m 83 #[.val (.int p1), .val (.int (1 : Int32)), .val (.int (1 : Int32)), .val (.int (1 : Int32)), .val (.int (1 : Int32)), .val (.ref b2), .val (.ref b4), .unset, .unset, .unset, .unset, .unset] [(.ref b6), (.ref b6)])) _
    refine XS.aconstNull X6.here hx rfl (hb hby at_83) ?_
    show Steps p.tables e below (T6.setTop (mkF m 84 #[.val (.int p1), .val (.int (1 : Int32)), .val (.int (1 : Int32)), .val (.int (1 : Int32)), .val (.int (1 : Int32)), .val (.ref b2), .val (.ref b4), .unset, .unset, .unset, .unset, .unset] [.null, (.ref b6), (.ref b6)])) _
    refine XS.aconstNull X6.here hx rfl (hb hby at_84) ?_
    show Steps p.tables e below (T6.setTop (mkF m 85 #[.val (.int p1), .val (.int (1 : Int32)), .val (.int (1 : Int32)), .val (.int (1 : Int32)), .val (.int (1 : Int32)), .val (.ref b2), .val (.ref b4), .unset, .unset, .unset, .unset, .unset] [.null, .null, (.ref b6), (.ref b6)])) _
    refine XS.iconst X6.here hx rfl (hb hby at_85) ?_
    show Steps p.tables e below (T6.setTop (mkF m 86 #[.val (.int p1), .val (.int (1 : Int32)), .val (.int (1 : Int32)), .val (.int (1 : Int32)), .val (.int (1 : Int32)), .val (.ref b2), .val (.ref b4), .unset, .unset, .unset, .unset, .unset] [(.int (0 : Int32)), .null, .null, (.ref b6), (.ref b6)])) _
    refine st7.trans ?_
    show Steps p.tables e below (T7.setTop (mkF m 89 #[.val (.int p1), .val (.int (1 : Int32)), .val (.int (1 : Int32)), .val (.int (1 : Int32)), .val (.int (1 : Int32)), .val (.ref b2), .val (.ref b4), .unset, .unset, .unset, .unset, .unset] [(.ref b6)])) _
    refine XS.astore X7.here hx rfl (hb hby at_89) rfl rfl (l' := #[.val (.int p1), .val (.int (1 : Int32)), .val (.int (1 : Int32)), .val (.int (1 : Int32)), .val (.int (1 : Int32)), .val (.ref b2), .val (.ref b4), .val (.ref b6), .unset, .unset, .unset, .unset]) rfl ?_
    show Steps p.tables e below (T7.setTop (mkF m 91 #[.val (.int p1), .val (.int (1 : Int32)), .val (.int (1 : Int32)), .val (.int (1 : Int32)), .val (.int (1 : Int32)), .val (.ref b2), .val (.ref b4), .val (.ref b6), .unset, .unset, .unset, .unset] [])) _
    refine XS.iconst X7.here hx rfl (hb hby at_91) ?_
    show Steps p.tables e below (T7.setTop (mkF m 92 #[.val (.int p1), .val (.int (1 : Int32)), .val (.int (1 : Int32)), .val (.int (1 : Int32)), .val (.int (1 : Int32)), .val (.ref b2), .val (.ref b4), .val (.ref b6), .unset, .unset, .unset, .unset] [(.int (0 : Int32))])) _
    refine XS.istore X7.here hx rfl (hb hby at_92) rfl (l' := #[.val (.int p1), .val (.int (1 : Int32)), .val (.int (1 : Int32)), .val (.int (1 : Int32)), .val (.int (1 : Int32)), .val (.ref b2), .val (.ref b4), .val (.ref b6), .val (.int (0 : Int32)), .unset, .unset, .unset]) rfl ?_
    show Steps p.tables e below (T7.setTop (mkF m 94 #[.val (.int p1), .val (.int (1 : Int32)), .val (.int (1 : Int32)), .val (.int (1 : Int32)), .val (.int (1 : Int32)), .val (.ref b2), .val (.ref b4), .val (.ref b6), .val (.int (0 : Int32)), .unset, .unset, .unset] [])) _
    refine XS.iloadN X7.here hx rfl (hb hby at_94) rfl ?_
    show Steps p.tables e below (T7.setTop (mkF m 95 #[.val (.int p1), .val (.int (1 : Int32)), .val (.int (1 : Int32)), .val (.int (1 : Int32)), .val (.int (1 : Int32)), .val (.ref b2), .val (.ref b4), .val (.ref b6), .val (.int (0 : Int32)), .unset, .unset, .unset] [(.int (1 : Int32))])) _
    refine XS.ifNo X7.here hx rfl (hb hby at_95) rfl ((if0 _ _).trans (feq hc95).1) ?_
    show Steps p.tables e below (T7.setTop (mkF m 98 #[.val (.int p1), .val (.int (1 : Int32)), .val (.int (1 : Int32)), .val (.int (1 : Int32)), .val (.int (1 : Int32)), .val (.ref b2), .val (.ref b4), .val (.ref b6), .val (.int (0 : Int32)), .unset, .unset, .unset] [])) _
    refine XS.aload X7.here hx rfl (hb hby at_98) rfl rfl ?_
    show Steps p.tables e below (T7.setTop (mkF m 100 #[.val (.int p1), .val (.int (1 : Int32)), .val (.int (1 : Int32)), .val (.int (1 : Int32)), .val (.int (1 : Int32)), .val (.ref b2), .val (.ref b4), .val (.ref b6), .val (.int (0 : Int32)), .unset, .unset, .unset] [(.ref b2)])) _
    refine XS.aload X7.here hx rfl (hb hby at_100) rfl rfl ?_
    show Steps p.tables e below (T7.setTop (mkF m 102 #[.val (.int p1), .val (.int (1 : Int32)), .val (.int (1 : Int32)), .val (.int (1 : Int32)), .val (.int (1 : Int32)), .val (.ref b2), .val (.ref b4), .val (.ref b6), .val (.int (0 : Int32)), .unset, .unset, .unset] [(.ref b4), (.ref b2)])) _
    refine st8.trans ?_
    show Steps p.tables e below (T8.setTop (mkF m 105 #[.val (.int p1), .val (.int (1 : Int32)), .val (.int (1 : Int32)), .val (.int (1 : Int32)), .val (.int (1 : Int32)), .val (.ref b2), .val (.ref b4), .val (.ref b6), .val (.int (0 : Int32)), .unset, .unset, .unset] [])) _
    refine XS.iload X8.here hx rfl (hb hby at_105) rfl ?_
    show Steps p.tables e below (T8.setTop (mkF m 107 #[.val (.int p1), .val (.int (1 : Int32)), .val (.int (1 : Int32)), .val (.int (1 : Int32)), .val (.int (1 : Int32)), .val (.ref b2), .val (.ref b4), .val (.ref b6), .val (.int (0 : Int32)), .unset, .unset, .unset] [(.int (0 : Int32))])) _
    refine XS.iconst X8.here hx rfl (hb hby at_107) ?_
    show Steps p.tables e below (T8.setTop (mkF m 108 #[.val (.int p1), .val (.int (1 : Int32)), .val (.int (1 : Int32)), .val (.int (1 : Int32)), .val (.int (1 : Int32)), .val (.ref b2), .val (.ref b4), .val (.ref b6), .val (.int (0 : Int32)), .unset, .unset, .unset] [(.int (1 : Int32)), (.int (0 : Int32))])) _
    refine XS.iadd X8.here hx rfl (hb hby at_108) rfl ?_
    show Steps p.tables e below (T8.setTop (mkF m 109 #[.val (.int p1), .val (.int (1 : Int32)), .val (.int (1 : Int32)), .val (.int (1 : Int32)), .val (.int (1 : Int32)), .val (.ref b2), .val (.ref b4), .val (.ref b6), .val (.int (0 : Int32)), .unset, .unset, .unset] [(.int ((0 : Int32) + (1 : Int32)))])) _
    refine XS.istore X8.here hx rfl (hb hby at_109) rfl (l' := #[.val (.int p1), .val (.int (1 : Int32)), .val (.int (1 : Int32)), .val (.int (1 : Int32)), .val (.int (1 : Int32)), .val (.ref b2), .val (.ref b4), .val (.ref b6), .val (.int ((0 : Int32) + (1 : Int32))), .unset, .unset, .unset]) rfl ?_
    show Steps p.tables e below (T8.setTop (mkF m 111 #[.val (.int p1), .val (.int (1 : Int32)), .val (.int (1 : Int32)), .val (.int (1 : Int32)), .val (.int (1 : Int32)), .val (.ref b2), .val (.ref b4), .val (.ref b6), .val (.int ((0 : Int32) + (1 : Int32))), .unset, .unset, .unset] [])) _
    refine XS.iloadN X8.here hx rfl (hb hby at_111) rfl ?_
    show Steps p.tables e below (T8.setTop (mkF m 112 #[.val (.int p1), .val (.int (1 : Int32)), .val (.int (1 : Int32)), .val (.int (1 : Int32)), .val (.int (1 : Int32)), .val (.ref b2), .val (.ref b4), .val (.ref b6), .val (.int ((0 : Int32) + (1 : Int32))), .unset, .unset, .unset] [(.int (1 : Int32))])) _
    refine XS.ifNo X8.here hx rfl (hb hby at_112) rfl ((if0 _ _).trans (feq hc112).1) ?_
    show Steps p.tables e below (T8.setTop (mkF m 115 #[.val (.int p1), .val (.int (1 : Int32)), .val (.int (1 : Int32)), .val (.int (1 : Int32)), .val (.int (1 : Int32)), .val (.ref b2), .val (.ref b4), .val (.ref b6), .val (.int ((0 : Int32) + (1 : Int32))), .unset, .unset, .unset] [])) _
    refine XS.aload X8.here hx rfl (hb hby at_115) rfl rfl ?_
    show Steps p.tables e below (T8.setTop (mkF m 117 #[.val (.int p1), .val (.int (1 : Int32)), .val (.int (1 : Int32)), .val (.int (1 : Int32)), .val (.int (1 : Int32)), .val (.ref b2), .val (.ref b4), .val (.ref b6), .val (.int ((0 : Int32) + (1 : Int32))), .unset, .unset, .unset] [(.ref b2)])) _
    refine XS.aload X8.here hx rfl (hb hby at_117) rfl rfl ?_
    show Steps p.tables e below (T8.setTop (mkF m 119 #[.val (.int p1), .val (.int (1 : Int32)), .val (.int (1 : Int32)), .val (.int (1 : Int32)), .val (.int (1 : Int32)), .val (.ref b2), .val (.ref b4), .val (.ref b6), .val (.int ((0 : Int32) + (1 : Int32))), .unset, .unset, .unset] [(.ref b6), (.ref b2)])) _
    refine st9.trans ?_
    show Steps p.tables e below (T9.setTop (mkF m 122 #[.val (.int p1), .val (.int (1 : Int32)), .val (.int (1 : Int32)), .val (.int (1 : Int32)), .val (.int (1 : Int32)), .val (.ref b2), .val (.ref b4), .val (.ref b6), .val (.int ((0 : Int32) + (1 : Int32))), .unset, .unset, .unset] [])) _
    refine XS.iload X9.here hx rfl (hb hby at_122) rfl ?_
    show Steps p.tables e below (T9.setTop (mkF m 124 #[.val (.int p1), .val (.int (1 : Int32)), .val (.int (1 : Int32)), .val (.int (1 : Int32)), .val (.int (1 : Int32)), .val (.ref b2), .val (.ref b4), .val (.ref b6), .val (.int ((0 : Int32) + (1 : Int32))), .unset, .unset, .unset] [(.int ((0 : Int32) + (1 : Int32)))])) _
    refine XS.iconst X9.here hx rfl (hb hby at_124) ?_
    show Steps p.tables e below (T9.setTop (mkF m 125 #[.val (.int p1), .val (.int (1 : Int32)), .val (.int (1 : Int32)), .val (.int (1 : Int32)), .val (.int (1 : Int32)), .val (.ref b2), .val (.ref b4), .val (.ref b6), .val (.int ((0 : Int32) + (1 : Int32))), .unset, .unset, .unset] [(.int (1 : Int32)), (.int ((0 : Int32) + (1 : Int32)))])) _
    refine XS.iadd X9.here hx rfl (hb hby at_125) rfl ?_
    show Steps p.tables e below (T9.setTop (mkF m 126 #[.val (.int p1), .val (.int (1 : Int32)), .val (.int (1 : Int32)), .val (.int (1 : Int32)), .val (.int (1 : Int32)), .val (.ref b2), .val (.ref b4), .val (.ref b6), .val (.int ((0 : Int32) + (1 : Int32))), .unset, .unset, .unset] [(.int (((0 : Int32) + (1 : Int32)) + (1 : Int32)))])) _
    refine XS.istore X9.here hx rfl (hb hby at_126) rfl (l' := #[.val (.int p1), .val (.int (1 : Int32)), .val (.int (1 : Int32)), .val (.int (1 : Int32)), .val (.int (1 : Int32)), .val (.ref b2), .val (.ref b4), .val (.ref b6), .val (.int (((0 : Int32) + (1 : Int32)) + (1 : Int32))), .unset, .unset, .unset]) rfl ?_
    show Steps p.tables e below (T9.setTop (mkF m 128 #[.val (.int p1), .val (.int (1 : Int32)), .val (.int (1 : Int32)), .val (.int (1 : Int32)), .val (.int (1 : Int32)), .val (.ref b2), .val (.ref b4), .val (.ref b6), .val (.int (((0 : Int32) + (1 : Int32)) + (1 : Int32))), .unset, .unset, .unset] [])) _
    refine XS.iloadN X9.here hx rfl (hb hby at_128) rfl ?_
    show Steps p.tables e below (T9.setTop (mkF m 129 #[.val (.int p1), .val (.int (1 : Int32)), .val (.int (1 : Int32)), .val (.int (1 : Int32)), .val (.int (1 : Int32)), .val (.ref b2), .val (.ref b4), .val (.ref b6), .val (.int (((0 : Int32) + (1 : Int32)) + (1 : Int32))), .unset, .unset, .unset] [(.int (1 : Int32))])) _
    refine XS.ifNo X9.here hx rfl (hb hby at_129) rfl ((if0 _ _).trans (feq hc129).1) ?_
    show Steps p.tables e below (T9.setTop (mkF m 132 #[.val (.int p1), .val (.int (1 : Int32)), .val (.int (1 : Int32)), .val (.int (1 : Int32)), .val (.int (1 : Int32)), .val (.ref b2), .val (.ref b4), .val (.ref b6), .val (.int (((0 : Int32) + (1 : Int32)) + (1 : Int32))), .unset, .unset, .unset] [])) _
    refine XS.aload X9.here hx rfl (hb hby at_132) rfl rfl ?_
    show Steps p.tables e below (T9.setTop (mkF m 134 #[.val (.int p1), .val (.int (1 : Int32)), .val (.int (1 : Int32)), .val (.int (1 : Int32)), .val (.int (1 : Int32)), .val (.ref b2), .val (.ref b4), .val (.ref b6), .val (.int (((0 : Int32) + (1 : Int32)) + (1 : Int32))), .unset, .unset, .unset] [(.ref b2)])) _
    refine XS.aload X9.here hx rfl (hb hby at_134) rfl rfl ?_
    show Steps p.tables e below (T9.setTop (mkF m 136 #[.val (.int p1), .val (.int (1 : Int32)), .val (.int (1 : Int32)), .val (.int (1 : Int32)), .val (.int (1 : Int32)), .val (.ref b2), .val (.ref b4), .val (.ref b6), .val (.int (((0 : Int32) + (1 : Int32)) + (1 : Int32))), .unset, .unset, .unset] [(.ref b4), (.ref b2)])) _
    refine st10.trans ?_
    show Steps p.tables e below (T10.setTop (mkF m 139 #[.val (.int p1), .val (.int (1 : Int32)), .val (.int (1 : Int32)), .val (.int (1 : Int32)), .val (.int (1 : Int32)), .val (.ref b2), .val (.ref b4), .val (.ref b6), .val (.int (((0 : Int32) + (1 : Int32)) + (1 : Int32))), .unset, .unset, .unset] [])) _
    refine XS.iload X10.here hx rfl (hb hby at_139) rfl ?_
    show Steps p.tables e below (T10.setTop (mkF m 141 #[.val (.int p1), .val (.int (1 : Int32)), .val (.int (1 : Int32)), .val (.int (1 : Int32)), .val (.int (1 : Int32)), .val (.ref b2), .val (.ref b4), .val (.ref b6), .val (.int (((0 : Int32) + (1 : Int32)) + (1 : Int32))), .unset, .unset, .unset] [(.int (((0 : Int32) + (1 : Int32)) + (1 : Int32)))])) _
    refine XS.iconst X10.here hx rfl (hb hby at_141) ?_
    show Steps p.tables e below (T10.setTop (mkF m 142 #[.val (.int p1), .val (.int (1 : Int32)), .val (.int (1 : Int32)), .val (.int (1 : Int32)), .val (.int (1 : Int32)), .val (.ref b2), .val (.ref b4), .val (.ref b6), .val (.int (((0 : Int32) + (1 : Int32)) + (1 : Int32))), .unset, .unset, .unset] [(.int (1 : Int32)), (.int (((0 : Int32) + (1 : Int32)) + (1 : Int32)))])) _
    refine XS.isub X10.here hx rfl (hb hby at_142) rfl ?_
    show Steps p.tables e below (T10.setTop (mkF m 143 #[.val (.int p1), .val (.int (1 : Int32)), .val (.int (1 : Int32)), .val (.int (1 : Int32)), .val (.int (1 : Int32)), .val (.ref b2), .val (.ref b4), .val (.ref b6), .val (.int (((0 : Int32) + (1 : Int32)) + (1 : Int32))), .unset, .unset, .unset] [(.int ((((0 : Int32) + (1 : Int32)) + (1 : Int32)) - (1 : Int32)))])) _
    refine XS.istore X10.here hx rfl (hb hby at_143) rfl (l' := #[.val (.int p1), .val (.int (1 : Int32)), .val (.int (1 : Int32)), .val (.int (1 : Int32)), .val (.int (1 : Int32)), .val (.ref b2), .val (.ref b4), .val (.ref b6), .val (.int ((((0 : Int32) + (1 : Int32)) + (1 : Int32)) - (1 : Int32))), .unset, .unset, .unset]) rfl ?_
    show Steps p.tables e below (T10.setTop (mkF m 145 #[.val (.int p1), .val (.int (1 : Int32)), .val (.int (1 : Int32)), .val (.int (1 : Int32)), .val (.int (1 : Int32)), .val (.ref b2), .val (.ref b4), .val (.ref b6), .val (.int ((((0 : Int32) + (1 : Int32)) + (1 : Int32)) - (1 : Int32))), .unset, .unset, .unset] [])) _
    refine XS.iload X10.here hx rfl (hb hby at_145) rfl ?_
    show Steps p.tables e below (T10.setTop (mkF m 147 #[.val (.int p1), .val (.int (1 : Int32)), .val (.int (1 : Int32)), .val (.int (1 : Int32)), .val (.int (1 : Int32)), .val (.ref b2), .val (.ref b4), .val (.ref b6), .val (.int ((((0 : Int32) + (1 : Int32)) + (1 : Int32)) - (1 : Int32))), .unset, .unset, .unset] [(.int (1 : Int32))])) _
    refine XS.ifNo X10.here hx rfl (hb hby at_147) rfl ((if0 _ _).trans (feq hc147).1) ?_
    show Steps p.tables e below (T10.setTop (mkF m 150 #[.val (.int p1), .val (.int (1 : Int32)), .val (.int (1 : Int32)), .val (.int (1 : Int32)), .val (.int (1 : Int32)), .val (.ref b2), .val (.ref b4), .val (.ref b6), .val (.int ((((0 : Int32) + (1 : Int32)) + (1 : Int32)) - (1 : Int32))), .unset, .unset, .unset] [])) _
    refine XS.aload X10.here hx rfl (hb hby at_150) rfl rfl ?_
    show Steps p.tables e below (T10.setTop (mkF m 152 #[.val (.int p1), .val (.int (1 : Int32)), .val (.int (1 : Int32)), .val (.int (1 : Int32)), .val (.int (1 : Int32)), .val (.ref b2), .val (.ref b4), .val (.ref b6), .val (.int ((((0 : Int32) + (1 : Int32)) + (1 : Int32)) - (1 : Int32))), .unset, .unset, .unset] [(.ref b2)])) _
    refine XS.aload X10.here hx rfl (hb hby at_152) rfl rfl ?_
    show Steps p.tables e below (T10.setTop (mkF m 154 #[.val (.int p1), .val (.int (1 : Int32)), .val (.int (1 : Int32)), .val (.int (1 : Int32)), .val (.int (1 : Int32)), .val (.ref b2), .val (.ref b4), .val (.ref b6), .val (.int ((((0 : Int32) + (1 : Int32)) + (1 : Int32)) - (1 : Int32))), .unset, .unset, .unset] [(.ref b6), (.ref b2)])) _
    refine st11.trans ?_
    show Steps p.tables e below (T11.setTop (mkF m 157 #[.val (.int p1), .val (.int (1 : Int32)), .val (.int (1 : Int32)), .val (.int (1 : Int32)), .val (.int (1 : Int32)), .val (.ref b2), .val (.ref b4), .val (.ref b6), .val (.int ((((0 : Int32) + (1 : Int32)) + (1 : Int32)) - (1 : Int32))), .unset, .unset, .unset] [])) _
    refine XS.iload X11.here hx rfl (hb hby at_157) rfl ?_
    show Steps p.tables e below (T11.setTop (mkF m 159 #[.val (.int p1), .val (.int (1 : Int32)), .val (.int (1 : Int32)), .val (.int (1 : Int32)), .val (.int (1 : Int32)), .val (.ref b2), .val (.ref b4), .val (.ref b6), .val (.int ((((0 : Int32) + (1 : Int32)) + (1 : Int32)) - (1 : Int32))), .unset, .unset, .unset] [(.int ((((0 : Int32) + (1 : Int32)) + (1 : Int32)) - (1 : Int32)))])) _
    refine XS.iconst X11.here hx rfl (hb hby at_159) ?_
    show Steps p.tables e below (T11.setTop (mkF m 160 #[.val (.int p1), .val (.int (1 : Int32)), .val (.int (1 : Int32)), .val (.int (1 : Int32)), .val (.int (1 : Int32)), .val (.ref b2), .val (.ref b4), .val (.ref b6), .val (.int ((((0 : Int32) + (1 : Int32)) + (1 : Int32)) - (1 : Int32))), .unset, .unset, .unset] [(.int (1 : Int32)), (.int ((((0 : Int32) + (1 : Int32)) + (1 : Int32)) - (1 : Int32)))])) _
    refine XS.isub X11.here hx rfl (hb hby at_160) rfl ?_
    show Steps p.tables e below (T11.setTop (mkF m 161 #[.val (.int p1), .val (.int (1 : Int32)), .val (.int (1 : Int32)), .val (.int (1 : Int32)), .val (.int (1 : Int32)), .val (.ref b2), .val (.ref b4), .val (.ref b6), .val (.int ((((0 : Int32) + (1 : Int32)) + (1 : Int32)) - (1 : Int32))), .unset, .unset, .unset] [(.int (((((0 : Int32) + (1 : Int32)) + (1 : Int32)) - (1 : Int32)) - (1 : Int32)))])) _
    refine XS.istore X11.here hx rfl (hb hby at_161) rfl (l' := #[.val (.int p1), .val (.int (1 : Int32)), .val (.int (1 : Int32)), .val (.int (1 : Int32)), .val (.int (1 : Int32)), .val (.ref b2), .val (.ref b4), .val (.ref b6), .val (.int (((((0 : Int32) + (1 : Int32)) + (1 : Int32)) - (1 : Int32)) - (1 : Int32))), .unset, .unset, .unset]) rfl ?_
    show Steps p.tables e below (T11.setTop (mkF m 163 #[.val (.int p1), .val (.int (1 : Int32)), .val (.int (1 : Int32)), .val (.int (1 : Int32)), .val (.int (1 : Int32)), .val (.ref b2), .val (.ref b4), .val (.ref b6), .val (.int (((((0 : Int32) + (1 : Int32)) + (1 : Int32)) - (1 : Int32)) - (1 : Int32))), .unset, .unset, .unset] [])) _
    refine XS.iload X11.here hx rfl (hb hby at_163) rfl ?_
    show Steps p.tables e below (T11.setTop (mkF m 165 #[.val (.int p1), .val (.int (1 : Int32)), .val (.int (1 : Int32)), .val (.int (1 : Int32)), .val (.int (1 : Int32)), .val (.ref b2), .val (.ref b4), .val (.ref b6), .val (.int (((((0 : Int32) + (1 : Int32)) + (1 : Int32)) - (1 : Int32)) - (1 : Int32))), .unset, .unset, .unset] [(.int (((((0 : Int32) + (1 : Int32)) + (1 : Int32)) - (1 : Int32)) - (1 : Int32)))])) _
    refine own_tif_ne X11.here hx (hb hby at_165) (hb hby at_168) (hb hby at_169) (hb hby at_172) ?_
    show Steps p.tables e below (T11.setTop (mkF m 173 #[.val (.int p1), .val (.int (1 : Int32)), .val (.int (1 : Int32)), .val (.int (1 : Int32)), .val (.int (1 : Int32)), .val (.ref b2), .val (.ref b4), .val (.ref b6), .val (.int (((((0 : Int32) + (1 : Int32)) + (1 : Int32)) - (1 : Int32)) - (1 : Int32))), .unset, .unset, .unset] [(.int (if (((((0 : Int32) + (1 : Int32)) + (1 : Int32)) - (1 : Int32)) - (1 : Int32)) = (0 : Int32) then (1 : Int32) else 0))])) _
    refine XS.istore X11.here hx rfl (hb hby at_173) rfl (l' := #[.val (.int p1), .val (.int (1 : Int32)), .val (.int (1 : Int32)), .val (.int (1 : Int32)), .val (.int (1 : Int32)), .val (.ref b2), .val (.ref b4), .val (.ref b6), .val (.int (((((0 : Int32) + (1 : Int32)) + (1 : Int32)) - (1 : Int32)) - (1 : Int32))), .val (.int (if (((((0 : Int32) + (1 : Int32)) + (1 : Int32)) - (1 : Int32)) - (1 : Int32)) = (0 : Int32) then (1 : Int32) else 0)), .unset, .unset]) rfl ?_
    show Steps p.tables e below (T11.setTop (mkF m 175 #[.val (.int p1), .val (.int (1 : Int32)), .val (.int (1 : Int32)), .val (.int (1 : Int32)), .val (.int (1 : Int32)), .val (.ref b2), .val (.ref b4), .val (.ref b6), .val (.int (((((0 : Int32) + (1 : Int32)) + (1 : Int32)) - (1 : Int32)) - (1 : Int32))), .val (.int (if (((((0 : Int32) + (1 : Int32)) + (1 : Int32)) - (1 : Int32)) - (1 : Int32)) = (0 : Int32) then (1 : Int32) else 0)), .unset, .unset] [])) _
    refine XS.aload X11.here hx rfl (hb hby at_175) rfl rfl ?_
    show Steps p.tables e below (T11.setTop (mkF m 177 #[.val (.int p1), .val (.int (1 : Int32)), .val (.int (1 : Int32)), .val (.int (1 : Int32)), .val (.int (1 : Int32)), .val (.ref b2), .val (.ref b4), .val (.ref b6), .val (.int (((((0 : Int32) + (1 : Int32)) + (1 : Int32)) - (1 : Int32)) - (1 : Int32))), .val (.int (if (((((0 : Int32) + (1 : Int32)) + (1 : Int32)) - (1 : Int32)) - (1 : Int32)) = (0 : Int32) then (1 : Int32) else 0)), .unset, .unset] [(.ref b2)])) _
    refine st12.trans ?_
    show Steps p.tables e below (T12.setTop (mkF m 180 #[.val (.int p1), .val (.int (1 : Int32)), .val (.int (1 : Int32)), .val (.int (1 : Int32)), .val (.int (1 : Int32)), .val (.ref b2), .val (.ref b4), .val (.ref b6), .val (.int (((((0 : Int32) + (1 : Int32)) + (1 : Int32)) - (1 : Int32)) - (1 : Int32))), .val (.int (if (((((0 : Int32) + (1 : Int32)) + (1 : Int32)) - (1 : Int32)) - (1 : Int32)) = (0 : Int32) then (1 : Int32) else 0)), .unset, .unset] [(.int (if (((((0 : Int32) + (1 : Int32)) + (1 : Int32)) - (1 : Int32)) - (1 : Int32)) = (0 : Int32) then (1 : Int32) else 0))])) _
    refine XS.istore X12.here hx rfl (hb hby at_180) rfl (l' := #[.val (.int p1), .val (.int (1 : Int32)), .val (.int (1 : Int32)), .val (.int (1 : Int32)), .val (.int (1 : Int32)), .val (.ref b2), .val (.ref b4), .val (.ref b6), .val (.int (((((0 : Int32) + (1 : Int32)) + (1 : Int32)) - (1 : Int32)) - (1 : Int32))), .val (.int (if (((((0 : Int32) + (1 : Int32)) + (1 : Int32)) - (1 : Int32)) - (1 : Int32)) = (0 : Int32) then (1 : Int32) else 0)), .val (.int (if (((((0 : Int32) + (1 : Int32)) + (1 : Int32)) - (1 : Int32)) - (1 : Int32)) = (0 : Int32) then (1 : Int32) else 0)), .unset]) rfl ?_
    show Steps p.tables e below (T12.setTop (mkF m 182 #[.val (.int p1), .val (.int (1 : Int32)), .val (.int (1 : Int32)), .val (.int (1 : Int32)), .val (.int (1 : Int32)), .val (.ref b2), .val (.ref b4), .val (.ref b6), .val (.int (((((0 : Int32) + (1 : Int32)) + (1 : Int32)) - (1 : Int32)) - (1 : Int32))), .val (.int (if (((((0 : Int32) + (1 : Int32)) + (1 : Int32)) - (1 : Int32)) - (1 : Int32)) = (0 : Int32) then (1 : Int32) else 0)), .val (.int (if (((((0 : Int32) + (1 : Int32)) + (1 : Int32)) - (1 : Int32)) - (1 : Int32)) = (0 : Int32) then (1 : Int32) else 0)), .unset] [])) _
    refine XS.aload X12.here hx rfl (hb hby at_182) rfl rfl ?_
    show Steps p.tables e below (T12.setTop (mkF m 184 #[.val (.int p1), .val (.int (1 : Int32)), .val (.int (1 : Int32)), .val (.int (1 : Int32)), .val (.int (1 : Int32)), .val (.ref b2), .val (.ref b4), .val (.ref b6), .val (.int (((((0 : Int32) + (1 : Int32)) + (1 : Int32)) - (1 : Int32)) - (1 : Int32))), .val (.int (if (((((0 : Int32) + (1 : Int32)) + (1 : Int32)) - (1 : Int32)) - (1 : Int32)) = (0 : Int32) then (1 : Int32) else 0)), .val (.int (if (((((0 : Int32) + (1 : Int32)) + (1 : Int32)) - (1 : Int32)) - (1 : Int32)) = (0 : Int32) then (1 : Int32) else 0)), .unset] [(.ref b2)])) _
    refine st13.trans ?_
    show Steps p.tables e below (T13.setTop (mkF m 187 #[.val (.int p1), .val (.int (1 : Int32)), .val (.int (1 : Int32)), .val (.int (1 : Int32)), .val (.int (1 : Int32)), .val (.ref b2), .val (.ref b4), .val (.ref b6), .val (.int (((((0 : Int32) + (1 : Int32)) + (1 : Int32)) - (1 : Int32)) - (1 : Int32))), .val (.int (if (((((0 : Int32) + (1 : Int32)) + (1 : Int32)) - (1 : Int32)) - (1 : Int32)) = (0 : Int32) then (1 : Int32) else 0)), .val (.int (if (((((0 : Int32) + (1 : Int32)) + (1 : Int32)) - (1 : Int32)) - (1 : Int32)) = (0 : Int32) then (1 : Int32) else 0)), .unset] [.null])) _
    refine XS.ifnonnullNo X13.here hx rfl (hb hby at_187) rfl ?_
    show Steps p.tables e below (T13.setTop (mkF m 190 #[.val (.int p1), .val (.int (1 : Int32)), .val (.int (1 : Int32)), .val (.int (1 : Int32)), .val (.int (1 : Int32)), .val (.ref b2), .val (.ref b4), .val (.ref b6), .val (.int (((((0 : Int32) + (1 : Int32)) + (1 : Int32)) - (1 : Int32)) - (1 : Int32))), .val (.int (if (((((0 : Int32) + (1 : Int32)) + (1 : Int32)) - (1 : Int32)) - (1 : Int32)) = (0 : Int32) then (1 : Int32) else 0)), .val (.int (if (((((0 : Int32) + (1 : Int32)) + (1 : Int32)) - (1 : Int32)) - (1 : Int32)) = (0 : Int32) then (1 : Int32) else 0)), .unset] [])) _
    refine XS.iconst X13.here hx rfl (hb hby at_190) ?_
    show Steps p.tables e below (T13.setTop (mkF m 191 #[.val (.int p1), .val (.int (1 : Int32)), .val (.int (1 : Int32)), .val (.int (1 : Int32)), .val (.int (1 : Int32)), .val (.ref b2), .val (.ref b4), .val (.ref b6), .val (.int (((((0 : Int32) + (1 : Int32)) + (1 : Int32)) - (1 : Int32)) - (1 : Int32))), .val (.int (if (((((0 : Int32) + (1 : Int32)) + (1 : Int32)) - (1 : Int32)) - (1 : Int32)) = (0 : Int32) then (1 : Int32) else 0)), .val (.int (if (((((0 : Int32) + (1 : Int32)) + (1 : Int32)) - (1 : Int32)) - (1 : Int32)) = (0 : Int32) then (1 : Int32) else 0)), .unset] [(.int (1 : Int32))])) _
    refine XS.goto X13.here hx rfl (pc0 := 191) (pc' := 195) rfl (hb hby at_191) (by decide) (by decide) ?_
    show Steps p.tables e below (T13.setTop (mkF m 195 #[.val (.int p1), .val (.int (1 : Int32)), .val (.int (1 : Int32)), .val (.int (1 : Int32)), .val (.int (1 : Int32)), .val (.ref b2), .val (.ref b4), .val (.ref b6), .val (.int (((((0 : Int32) + (1 : Int32)) + (1 : Int32)) - (1 : Int32)) - (1 : Int32))), .val (.int (if (((((0 : Int32) + (1 : Int32)) + (1 : Int32)) - (1 : Int32)) - (1 : Int32)) = (0 : Int32) then (1 : Int32) else 0)), .val (.int (if (((((0 : Int32) + (1 : Int32)) + (1 : Int32)) - (1 : Int32)) - (1 : Int32)) = (0 : Int32) then (1 : Int32) else 0)), .unset] [(.int (1 : Int32))])) _
    refine XS.istore X13.here hx rfl (hb hby at_195) rfl (l' := #[.val (.int p1), .val (.int (1 : Int32)), .val (.int (1 : Int32)), .val (.int (1 : Int32)), .val (.int (1 : Int32)), .val (.ref b2), .val (.ref b4), .val (.ref b6), .val (.int (((((0 : Int32) + (1 : Int32)) + (1 : Int32)) - (1 : Int32)) - (1 : Int32))), .val (.int (if (((((0 : Int32) + (1 : Int32)) + (1 : Int32)) - (1 : Int32)) - (1 : Int32)) = (0 : Int32) then (1 : Int32) else 0)), .val (.int (if (((((0 : Int32) + (1 : Int32)) + (1 : Int32)) - (1 : Int32)) - (1 : Int32)) = (0 : Int32) then (1 : Int32) else 0)), .val (.int (1 : Int32))]) rfl ?_
    show Steps p.tables e below (T13.setTop (mkF m 197 #[.val (.int p1), .val (.int (1 : Int32)), .val (.int (1 : Int32)), .val (.int (1 : Int32)), .val (.int (1 : Int32)), .val (.ref b2), .val (.ref b4), .val (.ref b6), .val (.int (((((0 : Int32) + (1 : Int32)) + (1 : Int32)) - (1 : Int32)) - (1 : Int32))), .val (.int (if (((((0 : Int32) + (1 : Int32)) + (1 : Int32)) - (1 : Int32)) - (1 : Int32)) = (0 : Int32) then (1 : Int32) else 0)), .val (.int (if (((((0 : Int32) + (1 : Int32)) + (1 : Int32)) - (1 : Int32)) - (1 : Int32)) = (0 : Int32) then (1 : Int32) else 0)), .val (.int (1 : Int32))] [])) _
    refine XS.iload X13.here hx rfl (hb hby at_197) rfl ?_
    show Steps p.tables e below (T13.setTop (mkF m 199 #[.val (.int p1), .val (.int (1 : Int32)), .val (.int (1 : Int32)), .val (.int (1 : Int32)), .val (.int (1 : Int32)), .val (.ref b2), .val (.ref b4), .val (.ref b6), .val (.int (((((0 : Int32) + (1 : Int32)) + (1 : Int32)) - (1 : Int32)) - (1 : Int32))), .val (.int (if (((((0 : Int32) + (1 : Int32)) + (1 : Int32)) - (1 : Int32)) - (1 : Int32)) = (0 : Int32) then (1 : Int32) else 0)), .val (.int (if (((((0 : Int32) + (1 : Int32)) + (1 : Int32)) - (1 : Int32)) - (1 : Int32)) = (0 : Int32) then (1 : Int32) else 0)), .val (.int (1 : Int32))] [(.int (if (((((0 : Int32) + (1 : Int32)) + (1 : Int32)) - (1 : Int32)) - (1 : Int32)) = (0 : Int32) then (1 : Int32) else 0))])) _
    refine XS.iload X13.here hx rfl (hb hby at_199) rfl ?_
    show Steps p.tables e below (T13.setTop (mkF m 201 #[.val (.int p1), .val (.int (1 : Int32)), .val (.int (1 : Int32)), .val (.int (1 : Int32)), .val (.int (1 : Int32)), .val (.ref b2), .val (.ref b4), .val (.ref b6), .val (.int (((((0 : Int32) + (1 : Int32)) + (1 : Int32)) - (1 : Int32)) - (1 : Int32))), .val (.int (if (((((0 : Int32) + (1 : Int32)) + (1 : Int32)) - (1 : Int32)) - (1 : Int32)) = (0 : Int32) then (1 : Int32) else 0)), .val (.int (if (((((0 : Int32) + (1 : Int32)) + (1 : Int32)) - (1 : Int32)) - (1 : Int32)) = (0 : Int32) then (1 : Int32) else 0)), .val (.int (1 : Int32))] [(.int (if (((((0 : Int32) + (1 : Int32)) + (1 : Int32)) - (1 : Int32)) - (1 : Int32)) = (0 : Int32) then (1 : Int32) else 0)), (.int (if (((((0 : Int32) + (1 : Int32)) + (1 : Int32)) - (1 : Int32)) - (1 : Int32)) = (0 : Int32) then (1 : Int32) else 0))])) _
    refine XS.icmpNo X13.here hx rfl (hb hby at_201) rfl (teq (rfl : (if (((((0 : Int32) + (1 : Int32)) + (1 : Int32)) - (1 : Int32)) - (1 : Int32)) = (0 : Int32) then (1 : Int32) else 0) = (if (((((0 : Int32) + (1 : Int32)) + (1 : Int32)) - (1 : Int32)) - (1 : Int32)) = (0 : Int32) then (1 : Int32) else 0))).2 ?_
    show Steps p.tables e below (T13.setTop (mkF m 204 #[.val (.int p1), .val (.int (1 : Int32)), .val (.int (1 : Int32)), .val (.int (1 : Int32)), .val (.int (1 : Int32)), .val (.ref b2), .val (.ref b4), .val (.ref b6), .val (.int (((((0 : Int32) + (1 : Int32)) + (1 : Int32)) - (1 : Int32)) - (1 : Int32))), .val (.int (if (((((0 : Int32) + (1 : Int32)) + (1 : Int32)) - (1 : Int32)) - (1 : Int32)) = (0 : Int32) then (1 : Int32) else 0)), .val (.int (if (((((0 : Int32) + (1 : Int32)) + (1 : Int32)) - (1 : Int32)) - (1 : Int32)) = (0 : Int32) then (1 : Int32) else 0)), .val (.int (1 : Int32))] [])) _
    refine XS.iload X13.here hx rfl (hb hby at_204) rfl ?_
    show Steps p.tables e below (T13.setTop (mkF m 206 #[.val (.int p1), .val (.int (1 : Int32)), .val (.int (1 : Int32)), .val (.int (1 : Int32)), .val (.int (1 : Int32)), .val (.ref b2), .val (.ref b4), .val (.ref b6), .val (.int (((((0 : Int32) + (1 : Int32)) + (1 : Int32)) - (1 : Int32)) - (1 : Int32))), .val (.int (if (((((0 : Int32) + (1 : Int32)) + (1 : Int32)) - (1 : Int32)) - (1 : Int32)) = (0 : Int32) then (1 : Int32) else 0)), .val (.int (if (((((0 : Int32) + (1 : Int32)) + (1 : Int32)) - (1 : Int32)) - (1 : Int32)) = (0 : Int32) then (1 : Int32) else 0)), .val (.int (1 : Int32))] [(.int (1 : Int32))])) _
    refine XS.iload X13.here hx rfl (hb hby at_206) rfl ?_
    show Steps p.tables e below (T13.setTop (mkF m 208 #[.val (.int p1), .val (.int (1 : Int32)), .val (.int (1 : Int32)), .val (.int (1 : Int32)), .val (.int (1 : Int32)), .val (.ref b2), .val (.ref b4), .val (.ref b6), .val (.int (((((0 : Int32) + (1 : Int32)) + (1 : Int32)) - (1 : Int32)) - (1 : Int32))), .val (.int (if (((((0 : Int32) + (1 : Int32)) + (1 : Int32)) - (1 : Int32)) - (1 : Int32)) = (0 : Int32) then (1 : Int32) else 0)), .val (.int (if (((((0 : Int32) + (1 : Int32)) + (1 : Int32)) - (1 : Int32)) - (1 : Int32)) = (0 : Int32) then (1 : Int32) else 0)), .val (.int (1 : Int32))] [(.int (if (((((0 : Int32) + (1 : Int32)) + (1 : Int32)) - (1 : Int32)) - (1 : Int32)) = (0 : Int32) then (1 : Int32) else 0)), (.int (1 : Int32))])) _
    refine XS.icmpNo X13.here hx rfl (hb hby at_208) rfl (teq hc208).2 ?_
    show Steps p.tables e below (T13.setTop (mkF m 211 #[.val (.int p1), .val (.int (1 : Int32)), .val (.int (1 : Int32)), .val (.int (1 : Int32)), .val (.int (1 : Int32)), .val (.ref b2), .val (.ref b4), .val (.ref b6), .val (.int (((((0 : Int32) + (1 : Int32)) + (1 : Int32)) - (1 : Int32)) - (1 : Int32))), .val (.int (if (((((0 : Int32) + (1 : Int32)) + (1 : Int32)) - (1 : Int32)) - (1 : Int32)) = (0 : Int32) then (1 : Int32) else 0)), .val (.int (if (((((0 : Int32) + (1 : Int32)) + (1 : Int32)) - (1 : Int32)) - (1 : Int32)) = (0 : Int32) then (1 : Int32) else 0)), .val (.int (1 : Int32))] [])) _
    refine XS.iconst X13.here hx rfl (hb hby at_211) ?_
    show Steps p.tables e below (T13.setTop (mkF m 212 #[.val (.int p1), .val (.int (1 : Int32)), .val (.int (1 : Int32)), .val (.int (1 : Int32)), .val (.int (1 : Int32)), .val (.ref b2), .val (.ref b4), .val (.ref b6), .val (.int (((((0 : Int32) + (1 : Int32)) + (1 : Int32)) - (1 : Int32)) - (1 : Int32))), .val (.int (if (((((0 : Int32) + (1 : Int32)) + (1 : Int32)) - (1 : Int32)) - (1 : Int32)) = (0 : Int32) then (1 : Int32) else 0)), .val (.int (if (((((0 : Int32) + (1 : Int32)) + (1 : Int32)) - (1 : Int32)) - (1 : Int32)) = (0 : Int32) then (1 : Int32) else 0)), .val (.int (1 : Int32))] [(.int (1 : Int32))])) _
    refine XS.goto X13.here hx rfl (pc0 := 212) (pc' := 216) rfl (hb hby at_212) (by decide) (by decide) ?_
    show Steps p.tables e below (T13.setTop (mkF m 216 #[.val (.int p1), .val (.int (1 : Int32)), .val (.int (1 : Int32)), .val (.int (1 : Int32)), .val (.int (1 : Int32)), .val (.ref b2), .val (.ref b4), .val (.ref b6), .val (.int (((((0 : Int32) + (1 : Int32)) + (1 : Int32)) - (1 : Int32)) - (1 : Int32))), .val (.int (if (((((0 : Int32) + (1 : Int32)) + (1 : Int32)) - (1 : Int32)) - (1 : Int32)) = (0 : Int32) then (1 : Int32) else 0)), .val (.int (if (((((0 : Int32) + (1 : Int32)) + (1 : Int32)) - (1 : Int32)) - (1 : Int32)) = (0 : Int32) then (1 : Int32) else 0)), .val (.int (1 : Int32))] [(.int (1 : Int32))])) _
    exact retN X13 hx (t := .boolean) Bd.returns (by simp) (hb hby at_216) hr
  · show Q0 Z p1 h0 n0 _ T13.heap _
    rw [e13]
    exact ⟨rfl, N13⟩
set_option maxRecDepth 65536 in
set_option maxHeartbeats 40000000 in
theorem rm0 (l : Launch) (Z : State) (a0 : Array Value) (hw : ∀ d ∈ tables_1, d.before a0 Z = true) (ws : List Jvm.Cond) (p1 : Int32) (h0 : Heap) (n0 : Nat) (Z0 : n0 ≤ h0.size) :
    MetFree l x (head1 (Jvm.Cond.code x code maxLocals ret :: ws) room_1) (fun a U => a = #[(.int p1)] ∧ Z.Warmed39 U.vm ∧ U.heap = h0) (fun _ _ _ _ _ => True) (fun _ U o U' => ∃ v L, o = .returned v ∧ Q0 Z p1 h0 n0 v U'.heap L ∧ FrameEnd U o U' L room_1.cells room_1.slots) := by
  by_cases hA : (p1 &&& (1 : Int32)) = (0 : Int32)
  · by_cases hB : (p1 &&& (2 : Int32)) = (0 : Int32)
    · exact rm0_0 l Z a0 hw ws p1 h0 n0 Z0 hA hB (by decide)
    · by_cases hRb : (p1 &&& (8 : Int32)) = (0 : Int32)
      · exact rm0_1 l Z a0 hw ws p1 h0 n0 Z0 hA hB (by decide) hRb (by decide) (by decide)
      · exact rm0_2 l Z a0 hw ws p1 h0 n0 Z0 hA hB (by decide) hRb (by decide) (by decide) (by decide)
  · by_cases hRa : (p1 &&& (4 : Int32)) = (0 : Int32)
    · by_cases hB : (p1 &&& (2 : Int32)) = (0 : Int32)
      · exact rm0_3 l Z a0 hw ws p1 h0 n0 Z0 hA hB (by decide) hRa (by decide) (by decide)
      · by_cases hRb : (p1 &&& (8 : Int32)) = (0 : Int32)
        · exact rm0_5 l Z a0 hw ws p1 h0 n0 Z0 hA hB (by decide) hRa (by decide) hRb (by decide) (by decide) (by decide)
        · exact rm0_6 l Z a0 hw ws p1 h0 n0 Z0 hA hB (by decide) hRa (by decide) hRb (by decide) (by decide) (by decide) (by decide)
    · by_cases hB : (p1 &&& (2 : Int32)) = (0 : Int32)
      · exact rm0_4 l Z a0 hw ws p1 h0 n0 Z0 hA hB (by decide) hRa (by decide) (by decide) (by decide)
      · by_cases hRb : (p1 &&& (8 : Int32)) = (0 : Int32)
        · exact rm0_7 l Z a0 hw ws p1 h0 n0 Z0 hA hB (by decide) hRa (by decide) hRb (by decide) (by decide) (by decide) (by decide)
        · exact rm0_8 l Z a0 hw ws p1 h0 n0 Z0 hA hB (by decide) hRa (by decide) hRb (by decide) (by decide) (by decide) (by decide) (by decide)
set_option maxRecDepth 65536 in
set_option maxHeartbeats 40000000 in
theorem comes_1 {Post : Tables → Env → Array Value → State → Outcome → State → Prop} (hpost : ∀ tb e args s v u, (limb_1_1.after args s (.returned v) u = true ∧ limb_1_2.after args s (.returned v) u = true ∧ True) → FrameEnd s (.returned v) u (Jvm.fieldLocs frame_1_writes args s ++ Jvm.arrayLocs frame_1_arrays args s ++ Jvm.staticLocs frame_1_statics s) 16 128 → Post tb e args s (.returned v) u) :
    ArmFor flags0 classFile x code maxLocals ret World_1 tables_1 room_1 Calls_1 rest_1 Pre_1 Post := by
  intro l hfl _ _ p e ha hc hk s m args below hf hA hF happ hP
  obtain ⟨hcalls, hrest, hpre⟩ := hP
  obtain ⟨-, -, -, hnamed, -, -, -, hat⟩ := (Spec.applies_iff hf).mp happ
  obtain ⟨hg, hn⟩ := and_e (Cond.before_iff.mp (show (Jvm.Cond.and given_1 narrow_1).before args s = true from hpre))
  obtain ⟨g14, g15⟩ := and_e hg
  obtain ⟨w0, rfl⟩ : ∃ w0 : Value, args = #[w0] := by
    have hs : args.size = 1 := by simpa [Cond.value, given_1] using g14
    obtain ⟨L⟩ := args
    match L, hs with
    | [w0], _ => exact ⟨w0, rfl⟩
  have hw := fun d (hd : d ∈ tables_1) => atoms_spec (ws := Jvm.Cond.code x code maxLocals ret :: tables_1) hat d (List.mem_cons_of_mem _ hd)
  have hfit : Fit s := fun {y c} hc i hi => by
    obtain ⟨ha, rfl⟩ := Array.getElem?_eq_some_iff.mp hc
    have q := List.all_eq_true.mp ((Array.all_eq_true_iff_forall_mem.mp hF) _ (Array.getElem_mem ha)) i (List.mem_range.mpr hi)
    simpa [Array.getElem?_eq_getElem hi] using q
  obtain ⟨i0, ei0⟩ := is_v g15
  obtain rfl : w0 = (.int i0) := Option.some.inj ei0
  obtain ⟨n, o, h1, h2, h3, _, L, rfl, ⟨rfl, N⟩, hq⟩ := rm0 l s _ hw tables_1 i0 s.heap s.heap.size (Nat.le_refl _) p e ha hc hk s m _ below hf ((Spec.applies_iff_loose hf).mp happ).1 ⟨rfl, State.Warmed39.refl s, rfl⟩ trivial
  refine ⟨n, _, h1, h2, h3, hpost _ _ _ _ _ _ ⟨Cond.after_iff.mpr rfl, Cond.after_iff.mpr (eq_i res_at (Term.int_eval (1)) rfl), trivial⟩ ⟨hq.1, hq.2.1, (hq.2.2.sift fun y hy => Or.inr (N y hy)).mono (by decide) (by decide)⟩⟩
theorem main_1_1 : Claimed_1_1 := comes_1 fun _ _ _ _ _ _ h hF => ⟨h.1, hF⟩
theorem main_1_2 : Claimed_1_2 := comes_1 fun _ _ _ _ _ _ h hF => ⟨h.2.1, hF⟩
end Jvm.Pilot.@@N@@
namespace Jvm.Pilot.@@N@@
open Jvm Jvm.ClassFile Sem Op Lib Jvm.Free Jvm.Stand Jvm.Pilot.@@N@@.Jvm.D
/-! MADE BY PROGRAM (witnessworld.py) out of the Statement's table words and the real class files: 10 classes; the members and pool entries that the words name. The judged class is class 1, her method 1. -/
namespace start1
open Jvm.ClassFile
def u (s : String) : CpInfo := .utf8 (stringToUtf16 s)
/-- a pool by its gaps: so many unusable entries, then the entry; so many at the end -/
def gap : Nat → List CpInfo → List CpInfo
  | 0, r => r
  | n + 1, r => .unusable :: gap n r
def poolList (es : List (Nat × CpInfo)) (last : Nat) : List CpInfo := es.foldr (fun e r => gap e.1 (e.2 :: r)) (gap last [])
def pool (es : List (Nat × CpInfo)) (last : Nat) : Array CpInfo := ⟨poolList es last⟩
def fileOf (pool : Array CpInfo) (this : Nat) (attrs : Array Attribute := #[]) (ms : Array MethodInfo := #[]) (fl : Nat := 33) (sup : Nat := 0) (ifs : Array Nat := #[]) (fds : Array FieldInfo := #[]) : ClassFile where
  minorVersion := 0
  majorVersion := 65
  constantPool := pool
  accessFlags := fl
  thisClass := this
  superClass := sup
  interfaces := ifs
  fields := fds
  methods := ms
  attributes := attrs
def plain (name : String) (sup : Option ClassId) : Class where
  name := name
  kind := .ordinary
  loader := none
  accessFlags := 33
  super := sup
  interfaces := #[]
  cf := none
  fields := #[]
  methods := #[]
  instanceTypes := #[]
  staticTypes := #[]
  resolved := #[]
  callSites := []
  init := .initialized
  statics := none
  mirror := none

def pool0 : Array CpInfo := pool [(5, u "<init>"), (0, u "()V"), (1, .class_ 10), (1, u "java/lang/Object")] 113

def k0c0 : Code := { maxStack := 0, maxLocals := 1, code := object_method_1_code, exceptionTable := #[], attributes := #[] }
def k0m0 : Method := { name := "<init>", desc := "()V", sig := { parameters := [], returnType := none }, accessFlags := 1, code := some k0c0 }
/-- java/lang/Object -/
def k0 : Class := { plain "java/lang/Object" none with
  accessFlags := 33
  interfaces := #[]
  cf := some (fileOf pool0 8 #[] #[{ accessFlags := 1, nameIndex := 5, descriptorIndex := 6, attributes := #[] }] 33 0 #[] #[])
  fields := #[]
  methods := #[k0m0]
  instanceTypes := #[]
  staticTypes := #[]
  resolved := Array.replicate 124 none
  statics := none }

def pool1 : Array CpInfo := pool [(2, .class_ 4), (0, .nameAndType 5 6), (0, u "java/lang/Object"), (0, u "<init>"), (0, u "()V"), (0, .class_ 8), (0, u "com/example/idlewell/idlewell/engine/ObjectList"), (0, .methodref 7 3), (0, .class_ 11), (0, u "com/example/idlewell/idlewell/engine/PooledObject"), (0, .methodref 10 13), (0, .nameAndType 5 14), (0, u "(Lcom/example/idlewell/idlewell/engine/BoundedPool;Ljava/lang/Object;Z)V"), (0, .methodref 7 16), (0, .nameAndType 17 18), (0, u "addNewest"), (0, u "(Lcom/example/idlewell/idlewell/engine/PooledObject;)V"), (0, .methodref 7 20), (0, .nameAndType 21 18), (0, u "remove"), (0, .methodref 7 23), (0, .nameAndType 24 25), (0, u "isEmpty"), (0, u "()Z"), (0, .methodref 7 27), (0, .nameAndType 28 29), (0, u "newest"), (0, u "()Lcom/example/idlewell/idlewell/engine/PooledObject;"), (0, .class_ 31), (0, u "com/example/idlewell/idlewell/engine/ObjectListIsEmptyPinLaw"), (2, u "law"), (0, u "(I)Z")] 3

def k1m0 : Method := { name := "<init>", desc := "()V", sig := { parameters := [], returnType := none }, accessFlags := 2, code := none }
def k1c1 : Code := { maxStack := 5, maxLocals := 12, code := code, exceptionTable := #[], attributes := #[] }
def k1m1 : Method := { name := "law", desc := "(I)Z", sig := { parameters := [.int], returnType := some .boolean }, accessFlags := 9, code := some k1c1 }
/-- com/example/idlewell/idlewell/engine/ObjectListIsEmptyPinLaw -/
def k1 : Class := { plain "com/example/idlewell/idlewell/engine/ObjectListIsEmptyPinLaw" (some 0) with
  accessFlags := 49
  interfaces := #[]
  cf := some (fileOf pool1 30 #[] #[{ accessFlags := 2, nameIndex := 5, descriptorIndex := 6, attributes := #[] }, { accessFlags := 9, nameIndex := 34, descriptorIndex := 35, attributes := #[] }] 49 2 #[] #[])
  fields := #[]
  methods := #[k1m0, k1m1]
  instanceTypes := #[]
  staticTypes := #[]
  resolved := Array.replicate 39 none
  statics := none }

def pool2 : Array CpInfo := pool [(1, .methodref 2 3), (0, .class_ 4), (0, .nameAndType 5 6), (0, u "java/lang/Object"), (0, u "<init>"), (0, u "()V"), (0, .fieldref 8 9), (0, .class_ 10), (0, .nameAndType 11 12), (0, u "com/example/idlewell/idlewell/engine/ObjectList"), (0, u "size"), (0, u "I"), (0, .fieldref 8 14), (0, .nameAndType 15 16), (0, u "newest"), (0, u "Lcom/example/idlewell/idlewell/engine/PooledObject;"), (0, .fieldref 8 18), (0, .nameAndType 19 16), (0, u "oldest"), (0, .methodref 8 21), (0, .nameAndType 22 23), (0, u "addNewerThan"), (0, u "(Lcom/example/idlewell/idlewell/engine/PooledObject;Lcom/example/idlewell/idlewell/engine/PooledObject;)V"), (0, .fieldref 25 26), (0, .class_ 27), (0, .nameAndType 28 16), (0, u "com/example/idlewell/idlewell/engine/PooledObject"), (0, u "newer"), (0, .fieldref 25 30), (0, .nameAndType 31 16), (0, u "older"), (5, u "isEmpty"), (0, u "()Z"), (1, u "()Lcom/example/idlewell/idlewell/engine/PooledObject;"), (1, u "addNewest"), (0, u "(Lcom/example/idlewell/idlewell/engine/PooledObject;)V"), (2, u "remove")] 3

def k2c0 : Code := { maxStack := 1, maxLocals := 1, code := prog_16_method_1_code, exceptionTable := #[], attributes := #[] }
def k2m0 : Method := { name := "<init>", desc := "()V", sig := { parameters := [], returnType := none }, accessFlags := 0, code := some k2c0 }
def k2c1 : Code := { maxStack := 1, maxLocals := 1, code := prog_16_method_3_code, exceptionTable := #[], attributes := #[] }
def k2m1 : Method := { name := "isEmpty", desc := "()Z", sig := { parameters := [], returnType := some .boolean }, accessFlags := 0, code := some k2c1 }
def k2c2 : Code := { maxStack := 1, maxLocals := 1, code := prog_16_method_4_code, exceptionTable := #[], attributes := #[] }
def k2m2 : Method := { name := "newest", desc := "()Lcom/example/idlewell/idlewell/engine/PooledObject;", sig := { parameters := [], returnType := some (.object "com/example/idlewell/idlewell/engine/PooledObject") }, accessFlags := 0, code := some k2c2 }
def k2c3 : Code := { maxStack := 3, maxLocals := 2, code := prog_16_method_6_code, exceptionTable := #[], attributes := #[] }
def k2m3 : Method := { name := "addNewest", desc := "(Lcom/example/idlewell/idlewell/engine/PooledObject;)V", sig := { parameters := [(.object "com/example/idlewell/idlewell/engine/PooledObject")], returnType := none }, accessFlags := 0, code := some k2c3 }
def k2c4 : Code := { maxStack := 3, maxLocals := 4, code := prog_16_method_7_code, exceptionTable := #[], attributes := #[] }
def k2m4 : Method := { name := "addNewerThan", desc := "(Lcom/example/idlewell/idlewell/engine/PooledObject;Lcom/example/idlewell/idlewell/engine/PooledObject;)V", sig := { parameters := [(.object "com/example/idlewell/idlewell/engine/PooledObject"), (.object "com/example/idlewell/idlewell/engine/PooledObject")], returnType := none }, accessFlags := 0, code := some k2c4 }
def k2c5 : Code := { maxStack := 3, maxLocals := 2, code := prog_16_method_8_code, exceptionTable := #[], attributes := #[] }
def k2m5 : Method := { name := "remove", desc := "(Lcom/example/idlewell/idlewell/engine/PooledObject;)V", sig := { parameters := [(.object "com/example/idlewell/idlewell/engine/PooledObject")], returnType := none }, accessFlags := 0, code := some k2c5 }
/-- com/example/idlewell/idlewell/engine/ObjectList -/
def k2 : Class := { plain "com/example/idlewell/idlewell/engine/ObjectList" (some 0) with
  accessFlags := 48
  interfaces := #[]
  cf := some (fileOf pool2 8 #[] #[{ accessFlags := 0, nameIndex := 5, descriptorIndex := 6, attributes := #[] }, { accessFlags := 0, nameIndex := 37, descriptorIndex := 38, attributes := #[] }, { accessFlags := 0, nameIndex := 15, descriptorIndex := 40, attributes := #[] }, { accessFlags := 0, nameIndex := 42, descriptorIndex := 43, attributes := #[] }, { accessFlags := 0, nameIndex := 22, descriptorIndex := 23, attributes := #[] }, { accessFlags := 0, nameIndex := 46, descriptorIndex := 43, attributes := #[] }] 48 2 #[] #[{ accessFlags := 2, nameIndex := 15, descriptorIndex := 16, attributes := #[] }, { accessFlags := 2, nameIndex := 19, descriptorIndex := 16, attributes := #[] }, { accessFlags := 2, nameIndex := 11, descriptorIndex := 12, attributes := #[] }])
  fields := #[{ name := "newest", type := (.object "com/example/idlewell/idlewell/engine/PooledObject"), accessFlags := 2, slot := 0, constantValue := 0 }, { name := "oldest", type := (.object "com/example/idlewell/idlewell/engine/PooledObject"), accessFlags := 2, slot := 1, constantValue := 0 }, { name := "size", type := .int, accessFlags := 2, slot := 2, constantValue := 0 }]
  methods := #[k2m0, k2m1, k2m2, k2m3, k2m4, k2m5]
  instanceTypes := #[(.object "com/example/idlewell/idlewell/engine/PooledObject"), (.object "com/example/idlewell/idlewell/engine/PooledObject"), .int]
  staticTypes := #[]
  resolved := Array.replicate 50 none
  statics := none }

def pool3 : Array CpInfo := pool [(1, .methodref 2 3), (0, .class_ 4), (0, .nameAndType 5 6), (0, u "java/lang/Object"), (0, u "<init>"), (0, u "()V"), (0, .fieldref 8 9), (0, .class_ 10), (0, .nameAndType 11 12), (0, u "com/example/idlewell/idlewell/engine/PooledObject"), (0, u "pool"), (0, u "Lcom/example/idlewell/idlewell/engine/BoundedPool;"), (0, .fieldref 8 14), (0, .nameAndType 15 16), (0, u "object"), (0, u "Ljava/lang/Object;"), (5, .fieldref 8 23), (0, .nameAndType 24 25), (0, u "slot"), (0, u "Lcom/example/idlewell/idlewell/engine/ThreadSlot;"), (2, u "idleSinceMillis"), (0, u "J"), (2, u "idleGeneration"), (4, u "lastUsedMillis"), (0, u "lease"), (0, u "Lcom/example/idlewell/idlewell/engine/PooledLease;"), (1, u "borrowedAt"), (0, u "Ljava/lang/Throwable;"), (0, u "newer"), (0, u "Lcom/example/idlewell/idlewell/engine/PooledObject;"), (1, u "older"), (0, u "(Lcom/example/idlewell/idlewell/engine/BoundedPool;Ljava/lang/Object;Z)V")] 14

def k3c0 : Code := { maxStack := 4, maxLocals := 4, code := prog_19_method_1_code, exceptionTable := #[], attributes := #[] }
def k3m0 : Method := { name := "<init>", desc := "(Lcom/example/idlewell/idlewell/engine/BoundedPool;Ljava/lang/Object;Z)V", sig := { parameters := [(.object "com/example/idlewell/idlewell/engine/BoundedPool"), (.object "java/lang/Object"), .boolean], returnType := none }, accessFlags := 0, code := some k3c0 }
/-- com/example/idlewell/idlewell/engine/PooledObject -/
def k3 : Class := { plain "com/example/idlewell/idlewell/engine/PooledObject" (some 0) with
  accessFlags := 48
  interfaces := #[]
  cf := some (fileOf pool3 8 #[] #[{ accessFlags := 0, nameIndex := 5, descriptorIndex := 47, attributes := #[] }] 48 2 #[] #[{ accessFlags := 16, nameIndex := 11, descriptorIndex := 12, attributes := #[] }, { accessFlags := 16, nameIndex := 15, descriptorIndex := 16, attributes := #[] }, { accessFlags := 16, nameIndex := 24, descriptorIndex := 25, attributes := #[] }, { accessFlags := 0, nameIndex := 28, descriptorIndex := 29, attributes := #[] }, { accessFlags := 0, nameIndex := 32, descriptorIndex := 29, attributes := #[] }, { accessFlags := 64, nameIndex := 37, descriptorIndex := 29, attributes := #[] }, { accessFlags := 0, nameIndex := 38, descriptorIndex := 39, attributes := #[] }, { accessFlags := 0, nameIndex := 41, descriptorIndex := 42, attributes := #[] }, { accessFlags := 0, nameIndex := 43, descriptorIndex := 44, attributes := #[] }, { accessFlags := 0, nameIndex := 46, descriptorIndex := 44, attributes := #[] }])
  fields := #[{ name := "pool", type := (.object "com/example/idlewell/idlewell/engine/BoundedPool"), accessFlags := 16, slot := 0, constantValue := 0 }, { name := "object", type := (.object "java/lang/Object"), accessFlags := 16, slot := 1, constantValue := 0 }, { name := "slot", type := (.object "com/example/idlewell/idlewell/engine/ThreadSlot"), accessFlags := 16, slot := 2, constantValue := 0 }, { name := "idleSinceMillis", type := .long, accessFlags := 0, slot := 3, constantValue := 0 }, { name := "idleGeneration", type := .long, accessFlags := 0, slot := 4, constantValue := 0 }, { name := "lastUsedMillis", type := .long, accessFlags := 64, slot := 5, constantValue := 0 }, { name := "lease", type := (.object "com/example/idlewell/idlewell/engine/PooledLease"), accessFlags := 0, slot := 6, constantValue := 0 }, { name := "borrowedAt", type := (.object "java/lang/Throwable"), accessFlags := 0, slot := 7, constantValue := 0 }, { name := "newer", type := (.object "com/example/idlewell/idlewell/engine/PooledObject"), accessFlags := 0, slot := 8, constantValue := 0 }, { name := "older", type := (.object "com/example/idlewell/idlewell/engine/PooledObject"), accessFlags := 0, slot := 9, constantValue := 0 }]
  methods := #[k3m0]
  instanceTypes := #[(.object "com/example/idlewell/idlewell/engine/BoundedPool"), (.object "java/lang/Object"), (.object "com/example/idlewell/idlewell/engine/ThreadSlot"), .long, .long, .long, (.object "com/example/idlewell/idlewell/engine/PooledLease"), (.object "java/lang/Throwable"), (.object "com/example/idlewell/idlewell/engine/PooledObject"), (.object "com/example/idlewell/idlewell/engine/PooledObject")]
  staticTypes := #[]
  resolved := Array.replicate 62 none
  statics := none }

def pool4 : Array CpInfo := pool [(1, u "java/lang/Cloneable"), (0, .class_ 1), (0, u "java/lang/Object"), (0, .class_ 3)] 3

/-- java/lang/Cloneable -/
def k4 : Class := { plain "java/lang/Cloneable" (some 0) with
  accessFlags := 1537
  interfaces := #[]
  cf := some (fileOf pool4 2 #[] #[] 1537 4 #[] #[])
  fields := #[]
  methods := #[]
  instanceTypes := #[]
  staticTypes := #[]
  resolved := Array.replicate 8 none
  statics := none }

def pool5 : Array CpInfo := pool [(1, u "java/io/Serializable"), (0, .class_ 1), (0, u "java/lang/Object"), (0, .class_ 3)] 3

/-- java/io/Serializable -/
def k5 : Class := { plain "java/io/Serializable" (some 0) with
  accessFlags := 1537
  interfaces := #[]
  cf := some (fileOf pool5 2 #[] #[] 1537 4 #[] #[])
  fields := #[]
  methods := #[]
  instanceTypes := #[]
  staticTypes := #[]
  resolved := Array.replicate 8 none
  statics := none }

/-- the primitive byte -/
def k6 : Class := { plain "byte" none with kind := .primitive 'B', accessFlags := 0x411 }
/-- [B -/
def k7 : Class := { plain "[B" (some 0) with kind := .array 6 .byte, interfaces := #[4, 5], accessFlags := 1041 }

/-- the primitive int -/
def k8 : Class := { plain "int" none with kind := .primitive 'I', accessFlags := 0x411 }
/-- [I -/
def k9 : Class := { plain "[I" (some 0) with kind := .array 8 .int, interfaces := #[4, 5], accessFlags := 1041 }

def heap : Heap := #[]
def classes : Array Class := #[k0, k1, k2, k3, k4, k5, k6, k7, k8, k9]
def interned : List (Array UInt16 × Addr) := []
def slotsUsed : Nat := 0
def theMethod : MethodId := ⟨1, 1⟩
def args0 : Array Value := #[.int 5]
def aboutOver (below : List Frame) : State where
  vm := { classes := classes, interned := interned.toArray }
  heap := heap
  slotsUsed := slotsUsed
  threads := #[{ frames := .invoking theMethod args0 :: below }]
def below0 : List Frame := [.native { method := ⟨0, 0⟩, args := #[] }]
def about1 : State := aboutOver below0
def p0 : Program := .bare "" "" ""
def e0 : Env := launch0.env 0 0 0
theorem w_frames : about1.frames = Frame.invoking theMethod args0 :: below0 := rfl
set_option maxRecDepth 65536 in
theorem w_args : argsFit about1.vm theMethod args0 = true := by decide +kernel
set_option maxRecDepth 65536 in
theorem w_heap : heapFits about1 = true := by decide +kernel
set_option maxRecDepth 65536 in
theorem w_runnable : about1.curStatus? = some .runnable := by decide +kernel
set_option maxRecDepth 65536 in
theorem w_alone : about1.alone = true := by decide +kernel
set_option maxRecDepth 65536 in
theorem w_named : about1.methodNamed? x = some theMethod := by decide +kernel
set_option maxRecDepth 65536 in
theorem w_hears : about1.hears theMethod below0 = true := by decide +kernel
set_option maxRecDepth 65536 in
theorem w_ripe : about1.ripe theMethod args0 below0 = true := by decide +kernel
theorem w_running : about1.status = .running := rfl
set_option maxRecDepth 65536 in
theorem w_room : about1.hasRoom e0.platform room_1 = true :=
  launch0.hasRoom_least _ room_1 (by decide +kernel) (by decide +kernel) (by decide +kernel) (by decide +kernel) (by decide +kernel) (by decide +kernel)
theorem allAtoms_all (ts : List Jvm.Cond) (a : Array Jvm.Value) (st : Jvm.State) : (allAtoms ts).before a st = ts.all (fun c => c.before a st) := by
  induction ts with
  | nil => rfl
  | cons c t ih =>
    show (Jvm.Cond.and c (allAtoms t)).before a st = _
    rw [Jvm.Cond.before_and, ih, List.all_cons]
def words1 : List Jvm.Cond := Jvm.Cond.code x code maxLocals ret :: tables_1
/-- a 'code' word, met by the world's own term for the bytes: nothing is compared byte by byte -/
theorem code_word {y : MethodName} {bytes : ByteArray} {mx : Nat} {rt : Option FieldType} {a : Array Value} {s : State} {m : MethodId} {meth : Method} {c : Code} (h1 : s.methodNamed? y = some m) (h2 : s.vm.method? m = some meth) (h3 : meth.code = some c) (h4 : c.code = bytes)
    (h5 : (c.maxLocals == mx && c.exceptionTable.isEmpty && decide (c.maxStack ≤ mostOperands) && decide (meth.sig.returnType = rt) && !meth.locks && decide (parseMethodDescriptor y.desc = some meth.sig)) = true) : (Jvm.Cond.code y bytes mx rt).before a s = true := by
  simp only [Bool.and_eq_true, beq_iff_eq, Bool.not_eq_true', decide_eq_true_eq] at h5
  obtain ⟨⟨⟨⟨⟨g1, g2⟩, g3⟩, g4⟩, g5⟩, g6⟩ := h5
  simp [Cond.before, Cond.holds, Cond.value, h1, h2, h3, h4, g1, g2, g3, g4, g5, g6]
def isCode : Jvm.Cond → Bool
  | .code _ _ _ _ => true
  | _ => false
theorem all_split {L : List Jvm.Cond} {P : Jvm.Cond → Bool} (h1 : L.all (fun c => isCode c || P c) = true) (h2 : ∀ c ∈ L.filter isCode, P c = true) : L.all P = true := by
  refine List.all_eq_true.mpr fun c hc => ?_
  have h := List.all_eq_true.mp h1 c hc
  rcases Bool.eq_false_or_eq_true (isCode c) with hi | hi
  · exact h2 c (List.mem_filter.mpr ⟨hc, hi⟩)
  · simpa [hi] using h
set_option maxRecDepth 65536 in
theorem w_c0 : (Jvm.Cond.code x code maxLocals ret).before args0 about1 = true := code_word (m := ⟨1, 1⟩) (meth := k1m1) (c := k1c1) (by decide +kernel) rfl rfl rfl (by decide +kernel)
set_option maxRecDepth 65536 in
theorem w_c1 : (Jvm.Cond.code ({ cls := "com/example/idlewell/idlewell/engine/ObjectList", name := "<init>", desc := "()V" } : Jvm.MethodName) prog_16_method_1_code (1 : Nat) (Option.none : Option Jvm.ClassFile.FieldType)).before args0 about1 = true := code_word (m := ⟨2, 0⟩) (meth := k2m0) (c := k2c0) (by decide +kernel) rfl rfl rfl (by decide +kernel)
set_option maxRecDepth 65536 in
theorem w_c2 : (Jvm.Cond.code ({ cls := "java/lang/Object", name := "<init>", desc := "()V" } : Jvm.MethodName) object_method_1_code (1 : Nat) (Option.none : Option Jvm.ClassFile.FieldType)).before args0 about1 = true := code_word (m := ⟨0, 0⟩) (meth := k0m0) (c := k0c0) (by decide +kernel) rfl rfl rfl (by decide +kernel)
set_option maxRecDepth 65536 in
theorem w_c3 : (Jvm.Cond.code ({ cls := "com/example/idlewell/idlewell/engine/PooledObject", name := "<init>", desc := "(Lcom/example/idlewell/idlewell/engine/BoundedPool;Ljava/lang/Object;Z)V" } : Jvm.MethodName) prog_19_method_1_code (4 : Nat) (Option.none : Option Jvm.ClassFile.FieldType)).before args0 about1 = true := code_word (m := ⟨3, 0⟩) (meth := k3m0) (c := k3c0) (by decide +kernel) rfl rfl rfl (by decide +kernel)
set_option maxRecDepth 65536 in
theorem w_c4 : (Jvm.Cond.code ({ cls := "com/example/idlewell/idlewell/engine/ObjectList", name := "isEmpty", desc := "()Z" } : Jvm.MethodName) prog_16_method_3_code (1 : Nat) (Option.some Jvm.ClassFile.FieldType.boolean)).before args0 about1 = true := code_word (m := ⟨2, 1⟩) (meth := k2m1) (c := k2c1) (by decide +kernel) rfl rfl rfl (by decide +kernel)
set_option maxRecDepth 65536 in
theorem w_c5 : (Jvm.Cond.code ({ cls := "com/example/idlewell/idlewell/engine/ObjectList", name := "newest", desc := "()Lcom/example/idlewell/idlewell/engine/PooledObject;" } : Jvm.MethodName) prog_16_method_4_code (1 : Nat) (Option.some (Jvm.ClassFile.FieldType.object "com/example/idlewell/idlewell/engine/PooledObject"))).before args0 about1 = true := code_word (m := ⟨2, 2⟩) (meth := k2m2) (c := k2c2) (by decide +kernel) rfl rfl rfl (by decide +kernel)
set_option maxRecDepth 65536 in
theorem w_c6 : (Jvm.Cond.code ({ cls := "com/example/idlewell/idlewell/engine/ObjectList", name := "addNewest", desc := "(Lcom/example/idlewell/idlewell/engine/PooledObject;)V" } : Jvm.MethodName) prog_16_method_6_code (2 : Nat) (Option.none : Option Jvm.ClassFile.FieldType)).before args0 about1 = true := code_word (m := ⟨2, 3⟩) (meth := k2m3) (c := k2c3) (by decide +kernel) rfl rfl rfl (by decide +kernel)
set_option maxRecDepth 65536 in
theorem w_c7 : (Jvm.Cond.code ({ cls := "com/example/idlewell/idlewell/engine/ObjectList", name := "addNewerThan", desc := "(Lcom/example/idlewell/idlewell/engine/PooledObject;Lcom/example/idlewell/idlewell/engine/PooledObject;)V" } : Jvm.MethodName) prog_16_method_7_code (4 : Nat) (Option.none : Option Jvm.ClassFile.FieldType)).before args0 about1 = true := code_word (m := ⟨2, 4⟩) (meth := k2m4) (c := k2c4) (by decide +kernel) rfl rfl rfl (by decide +kernel)
set_option maxRecDepth 65536 in
theorem w_c8 : (Jvm.Cond.code ({ cls := "com/example/idlewell/idlewell/engine/ObjectList", name := "remove", desc := "(Lcom/example/idlewell/idlewell/engine/PooledObject;)V" } : Jvm.MethodName) prog_16_method_8_code (2 : Nat) (Option.none : Option Jvm.ClassFile.FieldType)).before args0 about1 = true := code_word (m := ⟨2, 5⟩) (meth := k2m5) (c := k2c5) (by decide +kernel) rfl rfl rfl (by decide +kernel)
def codes1 : List Jvm.Cond := [Jvm.Cond.code x code maxLocals ret, Jvm.Cond.code ({ cls := "com/example/idlewell/idlewell/engine/ObjectList", name := "<init>", desc := "()V" } : Jvm.MethodName) prog_16_method_1_code (1 : Nat) (Option.none : Option Jvm.ClassFile.FieldType), Jvm.Cond.code ({ cls := "java/lang/Object", name := "<init>", desc := "()V" } : Jvm.MethodName) object_method_1_code (1 : Nat) (Option.none : Option Jvm.ClassFile.FieldType), Jvm.Cond.code ({ cls := "com/example/idlewell/idlewell/engine/PooledObject", name := "<init>", desc := "(Lcom/example/idlewell/idlewell/engine/BoundedPool;Ljava/lang/Object;Z)V" } : Jvm.MethodName) prog_19_method_1_code (4 : Nat) (Option.none : Option Jvm.ClassFile.FieldType), Jvm.Cond.code ({ cls := "com/example/idlewell/idlewell/engine/ObjectList", name := "isEmpty", desc := "()Z" } : Jvm.MethodName) prog_16_method_3_code (1 : Nat) (Option.some Jvm.ClassFile.FieldType.boolean), Jvm.Cond.code ({ cls := "com/example/idlewell/idlewell/engine/ObjectList", name := "newest", desc := "()Lcom/example/idlewell/idlewell/engine/PooledObject;" } : Jvm.MethodName) prog_16_method_4_code (1 : Nat) (Option.some (Jvm.ClassFile.FieldType.object "com/example/idlewell/idlewell/engine/PooledObject")), Jvm.Cond.code ({ cls := "com/example/idlewell/idlewell/engine/ObjectList", name := "addNewest", desc := "(Lcom/example/idlewell/idlewell/engine/PooledObject;)V" } : Jvm.MethodName) prog_16_method_6_code (2 : Nat) (Option.none : Option Jvm.ClassFile.FieldType), Jvm.Cond.code ({ cls := "com/example/idlewell/idlewell/engine/ObjectList", name := "addNewerThan", desc := "(Lcom/example/idlewell/idlewell/engine/PooledObject;Lcom/example/idlewell/idlewell/engine/PooledObject;)V" } : Jvm.MethodName) prog_16_method_7_code (4 : Nat) (Option.none : Option Jvm.ClassFile.FieldType), Jvm.Cond.code ({ cls := "com/example/idlewell/idlewell/engine/ObjectList", name := "remove", desc := "(Lcom/example/idlewell/idlewell/engine/PooledObject;)V" } : Jvm.MethodName) prog_16_method_8_code (2 : Nat) (Option.none : Option Jvm.ClassFile.FieldType)]
set_option maxRecDepth 65536 in
theorem codes_eq : words1.filter isCode = codes1 := rfl
theorem w_codes : ∀ c ∈ words1.filter isCode, c.before args0 about1 = true := by
  rw [codes_eq]
  intro c hc
  simp only [codes1, List.mem_cons, List.not_mem_nil, or_false] at hc
  rcases hc with rfl | rfl | rfl | rfl | rfl | rfl | rfl | rfl | rfl
  · exact w_c0
  · exact w_c1
  · exact w_c2
  · exact w_c3
  · exact w_c4
  · exact w_c5
  · exact w_c6
  · exact w_c7
  · exact w_c8
set_option maxRecDepth 65536 in
theorem w_t1 : (words1.take 24).all (fun c => isCode c || c.before args0 about1) = true := by decide +kernel
set_option maxRecDepth 65536 in
theorem w_t2 : ((words1.drop 24).take 24).all (fun c => isCode c || c.before args0 about1) = true := by decide +kernel
set_option maxRecDepth 65536 in
theorem w_t3 : ((words1.drop 24).drop 24).all (fun c => isCode c || c.before args0 about1) = true := by decide +kernel
theorem w_tables : (allAtoms (Jvm.Cond.code x code maxLocals ret :: tables_1)).before args0 about1 = true := by
  rw [allAtoms_all]
  show words1.all (fun c => c.before args0 about1) = true
  refine all_split ?_ w_codes
  rw [← List.take_append_drop 24 words1, List.all_append, w_t1, ← List.take_append_drop 24 (words1.drop 24), List.all_append, w_t2, w_t3]
  rfl
set_option maxRecDepth 65536 in
theorem w_case : (Jvm.Cond.and given_1 narrow_1).before args0 about1 = true := by decide +kernel
theorem w_applies : (headSpec (Jvm.Cond.code x code maxLocals ret :: tables_1) room_1).applies x e0.platform about1 = true :=
  (Spec.applies_iff w_frames).mpr ⟨w_running, w_runnable, w_alone, w_named, w_hears, w_ripe, w_room, w_tables⟩
theorem atStart : AtStart classFile x code maxLocals ret World_1 tables_1 room_1 Calls_1 rest_1 Pre_1 launch0 p0 e0 about1 theMethod args0 below0 :=
  ⟨lists_1, trivial, launch0.admits_env _ _ _, launch0.least_env, fairChoices_fair.cas, fairChoices_fair.clock, w_frames, w_args, w_heap, w_applies, trivial, trivial, w_case⟩
end start1
theorem witness_1 : WitnessClaimed_1 := ⟨start1.p0, start1.e0, start1.about1, start1.theMethod, start1.args0, start1.below0, start1.atStart⟩
end Jvm.Pilot.@@N@@
