import JvmDerived
import JvmDerived.Pilot.@@N@@Statement
import JvmDerived.Pilot.@@N@@Code
set_option linter.unusedVariables false
set_option linter.unusedSimpArgs false
namespace Jvm.RoadKit
open Sem ClassFile Op Lib Jvm.Stand Jvm.Free Jvm.LawKit
section New
variable {p : Program} {l : Launch} {e : Env} {R : Room} {s : State} {m : MethodId} {args : Array Value} {below : List Frame} {meth : Method} {c : Code} {T : State} {locs : List Loc} {cells slots : Nat}
theorem retI (X : Stand p l e R s m args below meth c T locs cells slots) (hx : p.tables.exec = Jvm.exec) {pc : Nat} {Ls : Array Slot} {z : Int32} {rest : List Value} (hret : meth.sig.returnType = some .int) (hd : decode c.code pc = .ok (.ireturn, 1)) {fs : List Frame}
    (hl : ∀ (f : JFrame) (acts : List Action), f.method = m → f.locked = none → f.entered = [] → (doReturn e (T.setTop f) acts (some (.int z))).1 = T.setFrames fs) : Steps p.tables e below (T.setTop (mkF m pc Ls (.int z :: rest))) (T.setFrames fs) := by
  have hm' : T.vm.method? m = some meth := X.method'
  have hn : narrow .int (.int z) = .int z := rfl
  show Steps p.tables e below (T.setTop { method := m, pc := pc, locals := Ls, stack := _ :: rest, locked := none }) _
  jvm_step X.here [X.here.top, hx, hd, hm', hret, hn]
  first | (intro acts; rw [hl _ acts rfl rfl rfl]) | rw [hl _ _ rfl rfl rfl]
  exact Steps.refl _
theorem retL (X : Stand p l e R s m args below meth c T locs cells slots) (hx : p.tables.exec = Jvm.exec) {pc : Nat} {Ls : Array Slot} {z : Int64} {rest : List Value} (hret : meth.sig.returnType = some .long) (hd : decode c.code pc = .ok (.lreturn, 1)) {fs : List Frame}
    (hl : ∀ (f : JFrame) (acts : List Action), f.method = m → f.locked = none → f.entered = [] → (doReturn e (T.setTop f) acts (some (.long z))).1 = T.setFrames fs) : Steps p.tables e below (T.setTop (mkF m pc Ls (.long z :: rest))) (T.setFrames fs) := by
  have hm' : T.vm.method? m = some meth := X.method'
  have hn : narrow .long (.long z) = .long z := rfl
  show Steps p.tables e below (T.setTop { method := m, pc := pc, locals := Ls, stack := _ :: rest, locked := none }) _
  jvm_step X.here [X.here.top, hx, hd, hm', hret, hn]
  first | (intro acts; rw [hl _ acts rfl rfl rfl]) | rw [hl _ _ rfl rfl rfl]
  exact Steps.refl _
end New
end Jvm.RoadKit
namespace Jvm.Pilot.@@N@@
open Jvm Jvm.ClassFile Sem Op Lib Jvm.Free Jvm.Stand Jvm.LawKit Jvm.RoadKit Bundle Jvm.Pilot.@@N@@.Jvm.D

def own_ent (s : Int32) : Int64 := if (27 : Int32) < s then (9223372036854775807 : Int64) else (s.toInt64 <<< ((s - (1 : Int32)) &&& 0x3f).toInt64)
theorem own_s5 {tb : Tables} [Ours tb] {e : Env} {below : List Frame} {T target : State} {m : MethodId} {c : Code} {v w : Int32} {s0 s2 s3 s4 : Slot} (h : At T m c below) (hx : tb.exec = Jvm.exec) (hby : c.code = code) (hv : w = if v = (0 : Int32) then (1 : Int32) else v)
    (hr : Steps tb e below (T.setTop (mkF m 11 #[s0, .val (.int w), s2, s3, s4] [])) target) : Steps tb e below (T.setTop (mkF m 5 #[s0, .val (.int v), s2, s3, s4] [])) target := by
  by_cases hc : v = (0 : Int32)
  · rw [if_pos hc] at hv
    subst hv
    refine XS.iloadN h hx rfl (hb hby at_5) rfl ?_
    refine XS.ifNo h hx rfl (hb hby at_6) rfl ((if0 _ _).trans (teq hc).2) ?_
    refine XS.iconst h hx rfl (hb hby at_9) ?_
    refine XS.istoreN h hx rfl (hb hby at_10) rfl (l' := #[s0, .val (.int (1 : Int32)), s2, s3, s4]) rfl ?_
    exact hr
  · rw [if_neg hc] at hv
    subst hv
    refine XS.iloadN h hx rfl (hb hby at_5) rfl ?_
    refine XS.ifYes h hx rfl (pc0 := 6) (pc' := 11) rfl (hb hby at_6) rfl ((if0 _ _).trans (feq hc).2) (by decide) (by decide) ?_
    exact hr
theorem own_nn (x : Int32) : ¬ ((x &&& (2147483647 : Int32)) < (0 : Int32)) := by
  rw [Int32.lt_iff_toInt_lt]
  have e1 : (x &&& (2147483647 : Int32)).toInt = ((x.toBitVec &&& 2147483647#32).toInt) := rfl
  have e2 : (x.toBitVec &&& 2147483647#32).toNat < 2 ^ 31 := by
    rw [BitVec.toNat_and]
    exact Nat.lt_of_le_of_lt Nat.and_le_right (by decide)
  rw [e1, BitVec.toInt_eq_toNat_of_lt (by omega)]
  have : (0 : Int32).toInt = 0 := rfl
  omega
theorem own_s1 (x : Int32) (h : ¬ ((27 : Int32) < (if (x &&& (2147483647 : Int32)) = (0 : Int32) then (1 : Int32) else (x &&& (2147483647 : Int32))))) :
    1 ≤ (if (x &&& (2147483647 : Int32)) = (0 : Int32) then (1 : Int32) else (x &&& (2147483647 : Int32))).toInt ∧ (if (x &&& (2147483647 : Int32)) = (0 : Int32) then (1 : Int32) else (x &&& (2147483647 : Int32))).toInt ≤ 27 := by
  have hn := own_nn x
  rw [Int32.lt_iff_toInt_lt] at h hn
  have h27 : (27 : Int32).toInt = 27 := rfl
  have h0 : (0 : Int32).toInt = 0 := rfl
  have h1 : (1 : Int32).toInt = 1 := rfl
  by_cases hc : (x &&& (2147483647 : Int32)) = (0 : Int32)
  · rw [if_pos hc, h1]; omega
  · rw [if_neg hc] at h ⊢
    have : (x &&& (2147483647 : Int32)).toInt ≠ 0 := fun q => hc (Int32.toInt_inj.mp (q.trans h0.symm))
    omega
theorem own_cases (s : Int32) (a : 1 ≤ s.toInt) (b : s.toInt ≤ 27) : ∃ k : Nat, k < 27 ∧ s = Int32.ofNat (k + 1) := by
  refine ⟨s.toInt.toNat - 1, by omega, ?_⟩
  apply Int32.toInt_inj.mp
  rw [Int32.toInt_ofNat_of_lt (by omega)]
  omega
def own_vs : List Value := [.long 1, .long 4, .long 12, .long 32, .long 80, .long 192, .long 448, .long 1024, .long 2304, .long 5120, .long 11264, .long 24576, .long 53248, .long 114688, .long 245760, .long 524288, .long 1114112, .long 2359296, .long 4980736, .long 10485760, .long 22020096, .long 46137344, .long 96468992, .long 201326592, .long 419430400, .long 872415232, .long 1811939328]
theorem own_tab (s : Int32) (a : 1 ≤ s.toInt) (b : s.toInt ≤ 27) : (s - (1 : Int32)).toNatClampNeg < 27 ∧ ¬ (s - (1 : Int32)) < 0 ∧ own_vs.getD (s - (1 : Int32)).toNatClampNeg (.long 0) = .long (own_ent s) := by
  obtain ⟨k, hk, rfl⟩ := own_cases s a b
  have all : ∀ k : Fin 27, ((Int32.ofNat (k.val + 1)) - (1 : Int32)).toNatClampNeg < 27 ∧ ¬ ((Int32.ofNat (k.val + 1)) - (1 : Int32)) < 0 ∧ own_vs.getD ((Int32.ofNat (k.val + 1)) - (1 : Int32)).toNatClampNeg (.long 0) = .long (own_ent (Int32.ofNat (k.val + 1))) := by decide +kernel
  exact all ⟨k, hk⟩
theorem d1_0 : decode prog_21_method_4_code 0 = .ok (.iload_n 0, 1) := by decide +kernel
theorem d1_1 : decode prog_21_method_4_code 1 = .ok (.bipush 27, 2) := by decide +kernel
theorem d1_3 : decode prog_21_method_4_code 3 = .ok (.if_icmp .le 9, 3) := by decide +kernel
theorem d1_6 : decode prog_21_method_4_code 6 = .ok (.ldc2_w 46, 3) := by decide +kernel
theorem d1_9 : decode prog_21_method_4_code 9 = .ok (.goto 9, 3) := by decide +kernel
theorem d1_18 : decode prog_21_method_4_code 18 = .ok (.lreturn, 1) := by decide +kernel
theorem pn_1 : plainName "com/example/slotweave/slotweave/spectrum/CliquePaths" = true := by first | (simp [plainName, overriddenIn]; done) | decide +kernel
theorem ef_1 (m : MethodId) (x0 : Int32) : entryFrame m #[(.int x0)] 1 = mkF m 0 #[.val (.int x0)] [] := by first | (simp [entryFrame, mkF, argsToLocals, Value.category]; done) | rfl
def Q1 (Z : State) (p1 : Int32) (h0 : Heap) (n0 : Nat) (v : Option Value) (h : Heap) (L : List Loc) : Prop := v = some (.long (own_ent p1)) ∧ Fr n0 L ∧ h = h0
set_option maxRecDepth 65536 in
set_option maxHeartbeats 40000000 in
theorem rm1a (l : Launch) (Z : State) (a0 : Array Value) (hw : ∀ d ∈ tables_1, d.before a0 Z = true) (ws : List Jvm.Cond) (p1 : Int32) (h0 : Heap) (n0 : Nat) (Z0 : n0 ≤ h0.size) (hc3 : (27 : Int32) < p1) :
    MetFree l (⟨"com/example/slotweave/slotweave/spectrum/CliquePaths", "entries", "(I)J"⟩ : MethodName) (head1 (Jvm.Cond.code (⟨"com/example/slotweave/slotweave/spectrum/CliquePaths", "entries", "(I)J"⟩ : MethodName) prog_21_method_4_code 1 (some .long) :: ws) ({ frames := 0, cells := 0, slots := 0, locals := 0 } : Room)) (fun a U => a = #[(.int p1)] ∧ Z.Warmed39 U.vm ∧ U.heap = h0) (fun _ _ _ _ _ => True) (fun _ U o U' => ∃ v L, o = .returned v ∧ Q1 Z p1 h0 n0 v U'.heap L ∧ FrameEnd U o U' L ({ frames := 0, cells := 0, slots := 0, locals := 0 } : Room).cells ({ frames := 0, cells := 0, slots := 0, locals := 0 } : Room).slots) := by
  refine MetFree.of_bodySF (plainFor_of_name pn_1) hisR ?_
  intro p e s m args below meth c s₁ Bd hml0 hP hK
  obtain ⟨rfl, hZ, hh⟩ := hP
  have hx := Bd.exec
  have hby := Bd.bytes
  have hml : c.maxLocals = 1 := hml0
  have hown : s.vm.findClass "com/example/slotweave/slotweave/spectrum/CliquePaths" = some m.cls := findClass_of_methodNamed Bd.named
  have hnm := (name_of_methodNamed Bd.named Bd.method).1
  have X0 : Stand p l e ({ frames := 0, cells := 0, slots := 0, locals := 0 } : Room) s m #[(.int p1)] below meth c s₁ [] 0 0 := Stand.of_body Bd
  have e0 : s₁.heap = h0 := by rw [← hh, Bd.state]; rfl
  have N0 := Fr.nil n0
  have pre0 : ∀ t, Steps p.tables e below (s₁.setTop (mkF m 0 #[.val (.int p1)] [])) t → Steps p.tables e below (s₁.setTop (entryFrame m #[(.int p1)] 1)) t := fun t k => castTop (ef_1 m p1) k

  obtain ⟨fs, hr, hrun, hended, hW, hsame⟩ := X0.leave (v := some (.long (9223372036854775807 : Int64))) (fun h => by rw [Bd.returns] at h; cases h)
  refine ⟨_, _, pre0 _ ?_, hrun, hended, _, _, rfl, ?_, ⟨_, rfl⟩, hW, hsame.mono (by decide) (by decide)⟩
  · show Steps p.tables e below (s₁.setTop (mkF m 0 #[.val (.int p1)] [])) _
    refine XS.iloadN X0.here hx rfl (hb hby d1_0) rfl ?_
    show Steps p.tables e below (s₁.setTop (mkF m 1 #[.val (.int p1)] [(.int p1)])) _
    refine XS.bipush X0.here hx rfl (hb hby d1_1) ?_
    show Steps p.tables e below (s₁.setTop (mkF m 3 #[.val (.int p1)] [(.int (27 : Int32)), (.int p1)])) _
    refine XS.icmpNo X0.here hx rfl (hb hby d1_3) rfl (tlt hc3).2.2.2 ?_
    show Steps p.tables e below (s₁.setTop (mkF m 6 #[.val (.int p1)] [])) _
    refine X0.ldc2Long hx hown (mvT hZ (hw _ (List.mem_of_getElem? (i := 32) rfl))) (g := (mkF m 6 #[.val (.int p1)] [])) rfl (hb hby d1_6) _ ?_
    show Steps p.tables e below (s₁.setTop (mkF m 9 #[.val (.int p1)] [(.long (9223372036854775807 : Int64))])) _
    refine XS.goto X0.here hx rfl (pc0 := 9) (pc' := 18) rfl (hb hby d1_9) (by decide) (by decide) ?_
    show Steps p.tables e below (s₁.setTop (mkF m 18 #[.val (.int p1)] [(.long (9223372036854775807 : Int64))])) _
    exact retL X0 hx Bd.returns (hb hby d1_18) hr
  · show Q1 Z p1 h0 n0 _ s₁.heap _
    rw [e0]
    exact ⟨by rw [own_ent, if_pos hc3], N0, rfl⟩
theorem d1_12 : decode prog_21_method_4_code 12 = .ok (.iload_n 0, 1) := by decide +kernel
theorem d1_13 : decode prog_21_method_4_code 13 = .ok (.i2l, 1) := by decide +kernel
theorem d1_14 : decode prog_21_method_4_code 14 = .ok (.iload_n 0, 1) := by decide +kernel
theorem d1_15 : decode prog_21_method_4_code 15 = .ok (.iconst 1, 1) := by decide +kernel
theorem d1_16 : decode prog_21_method_4_code 16 = .ok (.isub, 1) := by decide +kernel
theorem d1_17 : decode prog_21_method_4_code 17 = .ok (.lshl, 1) := by decide +kernel

set_option maxRecDepth 65536 in
set_option maxHeartbeats 40000000 in
theorem rm1b (l : Launch) (Z : State) (a0 : Array Value) (hw : ∀ d ∈ tables_1, d.before a0 Z = true) (ws : List Jvm.Cond) (p1 : Int32) (h0 : Heap) (n0 : Nat) (Z0 : n0 ≤ h0.size) (hc3 : ¬ ((27 : Int32) < p1)) :
    MetFree l (⟨"com/example/slotweave/slotweave/spectrum/CliquePaths", "entries", "(I)J"⟩ : MethodName) (head1 (Jvm.Cond.code (⟨"com/example/slotweave/slotweave/spectrum/CliquePaths", "entries", "(I)J"⟩ : MethodName) prog_21_method_4_code 1 (some .long) :: ws) ({ frames := 0, cells := 0, slots := 0, locals := 0 } : Room)) (fun a U => a = #[(.int p1)] ∧ Z.Warmed39 U.vm ∧ U.heap = h0) (fun _ _ _ _ _ => True) (fun _ U o U' => ∃ v L, o = .returned v ∧ Q1 Z p1 h0 n0 v U'.heap L ∧ FrameEnd U o U' L ({ frames := 0, cells := 0, slots := 0, locals := 0 } : Room).cells ({ frames := 0, cells := 0, slots := 0, locals := 0 } : Room).slots) := by
  refine MetFree.of_bodySF (plainFor_of_name pn_1) hisR ?_
  intro p e s m args below meth c s₁ Bd hml0 hP hK
  obtain ⟨rfl, hZ, hh⟩ := hP
  have hx := Bd.exec
  have hby := Bd.bytes
  have hml : c.maxLocals = 1 := hml0
  have hown : s.vm.findClass "com/example/slotweave/slotweave/spectrum/CliquePaths" = some m.cls := findClass_of_methodNamed Bd.named
  have hnm := (name_of_methodNamed Bd.named Bd.method).1
  have X0 : Stand p l e ({ frames := 0, cells := 0, slots := 0, locals := 0 } : Room) s m #[(.int p1)] below meth c s₁ [] 0 0 := Stand.of_body Bd
  have e0 : s₁.heap = h0 := by rw [← hh, Bd.state]; rfl
  have N0 := Fr.nil n0
  have pre0 : ∀ t, Steps p.tables e below (s₁.setTop (mkF m 0 #[.val (.int p1)] [])) t → Steps p.tables e below (s₁.setTop (entryFrame m #[(.int p1)] 1)) t := fun t k => castTop (ef_1 m p1) k

  obtain ⟨fs, hr, hrun, hended, hW, hsame⟩ := X0.leave (v := some (.long ((p1.toInt64) <<< ((p1 - (1 : Int32)) &&& 0x3f).toInt64))) (fun h => by rw [Bd.returns] at h; cases h)
  refine ⟨_, _, pre0 _ ?_, hrun, hended, _, _, rfl, ?_, ⟨_, rfl⟩, hW, hsame.mono (by decide) (by decide)⟩
  · show Steps p.tables e below (s₁.setTop (mkF m 0 #[.val (.int p1)] [])) _
    refine XS.iloadN X0.here hx rfl (hb hby d1_0) rfl ?_
    show Steps p.tables e below (s₁.setTop (mkF m 1 #[.val (.int p1)] [(.int p1)])) _
    refine XS.bipush X0.here hx rfl (hb hby d1_1) ?_
    show Steps p.tables e below (s₁.setTop (mkF m 3 #[.val (.int p1)] [(.int (27 : Int32)), (.int p1)])) _
    refine XS.icmpYes X0.here hx rfl (pc0 := 3) (pc' := 12) rfl (hb hby d1_3) rfl (flt hc3).2.2.2 (by decide) (by decide) ?_
    show Steps p.tables e below (s₁.setTop (mkF m 12 #[.val (.int p1)] [])) _
    refine XS.iloadN X0.here hx rfl (hb hby d1_12) rfl ?_
    show Steps p.tables e below (s₁.setTop (mkF m 13 #[.val (.int p1)] [(.int p1)])) _
    refine XS.i2l X0.here hx rfl (hb hby d1_13) rfl ?_
    show Steps p.tables e below (s₁.setTop (mkF m 14 #[.val (.int p1)] [(.long (p1.toInt64))])) _
    refine XS.iloadN X0.here hx rfl (hb hby d1_14) rfl ?_
    show Steps p.tables e below (s₁.setTop (mkF m 15 #[.val (.int p1)] [(.int p1), (.long (p1.toInt64))])) _
    refine XS.iconst X0.here hx rfl (hb hby d1_15) ?_
    show Steps p.tables e below (s₁.setTop (mkF m 16 #[.val (.int p1)] [(.int (1 : Int32)), (.int p1), (.long (p1.toInt64))])) _
    refine XS.isub X0.here hx rfl (hb hby d1_16) rfl ?_
    show Steps p.tables e below (s₁.setTop (mkF m 17 #[.val (.int p1)] [(.int (p1 - (1 : Int32))), (.long (p1.toInt64))])) _
    refine XS.lshl X0.here hx rfl (hb hby d1_17) rfl ?_
    show Steps p.tables e below (s₁.setTop (mkF m 18 #[.val (.int p1)] [(.long ((p1.toInt64) <<< ((p1 - (1 : Int32)) &&& 0x3f).toInt64))])) _
    exact retL X0 hx Bd.returns (hb hby d1_18) hr
  · show Q1 Z p1 h0 n0 _ s₁.heap _
    rw [e0]
    exact ⟨by rw [own_ent, if_neg hc3], N0, rfl⟩
theorem rm1 (l : Launch) (Z : State) (a0 : Array Value) (hw : ∀ d ∈ tables_1, d.before a0 Z = true) (ws : List Jvm.Cond) (p1 : Int32) (h0 : Heap) (n0 : Nat) (Z0 : n0 ≤ h0.size) :
    MetFree l (⟨"com/example/slotweave/slotweave/spectrum/CliquePaths", "entries", "(I)J"⟩ : MethodName) (head1 (Jvm.Cond.code (⟨"com/example/slotweave/slotweave/spectrum/CliquePaths", "entries", "(I)J"⟩ : MethodName) prog_21_method_4_code 1 (some .long) :: ws) ({ frames := 0, cells := 0, slots := 0, locals := 0 } : Room)) (fun a U => a = #[(.int p1)] ∧ Z.Warmed39 U.vm ∧ U.heap = h0) (fun _ _ _ _ _ => True) (fun _ U o U' => ∃ v L, o = .returned v ∧ Q1 Z p1 h0 n0 v U'.heap L ∧ FrameEnd U o U' L ({ frames := 0, cells := 0, slots := 0, locals := 0 } : Room).cells ({ frames := 0, cells := 0, slots := 0, locals := 0 } : Room).slots) := by
  by_cases hc3 : (27 : Int32) < p1
  · exact rm1a l Z a0 hw ws p1 h0 n0 Z0 hc3
  · exact rm1b l Z a0 hw ws p1 h0 n0 Z0 hc3
theorem pn_0 : plainName "com/example/slotweave/slotweave/spectrum/CliquePathsEntriesPinLaw" = true := by first | (simp [plainName, overriddenIn]; done) | decide +kernel
theorem pd_0_0 : parseMethodDescriptor "(I)J" = some ⟨[.int], some .long⟩ := by decide +kernel
theorem ef_0 (m : MethodId) (x0 : Int32) : entryFrame m #[(.int x0)] maxLocals = mkF m 0 #[.val (.int x0), .unset, .unset, .unset, .unset] [] := by first | (simp [entryFrame, mkF, argsToLocals, Value.category, maxLocals]; done) | rfl
def Q0 (Z : State) (p1 : Int32) (h0 : Heap) (n0 : Nat) (v : Option Value) (h : Heap) (L : List Loc) : Prop := v = some (.int (1 : Int32)) ∧ Fr n0 L
set_option maxRecDepth 65536 in
set_option maxHeartbeats 40000000 in
theorem rm0a (l : Launch) (Z : State) (a0 : Array Value) (hw : ∀ d ∈ tables_1, d.before a0 Z = true) (ws : List Jvm.Cond) (p1 : Int32) (sv : Int32) (h0 : Heap) (n0 : Nat) (Z0 : n0 ≤ h0.size) (h_sv : sv = (if (p1 &&& (2147483647 : Int32)) = (0 : Int32) then (1 : Int32) else (p1 &&& (2147483647 : Int32)))) (hc19 : (27 : Int32) < sv) (hc27 : (lcmpW (own_ent sv) (9223372036854775807 : Int64)) = (0 : Int32)) :
    MetFree l x (head1 (Jvm.Cond.code x code maxLocals ret :: ws) room_1) (fun a U => a = #[(.int p1)] ∧ Z.Warmed39 U.vm ∧ U.heap = h0) (fun _ _ _ _ _ => True) (fun _ U o U' => ∃ v L, o = .returned v ∧ Q0 Z p1 h0 n0 v U'.heap L ∧ FrameEnd U o U' L room_1.cells room_1.slots) := by
  refine MetFree.of_bodySF (plainFor_of_name pn_0) hisR ?_
  intro p e s m args below meth c s₁ Bd hml0 hP hK
  obtain ⟨rfl, hZ, hh⟩ := hP
  have hx := Bd.exec
  have hby := Bd.bytes
  have hml : c.maxLocals = 5 := hml0
  have hown : s.vm.findClass "com/example/slotweave/slotweave/spectrum/CliquePathsEntriesPinLaw" = some m.cls := findClass_of_methodNamed Bd.named
  have hnm := (name_of_methodNamed Bd.named Bd.method).1
  have X0 : Stand p l e room_1 s m #[(.int p1)] below meth c s₁ [] 0 0 := Stand.of_body Bd
  have e0 : s₁.heap = h0 := by rw [← hh, Bd.state]; rfl
  have N0 := Fr.nil n0
  have pre0 : ∀ t, Steps p.tables e below (s₁.setTop (mkF m 0 #[.val (.int p1), .unset, .unset, .unset, .unset] [])) t → Steps p.tables e below (s₁.setTop (entryFrame m #[(.int p1)] maxLocals)) t := fun t k => castTop (ef_0 m p1) k
  obtain ⟨_, _, ⟨T2, L2, k2, n2⟩, -, X2, ⟨Lc2, hQ2, l2, y2, z2⟩, st2⟩ := Jvm.LawKit.callS X0 hx (y := (⟨"com/example/slotweave/slotweave/spectrum/CliquePaths", "entries", "(I)J"⟩ : MethodName)) hown (mvT hZ (hw _ (List.mem_of_getElem? (i := 1) rfl))) (mvT hZ (hw _ (List.mem_of_getElem? (i := 2) rfl))) (mvT hZ (hw _ (List.mem_of_getElem? (i := 3) rfl))) (mvT hZ (hw _ (List.mem_of_getElem? (i := 4) rfl))) (by decide) (backOf (W := 0) (rm1 l Z a0 hw [] sv  h0 n0 Z0) hZ (hw _ (List.mem_of_getElem? (i := 4) rfl)) (hw _ (List.mem_of_getElem? (i := 3) rfl)) (by decide) (by decide)) (g := (mkF m 12 #[.val (.int p1), .val (.int sv), .unset, .unset, .unset] [(.int sv)])) rfl (by rw [hml]; rfl) (argsL := [(.int sv)]) (rest := []) (lenOf pd_0_0 rfl) rfl (by show 2 * 0 + _ ≤ _; exact Nat.le_of_eq rfl) (hb hby at_12) (fun _ _ => ⟨rfl, e0, (by decide : 0 + 0 ≤ _), (by decide : 0 + 0 ≤ _)⟩)
  dsimp only [Pt.U, Pt.locs, Pt.cells, Pt.slots] at X2 l2 y2 z2 st2 hQ2
  subst l2 y2 z2
  obtain ⟨rfl, N2q, e2⟩ := hQ2
  have N2 := Fr.app N0 N2q
  obtain ⟨fs, hr, hrun, hended, hW, hsame⟩ := X2.leave (v := some (.int (1 : Int32))) (fun h => by rw [Bd.returns] at h; cases h)
  refine ⟨_, _, pre0 _ ?_, hrun, hended, _, _, rfl, ?_, ⟨_, rfl⟩, hW, hsame.mono (by decide) (by decide)⟩
  · show Steps p.tables e below (s₁.setTop (mkF m 0 #[.val (.int p1), .unset, .unset, .unset, .unset] [])) _
    refine XS.iloadN X0.here hx rfl (hb hby at_0) rfl ?_
    show Steps p.tables e below (s₁.setTop (mkF m 1 #[.val (.int p1), .unset, .unset, .unset, .unset] [(.int p1)])) _
    refine X0.ldcInt hx hown (mvT hZ (hw _ (List.mem_of_getElem? (i := 0) rfl))) (g := (mkF m 1 #[.val (.int p1), .unset, .unset, .unset, .unset] [(.int p1)])) rfl (hb hby at_1) _ ?_
    show Steps p.tables e below (s₁.setTop (mkF m 3 #[.val (.int p1), .unset, .unset, .unset, .unset] [(.int (2147483647 : Int32)), (.int p1)])) _
    refine XS.iand X0.here hx rfl (hb hby at_3) rfl ?_
    show Steps p.tables e below (s₁.setTop (mkF m 4 #[.val (.int p1), .unset, .unset, .unset, .unset] [(.int (p1 &&& (2147483647 : Int32)))])) _
    refine XS.istoreN X0.here hx rfl (hb hby at_4) rfl (l' := #[.val (.int p1), .val (.int (p1 &&& (2147483647 : Int32))), .unset, .unset, .unset]) rfl ?_
    show Steps p.tables e below (s₁.setTop (mkF m 5 #[.val (.int p1), .val (.int (p1 &&& (2147483647 : Int32))), .unset, .unset, .unset] [])) _
    refine own_s5 X0.here hx hby h_sv ?_
    show Steps p.tables e below (s₁.setTop (mkF m 11 #[.val (.int p1), .val (.int sv), .unset, .unset, .unset] [])) _
    refine XS.iloadN X0.here hx rfl (hb hby at_11) rfl ?_
    show Steps p.tables e below (s₁.setTop (mkF m 12 #[.val (.int p1), .val (.int sv), .unset, .unset, .unset] [(.int sv)])) _
    refine st2 _ ?_
    show Steps p.tables e below (T2.setTop (mkF m 15 #[.val (.int p1), .val (.int sv), .unset, .unset, .unset] [(.long (own_ent sv))])) _
    refine XS.lstoreN X2.here hx rfl (hb hby at_15) rfl (l' := #[.val (.int p1), .val (.int sv), .val (.long (own_ent sv)), .second, .unset]) rfl ?_
    show Steps p.tables e below (T2.setTop (mkF m 16 #[.val (.int p1), .val (.int sv), .val (.long (own_ent sv)), .second, .unset] [])) _
    refine XS.iloadN X2.here hx rfl (hb hby at_16) rfl ?_
    show Steps p.tables e below (T2.setTop (mkF m 17 #[.val (.int p1), .val (.int sv), .val (.long (own_ent sv)), .second, .unset] [(.int sv)])) _
    refine XS.bipush X2.here hx rfl (hb hby at_17) ?_
    show Steps p.tables e below (T2.setTop (mkF m 19 #[.val (.int p1), .val (.int sv), .val (.long (own_ent sv)), .second, .unset] [(.int (27 : Int32)), (.int sv)])) _
    refine XS.icmpNo X2.here hx rfl (hb hby at_19) rfl (tlt hc19).2.2.2 ?_
    show Steps p.tables e below (T2.setTop (mkF m 22 #[.val (.int p1), .val (.int sv), .val (.long (own_ent sv)), .second, .unset] [])) _
    refine XS.lloadN X2.here hx rfl (hb hby at_22) rfl ?_
    show Steps p.tables e below (T2.setTop (mkF m 23 #[.val (.int p1), .val (.int sv), .val (.long (own_ent sv)), .second, .unset] [(.long (own_ent sv))])) _
    refine X2.ldc2Long hx hown (mvT hZ (hw _ (List.mem_of_getElem? (i := 33) rfl))) (g := (mkF m 23 #[.val (.int p1), .val (.int sv), .val (.long (own_ent sv)), .second, .unset] [(.long (own_ent sv))])) rfl (hb hby at_23) _ ?_
    show Steps p.tables e below (T2.setTop (mkF m 26 #[.val (.int p1), .val (.int sv), .val (.long (own_ent sv)), .second, .unset] [(.long (9223372036854775807 : Int64)), (.long (own_ent sv))])) _
    refine XS.lcmp X2.here hx rfl (hb hby at_26) rfl ?_
    show Steps p.tables e below (T2.setTop (mkF m 27 #[.val (.int p1), .val (.int sv), .val (.long (own_ent sv)), .second, .unset] [(.int (lcmpW (own_ent sv) (9223372036854775807 : Int64)))])) _
    refine XS.ifNo X2.here hx rfl (hb hby at_27) rfl ((if0 _ _).trans (teq hc27).2) ?_
    show Steps p.tables e below (T2.setTop (mkF m 30 #[.val (.int p1), .val (.int sv), .val (.long (own_ent sv)), .second, .unset] [])) _
    refine XS.iconst X2.here hx rfl (hb hby at_30) ?_
    show Steps p.tables e below (T2.setTop (mkF m 31 #[.val (.int p1), .val (.int sv), .val (.long (own_ent sv)), .second, .unset] [(.int (1 : Int32))])) _
    refine XS.goto X2.here hx rfl (pc0 := 31) (pc' := 35) rfl (hb hby at_31) (by decide) (by decide) ?_
    show Steps p.tables e below (T2.setTop (mkF m 35 #[.val (.int p1), .val (.int sv), .val (.long (own_ent sv)), .second, .unset] [(.int (1 : Int32))])) _
    exact retN X2 hx (t := .boolean) Bd.returns (by simp) (hb hby at_35) hr
  · show Q0 Z p1 h0 n0 _ T2.heap _
    rw [e2]
    exact ⟨rfl, N2⟩

set_option maxRecDepth 65536 in
set_option maxHeartbeats 40000000 in
theorem rm0b (l : Launch) (Z : State) (a0 : Array Value) (hw : ∀ d ∈ tables_1, d.before a0 Z = true) (ws : List Jvm.Cond) (p1 : Int32) (sv : Int32) (h0 : Heap) (n0 : Nat) (Z0 : n0 ≤ h0.size) (h_sv : sv = (if (p1 &&& (2147483647 : Int32)) = (0 : Int32) then (1 : Int32) else (p1 &&& (2147483647 : Int32)))) (a1 : 1 ≤ sv.toInt) (a2 : sv.toInt ≤ 27) (hc19 : ¬ ((27 : Int32) < sv)) (hc231 : (lcmpW (own_ent sv) (own_ent sv)) = (0 : Int32)) :
    MetFree l x (head1 (Jvm.Cond.code x code maxLocals ret :: ws) room_1) (fun a U => a = #[(.int p1)] ∧ Z.Warmed39 U.vm ∧ U.heap = h0) (fun _ _ _ _ _ => True) (fun _ U o U' => ∃ v L, o = .returned v ∧ Q0 Z p1 h0 n0 v U'.heap L ∧ FrameEnd U o U' L room_1.cells room_1.slots) := by
  refine MetFree.of_bodySF (plainFor_of_name pn_0) hisR ?_
  intro p e s m args below meth c s₁ Bd hml0 hP hK
  obtain ⟨rfl, hZ, hh⟩ := hP
  have hx := Bd.exec
  have hby := Bd.bytes
  have hml : c.maxLocals = 5 := hml0
  have hown : s.vm.findClass "com/example/slotweave/slotweave/spectrum/CliquePathsEntriesPinLaw" = some m.cls := findClass_of_methodNamed Bd.named
  have hnm := (name_of_methodNamed Bd.named Bd.method).1
  have X0 : Stand p l e room_1 s m #[(.int p1)] below meth c s₁ [] 0 0 := Stand.of_body Bd
  have e0 : s₁.heap = h0 := by rw [← hh, Bd.state]; rfl
  have N0 := Fr.nil n0
  have pre0 : ∀ t, Steps p.tables e below (s₁.setTop (mkF m 0 #[.val (.int p1), .unset, .unset, .unset, .unset] [])) t → Steps p.tables e below (s₁.setTop (entryFrame m #[(.int p1)] maxLocals)) t := fun t k => castTop (ef_0 m p1) k
  obtain ⟨_, _, ⟨T2, L2, k2, n2⟩, -, X2, ⟨Lc2, hQ2, l2, y2, z2⟩, st2⟩ := Jvm.LawKit.callS X0 hx (y := (⟨"com/example/slotweave/slotweave/spectrum/CliquePaths", "entries", "(I)J"⟩ : MethodName)) hown (mvT hZ (hw _ (List.mem_of_getElem? (i := 1) rfl))) (mvT hZ (hw _ (List.mem_of_getElem? (i := 2) rfl))) (mvT hZ (hw _ (List.mem_of_getElem? (i := 3) rfl))) (mvT hZ (hw _ (List.mem_of_getElem? (i := 4) rfl))) (by decide) (backOf (W := 0) (rm1 l Z a0 hw [] sv  h0 n0 Z0) hZ (hw _ (List.mem_of_getElem? (i := 4) rfl)) (hw _ (List.mem_of_getElem? (i := 3) rfl)) (by decide) (by decide)) (g := (mkF m 12 #[.val (.int p1), .val (.int sv), .unset, .unset, .unset] [(.int sv)])) rfl (by rw [hml]; rfl) (argsL := [(.int sv)]) (rest := []) (lenOf pd_0_0 rfl) rfl (by show 2 * 0 + _ ≤ _; exact Nat.le_of_eq rfl) (hb hby at_12) (fun _ _ => ⟨rfl, e0, (by decide : 0 + 0 ≤ _), (by decide : 0 + 0 ≤ _)⟩)
  dsimp only [Pt.U, Pt.locs, Pt.cells, Pt.slots] at X2 l2 y2 z2 st2 hQ2
  subst l2 y2 z2
  obtain ⟨rfl, N2q, e2⟩ := hQ2
  have N2 := Fr.app N0 N2q
  obtain ⟨T3, h3, k3, X3, e3, E3, A3, st3⟩ := newP X2 hx hZ (hw _ (List.mem_of_getElem? (i := 5) rfl)) e2 (g := (mkF m 38 #[.val (.int p1), .val (.int sv), .val (.long (own_ent sv)), .second, .unset] [(.int (27 : Int32))])) rfl (hb hby at_38) rfl (by decide) (cap := 27) (by decide) (by decide) (by decide) (by decide)
  obtain ⟨b3, g3⟩ : ∃ z, z = h0.size := ⟨_, rfl⟩
  rw [← g3] at A3 st3
  have V_b3 : Arv Z h3 b3 k3 .long (27 : Int32) [(.long (0 : Int64)), (.long (0 : Int64)), (.long (0 : Int64)), (.long (0 : Int64)), (.long (0 : Int64)), (.long (0 : Int64)), (.long (0 : Int64)), (.long (0 : Int64)), (.long (0 : Int64)), (.long (0 : Int64)), (.long (0 : Int64)), (.long (0 : Int64)), (.long (0 : Int64)), (.long (0 : Int64)), (.long (0 : Int64)), (.long (0 : Int64)), (.long (0 : Int64)), (.long (0 : Int64)), (.long (0 : Int64)), (.long (0 : Int64)), (.long (0 : Int64)), (.long (0 : Int64)), (.long (0 : Int64)), (.long (0 : Int64)), (.long (0 : Int64)), (.long (0 : Int64)), (.long (0 : Int64))] (.long (0 : Int64)) := (Arv.new A3 (by decide)).pad (pad_rep [] (.long (0 : Int64)) 27)
  have g_b3 : n0 ≤ b3 := Nat.le_trans Z0 (Nat.le_of_eq g3.symm)
  have sz_b3 : h0.size ≤ b3 := (Nat.le_trans (Keep.refl h0 []).1 (Nat.le_of_eq g3.symm))
  have K3 : Keep h0 h3 [] := (Keep.refl h0 []).ext E3
  obtain ⟨cl_b3_43, Ar_b3, q_b3, S_b3, N_b3, H_b3, G_b3⟩ := V_b3
  have hin43 : ¬ ((0 : Int32) < 0 ∨ cl_b3_43.slots.size ≤ ((0 : Int32)).toNatClampNeg) := inb_of S_b3 ⟨by decide, by decide⟩
  obtain ⟨T4, h4, X4, e4, W4, st4⟩ := stJ X3 hx hZ e3 Ar_b3 (j := (0 : Int32)) hin43 (g := (mkF m 43 #[.val (.int p1), .val (.int sv), .val (.long (own_ent sv)), .second, .unset] [(.long (1 : Int64)), (.int (0 : Int32)), (.ref b3), (.ref b3)])) rfl rfl (hb hby at_43)
  have V_b3_4 := Arv.set Ar_b3 q_b3 S_b3 N_b3 H_b3 G_b3 rfl W4 0 rfl (Nat.le_of_ble_eq_true rfl)
  have K4 : Keep h0 h4 [] := K3.wr W4 (Or.inr sz_b3)
  have N4 := Fr.snoc X4 N2 g_b3
  obtain ⟨cl_b3_49, Ar_b3, q_b3, S_b3, N_b3, H_b3, G_b3⟩ := V_b3_4
  have hin49 : ¬ ((1 : Int32) < 0 ∨ cl_b3_49.slots.size ≤ ((1 : Int32)).toNatClampNeg) := inb_of S_b3 ⟨by decide, by decide⟩
  obtain ⟨T5, h5, X5, e5, W5, st5⟩ := stJ X4 hx hZ e4 Ar_b3 (j := (1 : Int32)) hin49 (g := (mkF m 49 #[.val (.int p1), .val (.int sv), .val (.long (own_ent sv)), .second, .unset] [(.long (4 : Int64)), (.int (1 : Int32)), (.ref b3), (.ref b3)])) rfl rfl (hb hby at_49)
  have V_b3_5 := Arv.set Ar_b3 q_b3 S_b3 N_b3 H_b3 G_b3 rfl W5 1 rfl (Nat.le_of_ble_eq_true rfl)
  have K5 : Keep h0 h5 [] := K4.wr W5 (Or.inr sz_b3)
  have N5 := Fr.snoc X5 N4 g_b3
  obtain ⟨cl_b3_55, Ar_b3, q_b3, S_b3, N_b3, H_b3, G_b3⟩ := V_b3_5
  have hin55 : ¬ ((2 : Int32) < 0 ∨ cl_b3_55.slots.size ≤ ((2 : Int32)).toNatClampNeg) := inb_of S_b3 ⟨by decide, by decide⟩
  obtain ⟨T6, h6, X6, e6, W6, st6⟩ := stJ X5 hx hZ e5 Ar_b3 (j := (2 : Int32)) hin55 (g := (mkF m 55 #[.val (.int p1), .val (.int sv), .val (.long (own_ent sv)), .second, .unset] [(.long (12 : Int64)), (.int (2 : Int32)), (.ref b3), (.ref b3)])) rfl rfl (hb hby at_55)
  have V_b3_6 := Arv.set Ar_b3 q_b3 S_b3 N_b3 H_b3 G_b3 rfl W6 2 rfl (Nat.le_of_ble_eq_true rfl)
  have K6 : Keep h0 h6 [] := K5.wr W6 (Or.inr sz_b3)
  have N6 := Fr.snoc X6 N5 g_b3
  obtain ⟨cl_b3_61, Ar_b3, q_b3, S_b3, N_b3, H_b3, G_b3⟩ := V_b3_6
  have hin61 : ¬ ((3 : Int32) < 0 ∨ cl_b3_61.slots.size ≤ ((3 : Int32)).toNatClampNeg) := inb_of S_b3 ⟨by decide, by decide⟩
  obtain ⟨T7, h7, X7, e7, W7, st7⟩ := stJ X6 hx hZ e6 Ar_b3 (j := (3 : Int32)) hin61 (g := (mkF m 61 #[.val (.int p1), .val (.int sv), .val (.long (own_ent sv)), .second, .unset] [(.long (32 : Int64)), (.int (3 : Int32)), (.ref b3), (.ref b3)])) rfl rfl (hb hby at_61)
  have V_b3_7 := Arv.set Ar_b3 q_b3 S_b3 N_b3 H_b3 G_b3 rfl W7 3 rfl (Nat.le_of_ble_eq_true rfl)
  have K7 : Keep h0 h7 [] := K6.wr W7 (Or.inr sz_b3)
  have N7 := Fr.snoc X7 N6 g_b3
  obtain ⟨cl_b3_67, Ar_b3, q_b3, S_b3, N_b3, H_b3, G_b3⟩ := V_b3_7
  have hin67 : ¬ ((4 : Int32) < 0 ∨ cl_b3_67.slots.size ≤ ((4 : Int32)).toNatClampNeg) := inb_of S_b3 ⟨by decide, by decide⟩
  obtain ⟨T8, h8, X8, e8, W8, st8⟩ := stJ X7 hx hZ e7 Ar_b3 (j := (4 : Int32)) hin67 (g := (mkF m 67 #[.val (.int p1), .val (.int sv), .val (.long (own_ent sv)), .second, .unset] [(.long (80 : Int64)), (.int (4 : Int32)), (.ref b3), (.ref b3)])) rfl rfl (hb hby at_67)
  have V_b3_8 := Arv.set Ar_b3 q_b3 S_b3 N_b3 H_b3 G_b3 rfl W8 4 rfl (Nat.le_of_ble_eq_true rfl)
  have K8 : Keep h0 h8 [] := K7.wr W8 (Or.inr sz_b3)
  have N8 := Fr.snoc X8 N7 g_b3
  obtain ⟨cl_b3_73, Ar_b3, q_b3, S_b3, N_b3, H_b3, G_b3⟩ := V_b3_8
  have hin73 : ¬ ((5 : Int32) < 0 ∨ cl_b3_73.slots.size ≤ ((5 : Int32)).toNatClampNeg) := inb_of S_b3 ⟨by decide, by decide⟩
  obtain ⟨T9, h9, X9, e9, W9, st9⟩ := stJ X8 hx hZ e8 Ar_b3 (j := (5 : Int32)) hin73 (g := (mkF m 73 #[.val (.int p1), .val (.int sv), .val (.long (own_ent sv)), .second, .unset] [(.long (192 : Int64)), (.int (5 : Int32)), (.ref b3), (.ref b3)])) rfl rfl (hb hby at_73)
  have V_b3_9 := Arv.set Ar_b3 q_b3 S_b3 N_b3 H_b3 G_b3 rfl W9 5 rfl (Nat.le_of_ble_eq_true rfl)
  have K9 : Keep h0 h9 [] := K8.wr W9 (Or.inr sz_b3)
  have N9 := Fr.snoc X9 N8 g_b3
  obtain ⟨cl_b3_80, Ar_b3, q_b3, S_b3, N_b3, H_b3, G_b3⟩ := V_b3_9
  have hin80 : ¬ ((6 : Int32) < 0 ∨ cl_b3_80.slots.size ≤ ((6 : Int32)).toNatClampNeg) := inb_of S_b3 ⟨by decide, by decide⟩
  obtain ⟨T10, h10, X10, e10, W10, st10⟩ := stJ X9 hx hZ e9 Ar_b3 (j := (6 : Int32)) hin80 (g := (mkF m 80 #[.val (.int p1), .val (.int sv), .val (.long (own_ent sv)), .second, .unset] [(.long (448 : Int64)), (.int (6 : Int32)), (.ref b3), (.ref b3)])) rfl rfl (hb hby at_80)
  have V_b3_10 := Arv.set Ar_b3 q_b3 S_b3 N_b3 H_b3 G_b3 rfl W10 6 rfl (Nat.le_of_ble_eq_true rfl)
  have K10 : Keep h0 h10 [] := K9.wr W10 (Or.inr sz_b3)
  have N10 := Fr.snoc X10 N9 g_b3
  obtain ⟨cl_b3_87, Ar_b3, q_b3, S_b3, N_b3, H_b3, G_b3⟩ := V_b3_10
  have hin87 : ¬ ((7 : Int32) < 0 ∨ cl_b3_87.slots.size ≤ ((7 : Int32)).toNatClampNeg) := inb_of S_b3 ⟨by decide, by decide⟩
  obtain ⟨T11, h11, X11, e11, W11, st11⟩ := stJ X10 hx hZ e10 Ar_b3 (j := (7 : Int32)) hin87 (g := (mkF m 87 #[.val (.int p1), .val (.int sv), .val (.long (own_ent sv)), .second, .unset] [(.long (1024 : Int64)), (.int (7 : Int32)), (.ref b3), (.ref b3)])) rfl rfl (hb hby at_87)
  have V_b3_11 := Arv.set Ar_b3 q_b3 S_b3 N_b3 H_b3 G_b3 rfl W11 7 rfl (Nat.le_of_ble_eq_true rfl)
  have K11 : Keep h0 h11 [] := K10.wr W11 (Or.inr sz_b3)
  have N11 := Fr.snoc X11 N10 g_b3
  obtain ⟨cl_b3_94, Ar_b3, q_b3, S_b3, N_b3, H_b3, G_b3⟩ := V_b3_11
  have hin94 : ¬ ((8 : Int32) < 0 ∨ cl_b3_94.slots.size ≤ ((8 : Int32)).toNatClampNeg) := inb_of S_b3 ⟨by decide, by decide⟩
  obtain ⟨T12, h12, X12, e12, W12, st12⟩ := stJ X11 hx hZ e11 Ar_b3 (j := (8 : Int32)) hin94 (g := (mkF m 94 #[.val (.int p1), .val (.int sv), .val (.long (own_ent sv)), .second, .unset] [(.long (2304 : Int64)), (.int (8 : Int32)), (.ref b3), (.ref b3)])) rfl rfl (hb hby at_94)
  have V_b3_12 := Arv.set Ar_b3 q_b3 S_b3 N_b3 H_b3 G_b3 rfl W12 8 rfl (Nat.le_of_ble_eq_true rfl)
  have K12 : Keep h0 h12 [] := K11.wr W12 (Or.inr sz_b3)
  have N12 := Fr.snoc X12 N11 g_b3
  obtain ⟨cl_b3_101, Ar_b3, q_b3, S_b3, N_b3, H_b3, G_b3⟩ := V_b3_12
  have hin101 : ¬ ((9 : Int32) < 0 ∨ cl_b3_101.slots.size ≤ ((9 : Int32)).toNatClampNeg) := inb_of S_b3 ⟨by decide, by decide⟩
  obtain ⟨T13, h13, X13, e13, W13, st13⟩ := stJ X12 hx hZ e12 Ar_b3 (j := (9 : Int32)) hin101 (g := (mkF m 101 #[.val (.int p1), .val (.int sv), .val (.long (own_ent sv)), .second, .unset] [(.long (5120 : Int64)), (.int (9 : Int32)), (.ref b3), (.ref b3)])) rfl rfl (hb hby at_101)
  have V_b3_13 := Arv.set Ar_b3 q_b3 S_b3 N_b3 H_b3 G_b3 rfl W13 9 rfl (Nat.le_of_ble_eq_true rfl)
  have K13 : Keep h0 h13 [] := K12.wr W13 (Or.inr sz_b3)
  have N13 := Fr.snoc X13 N12 g_b3
  obtain ⟨cl_b3_108, Ar_b3, q_b3, S_b3, N_b3, H_b3, G_b3⟩ := V_b3_13
  have hin108 : ¬ ((10 : Int32) < 0 ∨ cl_b3_108.slots.size ≤ ((10 : Int32)).toNatClampNeg) := inb_of S_b3 ⟨by decide, by decide⟩
  obtain ⟨T14, h14, X14, e14, W14, st14⟩ := stJ X13 hx hZ e13 Ar_b3 (j := (10 : Int32)) hin108 (g := (mkF m 108 #[.val (.int p1), .val (.int sv), .val (.long (own_ent sv)), .second, .unset] [(.long (11264 : Int64)), (.int (10 : Int32)), (.ref b3), (.ref b3)])) rfl rfl (hb hby at_108)
  have V_b3_14 := Arv.set Ar_b3 q_b3 S_b3 N_b3 H_b3 G_b3 rfl W14 10 rfl (Nat.le_of_ble_eq_true rfl)
  have K14 : Keep h0 h14 [] := K13.wr W14 (Or.inr sz_b3)
  have N14 := Fr.snoc X14 N13 g_b3
  obtain ⟨cl_b3_115, Ar_b3, q_b3, S_b3, N_b3, H_b3, G_b3⟩ := V_b3_14
  have hin115 : ¬ ((11 : Int32) < 0 ∨ cl_b3_115.slots.size ≤ ((11 : Int32)).toNatClampNeg) := inb_of S_b3 ⟨by decide, by decide⟩
  obtain ⟨T15, h15, X15, e15, W15, st15⟩ := stJ X14 hx hZ e14 Ar_b3 (j := (11 : Int32)) hin115 (g := (mkF m 115 #[.val (.int p1), .val (.int sv), .val (.long (own_ent sv)), .second, .unset] [(.long (24576 : Int64)), (.int (11 : Int32)), (.ref b3), (.ref b3)])) rfl rfl (hb hby at_115)
  have V_b3_15 := Arv.set Ar_b3 q_b3 S_b3 N_b3 H_b3 G_b3 rfl W15 11 rfl (Nat.le_of_ble_eq_true rfl)
  have K15 : Keep h0 h15 [] := K14.wr W15 (Or.inr sz_b3)
  have N15 := Fr.snoc X15 N14 g_b3
  obtain ⟨cl_b3_122, Ar_b3, q_b3, S_b3, N_b3, H_b3, G_b3⟩ := V_b3_15
  have hin122 : ¬ ((12 : Int32) < 0 ∨ cl_b3_122.slots.size ≤ ((12 : Int32)).toNatClampNeg) := inb_of S_b3 ⟨by decide, by decide⟩
  obtain ⟨T16, h16, X16, e16, W16, st16⟩ := stJ X15 hx hZ e15 Ar_b3 (j := (12 : Int32)) hin122 (g := (mkF m 122 #[.val (.int p1), .val (.int sv), .val (.long (own_ent sv)), .second, .unset] [(.long (53248 : Int64)), (.int (12 : Int32)), (.ref b3), (.ref b3)])) rfl rfl (hb hby at_122)
  have V_b3_16 := Arv.set Ar_b3 q_b3 S_b3 N_b3 H_b3 G_b3 rfl W16 12 rfl (Nat.le_of_ble_eq_true rfl)
  have K16 : Keep h0 h16 [] := K15.wr W16 (Or.inr sz_b3)
  have N16 := Fr.snoc X16 N15 g_b3
  obtain ⟨cl_b3_129, Ar_b3, q_b3, S_b3, N_b3, H_b3, G_b3⟩ := V_b3_16
  have hin129 : ¬ ((13 : Int32) < 0 ∨ cl_b3_129.slots.size ≤ ((13 : Int32)).toNatClampNeg) := inb_of S_b3 ⟨by decide, by decide⟩
  obtain ⟨T17, h17, X17, e17, W17, st17⟩ := stJ X16 hx hZ e16 Ar_b3 (j := (13 : Int32)) hin129 (g := (mkF m 129 #[.val (.int p1), .val (.int sv), .val (.long (own_ent sv)), .second, .unset] [(.long (114688 : Int64)), (.int (13 : Int32)), (.ref b3), (.ref b3)])) rfl rfl (hb hby at_129)
  have V_b3_17 := Arv.set Ar_b3 q_b3 S_b3 N_b3 H_b3 G_b3 rfl W17 13 rfl (Nat.le_of_ble_eq_true rfl)
  have K17 : Keep h0 h17 [] := K16.wr W17 (Or.inr sz_b3)
  have N17 := Fr.snoc X17 N16 g_b3
  obtain ⟨cl_b3_136, Ar_b3, q_b3, S_b3, N_b3, H_b3, G_b3⟩ := V_b3_17
  have hin136 : ¬ ((14 : Int32) < 0 ∨ cl_b3_136.slots.size ≤ ((14 : Int32)).toNatClampNeg) := inb_of S_b3 ⟨by decide, by decide⟩
  obtain ⟨T18, h18, X18, e18, W18, st18⟩ := stJ X17 hx hZ e17 Ar_b3 (j := (14 : Int32)) hin136 (g := (mkF m 136 #[.val (.int p1), .val (.int sv), .val (.long (own_ent sv)), .second, .unset] [(.long (245760 : Int64)), (.int (14 : Int32)), (.ref b3), (.ref b3)])) rfl rfl (hb hby at_136)
  have V_b3_18 := Arv.set Ar_b3 q_b3 S_b3 N_b3 H_b3 G_b3 rfl W18 14 rfl (Nat.le_of_ble_eq_true rfl)
  have K18 : Keep h0 h18 [] := K17.wr W18 (Or.inr sz_b3)
  have N18 := Fr.snoc X18 N17 g_b3
  obtain ⟨cl_b3_143, Ar_b3, q_b3, S_b3, N_b3, H_b3, G_b3⟩ := V_b3_18
  have hin143 : ¬ ((15 : Int32) < 0 ∨ cl_b3_143.slots.size ≤ ((15 : Int32)).toNatClampNeg) := inb_of S_b3 ⟨by decide, by decide⟩
  obtain ⟨T19, h19, X19, e19, W19, st19⟩ := stJ X18 hx hZ e18 Ar_b3 (j := (15 : Int32)) hin143 (g := (mkF m 143 #[.val (.int p1), .val (.int sv), .val (.long (own_ent sv)), .second, .unset] [(.long (524288 : Int64)), (.int (15 : Int32)), (.ref b3), (.ref b3)])) rfl rfl (hb hby at_143)
  have V_b3_19 := Arv.set Ar_b3 q_b3 S_b3 N_b3 H_b3 G_b3 rfl W19 15 rfl (Nat.le_of_ble_eq_true rfl)
  have K19 : Keep h0 h19 [] := K18.wr W19 (Or.inr sz_b3)
  have N19 := Fr.snoc X19 N18 g_b3
  obtain ⟨cl_b3_150, Ar_b3, q_b3, S_b3, N_b3, H_b3, G_b3⟩ := V_b3_19
  have hin150 : ¬ ((16 : Int32) < 0 ∨ cl_b3_150.slots.size ≤ ((16 : Int32)).toNatClampNeg) := inb_of S_b3 ⟨by decide, by decide⟩
  obtain ⟨T20, h20, X20, e20, W20, st20⟩ := stJ X19 hx hZ e19 Ar_b3 (j := (16 : Int32)) hin150 (g := (mkF m 150 #[.val (.int p1), .val (.int sv), .val (.long (own_ent sv)), .second, .unset] [(.long (1114112 : Int64)), (.int (16 : Int32)), (.ref b3), (.ref b3)])) rfl rfl (hb hby at_150)
  have V_b3_20 := Arv.set Ar_b3 q_b3 S_b3 N_b3 H_b3 G_b3 rfl W20 16 rfl (Nat.le_of_ble_eq_true rfl)
  have K20 : Keep h0 h20 [] := K19.wr W20 (Or.inr sz_b3)
  have N20 := Fr.snoc X20 N19 g_b3
  obtain ⟨cl_b3_157, Ar_b3, q_b3, S_b3, N_b3, H_b3, G_b3⟩ := V_b3_20
  have hin157 : ¬ ((17 : Int32) < 0 ∨ cl_b3_157.slots.size ≤ ((17 : Int32)).toNatClampNeg) := inb_of S_b3 ⟨by decide, by decide⟩
  obtain ⟨T21, h21, X21, e21, W21, st21⟩ := stJ X20 hx hZ e20 Ar_b3 (j := (17 : Int32)) hin157 (g := (mkF m 157 #[.val (.int p1), .val (.int sv), .val (.long (own_ent sv)), .second, .unset] [(.long (2359296 : Int64)), (.int (17 : Int32)), (.ref b3), (.ref b3)])) rfl rfl (hb hby at_157)
  have V_b3_21 := Arv.set Ar_b3 q_b3 S_b3 N_b3 H_b3 G_b3 rfl W21 17 rfl (Nat.le_of_ble_eq_true rfl)
  have K21 : Keep h0 h21 [] := K20.wr W21 (Or.inr sz_b3)
  have N21 := Fr.snoc X21 N20 g_b3
  obtain ⟨cl_b3_164, Ar_b3, q_b3, S_b3, N_b3, H_b3, G_b3⟩ := V_b3_21
  have hin164 : ¬ ((18 : Int32) < 0 ∨ cl_b3_164.slots.size ≤ ((18 : Int32)).toNatClampNeg) := inb_of S_b3 ⟨by decide, by decide⟩
  obtain ⟨T22, h22, X22, e22, W22, st22⟩ := stJ X21 hx hZ e21 Ar_b3 (j := (18 : Int32)) hin164 (g := (mkF m 164 #[.val (.int p1), .val (.int sv), .val (.long (own_ent sv)), .second, .unset] [(.long (4980736 : Int64)), (.int (18 : Int32)), (.ref b3), (.ref b3)])) rfl rfl (hb hby at_164)
  have V_b3_22 := Arv.set Ar_b3 q_b3 S_b3 N_b3 H_b3 G_b3 rfl W22 18 rfl (Nat.le_of_ble_eq_true rfl)
  have K22 : Keep h0 h22 [] := K21.wr W22 (Or.inr sz_b3)
  have N22 := Fr.snoc X22 N21 g_b3
  obtain ⟨cl_b3_171, Ar_b3, q_b3, S_b3, N_b3, H_b3, G_b3⟩ := V_b3_22
  have hin171 : ¬ ((19 : Int32) < 0 ∨ cl_b3_171.slots.size ≤ ((19 : Int32)).toNatClampNeg) := inb_of S_b3 ⟨by decide, by decide⟩
  obtain ⟨T23, h23, X23, e23, W23, st23⟩ := stJ X22 hx hZ e22 Ar_b3 (j := (19 : Int32)) hin171 (g := (mkF m 171 #[.val (.int p1), .val (.int sv), .val (.long (own_ent sv)), .second, .unset] [(.long (10485760 : Int64)), (.int (19 : Int32)), (.ref b3), (.ref b3)])) rfl rfl (hb hby at_171)
  have V_b3_23 := Arv.set Ar_b3 q_b3 S_b3 N_b3 H_b3 G_b3 rfl W23 19 rfl (Nat.le_of_ble_eq_true rfl)
  have K23 : Keep h0 h23 [] := K22.wr W23 (Or.inr sz_b3)
  have N23 := Fr.snoc X23 N22 g_b3
  obtain ⟨cl_b3_178, Ar_b3, q_b3, S_b3, N_b3, H_b3, G_b3⟩ := V_b3_23
  have hin178 : ¬ ((20 : Int32) < 0 ∨ cl_b3_178.slots.size ≤ ((20 : Int32)).toNatClampNeg) := inb_of S_b3 ⟨by decide, by decide⟩
  obtain ⟨T24, h24, X24, e24, W24, st24⟩ := stJ X23 hx hZ e23 Ar_b3 (j := (20 : Int32)) hin178 (g := (mkF m 178 #[.val (.int p1), .val (.int sv), .val (.long (own_ent sv)), .second, .unset] [(.long (22020096 : Int64)), (.int (20 : Int32)), (.ref b3), (.ref b3)])) rfl rfl (hb hby at_178)
  have V_b3_24 := Arv.set Ar_b3 q_b3 S_b3 N_b3 H_b3 G_b3 rfl W24 20 rfl (Nat.le_of_ble_eq_true rfl)
  have K24 : Keep h0 h24 [] := K23.wr W24 (Or.inr sz_b3)
  have N24 := Fr.snoc X24 N23 g_b3
  obtain ⟨cl_b3_185, Ar_b3, q_b3, S_b3, N_b3, H_b3, G_b3⟩ := V_b3_24
  have hin185 : ¬ ((21 : Int32) < 0 ∨ cl_b3_185.slots.size ≤ ((21 : Int32)).toNatClampNeg) := inb_of S_b3 ⟨by decide, by decide⟩
  obtain ⟨T25, h25, X25, e25, W25, st25⟩ := stJ X24 hx hZ e24 Ar_b3 (j := (21 : Int32)) hin185 (g := (mkF m 185 #[.val (.int p1), .val (.int sv), .val (.long (own_ent sv)), .second, .unset] [(.long (46137344 : Int64)), (.int (21 : Int32)), (.ref b3), (.ref b3)])) rfl rfl (hb hby at_185)
  have V_b3_25 := Arv.set Ar_b3 q_b3 S_b3 N_b3 H_b3 G_b3 rfl W25 21 rfl (Nat.le_of_ble_eq_true rfl)
  have K25 : Keep h0 h25 [] := K24.wr W25 (Or.inr sz_b3)
  have N25 := Fr.snoc X25 N24 g_b3
  obtain ⟨cl_b3_192, Ar_b3, q_b3, S_b3, N_b3, H_b3, G_b3⟩ := V_b3_25
  have hin192 : ¬ ((22 : Int32) < 0 ∨ cl_b3_192.slots.size ≤ ((22 : Int32)).toNatClampNeg) := inb_of S_b3 ⟨by decide, by decide⟩
  obtain ⟨T26, h26, X26, e26, W26, st26⟩ := stJ X25 hx hZ e25 Ar_b3 (j := (22 : Int32)) hin192 (g := (mkF m 192 #[.val (.int p1), .val (.int sv), .val (.long (own_ent sv)), .second, .unset] [(.long (96468992 : Int64)), (.int (22 : Int32)), (.ref b3), (.ref b3)])) rfl rfl (hb hby at_192)
  have V_b3_26 := Arv.set Ar_b3 q_b3 S_b3 N_b3 H_b3 G_b3 rfl W26 22 rfl (Nat.le_of_ble_eq_true rfl)
  have K26 : Keep h0 h26 [] := K25.wr W26 (Or.inr sz_b3)
  have N26 := Fr.snoc X26 N25 g_b3
  obtain ⟨cl_b3_199, Ar_b3, q_b3, S_b3, N_b3, H_b3, G_b3⟩ := V_b3_26
  have hin199 : ¬ ((23 : Int32) < 0 ∨ cl_b3_199.slots.size ≤ ((23 : Int32)).toNatClampNeg) := inb_of S_b3 ⟨by decide, by decide⟩
  obtain ⟨T27, h27, X27, e27, W27, st27⟩ := stJ X26 hx hZ e26 Ar_b3 (j := (23 : Int32)) hin199 (g := (mkF m 199 #[.val (.int p1), .val (.int sv), .val (.long (own_ent sv)), .second, .unset] [(.long (201326592 : Int64)), (.int (23 : Int32)), (.ref b3), (.ref b3)])) rfl rfl (hb hby at_199)
  have V_b3_27 := Arv.set Ar_b3 q_b3 S_b3 N_b3 H_b3 G_b3 rfl W27 23 rfl (Nat.le_of_ble_eq_true rfl)
  have K27 : Keep h0 h27 [] := K26.wr W27 (Or.inr sz_b3)
  have N27 := Fr.snoc X27 N26 g_b3
  obtain ⟨cl_b3_206, Ar_b3, q_b3, S_b3, N_b3, H_b3, G_b3⟩ := V_b3_27
  have hin206 : ¬ ((24 : Int32) < 0 ∨ cl_b3_206.slots.size ≤ ((24 : Int32)).toNatClampNeg) := inb_of S_b3 ⟨by decide, by decide⟩
  obtain ⟨T28, h28, X28, e28, W28, st28⟩ := stJ X27 hx hZ e27 Ar_b3 (j := (24 : Int32)) hin206 (g := (mkF m 206 #[.val (.int p1), .val (.int sv), .val (.long (own_ent sv)), .second, .unset] [(.long (419430400 : Int64)), (.int (24 : Int32)), (.ref b3), (.ref b3)])) rfl rfl (hb hby at_206)
  have V_b3_28 := Arv.set Ar_b3 q_b3 S_b3 N_b3 H_b3 G_b3 rfl W28 24 rfl (Nat.le_of_ble_eq_true rfl)
  have K28 : Keep h0 h28 [] := K27.wr W28 (Or.inr sz_b3)
  have N28 := Fr.snoc X28 N27 g_b3
  obtain ⟨cl_b3_213, Ar_b3, q_b3, S_b3, N_b3, H_b3, G_b3⟩ := V_b3_28
  have hin213 : ¬ ((25 : Int32) < 0 ∨ cl_b3_213.slots.size ≤ ((25 : Int32)).toNatClampNeg) := inb_of S_b3 ⟨by decide, by decide⟩
  obtain ⟨T29, h29, X29, e29, W29, st29⟩ := stJ X28 hx hZ e28 Ar_b3 (j := (25 : Int32)) hin213 (g := (mkF m 213 #[.val (.int p1), .val (.int sv), .val (.long (own_ent sv)), .second, .unset] [(.long (872415232 : Int64)), (.int (25 : Int32)), (.ref b3), (.ref b3)])) rfl rfl (hb hby at_213)
  have V_b3_29 := Arv.set Ar_b3 q_b3 S_b3 N_b3 H_b3 G_b3 rfl W29 25 rfl (Nat.le_of_ble_eq_true rfl)
  have K29 : Keep h0 h29 [] := K28.wr W29 (Or.inr sz_b3)
  have N29 := Fr.snoc X29 N28 g_b3
  obtain ⟨cl_b3_220, Ar_b3, q_b3, S_b3, N_b3, H_b3, G_b3⟩ := V_b3_29
  have hin220 : ¬ ((26 : Int32) < 0 ∨ cl_b3_220.slots.size ≤ ((26 : Int32)).toNatClampNeg) := inb_of S_b3 ⟨by decide, by decide⟩
  obtain ⟨T30, h30, X30, e30, W30, st30⟩ := stJ X29 hx hZ e29 Ar_b3 (j := (26 : Int32)) hin220 (g := (mkF m 220 #[.val (.int p1), .val (.int sv), .val (.long (own_ent sv)), .second, .unset] [(.long (1811939328 : Int64)), (.int (26 : Int32)), (.ref b3), (.ref b3)])) rfl rfl (hb hby at_220)
  have V_b3_30 := Arv.set Ar_b3 q_b3 S_b3 N_b3 H_b3 G_b3 rfl W30 26 rfl (Nat.le_of_ble_eq_true rfl)
  have K30 : Keep h0 h30 [] := K29.wr W30 (Or.inr sz_b3)
  have N30 := Fr.snoc X30 N29 g_b3
  obtain ⟨cl_b3_229, Ar_b3, q_b3, S_b3, N_b3, H_b3, G_b3⟩ := V_b3_30
  have hT := own_tab sv a1 a2
  have hin229 : ¬ ((sv - (1 : Int32)) < 0 ∨ cl_b3_229.slots.size ≤ (sv - (1 : Int32)).toNatClampNeg) := by
    rintro (q | q)
    · exact hT.2.1 q
    · have : cl_b3_229.slots.size = 27 := S_b3
      have := hT.1
      omega
  have hat229 : cl_b3_229.slots[(sv - (1 : Int32)).toNatClampNeg]? = some (.long (own_ent sv)) := by
    rw [H_b3 _ (by have := hT.1; have : cl_b3_229.slots.size = 27 := S_b3; omega)]
    exact congrArg some hT.2.2
  obtain ⟨fs, hr, hrun, hended, hW, hsame⟩ := X30.leave (v := some (.int (1 : Int32))) (fun h => by rw [Bd.returns] at h; cases h)
  refine ⟨_, _, pre0 _ ?_, hrun, hended, _, _, rfl, ?_, ⟨_, rfl⟩, hW, hsame.mono (by decide) (by decide)⟩
  · show Steps p.tables e below (s₁.setTop (mkF m 0 #[.val (.int p1), .unset, .unset, .unset, .unset] [])) _
    refine XS.iloadN X0.here hx rfl (hb hby at_0) rfl ?_
    show Steps p.tables e below (s₁.setTop (mkF m 1 #[.val (.int p1), .unset, .unset, .unset, .unset] [(.int p1)])) _
    refine X0.ldcInt hx hown (mvT hZ (hw _ (List.mem_of_getElem? (i := 0) rfl))) (g := (mkF m 1 #[.val (.int p1), .unset, .unset, .unset, .unset] [(.int p1)])) rfl (hb hby at_1) _ ?_
    show Steps p.tables e below (s₁.setTop (mkF m 3 #[.val (.int p1), .unset, .unset, .unset, .unset] [(.int (2147483647 : Int32)), (.int p1)])) _
    refine XS.iand X0.here hx rfl (hb hby at_3) rfl ?_
    show Steps p.tables e below (s₁.setTop (mkF m 4 #[.val (.int p1), .unset, .unset, .unset, .unset] [(.int (p1 &&& (2147483647 : Int32)))])) _
    refine XS.istoreN X0.here hx rfl (hb hby at_4) rfl (l' := #[.val (.int p1), .val (.int (p1 &&& (2147483647 : Int32))), .unset, .unset, .unset]) rfl ?_
    show Steps p.tables e below (s₁.setTop (mkF m 5 #[.val (.int p1), .val (.int (p1 &&& (2147483647 : Int32))), .unset, .unset, .unset] [])) _
    refine own_s5 X0.here hx hby h_sv ?_
    show Steps p.tables e below (s₁.setTop (mkF m 11 #[.val (.int p1), .val (.int sv), .unset, .unset, .unset] [])) _
    refine XS.iloadN X0.here hx rfl (hb hby at_11) rfl ?_
    show Steps p.tables e below (s₁.setTop (mkF m 12 #[.val (.int p1), .val (.int sv), .unset, .unset, .unset] [(.int sv)])) _
    refine st2 _ ?_
    show Steps p.tables e below (T2.setTop (mkF m 15 #[.val (.int p1), .val (.int sv), .unset, .unset, .unset] [(.long (own_ent sv))])) _
    refine XS.lstoreN X2.here hx rfl (hb hby at_15) rfl (l' := #[.val (.int p1), .val (.int sv), .val (.long (own_ent sv)), .second, .unset]) rfl ?_
    show Steps p.tables e below (T2.setTop (mkF m 16 #[.val (.int p1), .val (.int sv), .val (.long (own_ent sv)), .second, .unset] [])) _
    refine XS.iloadN X2.here hx rfl (hb hby at_16) rfl ?_
    show Steps p.tables e below (T2.setTop (mkF m 17 #[.val (.int p1), .val (.int sv), .val (.long (own_ent sv)), .second, .unset] [(.int sv)])) _
    refine XS.bipush X2.here hx rfl (hb hby at_17) ?_
    show Steps p.tables e below (T2.setTop (mkF m 19 #[.val (.int p1), .val (.int sv), .val (.long (own_ent sv)), .second, .unset] [(.int (27 : Int32)), (.int sv)])) _
    refine XS.icmpYes X2.here hx rfl (pc0 := 19) (pc' := 36) rfl (hb hby at_19) rfl (flt hc19).2.2.2 (by decide) (by decide) ?_
    show Steps p.tables e below (T2.setTop (mkF m 36 #[.val (.int p1), .val (.int sv), .val (.long (own_ent sv)), .second, .unset] [])) _
    refine XS.bipush X2.here hx rfl (hb hby at_36) ?_
    show Steps p.tables e below (T2.setTop (mkF m 38 #[.val (.int p1), .val (.int sv), .val (.long (own_ent sv)), .second, .unset] [(.int (27 : Int32))])) _
    refine st3 _ ?_
    show Steps p.tables e below (T3.setTop (mkF m 40 #[.val (.int p1), .val (.int sv), .val (.long (own_ent sv)), .second, .unset] [(.ref b3)])) _
    refine XS.dup X3.here hx rfl (hb hby at_40) rfl rfl ?_
    show Steps p.tables e below (T3.setTop (mkF m 41 #[.val (.int p1), .val (.int sv), .val (.long (own_ent sv)), .second, .unset] [(.ref b3), (.ref b3)])) _
    refine XS.iconst X3.here hx rfl (hb hby at_41) ?_
    show Steps p.tables e below (T3.setTop (mkF m 42 #[.val (.int p1), .val (.int sv), .val (.long (own_ent sv)), .second, .unset] [(.int (0 : Int32)), (.ref b3), (.ref b3)])) _
    refine XS.lconst X3.here hx rfl (hb hby at_42) ?_
    show Steps p.tables e below (T3.setTop (mkF m 43 #[.val (.int p1), .val (.int sv), .val (.long (own_ent sv)), .second, .unset] [(.long (1 : Int64)), (.int (0 : Int32)), (.ref b3), (.ref b3)])) _
    refine st4 _ ?_
    show Steps p.tables e below (T4.setTop (mkF m 44 #[.val (.int p1), .val (.int sv), .val (.long (own_ent sv)), .second, .unset] [(.ref b3)])) _
    refine XS.dup X4.here hx rfl (hb hby at_44) rfl rfl ?_
    show Steps p.tables e below (T4.setTop (mkF m 45 #[.val (.int p1), .val (.int sv), .val (.long (own_ent sv)), .second, .unset] [(.ref b3), (.ref b3)])) _
    refine XS.iconst X4.here hx rfl (hb hby at_45) ?_
    show Steps p.tables e below (T4.setTop (mkF m 46 #[.val (.int p1), .val (.int sv), .val (.long (own_ent sv)), .second, .unset] [(.int (1 : Int32)), (.ref b3), (.ref b3)])) _
    refine X4.ldc2Long hx hown (mvT hZ (hw _ (List.mem_of_getElem? (i := 6) rfl))) (g := (mkF m 46 #[.val (.int p1), .val (.int sv), .val (.long (own_ent sv)), .second, .unset] [(.int (1 : Int32)), (.ref b3), (.ref b3)])) rfl (hb hby at_46) _ ?_
    show Steps p.tables e below (T4.setTop (mkF m 49 #[.val (.int p1), .val (.int sv), .val (.long (own_ent sv)), .second, .unset] [(.long (4 : Int64)), (.int (1 : Int32)), (.ref b3), (.ref b3)])) _
    refine st5 _ ?_
    show Steps p.tables e below (T5.setTop (mkF m 50 #[.val (.int p1), .val (.int sv), .val (.long (own_ent sv)), .second, .unset] [(.ref b3)])) _
    refine XS.dup X5.here hx rfl (hb hby at_50) rfl rfl ?_
    show Steps p.tables e below (T5.setTop (mkF m 51 #[.val (.int p1), .val (.int sv), .val (.long (own_ent sv)), .second, .unset] [(.ref b3), (.ref b3)])) _
    refine XS.iconst X5.here hx rfl (hb hby at_51) ?_
    show Steps p.tables e below (T5.setTop (mkF m 52 #[.val (.int p1), .val (.int sv), .val (.long (own_ent sv)), .second, .unset] [(.int (2 : Int32)), (.ref b3), (.ref b3)])) _
    refine X5.ldc2Long hx hown (mvT hZ (hw _ (List.mem_of_getElem? (i := 7) rfl))) (g := (mkF m 52 #[.val (.int p1), .val (.int sv), .val (.long (own_ent sv)), .second, .unset] [(.int (2 : Int32)), (.ref b3), (.ref b3)])) rfl (hb hby at_52) _ ?_
    show Steps p.tables e below (T5.setTop (mkF m 55 #[.val (.int p1), .val (.int sv), .val (.long (own_ent sv)), .second, .unset] [(.long (12 : Int64)), (.int (2 : Int32)), (.ref b3), (.ref b3)])) _
    refine st6 _ ?_
    show Steps p.tables e below (T6.setTop (mkF m 56 #[.val (.int p1), .val (.int sv), .val (.long (own_ent sv)), .second, .unset] [(.ref b3)])) _
    refine XS.dup X6.here hx rfl (hb hby at_56) rfl rfl ?_
    show Steps p.tables e below (T6.setTop (mkF m 57 #[.val (.int p1), .val (.int sv), .val (.long (own_ent sv)), .second, .unset] [(.ref b3), (.ref b3)])) _
    refine XS.iconst X6.here hx rfl (hb hby at_57) ?_
    show Steps p.tables e below (T6.setTop (mkF m 58 #[.val (.int p1), .val (.int sv), .val (.long (own_ent sv)), .second, .unset] [(.int (3 : Int32)), (.ref b3), (.ref b3)])) _
    refine X6.ldc2Long hx hown (mvT hZ (hw _ (List.mem_of_getElem? (i := 8) rfl))) (g := (mkF m 58 #[.val (.int p1), .val (.int sv), .val (.long (own_ent sv)), .second, .unset] [(.int (3 : Int32)), (.ref b3), (.ref b3)])) rfl (hb hby at_58) _ ?_
    show Steps p.tables e below (T6.setTop (mkF m 61 #[.val (.int p1), .val (.int sv), .val (.long (own_ent sv)), .second, .unset] [(.long (32 : Int64)), (.int (3 : Int32)), (.ref b3), (.ref b3)])) _
    refine st7 _ ?_
    show Steps p.tables e below (T7.setTop (mkF m 62 #[.val (.int p1), .val (.int sv), .val (.long (own_ent sv)), .second, .unset] [(.ref b3)])) _
    refine XS.dup X7.here hx rfl (hb hby at_62) rfl rfl ?_
    show Steps p.tables e below (T7.setTop (mkF m 63 #[.val (.int p1), .val (.int sv), .val (.long (own_ent sv)), .second, .unset] [(.ref b3), (.ref b3)])) _
    refine XS.iconst X7.here hx rfl (hb hby at_63) ?_
    show Steps p.tables e below (T7.setTop (mkF m 64 #[.val (.int p1), .val (.int sv), .val (.long (own_ent sv)), .second, .unset] [(.int (4 : Int32)), (.ref b3), (.ref b3)])) _
    refine X7.ldc2Long hx hown (mvT hZ (hw _ (List.mem_of_getElem? (i := 9) rfl))) (g := (mkF m 64 #[.val (.int p1), .val (.int sv), .val (.long (own_ent sv)), .second, .unset] [(.int (4 : Int32)), (.ref b3), (.ref b3)])) rfl (hb hby at_64) _ ?_
    show Steps p.tables e below (T7.setTop (mkF m 67 #[.val (.int p1), .val (.int sv), .val (.long (own_ent sv)), .second, .unset] [(.long (80 : Int64)), (.int (4 : Int32)), (.ref b3), (.ref b3)])) _
    refine st8 _ ?_
    show Steps p.tables e below (T8.setTop (mkF m 68 #[.val (.int p1), .val (.int sv), .val (.long (own_ent sv)), .second, .unset] [(.ref b3)])) _
    refine XS.dup X8.here hx rfl (hb hby at_68) rfl rfl ?_
    show Steps p.tables e below (T8.setTop (mkF m 69 #[.val (.int p1), .val (.int sv), .val (.long (own_ent sv)), .second, .unset] [(.ref b3), (.ref b3)])) _
    refine XS.iconst X8.here hx rfl (hb hby at_69) ?_
    show Steps p.tables e below (T8.setTop (mkF m 70 #[.val (.int p1), .val (.int sv), .val (.long (own_ent sv)), .second, .unset] [(.int (5 : Int32)), (.ref b3), (.ref b3)])) _
    refine X8.ldc2Long hx hown (mvT hZ (hw _ (List.mem_of_getElem? (i := 10) rfl))) (g := (mkF m 70 #[.val (.int p1), .val (.int sv), .val (.long (own_ent sv)), .second, .unset] [(.int (5 : Int32)), (.ref b3), (.ref b3)])) rfl (hb hby at_70) _ ?_
    show Steps p.tables e below (T8.setTop (mkF m 73 #[.val (.int p1), .val (.int sv), .val (.long (own_ent sv)), .second, .unset] [(.long (192 : Int64)), (.int (5 : Int32)), (.ref b3), (.ref b3)])) _
    refine st9 _ ?_
    show Steps p.tables e below (T9.setTop (mkF m 74 #[.val (.int p1), .val (.int sv), .val (.long (own_ent sv)), .second, .unset] [(.ref b3)])) _
    refine XS.dup X9.here hx rfl (hb hby at_74) rfl rfl ?_
    show Steps p.tables e below (T9.setTop (mkF m 75 #[.val (.int p1), .val (.int sv), .val (.long (own_ent sv)), .second, .unset] [(.ref b3), (.ref b3)])) _
    refine XS.bipush X9.here hx rfl (hb hby at_75) ?_
    show Steps p.tables e below (T9.setTop (mkF m 77 #[.val (.int p1), .val (.int sv), .val (.long (own_ent sv)), .second, .unset] [(.int (6 : Int32)), (.ref b3), (.ref b3)])) _
    refine X9.ldc2Long hx hown (mvT hZ (hw _ (List.mem_of_getElem? (i := 11) rfl))) (g := (mkF m 77 #[.val (.int p1), .val (.int sv), .val (.long (own_ent sv)), .second, .unset] [(.int (6 : Int32)), (.ref b3), (.ref b3)])) rfl (hb hby at_77) _ ?_
    show Steps p.tables e below (T9.setTop (mkF m 80 #[.val (.int p1), .val (.int sv), .val (.long (own_ent sv)), .second, .unset] [(.long (448 : Int64)), (.int (6 : Int32)), (.ref b3), (.ref b3)])) _
    refine st10 _ ?_
    show Steps p.tables e below (T10.setTop (mkF m 81 #[.val (.int p1), .val (.int sv), .val (.long (own_ent sv)), .second, .unset] [(.ref b3)])) _
    refine XS.dup X10.here hx rfl (hb hby at_81) rfl rfl ?_
    show Steps p.tables e below (T10.setTop (mkF m 82 #[.val (.int p1), .val (.int sv), .val (.long (own_ent sv)), .second, .unset] [(.ref b3), (.ref b3)])) _
    refine XS.bipush X10.here hx rfl (hb hby at_82) ?_
    show Steps p.tables e below (T10.setTop (mkF m 84 #[.val (.int p1), .val (.int sv), .val (.long (own_ent sv)), .second, .unset] [(.int (7 : Int32)), (.ref b3), (.ref b3)])) _
    refine X10.ldc2Long hx hown (mvT hZ (hw _ (List.mem_of_getElem? (i := 12) rfl))) (g := (mkF m 84 #[.val (.int p1), .val (.int sv), .val (.long (own_ent sv)), .second, .unset] [(.int (7 : Int32)), (.ref b3), (.ref b3)])) rfl (hb hby at_84) _ ?_
    show Steps p.tables e below (T10.setTop (mkF m 87 #[.val (.int p1), .val (.int sv), .val (.long (own_ent sv)), .second, .unset] [(.long (1024 : Int64)), (.int (7 : Int32)), (.ref b3), (.ref b3)])) _
    refine st11 _ ?_
    show Steps p.tables e below (T11.setTop (mkF m 88 #[.val (.int p1), .val (.int sv), .val (.long (own_ent sv)), .second, .unset] [(.ref b3)])) _
    refine XS.dup X11.here hx rfl (hb hby at_88) rfl rfl ?_
    show Steps p.tables e below (T11.setTop (mkF m 89 #[.val (.int p1), .val (.int sv), .val (.long (own_ent sv)), .second, .unset] [(.ref b3), (.ref b3)])) _
    refine XS.bipush X11.here hx rfl (hb hby at_89) ?_
    show Steps p.tables e below (T11.setTop (mkF m 91 #[.val (.int p1), .val (.int sv), .val (.long (own_ent sv)), .second, .unset] [(.int (8 : Int32)), (.ref b3), (.ref b3)])) _
    refine X11.ldc2Long hx hown (mvT hZ (hw _ (List.mem_of_getElem? (i := 13) rfl))) (g := (mkF m 91 #[.val (.int p1), .val (.int sv), .val (.long (own_ent sv)), .second, .unset] [(.int (8 : Int32)), (.ref b3), (.ref b3)])) rfl (hb hby at_91) _ ?_
    show Steps p.tables e below (T11.setTop (mkF m 94 #[.val (.int p1), .val (.int sv), .val (.long (own_ent sv)), .second, .unset] [(.long (2304 : Int64)), (.int (8 : Int32)), (.ref b3), (.ref b3)])) _
    refine st12 _ ?_
    show Steps p.tables e below (T12.setTop (mkF m 95 #[.val (.int p1), .val (.int sv), .val (.long (own_ent sv)), .second, .unset] [(.ref b3)])) _
    refine XS.dup X12.here hx rfl (hb hby at_95) rfl rfl ?_
    show Steps p.tables e below (T12.setTop (mkF m 96 #[.val (.int p1), .val (.int sv), .val (.long (own_ent sv)), .second, .unset] [(.ref b3), (.ref b3)])) _
    refine XS.bipush X12.here hx rfl (hb hby at_96) ?_
    show Steps p.tables e below (T12.setTop (mkF m 98 #[.val (.int p1), .val (.int sv), .val (.long (own_ent sv)), .second, .unset] [(.int (9 : Int32)), (.ref b3), (.ref b3)])) _
    refine X12.ldc2Long hx hown (mvT hZ (hw _ (List.mem_of_getElem? (i := 14) rfl))) (g := (mkF m 98 #[.val (.int p1), .val (.int sv), .val (.long (own_ent sv)), .second, .unset] [(.int (9 : Int32)), (.ref b3), (.ref b3)])) rfl (hb hby at_98) _ ?_
    show Steps p.tables e below (T12.setTop (mkF m 101 #[.val (.int p1), .val (.int sv), .val (.long (own_ent sv)), .second, .unset] [(.long (5120 : Int64)), (.int (9 : Int32)), (.ref b3), (.ref b3)])) _
    refine st13 _ ?_
    show Steps p.tables e below (T13.setTop (mkF m 102 #[.val (.int p1), .val (.int sv), .val (.long (own_ent sv)), .second, .unset] [(.ref b3)])) _
    refine XS.dup X13.here hx rfl (hb hby at_102) rfl rfl ?_
    show Steps p.tables e below (T13.setTop (mkF m 103 #[.val (.int p1), .val (.int sv), .val (.long (own_ent sv)), .second, .unset] [(.ref b3), (.ref b3)])) _
    refine XS.bipush X13.here hx rfl (hb hby at_103) ?_
    show Steps p.tables e below (T13.setTop (mkF m 105 #[.val (.int p1), .val (.int sv), .val (.long (own_ent sv)), .second, .unset] [(.int (10 : Int32)), (.ref b3), (.ref b3)])) _
    refine X13.ldc2Long hx hown (mvT hZ (hw _ (List.mem_of_getElem? (i := 15) rfl))) (g := (mkF m 105 #[.val (.int p1), .val (.int sv), .val (.long (own_ent sv)), .second, .unset] [(.int (10 : Int32)), (.ref b3), (.ref b3)])) rfl (hb hby at_105) _ ?_
    show Steps p.tables e below (T13.setTop (mkF m 108 #[.val (.int p1), .val (.int sv), .val (.long (own_ent sv)), .second, .unset] [(.long (11264 : Int64)), (.int (10 : Int32)), (.ref b3), (.ref b3)])) _
    refine st14 _ ?_
    show Steps p.tables e below (T14.setTop (mkF m 109 #[.val (.int p1), .val (.int sv), .val (.long (own_ent sv)), .second, .unset] [(.ref b3)])) _
    refine XS.dup X14.here hx rfl (hb hby at_109) rfl rfl ?_
    show Steps p.tables e below (T14.setTop (mkF m 110 #[.val (.int p1), .val (.int sv), .val (.long (own_ent sv)), .second, .unset] [(.ref b3), (.ref b3)])) _
    refine XS.bipush X14.here hx rfl (hb hby at_110) ?_
    show Steps p.tables e below (T14.setTop (mkF m 112 #[.val (.int p1), .val (.int sv), .val (.long (own_ent sv)), .second, .unset] [(.int (11 : Int32)), (.ref b3), (.ref b3)])) _
    refine X14.ldc2Long hx hown (mvT hZ (hw _ (List.mem_of_getElem? (i := 16) rfl))) (g := (mkF m 112 #[.val (.int p1), .val (.int sv), .val (.long (own_ent sv)), .second, .unset] [(.int (11 : Int32)), (.ref b3), (.ref b3)])) rfl (hb hby at_112) _ ?_
    show Steps p.tables e below (T14.setTop (mkF m 115 #[.val (.int p1), .val (.int sv), .val (.long (own_ent sv)), .second, .unset] [(.long (24576 : Int64)), (.int (11 : Int32)), (.ref b3), (.ref b3)])) _
    refine st15 _ ?_
    show Steps p.tables e below (T15.setTop (mkF m 116 #[.val (.int p1), .val (.int sv), .val (.long (own_ent sv)), .second, .unset] [(.ref b3)])) _
    refine XS.dup X15.here hx rfl (hb hby at_116) rfl rfl ?_
    show Steps p.tables e below (T15.setTop (mkF m 117 #[.val (.int p1), .val (.int sv), .val (.long (own_ent sv)), .second, .unset] [(.ref b3), (.ref b3)])) _
    refine XS.bipush X15.here hx rfl (hb hby at_117) ?_
    show Steps p.tables e below (T15.setTop (mkF m 119 #[.val (.int p1), .val (.int sv), .val (.long (own_ent sv)), .second, .unset] [(.int (12 : Int32)), (.ref b3), (.ref b3)])) _
    refine X15.ldc2Long hx hown (mvT hZ (hw _ (List.mem_of_getElem? (i := 17) rfl))) (g := (mkF m 119 #[.val (.int p1), .val (.int sv), .val (.long (own_ent sv)), .second, .unset] [(.int (12 : Int32)), (.ref b3), (.ref b3)])) rfl (hb hby at_119) _ ?_
    show Steps p.tables e below (T15.setTop (mkF m 122 #[.val (.int p1), .val (.int sv), .val (.long (own_ent sv)), .second, .unset] [(.long (53248 : Int64)), (.int (12 : Int32)), (.ref b3), (.ref b3)])) _
    refine st16 _ ?_
    show Steps p.tables e below (T16.setTop (mkF m 123 #[.val (.int p1), .val (.int sv), .val (.long (own_ent sv)), .second, .unset] [(.ref b3)])) _
    refine XS.dup X16.here hx rfl (hb hby at_123) rfl rfl ?_
    show Steps p.tables e below (T16.setTop (mkF m 124 #[.val (.int p1), .val (.int sv), .val (.long (own_ent sv)), .second, .unset] [(.ref b3), (.ref b3)])) _
    refine XS.bipush X16.here hx rfl (hb hby at_124) ?_
    show Steps p.tables e below (T16.setTop (mkF m 126 #[.val (.int p1), .val (.int sv), .val (.long (own_ent sv)), .second, .unset] [(.int (13 : Int32)), (.ref b3), (.ref b3)])) _
    refine X16.ldc2Long hx hown (mvT hZ (hw _ (List.mem_of_getElem? (i := 18) rfl))) (g := (mkF m 126 #[.val (.int p1), .val (.int sv), .val (.long (own_ent sv)), .second, .unset] [(.int (13 : Int32)), (.ref b3), (.ref b3)])) rfl (hb hby at_126) _ ?_
    show Steps p.tables e below (T16.setTop (mkF m 129 #[.val (.int p1), .val (.int sv), .val (.long (own_ent sv)), .second, .unset] [(.long (114688 : Int64)), (.int (13 : Int32)), (.ref b3), (.ref b3)])) _
    refine st17 _ ?_
    show Steps p.tables e below (T17.setTop (mkF m 130 #[.val (.int p1), .val (.int sv), .val (.long (own_ent sv)), .second, .unset] [(.ref b3)])) _
    refine XS.dup X17.here hx rfl (hb hby at_130) rfl rfl ?_
    show Steps p.tables e below (T17.setTop (mkF m 131 #[.val (.int p1), .val (.int sv), .val (.long (own_ent sv)), .second, .unset] [(.ref b3), (.ref b3)])) _
    refine XS.bipush X17.here hx rfl (hb hby at_131) ?_
    show Steps p.tables e below (T17.setTop (mkF m 133 #[.val (.int p1), .val (.int sv), .val (.long (own_ent sv)), .second, .unset] [(.int (14 : Int32)), (.ref b3), (.ref b3)])) _
    refine X17.ldc2Long hx hown (mvT hZ (hw _ (List.mem_of_getElem? (i := 19) rfl))) (g := (mkF m 133 #[.val (.int p1), .val (.int sv), .val (.long (own_ent sv)), .second, .unset] [(.int (14 : Int32)), (.ref b3), (.ref b3)])) rfl (hb hby at_133) _ ?_
    show Steps p.tables e below (T17.setTop (mkF m 136 #[.val (.int p1), .val (.int sv), .val (.long (own_ent sv)), .second, .unset] [(.long (245760 : Int64)), (.int (14 : Int32)), (.ref b3), (.ref b3)])) _
    refine st18 _ ?_
    show Steps p.tables e below (T18.setTop (mkF m 137 #[.val (.int p1), .val (.int sv), .val (.long (own_ent sv)), .second, .unset] [(.ref b3)])) _
    refine XS.dup X18.here hx rfl (hb hby at_137) rfl rfl ?_
    show Steps p.tables e below (T18.setTop (mkF m 138 #[.val (.int p1), .val (.int sv), .val (.long (own_ent sv)), .second, .unset] [(.ref b3), (.ref b3)])) _
    refine XS.bipush X18.here hx rfl (hb hby at_138) ?_
    show Steps p.tables e below (T18.setTop (mkF m 140 #[.val (.int p1), .val (.int sv), .val (.long (own_ent sv)), .second, .unset] [(.int (15 : Int32)), (.ref b3), (.ref b3)])) _
    refine X18.ldc2Long hx hown (mvT hZ (hw _ (List.mem_of_getElem? (i := 20) rfl))) (g := (mkF m 140 #[.val (.int p1), .val (.int sv), .val (.long (own_ent sv)), .second, .unset] [(.int (15 : Int32)), (.ref b3), (.ref b3)])) rfl (hb hby at_140) _ ?_
    show Steps p.tables e below (T18.setTop (mkF m 143 #[.val (.int p1), .val (.int sv), .val (.long (own_ent sv)), .second, .unset] [(.long (524288 : Int64)), (.int (15 : Int32)), (.ref b3), (.ref b3)])) _
    refine st19 _ ?_
    show Steps p.tables e below (T19.setTop (mkF m 144 #[.val (.int p1), .val (.int sv), .val (.long (own_ent sv)), .second, .unset] [(.ref b3)])) _
    refine XS.dup X19.here hx rfl (hb hby at_144) rfl rfl ?_
    show Steps p.tables e below (T19.setTop (mkF m 145 #[.val (.int p1), .val (.int sv), .val (.long (own_ent sv)), .second, .unset] [(.ref b3), (.ref b3)])) _
    refine XS.bipush X19.here hx rfl (hb hby at_145) ?_
    show Steps p.tables e below (T19.setTop (mkF m 147 #[.val (.int p1), .val (.int sv), .val (.long (own_ent sv)), .second, .unset] [(.int (16 : Int32)), (.ref b3), (.ref b3)])) _
    refine X19.ldc2Long hx hown (mvT hZ (hw _ (List.mem_of_getElem? (i := 21) rfl))) (g := (mkF m 147 #[.val (.int p1), .val (.int sv), .val (.long (own_ent sv)), .second, .unset] [(.int (16 : Int32)), (.ref b3), (.ref b3)])) rfl (hb hby at_147) _ ?_
    show Steps p.tables e below (T19.setTop (mkF m 150 #[.val (.int p1), .val (.int sv), .val (.long (own_ent sv)), .second, .unset] [(.long (1114112 : Int64)), (.int (16 : Int32)), (.ref b3), (.ref b3)])) _
    refine st20 _ ?_
    show Steps p.tables e below (T20.setTop (mkF m 151 #[.val (.int p1), .val (.int sv), .val (.long (own_ent sv)), .second, .unset] [(.ref b3)])) _
    refine XS.dup X20.here hx rfl (hb hby at_151) rfl rfl ?_
    show Steps p.tables e below (T20.setTop (mkF m 152 #[.val (.int p1), .val (.int sv), .val (.long (own_ent sv)), .second, .unset] [(.ref b3), (.ref b3)])) _
    refine XS.bipush X20.here hx rfl (hb hby at_152) ?_
    show Steps p.tables e below (T20.setTop (mkF m 154 #[.val (.int p1), .val (.int sv), .val (.long (own_ent sv)), .second, .unset] [(.int (17 : Int32)), (.ref b3), (.ref b3)])) _
    refine X20.ldc2Long hx hown (mvT hZ (hw _ (List.mem_of_getElem? (i := 22) rfl))) (g := (mkF m 154 #[.val (.int p1), .val (.int sv), .val (.long (own_ent sv)), .second, .unset] [(.int (17 : Int32)), (.ref b3), (.ref b3)])) rfl (hb hby at_154) _ ?_
    show Steps p.tables e below (T20.setTop (mkF m 157 #[.val (.int p1), .val (.int sv), .val (.long (own_ent sv)), .second, .unset] [(.long (2359296 : Int64)), (.int (17 : Int32)), (.ref b3), (.ref b3)])) _
    refine st21 _ ?_
    show Steps p.tables e below (T21.setTop (mkF m 158 #[.val (.int p1), .val (.int sv), .val (.long (own_ent sv)), .second, .unset] [(.ref b3)])) _
    refine XS.dup X21.here hx rfl (hb hby at_158) rfl rfl ?_
    show Steps p.tables e below (T21.setTop (mkF m 159 #[.val (.int p1), .val (.int sv), .val (.long (own_ent sv)), .second, .unset] [(.ref b3), (.ref b3)])) _
    refine XS.bipush X21.here hx rfl (hb hby at_159) ?_
    show Steps p.tables e below (T21.setTop (mkF m 161 #[.val (.int p1), .val (.int sv), .val (.long (own_ent sv)), .second, .unset] [(.int (18 : Int32)), (.ref b3), (.ref b3)])) _
    refine X21.ldc2Long hx hown (mvT hZ (hw _ (List.mem_of_getElem? (i := 23) rfl))) (g := (mkF m 161 #[.val (.int p1), .val (.int sv), .val (.long (own_ent sv)), .second, .unset] [(.int (18 : Int32)), (.ref b3), (.ref b3)])) rfl (hb hby at_161) _ ?_
    show Steps p.tables e below (T21.setTop (mkF m 164 #[.val (.int p1), .val (.int sv), .val (.long (own_ent sv)), .second, .unset] [(.long (4980736 : Int64)), (.int (18 : Int32)), (.ref b3), (.ref b3)])) _
    refine st22 _ ?_
    show Steps p.tables e below (T22.setTop (mkF m 165 #[.val (.int p1), .val (.int sv), .val (.long (own_ent sv)), .second, .unset] [(.ref b3)])) _
    refine XS.dup X22.here hx rfl (hb hby at_165) rfl rfl ?_
    show Steps p.tables e below (T22.setTop (mkF m 166 #[.val (.int p1), .val (.int sv), .val (.long (own_ent sv)), .second, .unset] [(.ref b3), (.ref b3)])) _
    refine XS.bipush X22.here hx rfl (hb hby at_166) ?_
    show Steps p.tables e below (T22.setTop (mkF m 168 #[.val (.int p1), .val (.int sv), .val (.long (own_ent sv)), .second, .unset] [(.int (19 : Int32)), (.ref b3), (.ref b3)])) _
    refine X22.ldc2Long hx hown (mvT hZ (hw _ (List.mem_of_getElem? (i := 24) rfl))) (g := (mkF m 168 #[.val (.int p1), .val (.int sv), .val (.long (own_ent sv)), .second, .unset] [(.int (19 : Int32)), (.ref b3), (.ref b3)])) rfl (hb hby at_168) _ ?_
    show Steps p.tables e below (T22.setTop (mkF m 171 #[.val (.int p1), .val (.int sv), .val (.long (own_ent sv)), .second, .unset] [(.long (10485760 : Int64)), (.int (19 : Int32)), (.ref b3), (.ref b3)])) _
    refine st23 _ ?_
    show Steps p.tables e below (T23.setTop (mkF m 172 #[.val (.int p1), .val (.int sv), .val (.long (own_ent sv)), .second, .unset] [(.ref b3)])) _
    refine XS.dup X23.here hx rfl (hb hby at_172) rfl rfl ?_
    show Steps p.tables e below (T23.setTop (mkF m 173 #[.val (.int p1), .val (.int sv), .val (.long (own_ent sv)), .second, .unset] [(.ref b3), (.ref b3)])) _
    refine XS.bipush X23.here hx rfl (hb hby at_173) ?_
    show Steps p.tables e below (T23.setTop (mkF m 175 #[.val (.int p1), .val (.int sv), .val (.long (own_ent sv)), .second, .unset] [(.int (20 : Int32)), (.ref b3), (.ref b3)])) _
    refine X23.ldc2Long hx hown (mvT hZ (hw _ (List.mem_of_getElem? (i := 25) rfl))) (g := (mkF m 175 #[.val (.int p1), .val (.int sv), .val (.long (own_ent sv)), .second, .unset] [(.int (20 : Int32)), (.ref b3), (.ref b3)])) rfl (hb hby at_175) _ ?_
    show Steps p.tables e below (T23.setTop (mkF m 178 #[.val (.int p1), .val (.int sv), .val (.long (own_ent sv)), .second, .unset] [(.long (22020096 : Int64)), (.int (20 : Int32)), (.ref b3), (.ref b3)])) _
    refine st24 _ ?_
    show Steps p.tables e below (T24.setTop (mkF m 179 #[.val (.int p1), .val (.int sv), .val (.long (own_ent sv)), .second, .unset] [(.ref b3)])) _
    refine XS.dup X24.here hx rfl (hb hby at_179) rfl rfl ?_
    show Steps p.tables e below (T24.setTop (mkF m 180 #[.val (.int p1), .val (.int sv), .val (.long (own_ent sv)), .second, .unset] [(.ref b3), (.ref b3)])) _
    refine XS.bipush X24.here hx rfl (hb hby at_180) ?_
    show Steps p.tables e below (T24.setTop (mkF m 182 #[.val (.int p1), .val (.int sv), .val (.long (own_ent sv)), .second, .unset] [(.int (21 : Int32)), (.ref b3), (.ref b3)])) _
    refine X24.ldc2Long hx hown (mvT hZ (hw _ (List.mem_of_getElem? (i := 26) rfl))) (g := (mkF m 182 #[.val (.int p1), .val (.int sv), .val (.long (own_ent sv)), .second, .unset] [(.int (21 : Int32)), (.ref b3), (.ref b3)])) rfl (hb hby at_182) _ ?_
    show Steps p.tables e below (T24.setTop (mkF m 185 #[.val (.int p1), .val (.int sv), .val (.long (own_ent sv)), .second, .unset] [(.long (46137344 : Int64)), (.int (21 : Int32)), (.ref b3), (.ref b3)])) _
    refine st25 _ ?_
    show Steps p.tables e below (T25.setTop (mkF m 186 #[.val (.int p1), .val (.int sv), .val (.long (own_ent sv)), .second, .unset] [(.ref b3)])) _
    refine XS.dup X25.here hx rfl (hb hby at_186) rfl rfl ?_
    show Steps p.tables e below (T25.setTop (mkF m 187 #[.val (.int p1), .val (.int sv), .val (.long (own_ent sv)), .second, .unset] [(.ref b3), (.ref b3)])) _
    refine XS.bipush X25.here hx rfl (hb hby at_187) ?_
    show Steps p.tables e below (T25.setTop (mkF m 189 #[.val (.int p1), .val (.int sv), .val (.long (own_ent sv)), .second, .unset] [(.int (22 : Int32)), (.ref b3), (.ref b3)])) _
    refine X25.ldc2Long hx hown (mvT hZ (hw _ (List.mem_of_getElem? (i := 27) rfl))) (g := (mkF m 189 #[.val (.int p1), .val (.int sv), .val (.long (own_ent sv)), .second, .unset] [(.int (22 : Int32)), (.ref b3), (.ref b3)])) rfl (hb hby at_189) _ ?_
    show Steps p.tables e below (T25.setTop (mkF m 192 #[.val (.int p1), .val (.int sv), .val (.long (own_ent sv)), .second, .unset] [(.long (96468992 : Int64)), (.int (22 : Int32)), (.ref b3), (.ref b3)])) _
    refine st26 _ ?_
    show Steps p.tables e below (T26.setTop (mkF m 193 #[.val (.int p1), .val (.int sv), .val (.long (own_ent sv)), .second, .unset] [(.ref b3)])) _
    refine XS.dup X26.here hx rfl (hb hby at_193) rfl rfl ?_
    show Steps p.tables e below (T26.setTop (mkF m 194 #[.val (.int p1), .val (.int sv), .val (.long (own_ent sv)), .second, .unset] [(.ref b3), (.ref b3)])) _
    refine XS.bipush X26.here hx rfl (hb hby at_194) ?_
    show Steps p.tables e below (T26.setTop (mkF m 196 #[.val (.int p1), .val (.int sv), .val (.long (own_ent sv)), .second, .unset] [(.int (23 : Int32)), (.ref b3), (.ref b3)])) _
    refine X26.ldc2Long hx hown (mvT hZ (hw _ (List.mem_of_getElem? (i := 28) rfl))) (g := (mkF m 196 #[.val (.int p1), .val (.int sv), .val (.long (own_ent sv)), .second, .unset] [(.int (23 : Int32)), (.ref b3), (.ref b3)])) rfl (hb hby at_196) _ ?_
    show Steps p.tables e below (T26.setTop (mkF m 199 #[.val (.int p1), .val (.int sv), .val (.long (own_ent sv)), .second, .unset] [(.long (201326592 : Int64)), (.int (23 : Int32)), (.ref b3), (.ref b3)])) _
    refine st27 _ ?_
    show Steps p.tables e below (T27.setTop (mkF m 200 #[.val (.int p1), .val (.int sv), .val (.long (own_ent sv)), .second, .unset] [(.ref b3)])) _
    refine XS.dup X27.here hx rfl (hb hby at_200) rfl rfl ?_
    show Steps p.tables e below (T27.setTop (mkF m 201 #[.val (.int p1), .val (.int sv), .val (.long (own_ent sv)), .second, .unset] [(.ref b3), (.ref b3)])) _
    refine XS.bipush X27.here hx rfl (hb hby at_201) ?_
    show Steps p.tables e below (T27.setTop (mkF m 203 #[.val (.int p1), .val (.int sv), .val (.long (own_ent sv)), .second, .unset] [(.int (24 : Int32)), (.ref b3), (.ref b3)])) _
    refine X27.ldc2Long hx hown (mvT hZ (hw _ (List.mem_of_getElem? (i := 29) rfl))) (g := (mkF m 203 #[.val (.int p1), .val (.int sv), .val (.long (own_ent sv)), .second, .unset] [(.int (24 : Int32)), (.ref b3), (.ref b3)])) rfl (hb hby at_203) _ ?_
    show Steps p.tables e below (T27.setTop (mkF m 206 #[.val (.int p1), .val (.int sv), .val (.long (own_ent sv)), .second, .unset] [(.long (419430400 : Int64)), (.int (24 : Int32)), (.ref b3), (.ref b3)])) _
    refine st28 _ ?_
    show Steps p.tables e below (T28.setTop (mkF m 207 #[.val (.int p1), .val (.int sv), .val (.long (own_ent sv)), .second, .unset] [(.ref b3)])) _
    refine XS.dup X28.here hx rfl (hb hby at_207) rfl rfl ?_
    show Steps p.tables e below (T28.setTop (mkF m 208 #[.val (.int p1), .val (.int sv), .val (.long (own_ent sv)), .second, .unset] [(.ref b3), (.ref b3)])) _
    refine XS.bipush X28.here hx rfl (hb hby at_208) ?_
    show Steps p.tables e below (T28.setTop (mkF m 210 #[.val (.int p1), .val (.int sv), .val (.long (own_ent sv)), .second, .unset] [(.int (25 : Int32)), (.ref b3), (.ref b3)])) _
    refine X28.ldc2Long hx hown (mvT hZ (hw _ (List.mem_of_getElem? (i := 30) rfl))) (g := (mkF m 210 #[.val (.int p1), .val (.int sv), .val (.long (own_ent sv)), .second, .unset] [(.int (25 : Int32)), (.ref b3), (.ref b3)])) rfl (hb hby at_210) _ ?_
    show Steps p.tables e below (T28.setTop (mkF m 213 #[.val (.int p1), .val (.int sv), .val (.long (own_ent sv)), .second, .unset] [(.long (872415232 : Int64)), (.int (25 : Int32)), (.ref b3), (.ref b3)])) _
    refine st29 _ ?_
    show Steps p.tables e below (T29.setTop (mkF m 214 #[.val (.int p1), .val (.int sv), .val (.long (own_ent sv)), .second, .unset] [(.ref b3)])) _
    refine XS.dup X29.here hx rfl (hb hby at_214) rfl rfl ?_
    show Steps p.tables e below (T29.setTop (mkF m 215 #[.val (.int p1), .val (.int sv), .val (.long (own_ent sv)), .second, .unset] [(.ref b3), (.ref b3)])) _
    refine XS.bipush X29.here hx rfl (hb hby at_215) ?_
    show Steps p.tables e below (T29.setTop (mkF m 217 #[.val (.int p1), .val (.int sv), .val (.long (own_ent sv)), .second, .unset] [(.int (26 : Int32)), (.ref b3), (.ref b3)])) _
    refine X29.ldc2Long hx hown (mvT hZ (hw _ (List.mem_of_getElem? (i := 31) rfl))) (g := (mkF m 217 #[.val (.int p1), .val (.int sv), .val (.long (own_ent sv)), .second, .unset] [(.int (26 : Int32)), (.ref b3), (.ref b3)])) rfl (hb hby at_217) _ ?_
    show Steps p.tables e below (T29.setTop (mkF m 220 #[.val (.int p1), .val (.int sv), .val (.long (own_ent sv)), .second, .unset] [(.long (1811939328 : Int64)), (.int (26 : Int32)), (.ref b3), (.ref b3)])) _
    refine st30 _ ?_
    show Steps p.tables e below (T30.setTop (mkF m 221 #[.val (.int p1), .val (.int sv), .val (.long (own_ent sv)), .second, .unset] [(.ref b3)])) _
    refine XS.astore X30.here hx rfl (hb hby at_221) rfl rfl (l' := #[.val (.int p1), .val (.int sv), .val (.long (own_ent sv)), .second, .val (.ref b3)]) rfl ?_
    show Steps p.tables e below (T30.setTop (mkF m 223 #[.val (.int p1), .val (.int sv), .val (.long (own_ent sv)), .second, .val (.ref b3)] [])) _
    refine XS.lloadN X30.here hx rfl (hb hby at_223) rfl ?_
    show Steps p.tables e below (T30.setTop (mkF m 224 #[.val (.int p1), .val (.int sv), .val (.long (own_ent sv)), .second, .val (.ref b3)] [(.long (own_ent sv))])) _
    refine XS.aload X30.here hx rfl (hb hby at_224) rfl rfl ?_
    show Steps p.tables e below (T30.setTop (mkF m 226 #[.val (.int p1), .val (.int sv), .val (.long (own_ent sv)), .second, .val (.ref b3)] [(.ref b3), (.long (own_ent sv))])) _
    refine XS.iloadN X30.here hx rfl (hb hby at_226) rfl ?_
    show Steps p.tables e below (T30.setTop (mkF m 227 #[.val (.int p1), .val (.int sv), .val (.long (own_ent sv)), .second, .val (.ref b3)] [(.int sv), (.ref b3), (.long (own_ent sv))])) _
    refine XS.iconst X30.here hx rfl (hb hby at_227) ?_
    show Steps p.tables e below (T30.setTop (mkF m 228 #[.val (.int p1), .val (.int sv), .val (.long (own_ent sv)), .second, .val (.ref b3)] [(.int (1 : Int32)), (.int sv), (.ref b3), (.long (own_ent sv))])) _
    refine XS.isub X30.here hx rfl (hb hby at_228) rfl ?_
    show Steps p.tables e below (T30.setTop (mkF m 229 #[.val (.int p1), .val (.int sv), .val (.long (own_ent sv)), .second, .val (.ref b3)] [(.int (sv - (1 : Int32))), (.ref b3), (.long (own_ent sv))])) _
    refine X30.laload hx (j := (sv - (1 : Int32))) (v := (.long (own_ent sv))) (by rw [e30]; exact Ar_b3.1) (State.isArrayOf_alike hZ.alike Ar_b3.2.1) Ar_b3.2.2 hin229 hat229 (g := (mkF m 229 #[.val (.int p1), .val (.int sv), .val (.long (own_ent sv)), .second, .val (.ref b3)] [(.int (sv - (1 : Int32))), (.ref b3), (.long (own_ent sv))])) rfl rfl (hb hby at_229) _ ?_
    show Steps p.tables e below (T30.setTop (mkF m 230 #[.val (.int p1), .val (.int sv), .val (.long (own_ent sv)), .second, .val (.ref b3)] [(.long (own_ent sv)), (.long (own_ent sv))])) _
    refine XS.lcmp X30.here hx rfl (hb hby at_230) rfl ?_
    show Steps p.tables e below (T30.setTop (mkF m 231 #[.val (.int p1), .val (.int sv), .val (.long (own_ent sv)), .second, .val (.ref b3)] [(.int (lcmpW (own_ent sv) (own_ent sv)))])) _
    refine XS.ifNo X30.here hx rfl (hb hby at_231) rfl ((if0 _ _).trans (teq hc231).2) ?_
    show Steps p.tables e below (T30.setTop (mkF m 234 #[.val (.int p1), .val (.int sv), .val (.long (own_ent sv)), .second, .val (.ref b3)] [])) _
    refine XS.iconst X30.here hx rfl (hb hby at_234) ?_
    show Steps p.tables e below (T30.setTop (mkF m 235 #[.val (.int p1), .val (.int sv), .val (.long (own_ent sv)), .second, .val (.ref b3)] [(.int (1 : Int32))])) _
    refine XS.goto X30.here hx rfl (pc0 := 235) (pc' := 239) rfl (hb hby at_235) (by decide) (by decide) ?_
    show Steps p.tables e below (T30.setTop (mkF m 239 #[.val (.int p1), .val (.int sv), .val (.long (own_ent sv)), .second, .val (.ref b3)] [(.int (1 : Int32))])) _
    exact retN X30 hx (t := .boolean) Bd.returns (by simp) (hb hby at_239) hr
  · show Q0 Z p1 h0 n0 _ T30.heap _
    rw [e30]
    exact ⟨rfl, N30⟩
theorem rm0 (l : Launch) (Z : State) (a0 : Array Value) (hw : ∀ d ∈ tables_1, d.before a0 Z = true) (ws : List Jvm.Cond) (p1 : Int32) (h0 : Heap) (n0 : Nat) (Z0 : n0 ≤ h0.size) :
    MetFree l x (head1 (Jvm.Cond.code x code maxLocals ret :: ws) room_1) (fun a U => a = #[(.int p1)] ∧ Z.Warmed39 U.vm ∧ U.heap = h0) (fun _ _ _ _ _ => True) (fun _ U o U' => ∃ v L, o = .returned v ∧ Q0 Z p1 h0 n0 v U'.heap L ∧ FrameEnd U o U' L room_1.cells room_1.slots) := by
  by_cases hb : (27 : Int32) < (if (p1 &&& (2147483647 : Int32)) = (0 : Int32) then (1 : Int32) else (p1 &&& (2147483647 : Int32)))
  · exact rm0a l Z a0 hw ws p1 _ h0 n0 Z0 rfl hb ((lw_eq _ _).mpr (by rw [own_ent, if_pos hb]))
  · exact rm0b l Z a0 hw ws p1 _ h0 n0 Z0 rfl (own_s1 _ hb).1 (own_s1 _ hb).2 hb ((lw_eq _ _).mpr rfl)
set_option maxRecDepth 65536 in
set_option maxHeartbeats 40000000 in
theorem comes_1 {Post : Tables → Env → Array Value → State → Outcome → State → Prop} (hpost : ∀ tb e args s v u, (limb_1_1.after args s (.returned v) u = true ∧ limb_1_2.after args s (.returned v) u = true ∧ True) → FrameEnd s (.returned v) u (Jvm.fieldLocs frame_1_writes args s ++ Jvm.arrayLocs frame_1_arrays args s ++ Jvm.staticLocs frame_1_statics s) 16 128 → Post tb e args s (.returned v) u) :
    ArmFor flags0 classFile x code maxLocals ret World_1 tables_1 room_1 Calls_1 rest_1 Pre_1 Post := by
  intro l hfl _ _ p e ha hc hk s m args below hf hA hF happ hP
  obtain ⟨hcalls, hrest, hpre⟩ := hP
  obtain ⟨-, -, -, hnamed, -, -, -, hat⟩ := (Spec.applies_iff hf).mp happ
  obtain ⟨hg, hn⟩ := and_e (Cond.before_iff.mp (show (Jvm.Cond.and given_1 narrow_1).before args s = true from hpre))
  obtain ⟨g3, g4⟩ := and_e hg
  obtain ⟨w0, rfl⟩ : ∃ w0 : Value, args = #[w0] := by
    have hs : args.size = 1 := by simpa [Cond.value, given_1] using g3
    obtain ⟨L⟩ := args
    match L, hs with
    | [w0], _ => exact ⟨w0, rfl⟩
  have hw := fun d (hd : d ∈ tables_1) => atoms_spec (ws := Jvm.Cond.code x code maxLocals ret :: tables_1) hat d (List.mem_cons_of_mem _ hd)
  have hfit : Fit s := fun {y c} hc i hi => by
    obtain ⟨ha, rfl⟩ := Array.getElem?_eq_some_iff.mp hc
    have q := List.all_eq_true.mp ((Array.all_eq_true_iff_forall_mem.mp hF) _ (Array.getElem_mem ha)) i (List.mem_range.mpr hi)
    simpa [Array.getElem?_eq_getElem hi] using q
  obtain ⟨i0, ei0⟩ := is_v g4
  obtain rfl : w0 = (.int i0) := Option.some.inj ei0
  obtain ⟨n, o, h1, h2, h3, _, L, rfl, ⟨rfl, N⟩, hq⟩ := rm0 l s _ hw tables_1 i0 s.heap s.heap.size (Nat.le_refl _) p e ha hc hk s m _ below hf ((Spec.applies_iff_loose hf).mp happ).1 ⟨rfl, State.Warmed39.refl s, rfl⟩ trivial
  refine ⟨n, _, h1, h2, h3, hpost _ _ _ _ _ _ ⟨Cond.after_iff.mpr rfl, Cond.after_iff.mpr (eq_i res_at (Term.int_eval (1)) rfl), trivial⟩ ⟨hq.1, hq.2.1, (hq.2.2.sift fun y hy => Or.inr (N y hy)).mono (by decide) (by decide)⟩⟩
theorem main_1_1 : Claimed_1_1 := comes_1 fun _ _ _ _ _ _ h hF => ⟨h.1, hF⟩
theorem main_1_2 : Claimed_1_2 := comes_1 fun _ _ _ _ _ _ h hF => ⟨h.2.1, hF⟩
end Jvm.Pilot.@@N@@
namespace Jvm.Pilot.@@N@@
open Jvm Jvm.ClassFile Sem Op Lib Jvm.Free Jvm.Stand Jvm.Pilot.@@N@@.Jvm.D
/-! MADE BY PROGRAM (witnessworld.py) out of the Statement's table words and the real class files: 11 classes; the members and pool entries that the words name. The judged class is class 1, her method 1. -/
namespace start1
open Jvm.ClassFile
def u (s : String) : CpInfo := .utf8 (stringToUtf16 s)
/-- a pool by its gaps: so many unusable entries, then the entry; so many at the end -/
def gap : Nat → List CpInfo → List CpInfo
  | 0, r => r
  | n + 1, r => .unusable :: gap n r
def poolList (es : List (Nat × CpInfo)) (last : Nat) : List CpInfo := es.foldr (fun e r => gap e.1 (e.2 :: r)) (gap last [])
def pool (es : List (Nat × CpInfo)) (last : Nat) : Array CpInfo := ⟨poolList es last⟩
def fileOf (pool : Array CpInfo) (this : Nat) (attrs : Array Attribute := #[]) (ms : Array MethodInfo := #[]) (fl : Nat := 33) (sup : Nat := 0) (ifs : Array Nat := #[]) (fds : Array FieldInfo := #[]) : ClassFile where
  minorVersion := 0
  majorVersion := 65
  constantPool := pool
  accessFlags := fl
  thisClass := this
  superClass := sup
  interfaces := ifs
  fields := fds
  methods := ms
  attributes := attrs
def plain (name : String) (sup : Option ClassId) : Class where
  name := name
  kind := .ordinary
  loader := none
  accessFlags := 33
  super := sup
  interfaces := #[]
  cf := none
  fields := #[]
  methods := #[]
  instanceTypes := #[]
  staticTypes := #[]
  resolved := #[]
  callSites := []
  init := .initialized
  statics := none
  mirror := none

def pool0 : Array CpInfo := pool [(5, u "<init>"), (0, u "()V"), (1, .class_ 10), (1, u "java/lang/Object")] 113

def k0m0 : Method := { name := "<init>", desc := "()V", sig := { parameters := [], returnType := none }, accessFlags := 1, code := none }
/-- java/lang/Object -/
def k0 : Class := { plain "java/lang/Object" none with
  accessFlags := 33
  interfaces := #[]
  cf := some (fileOf pool0 8 #[] #[{ accessFlags := 1, nameIndex := 5, descriptorIndex := 6, attributes := #[] }] 33 0 #[] #[])
  fields := #[]
  methods := #[k0m0]
  instanceTypes := #[]
  staticTypes := #[]
  resolved := Array.replicate 124 none
  statics := none }

def pool1 : Array CpInfo := pool [(2, .class_ 4), (1, u "java/lang/Object"), (0, u "<init>"), (0, u "()V"), (0, .integer 2147483647), (0, .methodref 9 10), (0, .class_ 11), (0, .nameAndType 12 13), (0, u "com/example/slotweave/slotweave/spectrum/CliquePaths"), (0, u "entries"), (0, u "(I)J"), (2, .long 9223372036854775807), (1, .long 4), (1, .long 12), (1, .long 32), (1, .long 80), (1, .long 192), (1, .long 448), (1, .long 1024), (1, .long 2304), (1, .long 5120), (1, .long 11264), (1, .long 24576), (1, .long 53248), (1, .long 114688), (1, .long 245760), (1, .long 524288), (1, .long 1114112), (1, .long 2359296), (1, .long 4980736), (1, .long 10485760), (1, .long 22020096), (1, .long 46137344), (1, .long 96468992), (1, .long 201326592), (1, .long 419430400), (1, .long 872415232), (1, .long 1811939328), (1, .class_ 71), (0, u "com/example/slotweave/slotweave/spectrum/CliquePathsEntriesPinLaw"), (2, u "law"), (0, u "(I)Z")] 5

def k1m0 : Method := { name := "<init>", desc := "()V", sig := { parameters := [], returnType := none }, accessFlags := 1, code := none }
def k1c1 : Code := { maxStack := 5, maxLocals := 5, code := code, exceptionTable := #[], attributes := #[] }
def k1m1 : Method := { name := "law", desc := "(I)Z", sig := { parameters := [.int], returnType := some .boolean }, accessFlags := 9, code := some k1c1 }
/-- com/example/slotweave/slotweave/spectrum/CliquePathsEntriesPinLaw -/
def k1 : Class := { plain "com/example/slotweave/slotweave/spectrum/CliquePathsEntriesPinLaw" (some 0) with
  accessFlags := 49
  interfaces := #[]
  cf := some (fileOf pool1 70 #[] #[{ accessFlags := 1, nameIndex := 5, descriptorIndex := 6, attributes := #[] }, { accessFlags := 9, nameIndex := 74, descriptorIndex := 75, attributes := #[] }] 49 2 #[] #[])
  fields := #[]
  methods := #[k1m0, k1m1]
  instanceTypes := #[]
  staticTypes := #[]
  resolved := Array.replicate 81 none
  statics := none }

def pool2 : Array CpInfo := pool [(2, .class_ 4), (1, u "java/lang/Object"), (3, .class_ 10), (1, u "com/example/slotweave/slotweave/spectrum/CliquePaths"), (0, u "size"), (0, u "I"), (2, u "entries"), (0, u "(I)J"), (2, u "lengths"), (0, u "[J"), (25, .long 9223372036854775807), (22, u "LARGEST")] 12

def k2c0 : Code := { maxStack := 4, maxLocals := 1, code := prog_21_method_4_code, exceptionTable := #[], attributes := #[] }
def k2m0 : Method := { name := "entries", desc := "(I)J", sig := { parameters := [.int], returnType := some .long }, accessFlags := 8, code := some k2c0 }
/-- com/example/slotweave/slotweave/spectrum/CliquePaths -/
def k2 : Class := { plain "com/example/slotweave/slotweave/spectrum/CliquePaths" (some 0) with
  accessFlags := 48
  interfaces := #[]
  cf := some (fileOf pool2 8 #[] #[{ accessFlags := 8, nameIndex := 15, descriptorIndex := 16, attributes := #[] }] 48 2 #[] #[{ accessFlags := 26, nameIndex := 69, descriptorIndex := 12, attributes := #[] }, { accessFlags := 18, nameIndex := 11, descriptorIndex := 12, attributes := #[] }, { accessFlags := 18, nameIndex := 19, descriptorIndex := 20, attributes := #[] }])
  fields := #[{ name := "LARGEST", type := .int, accessFlags := 26, slot := 0, constantValue := 0 }, { name := "size", type := .int, accessFlags := 18, slot := 0, constantValue := 0 }, { name := "lengths", type := (.array .long), accessFlags := 18, slot := 1, constantValue := 0 }]
  methods := #[k2m0]
  instanceTypes := #[.int, (.array .long)]
  staticTypes := #[.int]
  resolved := Array.replicate 82 none
  statics := none }

def pool3 : Array CpInfo := pool [(1, u "java/lang/Cloneable"), (0, .class_ 1), (0, u "java/lang/Object"), (0, .class_ 3)] 3

/-- java/lang/Cloneable -/
def k3 : Class := { plain "java/lang/Cloneable" (some 0) with
  accessFlags := 1537
  interfaces := #[]
  cf := some (fileOf pool3 2 #[] #[] 1537 4 #[] #[])
  fields := #[]
  methods := #[]
  instanceTypes := #[]
  staticTypes := #[]
  resolved := Array.replicate 8 none
  statics := none }

def pool4 : Array CpInfo := pool [(1, u "java/io/Serializable"), (0, .class_ 1), (0, u "java/lang/Object"), (0, .class_ 3)] 3

/-- java/io/Serializable -/
def k4 : Class := { plain "java/io/Serializable" (some 0) with
  accessFlags := 1537
  interfaces := #[]
  cf := some (fileOf pool4 2 #[] #[] 1537 4 #[] #[])
  fields := #[]
  methods := #[]
  instanceTypes := #[]
  staticTypes := #[]
  resolved := Array.replicate 8 none
  statics := none }

/-- the primitive byte -/
def k5 : Class := { plain "byte" none with kind := .primitive 'B', accessFlags := 0x411 }
/-- [B -/
def k6 : Class := { plain "[B" (some 0) with kind := .array 5 .byte, interfaces := #[3, 4], accessFlags := 1041 }

/-- the primitive int -/
def k7 : Class := { plain "int" none with kind := .primitive 'I', accessFlags := 0x411 }
/-- [I -/
def k8 : Class := { plain "[I" (some 0) with kind := .array 7 .int, interfaces := #[3, 4], accessFlags := 1041 }

/-- the primitive long -/
def k9 : Class := { plain "long" none with kind := .primitive 'J', accessFlags := 0x411 }
/-- [J -/
def k10 : Class := { plain "[J" (some 0) with kind := .array 9 .long, interfaces := #[3, 4], accessFlags := 1041 }

def heap : Heap := #[]
def classes : Array Class := #[k0, k1, k2, k3, k4, k5, k6, k7, k8, k9, k10]
def interned : List (Array UInt16 × Addr) := []
def slotsUsed : Nat := 0
def theMethod : MethodId := ⟨1, 1⟩
def args0 : Array Value := #[.int 5]
def aboutOver (below : List Frame) : State where
  vm := { classes := classes, interned := interned.toArray }
  heap := heap
  slotsUsed := slotsUsed
  threads := #[{ frames := .invoking theMethod args0 :: below }]
def below0 : List Frame := [.native { method := ⟨0, 0⟩, args := #[] }]
def about1 : State := aboutOver below0
def p0 : Program := .bare "" "" ""
def e0 : Env := launch0.env 0 0 0
theorem w_frames : about1.frames = Frame.invoking theMethod args0 :: below0 := rfl
set_option maxRecDepth 65536 in
theorem w_args : argsFit about1.vm theMethod args0 = true := by decide +kernel
set_option maxRecDepth 65536 in
theorem w_heap : heapFits about1 = true := by decide +kernel
set_option maxRecDepth 65536 in
theorem w_runnable : about1.curStatus? = some .runnable := by decide +kernel
set_option maxRecDepth 65536 in
theorem w_alone : about1.alone = true := by decide +kernel
set_option maxRecDepth 65536 in
theorem w_named : about1.methodNamed? x = some theMethod := by decide +kernel
set_option maxRecDepth 65536 in
theorem w_hears : about1.hears theMethod below0 = true := by decide +kernel
set_option maxRecDepth 65536 in
theorem w_ripe : about1.ripe theMethod args0 below0 = true := by decide +kernel
theorem w_running : about1.status = .running := rfl
set_option maxRecDepth 65536 in
theorem w_room : about1.hasRoom e0.platform room_1 = true :=
  launch0.hasRoom_least _ room_1 (by decide +kernel) (by decide +kernel) (by decide +kernel) (by decide +kernel) (by decide +kernel) (by decide +kernel)
theorem allAtoms_all (ts : List Jvm.Cond) (a : Array Jvm.Value) (st : Jvm.State) : (allAtoms ts).before a st = ts.all (fun c => c.before a st) := by
  induction ts with
  | nil => rfl
  | cons c t ih =>
    show (Jvm.Cond.and c (allAtoms t)).before a st = _
    rw [Jvm.Cond.before_and, ih, List.all_cons]
def words1 : List Jvm.Cond := Jvm.Cond.code x code maxLocals ret :: tables_1
/-- a 'code' word, met by the world's own term for the bytes: nothing is compared byte by byte -/
theorem code_word {y : MethodName} {bytes : ByteArray} {mx : Nat} {rt : Option FieldType} {a : Array Value} {s : State} {m : MethodId} {meth : Method} {c : Code} (h1 : s.methodNamed? y = some m) (h2 : s.vm.method? m = some meth) (h3 : meth.code = some c) (h4 : c.code = bytes)
    (h5 : (c.maxLocals == mx && c.exceptionTable.isEmpty && decide (c.maxStack ≤ mostOperands) && decide (meth.sig.returnType = rt) && !meth.locks && decide (parseMethodDescriptor y.desc = some meth.sig)) = true) : (Jvm.Cond.code y bytes mx rt).before a s = true := by
  simp only [Bool.and_eq_true, beq_iff_eq, Bool.not_eq_true', decide_eq_true_eq] at h5
  obtain ⟨⟨⟨⟨⟨g1, g2⟩, g3⟩, g4⟩, g5⟩, g6⟩ := h5
  simp [Cond.before, Cond.holds, Cond.value, h1, h2, h3, h4, g1, g2, g3, g4, g5, g6]
def isCode : Jvm.Cond → Bool
  | .code _ _ _ _ => true
  | _ => false
theorem all_split {L : List Jvm.Cond} {P : Jvm.Cond → Bool} (h1 : L.all (fun c => isCode c || P c) = true) (h2 : ∀ c ∈ L.filter isCode, P c = true) : L.all P = true := by
  refine List.all_eq_true.mpr fun c hc => ?_
  have h := List.all_eq_true.mp h1 c hc
  rcases Bool.eq_false_or_eq_true (isCode c) with hi | hi
  · exact h2 c (List.mem_filter.mpr ⟨hc, hi⟩)
  · simpa [hi] using h
set_option maxRecDepth 65536 in
theorem w_c0 : (Jvm.Cond.code x code maxLocals ret).before args0 about1 = true := code_word (m := ⟨1, 1⟩) (meth := k1m1) (c := k1c1) (by decide +kernel) rfl rfl rfl (by decide +kernel)
set_option maxRecDepth 65536 in
theorem w_c1 : (Jvm.Cond.code ({ cls := "com/example/slotweave/slotweave/spectrum/CliquePaths", name := "entries", desc := "(I)J" } : Jvm.MethodName) prog_21_method_4_code (1 : Nat) (Option.some Jvm.ClassFile.FieldType.long)).before args0 about1 = true := code_word (m := ⟨2, 0⟩) (meth := k2m0) (c := k2c0) (by decide +kernel) rfl rfl rfl (by decide +kernel)
def codes1 : List Jvm.Cond := [Jvm.Cond.code x code maxLocals ret, Jvm.Cond.code ({ cls := "com/example/slotweave/slotweave/spectrum/CliquePaths", name := "entries", desc := "(I)J" } : Jvm.MethodName) prog_21_method_4_code (1 : Nat) (Option.some Jvm.ClassFile.FieldType.long)]
set_option maxRecDepth 65536 in
theorem codes_eq : words1.filter isCode = codes1 := rfl
theorem w_codes : ∀ c ∈ words1.filter isCode, c.before args0 about1 = true := by
  rw [codes_eq]
  intro c hc
  simp only [codes1, List.mem_cons, List.not_mem_nil, or_false] at hc
  rcases hc with rfl | rfl
  · exact w_c0
  · exact w_c1
set_option maxRecDepth 65536 in
theorem w_t1 : (words1.take 24).all (fun c => isCode c || c.before args0 about1) = true := by decide +kernel
set_option maxRecDepth 65536 in
theorem w_t2 : (words1.drop 24).all (fun c => isCode c || c.before args0 about1) = true := by decide +kernel
theorem w_tables : (allAtoms (Jvm.Cond.code x code maxLocals ret :: tables_1)).before args0 about1 = true := by
  rw [allAtoms_all]
  show words1.all (fun c => c.before args0 about1) = true
  refine all_split ?_ w_codes
  rw [← List.take_append_drop 24 words1, List.all_append, w_t1, w_t2]
  rfl
set_option maxRecDepth 65536 in
theorem w_case : (Jvm.Cond.and given_1 narrow_1).before args0 about1 = true := by decide +kernel
theorem w_applies : (headSpec (Jvm.Cond.code x code maxLocals ret :: tables_1) room_1).applies x e0.platform about1 = true :=
  (Spec.applies_iff w_frames).mpr ⟨w_running, w_runnable, w_alone, w_named, w_hears, w_ripe, w_room, w_tables⟩
theorem atStart : AtStart classFile x code maxLocals ret World_1 tables_1 room_1 Calls_1 rest_1 Pre_1 launch0 p0 e0 about1 theMethod args0 below0 :=
  ⟨lists_1, trivial, launch0.admits_env _ _ _, launch0.least_env, fairChoices_fair.cas, fairChoices_fair.clock, w_frames, w_args, w_heap, w_applies, trivial, trivial, w_case⟩
end start1
theorem witness_1 : WitnessClaimed_1 := ⟨start1.p0, start1.e0, start1.about1, start1.theMethod, start1.args0, start1.below0, start1.atStart⟩
end Jvm.Pilot.@@N@@
