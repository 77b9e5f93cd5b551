import JvmDerived
import JvmDerived.Pilot.@@N@@Statement
import JvmDerived.Pilot.@@N@@Code
set_option linter.unusedVariables false
set_option linter.unusedSimpArgs false
namespace Jvm.RoadKit
open Sem ClassFile Op Lib Jvm.Stand Jvm.Free Jvm.LawKit
section New
variable {p : Program} {l : Launch} {e : Env} {R : Room} {s : State} {m : MethodId} {args : Array Value} {below : List Frame} {meth : Method} {c : Code} {T : State} {locs : List Loc} {cells slots : Nat}
theorem retI (X : Stand p l e R s m args below meth c T locs cells slots) (hx : p.tables.exec = Jvm.exec) {pc : Nat} {Ls : Array Slot} {z : Int32} {rest : List Value} (hret : meth.sig.returnType = some .int) (hd : decode c.code pc = .ok (.ireturn, 1)) {fs : List Frame}
    (hl : ∀ (f : JFrame) (acts : List Action), f.method = m → f.locked = none → f.entered = [] → (doReturn e (T.setTop f) acts (some (.int z))).1 = T.setFrames fs) : Steps p.tables e below (T.setTop (mkF m pc Ls (.int z :: rest))) (T.setFrames fs) := by
  have hm' : T.vm.method? m = some meth := X.method'
  have hn : narrow .int (.int z) = .int z := rfl
  show Steps p.tables e below (T.setTop { method := m, pc := pc, locals := Ls, stack := _ :: rest, locked := none }) _
  jvm_step X.here [X.here.top, hx, hd, hm', hret, hn]
  first | (intro acts; rw [hl _ acts rfl rfl rfl]) | rw [hl _ _ rfl rfl rfl]
  exact Steps.refl _
theorem retL (X : Stand p l e R s m args below meth c T locs cells slots) (hx : p.tables.exec = Jvm.exec) {pc : Nat} {Ls : Array Slot} {z : Int64} {rest : List Value} (hret : meth.sig.returnType = some .long) (hd : decode c.code pc = .ok (.lreturn, 1)) {fs : List Frame}
    (hl : ∀ (f : JFrame) (acts : List Action), f.method = m → f.locked = none → f.entered = [] → (doReturn e (T.setTop f) acts (some (.long z))).1 = T.setFrames fs) : Steps p.tables e below (T.setTop (mkF m pc Ls (.long z :: rest))) (T.setFrames fs) := by
  have hm' : T.vm.method? m = some meth := X.method'
  have hn : narrow .long (.long z) = .long z := rfl
  show Steps p.tables e below (T.setTop { method := m, pc := pc, locals := Ls, stack := _ :: rest, locked := none }) _
  jvm_step X.here [X.here.top, hx, hd, hm', hret, hn]
  first | (intro acts; rw [hl _ acts rfl rfl rfl]) | rw [hl _ _ rfl rfl rfl]
  exact Steps.refl _
end New
end Jvm.RoadKit
namespace Jvm.Pilot.@@N@@
open Jvm Jvm.ClassFile Sem Op Lib Jvm.Free Jvm.Stand Jvm.LawKit Jvm.RoadKit Bundle Jvm.Pilot.@@N@@.Jvm.D

theorem own_tif {tb : Tables} [Ours tb] {e : Env} {below : List Frame} {T target : State} {m : MethodId} {c : Code} {cd : ClassFile.Cond} {pc : Nat} {Ls : Array Slot} {v : Int32} {rest : List Value} (h : At T m c below) (hx : tb.exec = Jvm.exec)
    (d0 : decode c.code pc = .ok (.ifCond cd 7, 3)) (d1 : decode c.code (pc + 3) = .ok (.iconst 1, 1)) (d2 : decode c.code (pc + 4) = .ok (.goto 4, 3)) (d3 : decode c.code (pc + 7) = .ok (.iconst 0, 1))
    (hr : Steps tb e below (T.setTop (mkF m (pc + 8) Ls (.int (if ifCond.holds cd v = true then 0 else 1) :: rest))) target) :
    Steps tb e below (T.setTop (mkF m pc Ls (.int v :: rest))) target := by
  rcases Bool.eq_false_or_eq_true (ifCond.holds cd v) with hc | hc
  · rw [hc, if_pos rfl] at hr
    refine XS.ifYes h hx rfl (pc0 := pc) (pc' := pc + 7) rfl d0 rfl hc (by omega) (by omega) ?_
    refine XS.iconst h hx rfl d3 ?_
    exact hr
  · rw [hc, if_neg (by decide)] at hr
    refine XS.ifNo h hx rfl d0 rfl hc ?_
    refine XS.iconst h hx rfl d1 ?_
    refine XS.goto h hx rfl (pc0 := pc + 4) (pc' := pc + 8) rfl d2 (by omega) (by omega) ?_
    exact hr
theorem own_tic {tb : Tables} [Ours tb] {e : Env} {below : List Frame} {T target : State} {m : MethodId} {c : Code} {cd : ClassFile.Cond} {pc : Nat} {Ls : Array Slot} {v w : Int32} {rest : List Value} (h : At T m c below) (hx : tb.exec = Jvm.exec)
    (d0 : decode c.code pc = .ok (.if_icmp cd 7, 3)) (d1 : decode c.code (pc + 3) = .ok (.iconst 1, 1)) (d2 : decode c.code (pc + 4) = .ok (.goto 4, 3)) (d3 : decode c.code (pc + 7) = .ok (.iconst 0, 1))
    (hr : Steps tb e below (T.setTop (mkF m (pc + 8) Ls (.int (if if_icmp.holds cd v w = true then 0 else 1) :: rest))) target) :
    Steps tb e below (T.setTop (mkF m pc Ls (.int w :: .int v :: rest))) target := by
  rcases Bool.eq_false_or_eq_true (if_icmp.holds cd v w) with hc | hc
  · rw [hc, if_pos rfl] at hr
    refine XS.icmpYes h hx rfl (pc0 := pc) (pc' := pc + 7) rfl d0 rfl hc (by omega) (by omega) ?_
    refine XS.iconst h hx rfl d3 ?_
    exact hr
  · rw [hc, if_neg (by decide)] at hr
    refine XS.icmpNo h hx rfl d0 rfl hc ?_
    refine XS.iconst h hx rfl d1 ?_
    refine XS.goto h hx rfl (pc0 := pc + 4) (pc' := pc + 8) rfl d2 (by omega) (by omega) ?_
    exact hr
theorem own_tif_ne {tb : Tables} [Ours tb] {e : Env} {below : List Frame} {T target : State} {m : MethodId} {c : Code} {pc : Nat} {Ls : Array Slot} {v : Int32} {rest : List Value} (h : At T m c below) (hx : tb.exec = Jvm.exec)
    (d0 : decode c.code pc = .ok (.ifCond .ne 7, 3)) (d1 : decode c.code (pc + 3) = .ok (.iconst 1, 1)) (d2 : decode c.code (pc + 4) = .ok (.goto 4, 3)) (d3 : decode c.code (pc + 7) = .ok (.iconst 0, 1))
    (hr : Steps tb e below (T.setTop (mkF m (pc + 8) Ls (.int (if v = (0 : Int32) then (1 : Int32) else 0) :: rest))) target) :
    Steps tb e below (T.setTop (mkF m pc Ls (.int v :: rest))) target := by
  refine own_tif h hx d0 d1 d2 d3 ?_
  by_cases hb : v = (0 : Int32)
  · have hh : ifCond.holds .ne v = false := (if0 _ _).trans (teq hb).2
    rw [if_pos hb] at hr; rw [hh]; exact hr
  · have hh : ifCond.holds .ne v = true := (if0 _ _).trans (feq hb).2
    rw [if_neg hb] at hr; rw [hh]; exact hr
theorem own_tic_ne {tb : Tables} [Ours tb] {e : Env} {below : List Frame} {T target : State} {m : MethodId} {c : Code} {pc : Nat} {Ls : Array Slot} {v w : Int32} {rest : List Value} (h : At T m c below) (hx : tb.exec = Jvm.exec)
    (d0 : decode c.code pc = .ok (.if_icmp .ne 7, 3)) (d1 : decode c.code (pc + 3) = .ok (.iconst 1, 1)) (d2 : decode c.code (pc + 4) = .ok (.goto 4, 3)) (d3 : decode c.code (pc + 7) = .ok (.iconst 0, 1))
    (hr : Steps tb e below (T.setTop (mkF m (pc + 8) Ls (.int (if v = w then (1 : Int32) else 0) :: rest))) target) :
    Steps tb e below (T.setTop (mkF m pc Ls (.int w :: .int v :: rest))) target := by
  refine own_tic h hx d0 d1 d2 d3 ?_
  by_cases hb : v = w
  · have hh : if_icmp.holds .ne v w = false := (teq hb).2
    rw [if_pos hb] at hr; rw [hh]; exact hr
  · have hh : if_icmp.holds .ne v w = true := (feq hb).2
    rw [if_neg hb] at hr; rw [hh]; exact hr

def own_occ (s m f : Int32) : Int32 := if s = m then 0 else if (0 : Int32) < f then 1 else 0
def own_pick (i a b c d : Int32) : Int32 := if i = (0 : Int32) then a else if i = (1 : Int32) then b else if i = (2 : Int32) then c else d
def own_dec (n m f a : Int32) : Int32 := if f = m then n else if a = (1 : Int32) then n + (-1 : Int32) else n
def own_inc (n m t b : Int32) : Int32 := if t = m then n else if b = (0 : Int32) then n + (1 : Int32) else n
def own_nam (n m f t a b : Int32) : Int32 := own_inc (own_dec n m f a) m t b
def own_cnt (ex m x c0 c1 c2 c3 : Int32) : Int32 :=
  (((ex + own_occ 0 m (c0 + (if x = (0 : Int32) then (1 : Int32) else 0))) + own_occ 1 m (c1 + (if x = (1 : Int32) then (1 : Int32) else 0))) + own_occ 2 m (c2 + (if x = (2 : Int32) then (1 : Int32) else 0))) + own_occ 3 m (c3 + (if x = (3 : Int32) then (1 : Int32) else 0))
theorem own_and (x : Int32) (k : Nat) (hk : k < 32) (m : Int32) (hm : m.toBitVec.toNat = 2 ^ k - 1) : ∃ n : Nat, n < 2 ^ k ∧ (x &&& m) = Int32.ofNat n := by
  refine ⟨x.toBitVec.toNat % 2 ^ k, Nat.mod_lt _ (Nat.two_pow_pos k), ?_⟩
  apply Int32.toBitVec_inj.mp
  apply BitVec.eq_of_toNat_eq
  rw [Int32.toBitVec_and, BitVec.toNat_and, hm, Nat.and_two_pow_sub_one_eq_mod]
  show _ = (BitVec.ofNat 32 _).toNat
  rw [BitVec.toNat_ofNat]
  exact (Nat.mod_eq_of_lt (Nat.lt_of_lt_of_le (Nat.mod_lt _ (Nat.two_pow_pos k)) (Nat.pow_le_pow_right (by decide) (Nat.le_of_lt hk)))).symm
theorem own_small (x : Int32) : ∃ n : Fin 8, (x &&& (7 : Int32)) = Int32.ofNat n.val := by
  obtain ⟨n, h, e⟩ := own_and x 3 (by decide) 7 rfl
  exact ⟨⟨n, h⟩, e⟩
theorem own_four (x : Int32) : (x &&& (3 : Int32)) = 0 ∨ (x &&& (3 : Int32)) = 1 ∨ (x &&& (3 : Int32)) = 2 ∨ (x &&& (3 : Int32)) = 3 := by
  obtain ⟨n, h, e⟩ := own_and x 2 (by decide) 3 rfl
  rw [e]
  have : ∀ n : Fin 4, Int32.ofNat n.val = 0 ∨ Int32.ofNat n.val = 1 ∨ Int32.ofNat n.val = 2 ∨ Int32.ofNat n.val = 3 := by decide
  exact this ⟨n, h⟩
theorem own_occ1 (i m : Int32) (n : Fin 8) : own_occ i m (Int32.ofNat n.val + 1) = own_occ i m (Int32.ofNat n.val) + (if i = m then 0 else if Int32.ofNat n.val = (0 : Int32) then 1 else 0) := by
  unfold own_occ
  by_cases h : i = m
  · rw [if_pos h, if_pos h, if_pos h]; rfl
  · rw [if_neg h, if_neg h, if_neg h]
    have : ∀ n : Fin 8, (if (0 : Int32) < Int32.ofNat n.val + 1 then (1 : Int32) else 0) = (if (0 : Int32) < Int32.ofNat n.val then (1 : Int32) else 0) + (if Int32.ofNat n.val = (0 : Int32) then 1 else 0) := by decide
    exact this n
def own_d (m x c0 c1 c2 c3 : Int32) : Int32 := if x = m then 0 else if own_pick x c0 c1 c2 c3 = (0 : Int32) then 1 else 0
theorem own_cnt_eq (ex m x : Int32) (n0 n1 n2 n3 : Fin 8) (hx : x = 0 ∨ x = 1 ∨ x = 2 ∨ x = 3) :
    own_cnt ex m x (Int32.ofNat n0.val) (Int32.ofNat n1.val) (Int32.ofNat n2.val) (Int32.ofNat n3.val) = ((((ex + own_occ 0 m (Int32.ofNat n0.val)) + own_occ 1 m (Int32.ofNat n1.val)) + own_occ 2 m (Int32.ofNat n2.val)) + own_occ 3 m (Int32.ofNat n3.val)) + own_d m x (Int32.ofNat n0.val) (Int32.ofNat n1.val) (Int32.ofNat n2.val) (Int32.ofNat n3.val) := by
  have z (a : Int32) : a + 0 = a := Int32.add_zero a
  rcases hx with rfl | rfl | rfl | rfl
  · have e1 : ¬ ((0 : Int32) = 1) := by decide
    have e2 : ¬ ((0 : Int32) = 2) := by decide
    have e3 : ¬ ((0 : Int32) = 3) := by decide
    unfold own_cnt own_d own_pick
    rw [if_pos rfl, if_neg e1, if_neg e2, if_neg e3, own_occ1, z, z, z, if_pos rfl]
    generalize (if (0 : Int32) = m then (0 : Int32) else if Int32.ofNat n0.val = (0 : Int32) then 1 else 0) = d
    ac_rfl
  · have e1 : ¬ ((1 : Int32) = 0) := by decide
    have e2 : ¬ ((1 : Int32) = 2) := by decide
    have e3 : ¬ ((1 : Int32) = 3) := by decide
    unfold own_cnt own_d own_pick
    rw [if_neg e1, if_pos rfl, if_neg e2, if_neg e3, own_occ1, z, z, z, if_neg e1, if_pos rfl]
    generalize (if (1 : Int32) = m then (0 : Int32) else if Int32.ofNat n1.val = (0 : Int32) then 1 else 0) = d
    ac_rfl
  · have e1 : ¬ ((2 : Int32) = 0) := by decide
    have e2 : ¬ ((2 : Int32) = 1) := by decide
    have e3 : ¬ ((2 : Int32) = 3) := by decide
    unfold own_cnt own_d own_pick
    rw [if_neg e1, if_neg e2, if_pos rfl, if_neg e3, own_occ1, z, z, z, if_neg e1, if_neg e2, if_pos rfl]
    generalize (if (2 : Int32) = m then (0 : Int32) else if Int32.ofNat n2.val = (0 : Int32) then 1 else 0) = d
    ac_rfl
  · have e1 : ¬ ((3 : Int32) = 0) := by decide
    have e2 : ¬ ((3 : Int32) = 1) := by decide
    have e3 : ¬ ((3 : Int32) = 2) := by decide
    unfold own_cnt own_d own_pick
    rw [if_neg e1, if_neg e2, if_neg e3, if_pos rfl, own_occ1, z, z, z, if_neg e1, if_neg e2, if_neg e3]
    generalize (if (3 : Int32) = m then (0 : Int32) else if Int32.ofNat n3.val = (0 : Int32) then 1 else 0) = d
    ac_rfl
theorem own_pick8 (x : Int32) (n0 n1 n2 n3 : Fin 8) : ∃ n : Fin 8, own_pick x (Int32.ofNat n0.val) (Int32.ofNat n1.val) (Int32.ofNat n2.val) (Int32.ofNat n3.val) = Int32.ofNat n.val := by
  unfold own_pick
  by_cases h0 : x = (0 : Int32)
  · exact ⟨n0, by rw [if_pos h0]⟩
  · by_cases h1 : x = (1 : Int32)
    · exact ⟨n1, by rw [if_neg h0, if_pos h1]⟩
    · by_cases h2 : x = (2 : Int32)
      · exact ⟨n2, by rw [if_neg h0, if_neg h1, if_pos h2]⟩
      · exact ⟨n3, by rw [if_neg h0, if_neg h1, if_neg h2]⟩
theorem own_one (n : Fin 8) : Int32.ofNat n.val + (1 : Int32) = (1 : Int32) ↔ Int32.ofNat n.val = (0 : Int32) := by
  have : ∀ n : Fin 8, Int32.ofNat n.val + (1 : Int32) = (1 : Int32) ↔ Int32.ofNat n.val = (0 : Int32) := by decide
  exact this n
theorem own_step1 (B bs m f p : Int32) (n : Fin 8) (hp : p = Int32.ofNat n.val) : own_dec (B + (if f = m then 0 else if p = (0 : Int32) then 1 else 0)) (bs + m) (bs + f) (p + 1) = B := by
  unfold own_dec
  by_cases h : f = m
  · rw [if_pos h, if_pos (by rw [h]), Int32.add_zero]
  · rw [if_neg h, if_neg (fun q => h ((Int32.add_right_inj bs).mp q))]
    by_cases h2 : p = (0 : Int32)
    · rw [if_pos h2, if_pos (by rw [h2]; rfl), Int32.add_assoc]
      exact Int32.add_zero B
    · rw [if_neg h2, if_neg (fun q => h2 (by rw [hp] at q ⊢; exact (own_one n).mp q)), Int32.add_zero]
theorem own_step2 (B bs m t p : Int32) : own_inc B (bs + m) (bs + t) p = B + (if t = m then 0 else if p = (0 : Int32) then 1 else 0) := by
  unfold own_inc
  by_cases h : t = m
  · rw [if_pos h, if_pos (by rw [h]), Int32.add_zero]
  · rw [if_neg h, if_neg (fun q => h ((Int32.add_right_inj bs).mp q))]
    by_cases h2 : p = (0 : Int32)
    · rw [if_pos h2, if_pos h2]
    · rw [if_neg h2, if_neg h2, Int32.add_zero]
theorem own_law (ex bs m f t c0 c1 c2 c3 : Int32) (h0 : ∃ n : Fin 8, c0 = Int32.ofNat n.val) (h1 : ∃ n : Fin 8, c1 = Int32.ofNat n.val) (h2 : ∃ n : Fin 8, c2 = Int32.ofNat n.val) (h3 : ∃ n : Fin 8, c3 = Int32.ofNat n.val)
    (hf : f = 0 ∨ f = 1 ∨ f = 2 ∨ f = 3) (ht : t = 0 ∨ t = 1 ∨ t = 2 ∨ t = 3) :
    own_nam (own_cnt ex m f c0 c1 c2 c3) (bs + m) (bs + f) (bs + t) (own_pick f c0 c1 c2 c3 + (1 : Int32)) (own_pick t c0 c1 c2 c3) = own_cnt ex m t c0 c1 c2 c3 := by
  obtain ⟨n0, rfl⟩ := h0
  obtain ⟨n1, rfl⟩ := h1
  obtain ⟨n2, rfl⟩ := h2
  obtain ⟨n3, rfl⟩ := h3
  obtain ⟨n, hn⟩ := own_pick8 f n0 n1 n2 n3
  rw [own_cnt_eq ex m f n0 n1 n2 n3 hf, own_cnt_eq ex m t n0 n1 n2 n3 ht]
  unfold own_nam own_d
  rw [own_step1 _ bs m f _ n hn, own_step2]
theorem d1_0 : decode method_3_code 0 = .ok (.iload_n 0, 1) := by decide +kernel
theorem d1_1 : decode method_3_code 1 = .ok (.iload_n 1, 1) := by decide +kernel
theorem d1_2 : decode method_3_code 2 = .ok (.if_icmp .eq 9, 3) := by decide +kernel
theorem d1_11 : decode method_3_code 11 = .ok (.iconst 0, 1) := by decide +kernel
theorem d1_12 : decode method_3_code 12 = .ok (.ireturn, 1) := by decide +kernel
theorem pn_1 : plainName "com/example/starling/starling/placement/PlacementNeededAfterMovePinLaw" = true := by first | (simp [plainName, overriddenIn]; done) | decide +kernel
theorem ef_1 (m : MethodId) (x0 : Int32) (x1 : Int32) (x2 : Int32) : entryFrame m #[(.int x0), (.int x1), (.int x2)] 3 = mkF m 0 #[.val (.int x0), .val (.int x1), .val (.int x2)] [] := by first | (simp [entryFrame, mkF, argsToLocals, Value.category]; done) | rfl
def Q1 (Z : State) (p1 : Int32) (p2 : Int32) (p3 : Int32) (h0 : Heap) (n0 : Nat) (v : Option Value) (h : Heap) (L : List Loc) : Prop := v = some (.int (own_occ p1 p2 p3)) ∧ Fr n0 L ∧ h = h0
set_option maxRecDepth 65536 in
set_option maxHeartbeats 40000000 in
theorem rm1a (l : Launch) (Z : State) (a0 : Array Value) (hw : ∀ d ∈ tables_1, d.before a0 Z = true) (ws : List Jvm.Cond) (p1 : Int32) (p2 : Int32) (p3 : Int32) (h0 : Heap) (n0 : Nat) (Z0 : n0 ≤ h0.size) (hc2 : p1 = p2) :
    MetFree l (⟨"com/example/starling/starling/placement/PlacementNeededAfterMovePinLaw", "occ", "(III)I"⟩ : MethodName) (head1 (Jvm.Cond.code (⟨"com/example/starling/starling/placement/PlacementNeededAfterMovePinLaw", "occ", "(III)I"⟩ : MethodName) method_3_code 3 (some .int) :: ws) ({ frames := 0, cells := 0, slots := 0, locals := 0 } : Room)) (fun a U => a = #[(.int p1), (.int p2), (.int p3)] ∧ Z.Warmed39 U.vm ∧ U.heap = h0) (fun _ _ _ _ _ => True) (fun _ U o U' => ∃ v L, o = .returned v ∧ Q1 Z p1 p2 p3 h0 n0 v U'.heap L ∧ FrameEnd U o U' L ({ frames := 0, cells := 0, slots := 0, locals := 0 } : Room).cells ({ frames := 0, cells := 0, slots := 0, locals := 0 } : Room).slots) := by
  refine MetFree.of_bodySF (plainFor_of_name pn_1) hisR ?_
  intro p e s m args below meth c s₁ Bd hml0 hP hK
  obtain ⟨rfl, hZ, hh⟩ := hP
  have hx := Bd.exec
  have hby := Bd.bytes
  have hml : c.maxLocals = 3 := hml0
  have hown : s.vm.findClass "com/example/starling/starling/placement/PlacementNeededAfterMovePinLaw" = some m.cls := findClass_of_methodNamed Bd.named
  have hnm := (name_of_methodNamed Bd.named Bd.method).1
  have X0 : Stand p l e ({ frames := 0, cells := 0, slots := 0, locals := 0 } : Room) s m #[(.int p1), (.int p2), (.int p3)] below meth c s₁ [] 0 0 := Stand.of_body Bd
  have e0 : s₁.heap = h0 := by rw [← hh, Bd.state]; rfl
  have N0 := Fr.nil n0
  have pre0 : ∀ t, Steps p.tables e below (s₁.setTop (mkF m 0 #[.val (.int p1), .val (.int p2), .val (.int p3)] [])) t → Steps p.tables e below (s₁.setTop (entryFrame m #[(.int p1), (.int p2), (.int p3)] 3)) t := fun t k => castTop (ef_1 m p1 p2 p3) k

  obtain ⟨fs, hr, hrun, hended, hW, hsame⟩ := X0.leave (v := some (.int (0 : Int32))) (fun h => by rw [Bd.returns] at h; cases h)
  refine ⟨_, _, pre0 _ ?_, hrun, hended, _, _, rfl, ?_, ⟨_, rfl⟩, hW, hsame.mono (by decide) (by decide)⟩
  · show Steps p.tables e below (s₁.setTop (mkF m 0 #[.val (.int p1), .val (.int p2), .val (.int p3)] [])) _
    refine XS.iloadN X0.here hx rfl (hb hby d1_0) rfl ?_
    show Steps p.tables e below (s₁.setTop (mkF m 1 #[.val (.int p1), .val (.int p2), .val (.int p3)] [(.int p1)])) _
    refine XS.iloadN X0.here hx rfl (hb hby d1_1) rfl ?_
    show Steps p.tables e below (s₁.setTop (mkF m 2 #[.val (.int p1), .val (.int p2), .val (.int p3)] [(.int p2), (.int p1)])) _
    refine XS.icmpYes X0.here hx rfl (pc0 := 2) (pc' := 11) rfl (hb hby d1_2) rfl (teq hc2).1 (by decide) (by decide) ?_
    show Steps p.tables e below (s₁.setTop (mkF m 11 #[.val (.int p1), .val (.int p2), .val (.int p3)] [])) _
    refine XS.iconst X0.here hx rfl (hb hby d1_11) ?_
    show Steps p.tables e below (s₁.setTop (mkF m 12 #[.val (.int p1), .val (.int p2), .val (.int p3)] [(.int (0 : Int32))])) _
    exact retI X0 hx Bd.returns (hb hby d1_12) hr
  · show Q1 Z p1 p2 p3 h0 n0 _ s₁.heap _
    rw [e0]
    exact ⟨by rw [own_occ, if_pos hc2], N0, rfl⟩
theorem d1_5 : decode method_3_code 5 = .ok (.iload_n 2, 1) := by decide +kernel
theorem d1_6 : decode method_3_code 6 = .ok (.ifCond .le 5, 3) := by decide +kernel
theorem d1_9 : decode method_3_code 9 = .ok (.iconst 1, 1) := by decide +kernel
theorem d1_10 : decode method_3_code 10 = .ok (.ireturn, 1) := by decide +kernel

set_option maxRecDepth 65536 in
set_option maxHeartbeats 40000000 in
theorem rm1b (l : Launch) (Z : State) (a0 : Array Value) (hw : ∀ d ∈ tables_1, d.before a0 Z = true) (ws : List Jvm.Cond) (p1 : Int32) (p2 : Int32) (p3 : Int32) (h0 : Heap) (n0 : Nat) (Z0 : n0 ≤ h0.size) (hc2 : ¬ (p1 = p2)) (hc6 : (0 : Int32) < p3) :
    MetFree l (⟨"com/example/starling/starling/placement/PlacementNeededAfterMovePinLaw", "occ", "(III)I"⟩ : MethodName) (head1 (Jvm.Cond.code (⟨"com/example/starling/starling/placement/PlacementNeededAfterMovePinLaw", "occ", "(III)I"⟩ : MethodName) method_3_code 3 (some .int) :: ws) ({ frames := 0, cells := 0, slots := 0, locals := 0 } : Room)) (fun a U => a = #[(.int p1), (.int p2), (.int p3)] ∧ Z.Warmed39 U.vm ∧ U.heap = h0) (fun _ _ _ _ _ => True) (fun _ U o U' => ∃ v L, o = .returned v ∧ Q1 Z p1 p2 p3 h0 n0 v U'.heap L ∧ FrameEnd U o U' L ({ frames := 0, cells := 0, slots := 0, locals := 0 } : Room).cells ({ frames := 0, cells := 0, slots := 0, locals := 0 } : Room).slots) := by
  refine MetFree.of_bodySF (plainFor_of_name pn_1) hisR ?_
  intro p e s m args below meth c s₁ Bd hml0 hP hK
  obtain ⟨rfl, hZ, hh⟩ := hP
  have hx := Bd.exec
  have hby := Bd.bytes
  have hml : c.maxLocals = 3 := hml0
  have hown : s.vm.findClass "com/example/starling/starling/placement/PlacementNeededAfterMovePinLaw" = some m.cls := findClass_of_methodNamed Bd.named
  have hnm := (name_of_methodNamed Bd.named Bd.method).1
  have X0 : Stand p l e ({ frames := 0, cells := 0, slots := 0, locals := 0 } : Room) s m #[(.int p1), (.int p2), (.int p3)] below meth c s₁ [] 0 0 := Stand.of_body Bd
  have e0 : s₁.heap = h0 := by rw [← hh, Bd.state]; rfl
  have N0 := Fr.nil n0
  have pre0 : ∀ t, Steps p.tables e below (s₁.setTop (mkF m 0 #[.val (.int p1), .val (.int p2), .val (.int p3)] [])) t → Steps p.tables e below (s₁.setTop (entryFrame m #[(.int p1), (.int p2), (.int p3)] 3)) t := fun t k => castTop (ef_1 m p1 p2 p3) k

  obtain ⟨fs, hr, hrun, hended, hW, hsame⟩ := X0.leave (v := some (.int (1 : Int32))) (fun h => by rw [Bd.returns] at h; cases h)
  refine ⟨_, _, pre0 _ ?_, hrun, hended, _, _, rfl, ?_, ⟨_, rfl⟩, hW, hsame.mono (by decide) (by decide)⟩
  · show Steps p.tables e below (s₁.setTop (mkF m 0 #[.val (.int p1), .val (.int p2), .val (.int p3)] [])) _
    refine XS.iloadN X0.here hx rfl (hb hby d1_0) rfl ?_
    show Steps p.tables e below (s₁.setTop (mkF m 1 #[.val (.int p1), .val (.int p2), .val (.int p3)] [(.int p1)])) _
    refine XS.iloadN X0.here hx rfl (hb hby d1_1) rfl ?_
    show Steps p.tables e below (s₁.setTop (mkF m 2 #[.val (.int p1), .val (.int p2), .val (.int p3)] [(.int p2), (.int p1)])) _
    refine XS.icmpNo X0.here hx rfl (hb hby d1_2) rfl (feq hc2).1 ?_
    show Steps p.tables e below (s₁.setTop (mkF m 5 #[.val (.int p1), .val (.int p2), .val (.int p3)] [])) _
    refine XS.iloadN X0.here hx rfl (hb hby d1_5) rfl ?_
    show Steps p.tables e below (s₁.setTop (mkF m 6 #[.val (.int p1), .val (.int p2), .val (.int p3)] [(.int p3)])) _
    refine XS.ifNo X0.here hx rfl (hb hby d1_6) rfl ((if0 _ _).trans (tlt hc6).2.2.2) ?_
    show Steps p.tables e below (s₁.setTop (mkF m 9 #[.val (.int p1), .val (.int p2), .val (.int p3)] [])) _
    refine XS.iconst X0.here hx rfl (hb hby d1_9) ?_
    show Steps p.tables e below (s₁.setTop (mkF m 10 #[.val (.int p1), .val (.int p2), .val (.int p3)] [(.int (1 : Int32))])) _
    exact retI X0 hx Bd.returns (hb hby d1_10) hr
  · show Q1 Z p1 p2 p3 h0 n0 _ s₁.heap _
    rw [e0]
    exact ⟨by rw [own_occ, if_neg hc2, if_pos hc6], N0, rfl⟩

set_option maxRecDepth 65536 in
set_option maxHeartbeats 40000000 in
theorem rm1c (l : Launch) (Z : State) (a0 : Array Value) (hw : ∀ d ∈ tables_1, d.before a0 Z = true) (ws : List Jvm.Cond) (p1 : Int32) (p2 : Int32) (p3 : Int32) (h0 : Heap) (n0 : Nat) (Z0 : n0 ≤ h0.size) (hc2 : ¬ (p1 = p2)) (hc6 : ¬ ((0 : Int32) < p3)) :
    MetFree l (⟨"com/example/starling/starling/placement/PlacementNeededAfterMovePinLaw", "occ", "(III)I"⟩ : MethodName) (head1 (Jvm.Cond.code (⟨"com/example/starling/starling/placement/PlacementNeededAfterMovePinLaw", "occ", "(III)I"⟩ : MethodName) method_3_code 3 (some .int) :: ws) ({ frames := 0, cells := 0, slots := 0, locals := 0 } : Room)) (fun a U => a = #[(.int p1), (.int p2), (.int p3)] ∧ Z.Warmed39 U.vm ∧ U.heap = h0) (fun _ _ _ _ _ => True) (fun _ U o U' => ∃ v L, o = .returned v ∧ Q1 Z p1 p2 p3 h0 n0 v U'.heap L ∧ FrameEnd U o U' L ({ frames := 0, cells := 0, slots := 0, locals := 0 } : Room).cells ({ frames := 0, cells := 0, slots := 0, locals := 0 } : Room).slots) := by
  refine MetFree.of_bodySF (plainFor_of_name pn_1) hisR ?_
  intro p e s m args below meth c s₁ Bd hml0 hP hK
  obtain ⟨rfl, hZ, hh⟩ := hP
  have hx := Bd.exec
  have hby := Bd.bytes
  have hml : c.maxLocals = 3 := hml0
  have hown : s.vm.findClass "com/example/starling/starling/placement/PlacementNeededAfterMovePinLaw" = some m.cls := findClass_of_methodNamed Bd.named
  have hnm := (name_of_methodNamed Bd.named Bd.method).1
  have X0 : Stand p l e ({ frames := 0, cells := 0, slots := 0, locals := 0 } : Room) s m #[(.int p1), (.int p2), (.int p3)] below meth c s₁ [] 0 0 := Stand.of_body Bd
  have e0 : s₁.heap = h0 := by rw [← hh, Bd.state]; rfl
  have N0 := Fr.nil n0
  have pre0 : ∀ t, Steps p.tables e below (s₁.setTop (mkF m 0 #[.val (.int p1), .val (.int p2), .val (.int p3)] [])) t → Steps p.tables e below (s₁.setTop (entryFrame m #[(.int p1), (.int p2), (.int p3)] 3)) t := fun t k => castTop (ef_1 m p1 p2 p3) k

  obtain ⟨fs, hr, hrun, hended, hW, hsame⟩ := X0.leave (v := some (.int (0 : Int32))) (fun h => by rw [Bd.returns] at h; cases h)
  refine ⟨_, _, pre0 _ ?_, hrun, hended, _, _, rfl, ?_, ⟨_, rfl⟩, hW, hsame.mono (by decide) (by decide)⟩
  · show Steps p.tables e below (s₁.setTop (mkF m 0 #[.val (.int p1), .val (.int p2), .val (.int p3)] [])) _
    refine XS.iloadN X0.here hx rfl (hb hby d1_0) rfl ?_
    show Steps p.tables e below (s₁.setTop (mkF m 1 #[.val (.int p1), .val (.int p2), .val (.int p3)] [(.int p1)])) _
    refine XS.iloadN X0.here hx rfl (hb hby d1_1) rfl ?_
    show Steps p.tables e below (s₁.setTop (mkF m 2 #[.val (.int p1), .val (.int p2), .val (.int p3)] [(.int p2), (.int p1)])) _
    refine XS.icmpNo X0.here hx rfl (hb hby d1_2) rfl (feq hc2).1 ?_
    show Steps p.tables e below (s₁.setTop (mkF m 5 #[.val (.int p1), .val (.int p2), .val (.int p3)] [])) _
    refine XS.iloadN X0.here hx rfl (hb hby d1_5) rfl ?_
    show Steps p.tables e below (s₁.setTop (mkF m 6 #[.val (.int p1), .val (.int p2), .val (.int p3)] [(.int p3)])) _
    refine XS.ifYes X0.here hx rfl (pc0 := 6) (pc' := 11) rfl (hb hby d1_6) rfl ((if0 _ _).trans (flt hc6).2.2.2) (by decide) (by decide) ?_
    show Steps p.tables e below (s₁.setTop (mkF m 11 #[.val (.int p1), .val (.int p2), .val (.int p3)] [])) _
    refine XS.iconst X0.here hx rfl (hb hby d1_11) ?_
    show Steps p.tables e below (s₁.setTop (mkF m 12 #[.val (.int p1), .val (.int p2), .val (.int p3)] [(.int (0 : Int32))])) _
    exact retI X0 hx Bd.returns (hb hby d1_12) hr
  · show Q1 Z p1 p2 p3 h0 n0 _ s₁.heap _
    rw [e0]
    exact ⟨by rw [own_occ, if_neg hc2, if_neg hc6], N0, rfl⟩
set_option maxRecDepth 65536 in
set_option maxHeartbeats 40000000 in
theorem rm1 (l : Launch) (Z : State) (a0 : Array Value) (hw : ∀ d ∈ tables_1, d.before a0 Z = true) (ws : List Jvm.Cond) (p1 : Int32) (p2 : Int32) (p3 : Int32) (h0 : Heap) (n0 : Nat) (Z0 : n0 ≤ h0.size) :
    MetFree l (⟨"com/example/starling/starling/placement/PlacementNeededAfterMovePinLaw", "occ", "(III)I"⟩ : MethodName) (head1 (Jvm.Cond.code (⟨"com/example/starling/starling/placement/PlacementNeededAfterMovePinLaw", "occ", "(III)I"⟩ : MethodName) method_3_code 3 (some .int) :: ws) ({ frames := 0, cells := 0, slots := 0, locals := 0 } : Room)) (fun a U => a = #[(.int p1), (.int p2), (.int p3)] ∧ Z.Warmed39 U.vm ∧ U.heap = h0) (fun _ _ _ _ _ => True) (fun _ U o U' => ∃ v L, o = .returned v ∧ Q1 Z p1 p2 p3 h0 n0 v U'.heap L ∧ FrameEnd U o U' L ({ frames := 0, cells := 0, slots := 0, locals := 0 } : Room).cells ({ frames := 0, cells := 0, slots := 0, locals := 0 } : Room).slots) := by
  by_cases hc2 : p1 = p2
  · exact rm1a l Z a0 hw ws p1 p2 p3 h0 n0 Z0 hc2
  · by_cases hc6 : (0 : Int32) < p3
    · exact rm1b l Z a0 hw ws p1 p2 p3 h0 n0 Z0 hc2 hc6
    · exact rm1c l Z a0 hw ws p1 p2 p3 h0 n0 Z0 hc2 hc6
theorem d2_0 : decode method_4_code 0 = .ok (.iload_n 0, 1) := by decide +kernel
theorem d2_1 : decode method_4_code 1 = .ok (.ifCond .ne 5, 3) := by decide +kernel
theorem d2_4 : decode method_4_code 4 = .ok (.iload_n 1, 1) := by decide +kernel
theorem d2_5 : decode method_4_code 5 = .ok (.ireturn, 1) := by decide +kernel
theorem pn_2 : plainName "com/example/starling/starling/placement/PlacementNeededAfterMovePinLaw" = true := by first | (simp [plainName, overriddenIn]; done) | decide +kernel
theorem ef_2 (m : MethodId) (x0 : Int32) (x1 : Int32) (x2 : Int32) (x3 : Int32) (x4 : Int32) : entryFrame m #[(.int x0), (.int x1), (.int x2), (.int x3), (.int x4)] 5 = mkF m 0 #[.val (.int x0), .val (.int x1), .val (.int x2), .val (.int x3), .val (.int x4)] [] := by first | (simp [entryFrame, mkF, argsToLocals, Value.category]; done) | rfl
def Q2 (Z : State) (p1 : Int32) (p2 : Int32) (p3 : Int32) (p4 : Int32) (p5 : Int32) (h0 : Heap) (n0 : Nat) (v : Option Value) (h : Heap) (L : List Loc) : Prop := v = some (.int (own_pick p1 p2 p3 p4 p5)) ∧ Fr n0 L ∧ h = h0
set_option maxRecDepth 65536 in
set_option maxHeartbeats 40000000 in
theorem rm2a (l : Launch) (Z : State) (a0 : Array Value) (hw : ∀ d ∈ tables_1, d.before a0 Z = true) (ws : List Jvm.Cond) (p1 : Int32) (p2 : Int32) (p3 : Int32) (p4 : Int32) (p5 : Int32) (h0 : Heap) (n0 : Nat) (Z0 : n0 ≤ h0.size) (hc1 : p1 = (0 : Int32)) :
    MetFree l (⟨"com/example/starling/starling/placement/PlacementNeededAfterMovePinLaw", "pick", "(IIIII)I"⟩ : MethodName) (head1 (Jvm.Cond.code (⟨"com/example/starling/starling/placement/PlacementNeededAfterMovePinLaw", "pick", "(IIIII)I"⟩ : MethodName) method_4_code 5 (some .int) :: ws) ({ frames := 0, cells := 0, slots := 0, locals := 0 } : Room)) (fun a U => a = #[(.int p1), (.int p2), (.int p3), (.int p4), (.int p5)] ∧ Z.Warmed39 U.vm ∧ U.heap = h0) (fun _ _ _ _ _ => True) (fun _ U o U' => ∃ v L, o = .returned v ∧ Q2 Z p1 p2 p3 p4 p5 h0 n0 v U'.heap L ∧ FrameEnd U o U' L ({ frames := 0, cells := 0, slots := 0, locals := 0 } : Room).cells ({ frames := 0, cells := 0, slots := 0, locals := 0 } : Room).slots) := by
  refine MetFree.of_bodySF (plainFor_of_name pn_2) hisR ?_
  intro p e s m args below meth c s₁ Bd hml0 hP hK
  obtain ⟨rfl, hZ, hh⟩ := hP
  have hx := Bd.exec
  have hby := Bd.bytes
  have hml : c.maxLocals = 5 := hml0
  have hown : s.vm.findClass "com/example/starling/starling/placement/PlacementNeededAfterMovePinLaw" = some m.cls := findClass_of_methodNamed Bd.named
  have hnm := (name_of_methodNamed Bd.named Bd.method).1
  have X0 : Stand p l e ({ frames := 0, cells := 0, slots := 0, locals := 0 } : Room) s m #[(.int p1), (.int p2), (.int p3), (.int p4), (.int p5)] below meth c s₁ [] 0 0 := Stand.of_body Bd
  have e0 : s₁.heap = h0 := by rw [← hh, Bd.state]; rfl
  have N0 := Fr.nil n0
  have pre0 : ∀ t, Steps p.tables e below (s₁.setTop (mkF m 0 #[.val (.int p1), .val (.int p2), .val (.int p3), .val (.int p4), .val (.int p5)] [])) t → Steps p.tables e below (s₁.setTop (entryFrame m #[(.int p1), (.int p2), (.int p3), (.int p4), (.int p5)] 5)) t := fun t k => castTop (ef_2 m p1 p2 p3 p4 p5) k

  obtain ⟨fs, hr, hrun, hended, hW, hsame⟩ := X0.leave (v := some (.int p2)) (fun h => by rw [Bd.returns] at h; cases h)
  refine ⟨_, _, pre0 _ ?_, hrun, hended, _, _, rfl, ?_, ⟨_, rfl⟩, hW, hsame.mono (by decide) (by decide)⟩
  · show Steps p.tables e below (s₁.setTop (mkF m 0 #[.val (.int p1), .val (.int p2), .val (.int p3), .val (.int p4), .val (.int p5)] [])) _
    refine XS.iloadN X0.here hx rfl (hb hby d2_0) rfl ?_
    show Steps p.tables e below (s₁.setTop (mkF m 1 #[.val (.int p1), .val (.int p2), .val (.int p3), .val (.int p4), .val (.int p5)] [(.int p1)])) _
    refine XS.ifNo X0.here hx rfl (hb hby d2_1) rfl ((if0 _ _).trans (teq hc1).2) ?_
    show Steps p.tables e below (s₁.setTop (mkF m 4 #[.val (.int p1), .val (.int p2), .val (.int p3), .val (.int p4), .val (.int p5)] [])) _
    refine XS.iloadN X0.here hx rfl (hb hby d2_4) rfl ?_
    show Steps p.tables e below (s₁.setTop (mkF m 5 #[.val (.int p1), .val (.int p2), .val (.int p3), .val (.int p4), .val (.int p5)] [(.int p2)])) _
    exact retI X0 hx Bd.returns (hb hby d2_5) hr
  · show Q2 Z p1 p2 p3 p4 p5 h0 n0 _ s₁.heap _
    rw [e0]
    exact ⟨by rw [own_pick, if_pos hc1], N0, rfl⟩
theorem d2_6 : decode method_4_code 6 = .ok (.iload_n 0, 1) := by decide +kernel
theorem d2_7 : decode method_4_code 7 = .ok (.iconst 1, 1) := by decide +kernel
theorem d2_8 : decode method_4_code 8 = .ok (.if_icmp .ne 5, 3) := by decide +kernel
theorem d2_11 : decode method_4_code 11 = .ok (.iload_n 2, 1) := by decide +kernel
theorem d2_12 : decode method_4_code 12 = .ok (.ireturn, 1) := by decide +kernel

set_option maxRecDepth 65536 in
set_option maxHeartbeats 40000000 in
theorem rm2b (l : Launch) (Z : State) (a0 : Array Value) (hw : ∀ d ∈ tables_1, d.before a0 Z = true) (ws : List Jvm.Cond) (p1 : Int32) (p2 : Int32) (p3 : Int32) (p4 : Int32) (p5 : Int32) (h0 : Heap) (n0 : Nat) (Z0 : n0 ≤ h0.size) (hc1 : ¬ (p1 = (0 : Int32))) (hc8 : p1 = (1 : Int32)) :
    MetFree l (⟨"com/example/starling/starling/placement/PlacementNeededAfterMovePinLaw", "pick", "(IIIII)I"⟩ : MethodName) (head1 (Jvm.Cond.code (⟨"com/example/starling/starling/placement/PlacementNeededAfterMovePinLaw", "pick", "(IIIII)I"⟩ : MethodName) method_4_code 5 (some .int) :: ws) ({ frames := 0, cells := 0, slots := 0, locals := 0 } : Room)) (fun a U => a = #[(.int p1), (.int p2), (.int p3), (.int p4), (.int p5)] ∧ Z.Warmed39 U.vm ∧ U.heap = h0) (fun _ _ _ _ _ => True) (fun _ U o U' => ∃ v L, o = .returned v ∧ Q2 Z p1 p2 p3 p4 p5 h0 n0 v U'.heap L ∧ FrameEnd U o U' L ({ frames := 0, cells := 0, slots := 0, locals := 0 } : Room).cells ({ frames := 0, cells := 0, slots := 0, locals := 0 } : Room).slots) := by
  refine MetFree.of_bodySF (plainFor_of_name pn_2) hisR ?_
  intro p e s m args below meth c s₁ Bd hml0 hP hK
  obtain ⟨rfl, hZ, hh⟩ := hP
  have hx := Bd.exec
  have hby := Bd.bytes
  have hml : c.maxLocals = 5 := hml0
  have hown : s.vm.findClass "com/example/starling/starling/placement/PlacementNeededAfterMovePinLaw" = some m.cls := findClass_of_methodNamed Bd.named
  have hnm := (name_of_methodNamed Bd.named Bd.method).1
  have X0 : Stand p l e ({ frames := 0, cells := 0, slots := 0, locals := 0 } : Room) s m #[(.int p1), (.int p2), (.int p3), (.int p4), (.int p5)] below meth c s₁ [] 0 0 := Stand.of_body Bd
  have e0 : s₁.heap = h0 := by rw [← hh, Bd.state]; rfl
  have N0 := Fr.nil n0
  have pre0 : ∀ t, Steps p.tables e below (s₁.setTop (mkF m 0 #[.val (.int p1), .val (.int p2), .val (.int p3), .val (.int p4), .val (.int p5)] [])) t → Steps p.tables e below (s₁.setTop (entryFrame m #[(.int p1), (.int p2), (.int p3), (.int p4), (.int p5)] 5)) t := fun t k => castTop (ef_2 m p1 p2 p3 p4 p5) k

  obtain ⟨fs, hr, hrun, hended, hW, hsame⟩ := X0.leave (v := some (.int p3)) (fun h => by rw [Bd.returns] at h; cases h)
  refine ⟨_, _, pre0 _ ?_, hrun, hended, _, _, rfl, ?_, ⟨_, rfl⟩, hW, hsame.mono (by decide) (by decide)⟩
  · show Steps p.tables e below (s₁.setTop (mkF m 0 #[.val (.int p1), .val (.int p2), .val (.int p3), .val (.int p4), .val (.int p5)] [])) _
    refine XS.iloadN X0.here hx rfl (hb hby d2_0) rfl ?_
    show Steps p.tables e below (s₁.setTop (mkF m 1 #[.val (.int p1), .val (.int p2), .val (.int p3), .val (.int p4), .val (.int p5)] [(.int p1)])) _
    refine XS.ifYes X0.here hx rfl (pc0 := 1) (pc' := 6) rfl (hb hby d2_1) rfl ((if0 _ _).trans (feq hc1).2) (by decide) (by decide) ?_
    show Steps p.tables e below (s₁.setTop (mkF m 6 #[.val (.int p1), .val (.int p2), .val (.int p3), .val (.int p4), .val (.int p5)] [])) _
    refine XS.iloadN X0.here hx rfl (hb hby d2_6) rfl ?_
    show Steps p.tables e below (s₁.setTop (mkF m 7 #[.val (.int p1), .val (.int p2), .val (.int p3), .val (.int p4), .val (.int p5)] [(.int p1)])) _
    refine XS.iconst X0.here hx rfl (hb hby d2_7) ?_
    show Steps p.tables e below (s₁.setTop (mkF m 8 #[.val (.int p1), .val (.int p2), .val (.int p3), .val (.int p4), .val (.int p5)] [(.int (1 : Int32)), (.int p1)])) _
    refine XS.icmpNo X0.here hx rfl (hb hby d2_8) rfl (teq hc8).2 ?_
    show Steps p.tables e below (s₁.setTop (mkF m 11 #[.val (.int p1), .val (.int p2), .val (.int p3), .val (.int p4), .val (.int p5)] [])) _
    refine XS.iloadN X0.here hx rfl (hb hby d2_11) rfl ?_
    show Steps p.tables e below (s₁.setTop (mkF m 12 #[.val (.int p1), .val (.int p2), .val (.int p3), .val (.int p4), .val (.int p5)] [(.int p3)])) _
    exact retI X0 hx Bd.returns (hb hby d2_12) hr
  · show Q2 Z p1 p2 p3 p4 p5 h0 n0 _ s₁.heap _
    rw [e0]
    exact ⟨by rw [own_pick, if_neg hc1, if_pos hc8], N0, rfl⟩
theorem d2_13 : decode method_4_code 13 = .ok (.iload_n 0, 1) := by decide +kernel
theorem d2_14 : decode method_4_code 14 = .ok (.iconst 2, 1) := by decide +kernel
theorem d2_15 : decode method_4_code 15 = .ok (.if_icmp .ne 5, 3) := by decide +kernel
theorem d2_18 : decode method_4_code 18 = .ok (.iload_n 3, 1) := by decide +kernel
theorem d2_19 : decode method_4_code 19 = .ok (.ireturn, 1) := by decide +kernel

set_option maxRecDepth 65536 in
set_option maxHeartbeats 40000000 in
theorem rm2c (l : Launch) (Z : State) (a0 : Array Value) (hw : ∀ d ∈ tables_1, d.before a0 Z = true) (ws : List Jvm.Cond) (p1 : Int32) (p2 : Int32) (p3 : Int32) (p4 : Int32) (p5 : Int32) (h0 : Heap) (n0 : Nat) (Z0 : n0 ≤ h0.size) (hc1 : ¬ (p1 = (0 : Int32))) (hc8 : ¬ (p1 = (1 : Int32))) (hc15 : p1 = (2 : Int32)) :
    MetFree l (⟨"com/example/starling/starling/placement/PlacementNeededAfterMovePinLaw", "pick", "(IIIII)I"⟩ : MethodName) (head1 (Jvm.Cond.code (⟨"com/example/starling/starling/placement/PlacementNeededAfterMovePinLaw", "pick", "(IIIII)I"⟩ : MethodName) method_4_code 5 (some .int) :: ws) ({ frames := 0, cells := 0, slots := 0, locals := 0 } : Room)) (fun a U => a = #[(.int p1), (.int p2), (.int p3), (.int p4), (.int p5)] ∧ Z.Warmed39 U.vm ∧ U.heap = h0) (fun _ _ _ _ _ => True) (fun _ U o U' => ∃ v L, o = .returned v ∧ Q2 Z p1 p2 p3 p4 p5 h0 n0 v U'.heap L ∧ FrameEnd U o U' L ({ frames := 0, cells := 0, slots := 0, locals := 0 } : Room).cells ({ frames := 0, cells := 0, slots := 0, locals := 0 } : Room).slots) := by
  refine MetFree.of_bodySF (plainFor_of_name pn_2) hisR ?_
  intro p e s m args below meth c s₁ Bd hml0 hP hK
  obtain ⟨rfl, hZ, hh⟩ := hP
  have hx := Bd.exec
  have hby := Bd.bytes
  have hml : c.maxLocals = 5 := hml0
  have hown : s.vm.findClass "com/example/starling/starling/placement/PlacementNeededAfterMovePinLaw" = some m.cls := findClass_of_methodNamed Bd.named
  have hnm := (name_of_methodNamed Bd.named Bd.method).1
  have X0 : Stand p l e ({ frames := 0, cells := 0, slots := 0, locals := 0 } : Room) s m #[(.int p1), (.int p2), (.int p3), (.int p4), (.int p5)] below meth c s₁ [] 0 0 := Stand.of_body Bd
  have e0 : s₁.heap = h0 := by rw [← hh, Bd.state]; rfl
  have N0 := Fr.nil n0
  have pre0 : ∀ t, Steps p.tables e below (s₁.setTop (mkF m 0 #[.val (.int p1), .val (.int p2), .val (.int p3), .val (.int p4), .val (.int p5)] [])) t → Steps p.tables e below (s₁.setTop (entryFrame m #[(.int p1), (.int p2), (.int p3), (.int p4), (.int p5)] 5)) t := fun t k => castTop (ef_2 m p1 p2 p3 p4 p5) k

  obtain ⟨fs, hr, hrun, hended, hW, hsame⟩ := X0.leave (v := some (.int p4)) (fun h => by rw [Bd.returns] at h; cases h)
  refine ⟨_, _, pre0 _ ?_, hrun, hended, _, _, rfl, ?_, ⟨_, rfl⟩, hW, hsame.mono (by decide) (by decide)⟩
  · show Steps p.tables e below (s₁.setTop (mkF m 0 #[.val (.int p1), .val (.int p2), .val (.int p3), .val (.int p4), .val (.int p5)] [])) _
    refine XS.iloadN X0.here hx rfl (hb hby d2_0) rfl ?_
    show Steps p.tables e below (s₁.setTop (mkF m 1 #[.val (.int p1), .val (.int p2), .val (.int p3), .val (.int p4), .val (.int p5)] [(.int p1)])) _
    refine XS.ifYes X0.here hx rfl (pc0 := 1) (pc' := 6) rfl (hb hby d2_1) rfl ((if0 _ _).trans (feq hc1).2) (by decide) (by decide) ?_
    show Steps p.tables e below (s₁.setTop (mkF m 6 #[.val (.int p1), .val (.int p2), .val (.int p3), .val (.int p4), .val (.int p5)] [])) _
    refine XS.iloadN X0.here hx rfl (hb hby d2_6) rfl ?_
    show Steps p.tables e below (s₁.setTop (mkF m 7 #[.val (.int p1), .val (.int p2), .val (.int p3), .val (.int p4), .val (.int p5)] [(.int p1)])) _
    refine XS.iconst X0.here hx rfl (hb hby d2_7) ?_
    show Steps p.tables e below (s₁.setTop (mkF m 8 #[.val (.int p1), .val (.int p2), .val (.int p3), .val (.int p4), .val (.int p5)] [(.int (1 : Int32)), (.int p1)])) _
    refine XS.icmpYes X0.here hx rfl (pc0 := 8) (pc' := 13) rfl (hb hby d2_8) rfl (feq hc8).2 (by decide) (by decide) ?_
    show Steps p.tables e below (s₁.setTop (mkF m 13 #[.val (.int p1), .val (.int p2), .val (.int p3), .val (.int p4), .val (.int p5)] [])) _
    refine XS.iloadN X0.here hx rfl (hb hby d2_13) rfl ?_
    show Steps p.tables e below (s₁.setTop (mkF m 14 #[.val (.int p1), .val (.int p2), .val (.int p3), .val (.int p4), .val (.int p5)] [(.int p1)])) _
    refine XS.iconst X0.here hx rfl (hb hby d2_14) ?_
    show Steps p.tables e below (s₁.setTop (mkF m 15 #[.val (.int p1), .val (.int p2), .val (.int p3), .val (.int p4), .val (.int p5)] [(.int (2 : Int32)), (.int p1)])) _
    refine XS.icmpNo X0.here hx rfl (hb hby d2_15) rfl (teq hc15).2 ?_
    show Steps p.tables e below (s₁.setTop (mkF m 18 #[.val (.int p1), .val (.int p2), .val (.int p3), .val (.int p4), .val (.int p5)] [])) _
    refine XS.iloadN X0.here hx rfl (hb hby d2_18) rfl ?_
    show Steps p.tables e below (s₁.setTop (mkF m 19 #[.val (.int p1), .val (.int p2), .val (.int p3), .val (.int p4), .val (.int p5)] [(.int p4)])) _
    exact retI X0 hx Bd.returns (hb hby d2_19) hr
  · show Q2 Z p1 p2 p3 p4 p5 h0 n0 _ s₁.heap _
    rw [e0]
    exact ⟨by rw [own_pick, if_neg hc1, if_neg hc8, if_pos hc15], N0, rfl⟩
theorem d2_20 : decode method_4_code 20 = .ok (.iload 4, 2) := by decide +kernel
theorem d2_22 : decode method_4_code 22 = .ok (.ireturn, 1) := by decide +kernel

set_option maxRecDepth 65536 in
set_option maxHeartbeats 40000000 in
theorem rm2d (l : Launch) (Z : State) (a0 : Array Value) (hw : ∀ d ∈ tables_1, d.before a0 Z = true) (ws : List Jvm.Cond) (p1 : Int32) (p2 : Int32) (p3 : Int32) (p4 : Int32) (p5 : Int32) (h0 : Heap) (n0 : Nat) (Z0 : n0 ≤ h0.size) (hc1 : ¬ (p1 = (0 : Int32))) (hc8 : ¬ (p1 = (1 : Int32))) (hc15 : ¬ (p1 = (2 : Int32))) :
    MetFree l (⟨"com/example/starling/starling/placement/PlacementNeededAfterMovePinLaw", "pick", "(IIIII)I"⟩ : MethodName) (head1 (Jvm.Cond.code (⟨"com/example/starling/starling/placement/PlacementNeededAfterMovePinLaw", "pick", "(IIIII)I"⟩ : MethodName) method_4_code 5 (some .int) :: ws) ({ frames := 0, cells := 0, slots := 0, locals := 0 } : Room)) (fun a U => a = #[(.int p1), (.int p2), (.int p3), (.int p4), (.int p5)] ∧ Z.Warmed39 U.vm ∧ U.heap = h0) (fun _ _ _ _ _ => True) (fun _ U o U' => ∃ v L, o = .returned v ∧ Q2 Z p1 p2 p3 p4 p5 h0 n0 v U'.heap L ∧ FrameEnd U o U' L ({ frames := 0, cells := 0, slots := 0, locals := 0 } : Room).cells ({ frames := 0, cells := 0, slots := 0, locals := 0 } : Room).slots) := by
  refine MetFree.of_bodySF (plainFor_of_name pn_2) hisR ?_
  intro p e s m args below meth c s₁ Bd hml0 hP hK
  obtain ⟨rfl, hZ, hh⟩ := hP
  have hx := Bd.exec
  have hby := Bd.bytes
  have hml : c.maxLocals = 5 := hml0
  have hown : s.vm.findClass "com/example/starling/starling/placement/PlacementNeededAfterMovePinLaw" = some m.cls := findClass_of_methodNamed Bd.named
  have hnm := (name_of_methodNamed Bd.named Bd.method).1
  have X0 : Stand p l e ({ frames := 0, cells := 0, slots := 0, locals := 0 } : Room) s m #[(.int p1), (.int p2), (.int p3), (.int p4), (.int p5)] below meth c s₁ [] 0 0 := Stand.of_body Bd
  have e0 : s₁.heap = h0 := by rw [← hh, Bd.state]; rfl
  have N0 := Fr.nil n0
  have pre0 : ∀ t, Steps p.tables e below (s₁.setTop (mkF m 0 #[.val (.int p1), .val (.int p2), .val (.int p3), .val (.int p4), .val (.int p5)] [])) t → Steps p.tables e below (s₁.setTop (entryFrame m #[(.int p1), (.int p2), (.int p3), (.int p4), (.int p5)] 5)) t := fun t k => castTop (ef_2 m p1 p2 p3 p4 p5) k

  obtain ⟨fs, hr, hrun, hended, hW, hsame⟩ := X0.leave (v := some (.int p5)) (fun h => by rw [Bd.returns] at h; cases h)
  refine ⟨_, _, pre0 _ ?_, hrun, hended, _, _, rfl, ?_, ⟨_, rfl⟩, hW, hsame.mono (by decide) (by decide)⟩
  · show Steps p.tables e below (s₁.setTop (mkF m 0 #[.val (.int p1), .val (.int p2), .val (.int p3), .val (.int p4), .val (.int p5)] [])) _
    refine XS.iloadN X0.here hx rfl (hb hby d2_0) rfl ?_
    show Steps p.tables e below (s₁.setTop (mkF m 1 #[.val (.int p1), .val (.int p2), .val (.int p3), .val (.int p4), .val (.int p5)] [(.int p1)])) _
    refine XS.ifYes X0.here hx rfl (pc0 := 1) (pc' := 6) rfl (hb hby d2_1) rfl ((if0 _ _).trans (feq hc1).2) (by decide) (by decide) ?_
    show Steps p.tables e below (s₁.setTop (mkF m 6 #[.val (.int p1), .val (.int p2), .val (.int p3), .val (.int p4), .val (.int p5)] [])) _
    refine XS.iloadN X0.here hx rfl (hb hby d2_6) rfl ?_
    show Steps p.tables e below (s₁.setTop (mkF m 7 #[.val (.int p1), .val (.int p2), .val (.int p3), .val (.int p4), .val (.int p5)] [(.int p1)])) _
    refine XS.iconst X0.here hx rfl (hb hby d2_7) ?_
    show Steps p.tables e below (s₁.setTop (mkF m 8 #[.val (.int p1), .val (.int p2), .val (.int p3), .val (.int p4), .val (.int p5)] [(.int (1 : Int32)), (.int p1)])) _
    refine XS.icmpYes X0.here hx rfl (pc0 := 8) (pc' := 13) rfl (hb hby d2_8) rfl (feq hc8).2 (by decide) (by decide) ?_
    show Steps p.tables e below (s₁.setTop (mkF m 13 #[.val (.int p1), .val (.int p2), .val (.int p3), .val (.int p4), .val (.int p5)] [])) _
    refine XS.iloadN X0.here hx rfl (hb hby d2_13) rfl ?_
    show Steps p.tables e below (s₁.setTop (mkF m 14 #[.val (.int p1), .val (.int p2), .val (.int p3), .val (.int p4), .val (.int p5)] [(.int p1)])) _
    refine XS.iconst X0.here hx rfl (hb hby d2_14) ?_
    show Steps p.tables e below (s₁.setTop (mkF m 15 #[.val (.int p1), .val (.int p2), .val (.int p3), .val (.int p4), .val (.int p5)] [(.int (2 : Int32)), (.int p1)])) _
    refine XS.icmpYes X0.here hx rfl (pc0 := 15) (pc' := 20) rfl (hb hby d2_15) rfl (feq hc15).2 (by decide) (by decide) ?_
    show Steps p.tables e below (s₁.setTop (mkF m 20 #[.val (.int p1), .val (.int p2), .val (.int p3), .val (.int p4), .val (.int p5)] [])) _
    refine XS.iload X0.here hx rfl (hb hby d2_20) rfl ?_
    show Steps p.tables e below (s₁.setTop (mkF m 22 #[.val (.int p1), .val (.int p2), .val (.int p3), .val (.int p4), .val (.int p5)] [(.int p5)])) _
    exact retI X0 hx Bd.returns (hb hby d2_22) hr
  · show Q2 Z p1 p2 p3 p4 p5 h0 n0 _ s₁.heap _
    rw [e0]
    exact ⟨by rw [own_pick, if_neg hc1, if_neg hc8, if_neg hc15], N0, rfl⟩
set_option maxRecDepth 65536 in
set_option maxHeartbeats 40000000 in
theorem rm2 (l : Launch) (Z : State) (a0 : Array Value) (hw : ∀ d ∈ tables_1, d.before a0 Z = true) (ws : List Jvm.Cond) (p1 : Int32) (p2 : Int32) (p3 : Int32) (p4 : Int32) (p5 : Int32) (h0 : Heap) (n0 : Nat) (Z0 : n0 ≤ h0.size) :
    MetFree l (⟨"com/example/starling/starling/placement/PlacementNeededAfterMovePinLaw", "pick", "(IIIII)I"⟩ : MethodName) (head1 (Jvm.Cond.code (⟨"com/example/starling/starling/placement/PlacementNeededAfterMovePinLaw", "pick", "(IIIII)I"⟩ : MethodName) method_4_code 5 (some .int) :: ws) ({ frames := 0, cells := 0, slots := 0, locals := 0 } : Room)) (fun a U => a = #[(.int p1), (.int p2), (.int p3), (.int p4), (.int p5)] ∧ Z.Warmed39 U.vm ∧ U.heap = h0) (fun _ _ _ _ _ => True) (fun _ U o U' => ∃ v L, o = .returned v ∧ Q2 Z p1 p2 p3 p4 p5 h0 n0 v U'.heap L ∧ FrameEnd U o U' L ({ frames := 0, cells := 0, slots := 0, locals := 0 } : Room).cells ({ frames := 0, cells := 0, slots := 0, locals := 0 } : Room).slots) := by
  by_cases hc1 : p1 = (0 : Int32)
  · exact rm2a l Z a0 hw ws p1 p2 p3 p4 p5 h0 n0 Z0 hc1
  · by_cases hc8 : p1 = (1 : Int32)
    · exact rm2b l Z a0 hw ws p1 p2 p3 p4 p5 h0 n0 Z0 hc1 hc8
    · by_cases hc15 : p1 = (2 : Int32)
      · exact rm2c l Z a0 hw ws p1 p2 p3 p4 p5 h0 n0 Z0 hc1 hc8 hc15
      · exact rm2d l Z a0 hw ws p1 p2 p3 p4 p5 h0 n0 Z0 hc1 hc8 hc15
theorem d3_0 : decode prog_29_method_5_code 0 = .ok (.iload_n 0, 1) := by decide +kernel
theorem d3_1 : decode prog_29_method_5_code 1 = .ok (.istore 6, 2) := by decide +kernel
theorem d3_3 : decode prog_29_method_5_code 3 = .ok (.iload_n 2, 1) := by decide +kernel
theorem d3_4 : decode prog_29_method_5_code 4 = .ok (.iload_n 1, 1) := by decide +kernel
theorem d3_5 : decode prog_29_method_5_code 5 = .ok (.if_icmp .eq 12, 3) := by decide +kernel
theorem d3_17 : decode prog_29_method_5_code 17 = .ok (.iload_n 3, 1) := by decide +kernel
theorem d3_18 : decode prog_29_method_5_code 18 = .ok (.iload_n 1, 1) := by decide +kernel
theorem d3_19 : decode prog_29_method_5_code 19 = .ok (.if_icmp .eq 11, 3) := by decide +kernel
theorem d3_30 : decode prog_29_method_5_code 30 = .ok (.iload 6, 2) := by decide +kernel
theorem d3_32 : decode prog_29_method_5_code 32 = .ok (.ireturn, 1) := by decide +kernel
theorem pn_3 : plainName "com/example/starling/starling/placement/Placement" = true := by first | (simp [plainName, overriddenIn]; done) | decide +kernel
theorem ef_3 (m : MethodId) (x0 : Int32) (x1 : Int32) (x2 : Int32) (x3 : Int32) (x4 : Int32) (x5 : Int32) : entryFrame m #[(.int x0), (.int x1), (.int x2), (.int x3), (.int x4), (.int x5)] 7 = mkF m 0 #[.val (.int x0), .val (.int x1), .val (.int x2), .val (.int x3), .val (.int x4), .val (.int x5), .unset] [] := by first | (simp [entryFrame, mkF, argsToLocals, Value.category]; done) | rfl
def Q3 (Z : State) (p1 : Int32) (p2 : Int32) (p3 : Int32) (p4 : Int32) (p5 : Int32) (p6 : Int32) (h0 : Heap) (n0 : Nat) (v : Option Value) (h : Heap) (L : List Loc) : Prop := v = some (.int (own_nam p1 p2 p3 p4 p5 p6)) ∧ Fr n0 L ∧ h = h0
set_option maxRecDepth 65536 in
set_option maxHeartbeats 40000000 in
theorem rm3_t_t (l : Launch) (Z : State) (a0 : Array Value) (hw : ∀ d ∈ tables_1, d.before a0 Z = true) (ws : List Jvm.Cond) (p1 : Int32) (p2 : Int32) (p3 : Int32) (p4 : Int32) (p5 : Int32) (p6 : Int32) (h0 : Heap) (n0 : Nat) (Z0 : n0 ≤ h0.size) (hc5 : p3 = p2) (hc19 : p4 = p2) :
    MetFree l (⟨"com/example/starling/starling/placement/Placement", "neededAfterMove", "(IIIIII)I"⟩ : MethodName) (head1 (Jvm.Cond.code (⟨"com/example/starling/starling/placement/Placement", "neededAfterMove", "(IIIIII)I"⟩ : MethodName) prog_29_method_5_code 7 (some .int) :: ws) ({ frames := 0, cells := 0, slots := 0, locals := 0 } : Room)) (fun a U => a = #[(.int p1), (.int p2), (.int p3), (.int p4), (.int p5), (.int p6)] ∧ Z.Warmed39 U.vm ∧ U.heap = h0) (fun _ _ _ _ _ => True) (fun _ U o U' => ∃ v L, o = .returned v ∧ Q3 Z p1 p2 p3 p4 p5 p6 h0 n0 v U'.heap L ∧ FrameEnd U o U' L ({ frames := 0, cells := 0, slots := 0, locals := 0 } : Room).cells ({ frames := 0, cells := 0, slots := 0, locals := 0 } : Room).slots) := by
  refine MetFree.of_bodySF (plainFor_of_name pn_3) hisR ?_
  intro p e s m args below meth c s₁ Bd hml0 hP hK
  obtain ⟨rfl, hZ, hh⟩ := hP
  have hx := Bd.exec
  have hby := Bd.bytes
  have hml : c.maxLocals = 7 := hml0
  have hown : s.vm.findClass "com/example/starling/starling/placement/Placement" = some m.cls := findClass_of_methodNamed Bd.named
  have hnm := (name_of_methodNamed Bd.named Bd.method).1
  have X0 : Stand p l e ({ frames := 0, cells := 0, slots := 0, locals := 0 } : Room) s m #[(.int p1), (.int p2), (.int p3), (.int p4), (.int p5), (.int p6)] below meth c s₁ [] 0 0 := Stand.of_body Bd
  have e0 : s₁.heap = h0 := by rw [← hh, Bd.state]; rfl
  have N0 := Fr.nil n0
  have pre0 : ∀ t, Steps p.tables e below (s₁.setTop (mkF m 0 #[.val (.int p1), .val (.int p2), .val (.int p3), .val (.int p4), .val (.int p5), .val (.int p6), .unset] [])) t → Steps p.tables e below (s₁.setTop (entryFrame m #[(.int p1), (.int p2), (.int p3), (.int p4), (.int p5), (.int p6)] 7)) t := fun t k => castTop (ef_3 m p1 p2 p3 p4 p5 p6) k

  obtain ⟨fs, hr, hrun, hended, hW, hsame⟩ := X0.leave (v := some (.int p1)) (fun h => by rw [Bd.returns] at h; cases h)
  refine ⟨_, _, pre0 _ ?_, hrun, hended, _, _, rfl, ?_, ⟨_, rfl⟩, hW, hsame.mono (by decide) (by decide)⟩
  · show Steps p.tables e below (s₁.setTop (mkF m 0 #[.val (.int p1), .val (.int p2), .val (.int p3), .val (.int p4), .val (.int p5), .val (.int p6), .unset] [])) _
    refine XS.iloadN X0.here hx rfl (hb hby d3_0) rfl ?_
    show Steps p.tables e below (s₁.setTop (mkF m 1 #[.val (.int p1), .val (.int p2), .val (.int p3), .val (.int p4), .val (.int p5), .val (.int p6), .unset] [(.int p1)])) _
    refine XS.istore X0.here hx rfl (hb hby d3_1) rfl (l' := #[.val (.int p1), .val (.int p2), .val (.int p3), .val (.int p4), .val (.int p5), .val (.int p6), .val (.int p1)]) rfl ?_
    show Steps p.tables e below (s₁.setTop (mkF m 3 #[.val (.int p1), .val (.int p2), .val (.int p3), .val (.int p4), .val (.int p5), .val (.int p6), .val (.int p1)] [])) _
    refine XS.iloadN X0.here hx rfl (hb hby d3_3) rfl ?_
    show Steps p.tables e below (s₁.setTop (mkF m 4 #[.val (.int p1), .val (.int p2), .val (.int p3), .val (.int p4), .val (.int p5), .val (.int p6), .val (.int p1)] [(.int p3)])) _
    refine XS.iloadN X0.here hx rfl (hb hby d3_4) rfl ?_
    show Steps p.tables e below (s₁.setTop (mkF m 5 #[.val (.int p1), .val (.int p2), .val (.int p3), .val (.int p4), .val (.int p5), .val (.int p6), .val (.int p1)] [(.int p2), (.int p3)])) _
    refine XS.icmpYes X0.here hx rfl (pc0 := 5) (pc' := 17) rfl (hb hby d3_5) rfl (teq hc5).1 (by decide) (by decide) ?_
    show Steps p.tables e below (s₁.setTop (mkF m 17 #[.val (.int p1), .val (.int p2), .val (.int p3), .val (.int p4), .val (.int p5), .val (.int p6), .val (.int p1)] [])) _
    refine XS.iloadN X0.here hx rfl (hb hby d3_17) rfl ?_
    show Steps p.tables e below (s₁.setTop (mkF m 18 #[.val (.int p1), .val (.int p2), .val (.int p3), .val (.int p4), .val (.int p5), .val (.int p6), .val (.int p1)] [(.int p4)])) _
    refine XS.iloadN X0.here hx rfl (hb hby d3_18) rfl ?_
    show Steps p.tables e below (s₁.setTop (mkF m 19 #[.val (.int p1), .val (.int p2), .val (.int p3), .val (.int p4), .val (.int p5), .val (.int p6), .val (.int p1)] [(.int p2), (.int p4)])) _
    refine XS.icmpYes X0.here hx rfl (pc0 := 19) (pc' := 30) rfl (hb hby d3_19) rfl (teq hc19).1 (by decide) (by decide) ?_
    show Steps p.tables e below (s₁.setTop (mkF m 30 #[.val (.int p1), .val (.int p2), .val (.int p3), .val (.int p4), .val (.int p5), .val (.int p6), .val (.int p1)] [])) _
    refine XS.iload X0.here hx rfl (hb hby d3_30) rfl ?_
    show Steps p.tables e below (s₁.setTop (mkF m 32 #[.val (.int p1), .val (.int p2), .val (.int p3), .val (.int p4), .val (.int p5), .val (.int p6), .val (.int p1)] [(.int p1)])) _
    exact retI X0 hx Bd.returns (hb hby d3_32) hr
  · show Q3 Z p1 p2 p3 p4 p5 p6 h0 n0 _ s₁.heap _
    rw [e0]
    exact ⟨by rw [own_nam, own_inc, own_dec, if_pos hc19, if_pos hc5], N0, rfl⟩
theorem d3_22 : decode prog_29_method_5_code 22 = .ok (.iload 5, 2) := by decide +kernel
theorem d3_24 : decode prog_29_method_5_code 24 = .ok (.ifCond .ne 6, 3) := by decide +kernel

set_option maxRecDepth 65536 in
set_option maxHeartbeats 40000000 in
theorem rm3_t_ft (l : Launch) (Z : State) (a0 : Array Value) (hw : ∀ d ∈ tables_1, d.before a0 Z = true) (ws : List Jvm.Cond) (p1 : Int32) (p2 : Int32) (p3 : Int32) (p4 : Int32) (p5 : Int32) (p6 : Int32) (h0 : Heap) (n0 : Nat) (Z0 : n0 ≤ h0.size) (hc5 : p3 = p2) (hc19 : ¬ (p4 = p2)) (hc24 : ¬ (p6 = (0 : Int32))) :
    MetFree l (⟨"com/example/starling/starling/placement/Placement", "neededAfterMove", "(IIIIII)I"⟩ : MethodName) (head1 (Jvm.Cond.code (⟨"com/example/starling/starling/placement/Placement", "neededAfterMove", "(IIIIII)I"⟩ : MethodName) prog_29_method_5_code 7 (some .int) :: ws) ({ frames := 0, cells := 0, slots := 0, locals := 0 } : Room)) (fun a U => a = #[(.int p1), (.int p2), (.int p3), (.int p4), (.int p5), (.int p6)] ∧ Z.Warmed39 U.vm ∧ U.heap = h0) (fun _ _ _ _ _ => True) (fun _ U o U' => ∃ v L, o = .returned v ∧ Q3 Z p1 p2 p3 p4 p5 p6 h0 n0 v U'.heap L ∧ FrameEnd U o U' L ({ frames := 0, cells := 0, slots := 0, locals := 0 } : Room).cells ({ frames := 0, cells := 0, slots := 0, locals := 0 } : Room).slots) := by
  refine MetFree.of_bodySF (plainFor_of_name pn_3) hisR ?_
  intro p e s m args below meth c s₁ Bd hml0 hP hK
  obtain ⟨rfl, hZ, hh⟩ := hP
  have hx := Bd.exec
  have hby := Bd.bytes
  have hml : c.maxLocals = 7 := hml0
  have hown : s.vm.findClass "com/example/starling/starling/placement/Placement" = some m.cls := findClass_of_methodNamed Bd.named
  have hnm := (name_of_methodNamed Bd.named Bd.method).1
  have X0 : Stand p l e ({ frames := 0, cells := 0, slots := 0, locals := 0 } : Room) s m #[(.int p1), (.int p2), (.int p3), (.int p4), (.int p5), (.int p6)] below meth c s₁ [] 0 0 := Stand.of_body Bd
  have e0 : s₁.heap = h0 := by rw [← hh, Bd.state]; rfl
  have N0 := Fr.nil n0
  have pre0 : ∀ t, Steps p.tables e below (s₁.setTop (mkF m 0 #[.val (.int p1), .val (.int p2), .val (.int p3), .val (.int p4), .val (.int p5), .val (.int p6), .unset] [])) t → Steps p.tables e below (s₁.setTop (entryFrame m #[(.int p1), (.int p2), (.int p3), (.int p4), (.int p5), (.int p6)] 7)) t := fun t k => castTop (ef_3 m p1 p2 p3 p4 p5 p6) k

  obtain ⟨fs, hr, hrun, hended, hW, hsame⟩ := X0.leave (v := some (.int p1)) (fun h => by rw [Bd.returns] at h; cases h)
  refine ⟨_, _, pre0 _ ?_, hrun, hended, _, _, rfl, ?_, ⟨_, rfl⟩, hW, hsame.mono (by decide) (by decide)⟩
  · show Steps p.tables e below (s₁.setTop (mkF m 0 #[.val (.int p1), .val (.int p2), .val (.int p3), .val (.int p4), .val (.int p5), .val (.int p6), .unset] [])) _
    refine XS.iloadN X0.here hx rfl (hb hby d3_0) rfl ?_
    show Steps p.tables e below (s₁.setTop (mkF m 1 #[.val (.int p1), .val (.int p2), .val (.int p3), .val (.int p4), .val (.int p5), .val (.int p6), .unset] [(.int p1)])) _
    refine XS.istore X0.here hx rfl (hb hby d3_1) rfl (l' := #[.val (.int p1), .val (.int p2), .val (.int p3), .val (.int p4), .val (.int p5), .val (.int p6), .val (.int p1)]) rfl ?_
    show Steps p.tables e below (s₁.setTop (mkF m 3 #[.val (.int p1), .val (.int p2), .val (.int p3), .val (.int p4), .val (.int p5), .val (.int p6), .val (.int p1)] [])) _
    refine XS.iloadN X0.here hx rfl (hb hby d3_3) rfl ?_
    show Steps p.tables e below (s₁.setTop (mkF m 4 #[.val (.int p1), .val (.int p2), .val (.int p3), .val (.int p4), .val (.int p5), .val (.int p6), .val (.int p1)] [(.int p3)])) _
    refine XS.iloadN X0.here hx rfl (hb hby d3_4) rfl ?_
    show Steps p.tables e below (s₁.setTop (mkF m 5 #[.val (.int p1), .val (.int p2), .val (.int p3), .val (.int p4), .val (.int p5), .val (.int p6), .val (.int p1)] [(.int p2), (.int p3)])) _
    refine XS.icmpYes X0.here hx rfl (pc0 := 5) (pc' := 17) rfl (hb hby d3_5) rfl (teq hc5).1 (by decide) (by decide) ?_
    show Steps p.tables e below (s₁.setTop (mkF m 17 #[.val (.int p1), .val (.int p2), .val (.int p3), .val (.int p4), .val (.int p5), .val (.int p6), .val (.int p1)] [])) _
    refine XS.iloadN X0.here hx rfl (hb hby d3_17) rfl ?_
    show Steps p.tables e below (s₁.setTop (mkF m 18 #[.val (.int p1), .val (.int p2), .val (.int p3), .val (.int p4), .val (.int p5), .val (.int p6), .val (.int p1)] [(.int p4)])) _
    refine XS.iloadN X0.here hx rfl (hb hby d3_18) rfl ?_
    show Steps p.tables e below (s₁.setTop (mkF m 19 #[.val (.int p1), .val (.int p2), .val (.int p3), .val (.int p4), .val (.int p5), .val (.int p6), .val (.int p1)] [(.int p2), (.int p4)])) _
    refine XS.icmpNo X0.here hx rfl (hb hby d3_19) rfl (feq hc19).1 ?_
    show Steps p.tables e below (s₁.setTop (mkF m 22 #[.val (.int p1), .val (.int p2), .val (.int p3), .val (.int p4), .val (.int p5), .val (.int p6), .val (.int p1)] [])) _
    refine XS.iload X0.here hx rfl (hb hby d3_22) rfl ?_
    show Steps p.tables e below (s₁.setTop (mkF m 24 #[.val (.int p1), .val (.int p2), .val (.int p3), .val (.int p4), .val (.int p5), .val (.int p6), .val (.int p1)] [(.int p6)])) _
    refine XS.ifYes X0.here hx rfl (pc0 := 24) (pc' := 30) rfl (hb hby d3_24) rfl ((if0 _ _).trans (feq hc24).2) (by decide) (by decide) ?_
    show Steps p.tables e below (s₁.setTop (mkF m 30 #[.val (.int p1), .val (.int p2), .val (.int p3), .val (.int p4), .val (.int p5), .val (.int p6), .val (.int p1)] [])) _
    refine XS.iload X0.here hx rfl (hb hby d3_30) rfl ?_
    show Steps p.tables e below (s₁.setTop (mkF m 32 #[.val (.int p1), .val (.int p2), .val (.int p3), .val (.int p4), .val (.int p5), .val (.int p6), .val (.int p1)] [(.int p1)])) _
    exact retI X0 hx Bd.returns (hb hby d3_32) hr
  · show Q3 Z p1 p2 p3 p4 p5 p6 h0 n0 _ s₁.heap _
    rw [e0]
    exact ⟨by rw [own_nam, own_inc, own_dec, if_neg hc19, if_neg hc24, if_pos hc5], N0, rfl⟩
theorem d3_27 : decode prog_29_method_5_code 27 = .ok (.iinc 6 1, 3) := by decide +kernel

set_option maxRecDepth 65536 in
set_option maxHeartbeats 40000000 in
theorem rm3_t_ff (l : Launch) (Z : State) (a0 : Array Value) (hw : ∀ d ∈ tables_1, d.before a0 Z = true) (ws : List Jvm.Cond) (p1 : Int32) (p2 : Int32) (p3 : Int32) (p4 : Int32) (p5 : Int32) (p6 : Int32) (h0 : Heap) (n0 : Nat) (Z0 : n0 ≤ h0.size) (hc5 : p3 = p2) (hc19 : ¬ (p4 = p2)) (hc24 : p6 = (0 : Int32)) :
    MetFree l (⟨"com/example/starling/starling/placement/Placement", "neededAfterMove", "(IIIIII)I"⟩ : MethodName) (head1 (Jvm.Cond.code (⟨"com/example/starling/starling/placement/Placement", "neededAfterMove", "(IIIIII)I"⟩ : MethodName) prog_29_method_5_code 7 (some .int) :: ws) ({ frames := 0, cells := 0, slots := 0, locals := 0 } : Room)) (fun a U => a = #[(.int p1), (.int p2), (.int p3), (.int p4), (.int p5), (.int p6)] ∧ Z.Warmed39 U.vm ∧ U.heap = h0) (fun _ _ _ _ _ => True) (fun _ U o U' => ∃ v L, o = .returned v ∧ Q3 Z p1 p2 p3 p4 p5 p6 h0 n0 v U'.heap L ∧ FrameEnd U o U' L ({ frames := 0, cells := 0, slots := 0, locals := 0 } : Room).cells ({ frames := 0, cells := 0, slots := 0, locals := 0 } : Room).slots) := by
  refine MetFree.of_bodySF (plainFor_of_name pn_3) hisR ?_
  intro p e s m args below meth c s₁ Bd hml0 hP hK
  obtain ⟨rfl, hZ, hh⟩ := hP
  have hx := Bd.exec
  have hby := Bd.bytes
  have hml : c.maxLocals = 7 := hml0
  have hown : s.vm.findClass "com/example/starling/starling/placement/Placement" = some m.cls := findClass_of_methodNamed Bd.named
  have hnm := (name_of_methodNamed Bd.named Bd.method).1
  have X0 : Stand p l e ({ frames := 0, cells := 0, slots := 0, locals := 0 } : Room) s m #[(.int p1), (.int p2), (.int p3), (.int p4), (.int p5), (.int p6)] below meth c s₁ [] 0 0 := Stand.of_body Bd
  have e0 : s₁.heap = h0 := by rw [← hh, Bd.state]; rfl
  have N0 := Fr.nil n0
  have pre0 : ∀ t, Steps p.tables e below (s₁.setTop (mkF m 0 #[.val (.int p1), .val (.int p2), .val (.int p3), .val (.int p4), .val (.int p5), .val (.int p6), .unset] [])) t → Steps p.tables e below (s₁.setTop (entryFrame m #[(.int p1), (.int p2), (.int p3), (.int p4), (.int p5), (.int p6)] 7)) t := fun t k => castTop (ef_3 m p1 p2 p3 p4 p5 p6) k

  obtain ⟨fs, hr, hrun, hended, hW, hsame⟩ := X0.leave (v := some (.int (p1 + (1 : Int32)))) (fun h => by rw [Bd.returns] at h; cases h)
  refine ⟨_, _, pre0 _ ?_, hrun, hended, _, _, rfl, ?_, ⟨_, rfl⟩, hW, hsame.mono (by decide) (by decide)⟩
  · show Steps p.tables e below (s₁.setTop (mkF m 0 #[.val (.int p1), .val (.int p2), .val (.int p3), .val (.int p4), .val (.int p5), .val (.int p6), .unset] [])) _
    refine XS.iloadN X0.here hx rfl (hb hby d3_0) rfl ?_
    show Steps p.tables e below (s₁.setTop (mkF m 1 #[.val (.int p1), .val (.int p2), .val (.int p3), .val (.int p4), .val (.int p5), .val (.int p6), .unset] [(.int p1)])) _
    refine XS.istore X0.here hx rfl (hb hby d3_1) rfl (l' := #[.val (.int p1), .val (.int p2), .val (.int p3), .val (.int p4), .val (.int p5), .val (.int p6), .val (.int p1)]) rfl ?_
    show Steps p.tables e below (s₁.setTop (mkF m 3 #[.val (.int p1), .val (.int p2), .val (.int p3), .val (.int p4), .val (.int p5), .val (.int p6), .val (.int p1)] [])) _
    refine XS.iloadN X0.here hx rfl (hb hby d3_3) rfl ?_
    show Steps p.tables e below (s₁.setTop (mkF m 4 #[.val (.int p1), .val (.int p2), .val (.int p3), .val (.int p4), .val (.int p5), .val (.int p6), .val (.int p1)] [(.int p3)])) _
    refine XS.iloadN X0.here hx rfl (hb hby d3_4) rfl ?_
    show Steps p.tables e below (s₁.setTop (mkF m 5 #[.val (.int p1), .val (.int p2), .val (.int p3), .val (.int p4), .val (.int p5), .val (.int p6), .val (.int p1)] [(.int p2), (.int p3)])) _
    refine XS.icmpYes X0.here hx rfl (pc0 := 5) (pc' := 17) rfl (hb hby d3_5) rfl (teq hc5).1 (by decide) (by decide) ?_
    show Steps p.tables e below (s₁.setTop (mkF m 17 #[.val (.int p1), .val (.int p2), .val (.int p3), .val (.int p4), .val (.int p5), .val (.int p6), .val (.int p1)] [])) _
    refine XS.iloadN X0.here hx rfl (hb hby d3_17) rfl ?_
    show Steps p.tables e below (s₁.setTop (mkF m 18 #[.val (.int p1), .val (.int p2), .val (.int p3), .val (.int p4), .val (.int p5), .val (.int p6), .val (.int p1)] [(.int p4)])) _
    refine XS.iloadN X0.here hx rfl (hb hby d3_18) rfl ?_
    show Steps p.tables e below (s₁.setTop (mkF m 19 #[.val (.int p1), .val (.int p2), .val (.int p3), .val (.int p4), .val (.int p5), .val (.int p6), .val (.int p1)] [(.int p2), (.int p4)])) _
    refine XS.icmpNo X0.here hx rfl (hb hby d3_19) rfl (feq hc19).1 ?_
    show Steps p.tables e below (s₁.setTop (mkF m 22 #[.val (.int p1), .val (.int p2), .val (.int p3), .val (.int p4), .val (.int p5), .val (.int p6), .val (.int p1)] [])) _
    refine XS.iload X0.here hx rfl (hb hby d3_22) rfl ?_
    show Steps p.tables e below (s₁.setTop (mkF m 24 #[.val (.int p1), .val (.int p2), .val (.int p3), .val (.int p4), .val (.int p5), .val (.int p6), .val (.int p1)] [(.int p6)])) _
    refine XS.ifNo X0.here hx rfl (hb hby d3_24) rfl ((if0 _ _).trans (teq hc24).2) ?_
    show Steps p.tables e below (s₁.setTop (mkF m 27 #[.val (.int p1), .val (.int p2), .val (.int p3), .val (.int p4), .val (.int p5), .val (.int p6), .val (.int p1)] [])) _
    refine XS.iinc X0.here hx rfl (hb hby d3_27) rfl (l' := #[.val (.int p1), .val (.int p2), .val (.int p3), .val (.int p4), .val (.int p5), .val (.int p6), .val (.int (p1 + (1 : Int32)))]) rfl ?_
    show Steps p.tables e below (s₁.setTop (mkF m 30 #[.val (.int p1), .val (.int p2), .val (.int p3), .val (.int p4), .val (.int p5), .val (.int p6), .val (.int (p1 + (1 : Int32)))] [])) _
    refine XS.iload X0.here hx rfl (hb hby d3_30) rfl ?_
    show Steps p.tables e below (s₁.setTop (mkF m 32 #[.val (.int p1), .val (.int p2), .val (.int p3), .val (.int p4), .val (.int p5), .val (.int p6), .val (.int (p1 + (1 : Int32)))] [(.int (p1 + (1 : Int32)))])) _
    exact retI X0 hx Bd.returns (hb hby d3_32) hr
  · show Q3 Z p1 p2 p3 p4 p5 p6 h0 n0 _ s₁.heap _
    rw [e0]
    exact ⟨by rw [own_nam, own_inc, own_dec, if_neg hc19, if_pos hc24, if_pos hc5], N0, rfl⟩
theorem d3_8 : decode prog_29_method_5_code 8 = .ok (.iload 4, 2) := by decide +kernel
theorem d3_10 : decode prog_29_method_5_code 10 = .ok (.iconst 1, 1) := by decide +kernel
theorem d3_11 : decode prog_29_method_5_code 11 = .ok (.if_icmp .ne 6, 3) := by decide +kernel

set_option maxRecDepth 65536 in
set_option maxHeartbeats 40000000 in
theorem rm3_ft_t (l : Launch) (Z : State) (a0 : Array Value) (hw : ∀ d ∈ tables_1, d.before a0 Z = true) (ws : List Jvm.Cond) (p1 : Int32) (p2 : Int32) (p3 : Int32) (p4 : Int32) (p5 : Int32) (p6 : Int32) (h0 : Heap) (n0 : Nat) (Z0 : n0 ≤ h0.size) (hc5 : ¬ (p3 = p2)) (hc11 : ¬ (p5 = (1 : Int32))) (hc19 : p4 = p2) :
    MetFree l (⟨"com/example/starling/starling/placement/Placement", "neededAfterMove", "(IIIIII)I"⟩ : MethodName) (head1 (Jvm.Cond.code (⟨"com/example/starling/starling/placement/Placement", "neededAfterMove", "(IIIIII)I"⟩ : MethodName) prog_29_method_5_code 7 (some .int) :: ws) ({ frames := 0, cells := 0, slots := 0, locals := 0 } : Room)) (fun a U => a = #[(.int p1), (.int p2), (.int p3), (.int p4), (.int p5), (.int p6)] ∧ Z.Warmed39 U.vm ∧ U.heap = h0) (fun _ _ _ _ _ => True) (fun _ U o U' => ∃ v L, o = .returned v ∧ Q3 Z p1 p2 p3 p4 p5 p6 h0 n0 v U'.heap L ∧ FrameEnd U o U' L ({ frames := 0, cells := 0, slots := 0, locals := 0 } : Room).cells ({ frames := 0, cells := 0, slots := 0, locals := 0 } : Room).slots) := by
  refine MetFree.of_bodySF (plainFor_of_name pn_3) hisR ?_
  intro p e s m args below meth c s₁ Bd hml0 hP hK
  obtain ⟨rfl, hZ, hh⟩ := hP
  have hx := Bd.exec
  have hby := Bd.bytes
  have hml : c.maxLocals = 7 := hml0
  have hown : s.vm.findClass "com/example/starling/starling/placement/Placement" = some m.cls := findClass_of_methodNamed Bd.named
  have hnm := (name_of_methodNamed Bd.named Bd.method).1
  have X0 : Stand p l e ({ frames := 0, cells := 0, slots := 0, locals := 0 } : Room) s m #[(.int p1), (.int p2), (.int p3), (.int p4), (.int p5), (.int p6)] below meth c s₁ [] 0 0 := Stand.of_body Bd
  have e0 : s₁.heap = h0 := by rw [← hh, Bd.state]; rfl
  have N0 := Fr.nil n0
  have pre0 : ∀ t, Steps p.tables e below (s₁.setTop (mkF m 0 #[.val (.int p1), .val (.int p2), .val (.int p3), .val (.int p4), .val (.int p5), .val (.int p6), .unset] [])) t → Steps p.tables e below (s₁.setTop (entryFrame m #[(.int p1), (.int p2), (.int p3), (.int p4), (.int p5), (.int p6)] 7)) t := fun t k => castTop (ef_3 m p1 p2 p3 p4 p5 p6) k

  obtain ⟨fs, hr, hrun, hended, hW, hsame⟩ := X0.leave (v := some (.int p1)) (fun h => by rw [Bd.returns] at h; cases h)
  refine ⟨_, _, pre0 _ ?_, hrun, hended, _, _, rfl, ?_, ⟨_, rfl⟩, hW, hsame.mono (by decide) (by decide)⟩
  · show Steps p.tables e below (s₁.setTop (mkF m 0 #[.val (.int p1), .val (.int p2), .val (.int p3), .val (.int p4), .val (.int p5), .val (.int p6), .unset] [])) _
    refine XS.iloadN X0.here hx rfl (hb hby d3_0) rfl ?_
    show Steps p.tables e below (s₁.setTop (mkF m 1 #[.val (.int p1), .val (.int p2), .val (.int p3), .val (.int p4), .val (.int p5), .val (.int p6), .unset] [(.int p1)])) _
    refine XS.istore X0.here hx rfl (hb hby d3_1) rfl (l' := #[.val (.int p1), .val (.int p2), .val (.int p3), .val (.int p4), .val (.int p5), .val (.int p6), .val (.int p1)]) rfl ?_
    show Steps p.tables e below (s₁.setTop (mkF m 3 #[.val (.int p1), .val (.int p2), .val (.int p3), .val (.int p4), .val (.int p5), .val (.int p6), .val (.int p1)] [])) _
    refine XS.iloadN X0.here hx rfl (hb hby d3_3) rfl ?_
    show Steps p.tables e below (s₁.setTop (mkF m 4 #[.val (.int p1), .val (.int p2), .val (.int p3), .val (.int p4), .val (.int p5), .val (.int p6), .val (.int p1)] [(.int p3)])) _
    refine XS.iloadN X0.here hx rfl (hb hby d3_4) rfl ?_
    show Steps p.tables e below (s₁.setTop (mkF m 5 #[.val (.int p1), .val (.int p2), .val (.int p3), .val (.int p4), .val (.int p5), .val (.int p6), .val (.int p1)] [(.int p2), (.int p3)])) _
    refine XS.icmpNo X0.here hx rfl (hb hby d3_5) rfl (feq hc5).1 ?_
    show Steps p.tables e below (s₁.setTop (mkF m 8 #[.val (.int p1), .val (.int p2), .val (.int p3), .val (.int p4), .val (.int p5), .val (.int p6), .val (.int p1)] [])) _
    refine XS.iload X0.here hx rfl (hb hby d3_8) rfl ?_
    show Steps p.tables e below (s₁.setTop (mkF m 10 #[.val (.int p1), .val (.int p2), .val (.int p3), .val (.int p4), .val (.int p5), .val (.int p6), .val (.int p1)] [(.int p5)])) _
    refine XS.iconst X0.here hx rfl (hb hby d3_10) ?_
    show Steps p.tables e below (s₁.setTop (mkF m 11 #[.val (.int p1), .val (.int p2), .val (.int p3), .val (.int p4), .val (.int p5), .val (.int p6), .val (.int p1)] [(.int (1 : Int32)), (.int p5)])) _
    refine XS.icmpYes X0.here hx rfl (pc0 := 11) (pc' := 17) rfl (hb hby d3_11) rfl (feq hc11).2 (by decide) (by decide) ?_
    show Steps p.tables e below (s₁.setTop (mkF m 17 #[.val (.int p1), .val (.int p2), .val (.int p3), .val (.int p4), .val (.int p5), .val (.int p6), .val (.int p1)] [])) _
    refine XS.iloadN X0.here hx rfl (hb hby d3_17) rfl ?_
    show Steps p.tables e below (s₁.setTop (mkF m 18 #[.val (.int p1), .val (.int p2), .val (.int p3), .val (.int p4), .val (.int p5), .val (.int p6), .val (.int p1)] [(.int p4)])) _
    refine XS.iloadN X0.here hx rfl (hb hby d3_18) rfl ?_
    show Steps p.tables e below (s₁.setTop (mkF m 19 #[.val (.int p1), .val (.int p2), .val (.int p3), .val (.int p4), .val (.int p5), .val (.int p6), .val (.int p1)] [(.int p2), (.int p4)])) _
    refine XS.icmpYes X0.here hx rfl (pc0 := 19) (pc' := 30) rfl (hb hby d3_19) rfl (teq hc19).1 (by decide) (by decide) ?_
    show Steps p.tables e below (s₁.setTop (mkF m 30 #[.val (.int p1), .val (.int p2), .val (.int p3), .val (.int p4), .val (.int p5), .val (.int p6), .val (.int p1)] [])) _
    refine XS.iload X0.here hx rfl (hb hby d3_30) rfl ?_
    show Steps p.tables e below (s₁.setTop (mkF m 32 #[.val (.int p1), .val (.int p2), .val (.int p3), .val (.int p4), .val (.int p5), .val (.int p6), .val (.int p1)] [(.int p1)])) _
    exact retI X0 hx Bd.returns (hb hby d3_32) hr
  · show Q3 Z p1 p2 p3 p4 p5 p6 h0 n0 _ s₁.heap _
    rw [e0]
    exact ⟨by rw [own_nam, own_inc, own_dec, if_pos hc19, if_neg hc5, if_neg hc11], N0, rfl⟩

set_option maxRecDepth 65536 in
set_option maxHeartbeats 40000000 in
theorem rm3_ft_ft (l : Launch) (Z : State) (a0 : Array Value) (hw : ∀ d ∈ tables_1, d.before a0 Z = true) (ws : List Jvm.Cond) (p1 : Int32) (p2 : Int32) (p3 : Int32) (p4 : Int32) (p5 : Int32) (p6 : Int32) (h0 : Heap) (n0 : Nat) (Z0 : n0 ≤ h0.size) (hc5 : ¬ (p3 = p2)) (hc11 : ¬ (p5 = (1 : Int32))) (hc19 : ¬ (p4 = p2)) (hc24 : ¬ (p6 = (0 : Int32))) :
    MetFree l (⟨"com/example/starling/starling/placement/Placement", "neededAfterMove", "(IIIIII)I"⟩ : MethodName) (head1 (Jvm.Cond.code (⟨"com/example/starling/starling/placement/Placement", "neededAfterMove", "(IIIIII)I"⟩ : MethodName) prog_29_method_5_code 7 (some .int) :: ws) ({ frames := 0, cells := 0, slots := 0, locals := 0 } : Room)) (fun a U => a = #[(.int p1), (.int p2), (.int p3), (.int p4), (.int p5), (.int p6)] ∧ Z.Warmed39 U.vm ∧ U.heap = h0) (fun _ _ _ _ _ => True) (fun _ U o U' => ∃ v L, o = .returned v ∧ Q3 Z p1 p2 p3 p4 p5 p6 h0 n0 v U'.heap L ∧ FrameEnd U o U' L ({ frames := 0, cells := 0, slots := 0, locals := 0 } : Room).cells ({ frames := 0, cells := 0, slots := 0, locals := 0 } : Room).slots) := by
  refine MetFree.of_bodySF (plainFor_of_name pn_3) hisR ?_
  intro p e s m args below meth c s₁ Bd hml0 hP hK
  obtain ⟨rfl, hZ, hh⟩ := hP
  have hx := Bd.exec
  have hby := Bd.bytes
  have hml : c.maxLocals = 7 := hml0
  have hown : s.vm.findClass "com/example/starling/starling/placement/Placement" = some m.cls := findClass_of_methodNamed Bd.named
  have hnm := (name_of_methodNamed Bd.named Bd.method).1
  have X0 : Stand p l e ({ frames := 0, cells := 0, slots := 0, locals := 0 } : Room) s m #[(.int p1), (.int p2), (.int p3), (.int p4), (.int p5), (.int p6)] below meth c s₁ [] 0 0 := Stand.of_body Bd
  have e0 : s₁.heap = h0 := by rw [← hh, Bd.state]; rfl
  have N0 := Fr.nil n0
  have pre0 : ∀ t, Steps p.tables e below (s₁.setTop (mkF m 0 #[.val (.int p1), .val (.int p2), .val (.int p3), .val (.int p4), .val (.int p5), .val (.int p6), .unset] [])) t → Steps p.tables e below (s₁.setTop (entryFrame m #[(.int p1), (.int p2), (.int p3), (.int p4), (.int p5), (.int p6)] 7)) t := fun t k => castTop (ef_3 m p1 p2 p3 p4 p5 p6) k

  obtain ⟨fs, hr, hrun, hended, hW, hsame⟩ := X0.leave (v := some (.int p1)) (fun h => by rw [Bd.returns] at h; cases h)
  refine ⟨_, _, pre0 _ ?_, hrun, hended, _, _, rfl, ?_, ⟨_, rfl⟩, hW, hsame.mono (by decide) (by decide)⟩
  · show Steps p.tables e below (s₁.setTop (mkF m 0 #[.val (.int p1), .val (.int p2), .val (.int p3), .val (.int p4), .val (.int p5), .val (.int p6), .unset] [])) _
    refine XS.iloadN X0.here hx rfl (hb hby d3_0) rfl ?_
    show Steps p.tables e below (s₁.setTop (mkF m 1 #[.val (.int p1), .val (.int p2), .val (.int p3), .val (.int p4), .val (.int p5), .val (.int p6), .unset] [(.int p1)])) _
    refine XS.istore X0.here hx rfl (hb hby d3_1) rfl (l' := #[.val (.int p1), .val (.int p2), .val (.int p3), .val (.int p4), .val (.int p5), .val (.int p6), .val (.int p1)]) rfl ?_
    show Steps p.tables e below (s₁.setTop (mkF m 3 #[.val (.int p1), .val (.int p2), .val (.int p3), .val (.int p4), .val (.int p5), .val (.int p6), .val (.int p1)] [])) _
    refine XS.iloadN X0.here hx rfl (hb hby d3_3) rfl ?_
    show Steps p.tables e below (s₁.setTop (mkF m 4 #[.val (.int p1), .val (.int p2), .val (.int p3), .val (.int p4), .val (.int p5), .val (.int p6), .val (.int p1)] [(.int p3)])) _
    refine XS.iloadN X0.here hx rfl (hb hby d3_4) rfl ?_
    show Steps p.tables e below (s₁.setTop (mkF m 5 #[.val (.int p1), .val (.int p2), .val (.int p3), .val (.int p4), .val (.int p5), .val (.int p6), .val (.int p1)] [(.int p2), (.int p3)])) _
    refine XS.icmpNo X0.here hx rfl (hb hby d3_5) rfl (feq hc5).1 ?_
    show Steps p.tables e below (s₁.setTop (mkF m 8 #[.val (.int p1), .val (.int p2), .val (.int p3), .val (.int p4), .val (.int p5), .val (.int p6), .val (.int p1)] [])) _
    refine XS.iload X0.here hx rfl (hb hby d3_8) rfl ?_
    show Steps p.tables e below (s₁.setTop (mkF m 10 #[.val (.int p1), .val (.int p2), .val (.int p3), .val (.int p4), .val (.int p5), .val (.int p6), .val (.int p1)] [(.int p5)])) _
    refine XS.iconst X0.here hx rfl (hb hby d3_10) ?_
    show Steps p.tables e below (s₁.setTop (mkF m 11 #[.val (.int p1), .val (.int p2), .val (.int p3), .val (.int p4), .val (.int p5), .val (.int p6), .val (.int p1)] [(.int (1 : Int32)), (.int p5)])) _
    refine XS.icmpYes X0.here hx rfl (pc0 := 11) (pc' := 17) rfl (hb hby d3_11) rfl (feq hc11).2 (by decide) (by decide) ?_
    show Steps p.tables e below (s₁.setTop (mkF m 17 #[.val (.int p1), .val (.int p2), .val (.int p3), .val (.int p4), .val (.int p5), .val (.int p6), .val (.int p1)] [])) _
    refine XS.iloadN X0.here hx rfl (hb hby d3_17) rfl ?_
    show Steps p.tables e below (s₁.setTop (mkF m 18 #[.val (.int p1), .val (.int p2), .val (.int p3), .val (.int p4), .val (.int p5), .val (.int p6), .val (.int p1)] [(.int p4)])) _
    refine XS.iloadN X0.here hx rfl (hb hby d3_18) rfl ?_
    show Steps p.tables e below (s₁.setTop (mkF m 19 #[.val (.int p1), .val (.int p2), .val (.int p3), .val (.int p4), .val (.int p5), .val (.int p6), .val (.int p1)] [(.int p2), (.int p4)])) _
    refine XS.icmpNo X0.here hx rfl (hb hby d3_19) rfl (feq hc19).1 ?_
    show Steps p.tables e below (s₁.setTop (mkF m 22 #[.val (.int p1), .val (.int p2), .val (.int p3), .val (.int p4), .val (.int p5), .val (.int p6), .val (.int p1)] [])) _
    refine XS.iload X0.here hx rfl (hb hby d3_22) rfl ?_
    show Steps p.tables e below (s₁.setTop (mkF m 24 #[.val (.int p1), .val (.int p2), .val (.int p3), .val (.int p4), .val (.int p5), .val (.int p6), .val (.int p1)] [(.int p6)])) _
    refine XS.ifYes X0.here hx rfl (pc0 := 24) (pc' := 30) rfl (hb hby d3_24) rfl ((if0 _ _).trans (feq hc24).2) (by decide) (by decide) ?_
    show Steps p.tables e below (s₁.setTop (mkF m 30 #[.val (.int p1), .val (.int p2), .val (.int p3), .val (.int p4), .val (.int p5), .val (.int p6), .val (.int p1)] [])) _
    refine XS.iload X0.here hx rfl (hb hby d3_30) rfl ?_
    show Steps p.tables e below (s₁.setTop (mkF m 32 #[.val (.int p1), .val (.int p2), .val (.int p3), .val (.int p4), .val (.int p5), .val (.int p6), .val (.int p1)] [(.int p1)])) _
    exact retI X0 hx Bd.returns (hb hby d3_32) hr
  · show Q3 Z p1 p2 p3 p4 p5 p6 h0 n0 _ s₁.heap _
    rw [e0]
    exact ⟨by rw [own_nam, own_inc, own_dec, if_neg hc19, if_neg hc24, if_neg hc5, if_neg hc11], N0, rfl⟩

set_option maxRecDepth 65536 in
set_option maxHeartbeats 40000000 in
theorem rm3_ft_ff (l : Launch) (Z : State) (a0 : Array Value) (hw : ∀ d ∈ tables_1, d.before a0 Z = true) (ws : List Jvm.Cond) (p1 : Int32) (p2 : Int32) (p3 : Int32) (p4 : Int32) (p5 : Int32) (p6 : Int32) (h0 : Heap) (n0 : Nat) (Z0 : n0 ≤ h0.size) (hc5 : ¬ (p3 = p2)) (hc11 : ¬ (p5 = (1 : Int32))) (hc19 : ¬ (p4 = p2)) (hc24 : p6 = (0 : Int32)) :
    MetFree l (⟨"com/example/starling/starling/placement/Placement", "neededAfterMove", "(IIIIII)I"⟩ : MethodName) (head1 (Jvm.Cond.code (⟨"com/example/starling/starling/placement/Placement", "neededAfterMove", "(IIIIII)I"⟩ : MethodName) prog_29_method_5_code 7 (some .int) :: ws) ({ frames := 0, cells := 0, slots := 0, locals := 0 } : Room)) (fun a U => a = #[(.int p1), (.int p2), (.int p3), (.int p4), (.int p5), (.int p6)] ∧ Z.Warmed39 U.vm ∧ U.heap = h0) (fun _ _ _ _ _ => True) (fun _ U o U' => ∃ v L, o = .returned v ∧ Q3 Z p1 p2 p3 p4 p5 p6 h0 n0 v U'.heap L ∧ FrameEnd U o U' L ({ frames := 0, cells := 0, slots := 0, locals := 0 } : Room).cells ({ frames := 0, cells := 0, slots := 0, locals := 0 } : Room).slots) := by
  refine MetFree.of_bodySF (plainFor_of_name pn_3) hisR ?_
  intro p e s m args below meth c s₁ Bd hml0 hP hK
  obtain ⟨rfl, hZ, hh⟩ := hP
  have hx := Bd.exec
  have hby := Bd.bytes
  have hml : c.maxLocals = 7 := hml0
  have hown : s.vm.findClass "com/example/starling/starling/placement/Placement" = some m.cls := findClass_of_methodNamed Bd.named
  have hnm := (name_of_methodNamed Bd.named Bd.method).1
  have X0 : Stand p l e ({ frames := 0, cells := 0, slots := 0, locals := 0 } : Room) s m #[(.int p1), (.int p2), (.int p3), (.int p4), (.int p5), (.int p6)] below meth c s₁ [] 0 0 := Stand.of_body Bd
  have e0 : s₁.heap = h0 := by rw [← hh, Bd.state]; rfl
  have N0 := Fr.nil n0
  have pre0 : ∀ t, Steps p.tables e below (s₁.setTop (mkF m 0 #[.val (.int p1), .val (.int p2), .val (.int p3), .val (.int p4), .val (.int p5), .val (.int p6), .unset] [])) t → Steps p.tables e below (s₁.setTop (entryFrame m #[(.int p1), (.int p2), (.int p3), (.int p4), (.int p5), (.int p6)] 7)) t := fun t k => castTop (ef_3 m p1 p2 p3 p4 p5 p6) k

  obtain ⟨fs, hr, hrun, hended, hW, hsame⟩ := X0.leave (v := some (.int (p1 + (1 : Int32)))) (fun h => by rw [Bd.returns] at h; cases h)
  refine ⟨_, _, pre0 _ ?_, hrun, hended, _, _, rfl, ?_, ⟨_, rfl⟩, hW, hsame.mono (by decide) (by decide)⟩
  · show Steps p.tables e below (s₁.setTop (mkF m 0 #[.val (.int p1), .val (.int p2), .val (.int p3), .val (.int p4), .val (.int p5), .val (.int p6), .unset] [])) _
    refine XS.iloadN X0.here hx rfl (hb hby d3_0) rfl ?_
    show Steps p.tables e below (s₁.setTop (mkF m 1 #[.val (.int p1), .val (.int p2), .val (.int p3), .val (.int p4), .val (.int p5), .val (.int p6), .unset] [(.int p1)])) _
    refine XS.istore X0.here hx rfl (hb hby d3_1) rfl (l' := #[.val (.int p1), .val (.int p2), .val (.int p3), .val (.int p4), .val (.int p5), .val (.int p6), .val (.int p1)]) rfl ?_
    show Steps p.tables e below (s₁.setTop (mkF m 3 #[.val (.int p1), .val (.int p2), .val (.int p3), .val (.int p4), .val (.int p5), .val (.int p6), .val (.int p1)] [])) _
    refine XS.iloadN X0.here hx rfl (hb hby d3_3) rfl ?_
    show Steps p.tables e below (s₁.setTop (mkF m 4 #[.val (.int p1), .val (.int p2), .val (.int p3), .val (.int p4), .val (.int p5), .val (.int p6), .val (.int p1)] [(.int p3)])) _
    refine XS.iloadN X0.here hx rfl (hb hby d3_4) rfl ?_
    show Steps p.tables e below (s₁.setTop (mkF m 5 #[.val (.int p1), .val (.int p2), .val (.int p3), .val (.int p4), .val (.int p5), .val (.int p6), .val (.int p1)] [(.int p2), (.int p3)])) _
    refine XS.icmpNo X0.here hx rfl (hb hby d3_5) rfl (feq hc5).1 ?_
    show Steps p.tables e below (s₁.setTop (mkF m 8 #[.val (.int p1), .val (.int p2), .val (.int p3), .val (.int p4), .val (.int p5), .val (.int p6), .val (.int p1)] [])) _
    refine XS.iload X0.here hx rfl (hb hby d3_8) rfl ?_
    show Steps p.tables e below (s₁.setTop (mkF m 10 #[.val (.int p1), .val (.int p2), .val (.int p3), .val (.int p4), .val (.int p5), .val (.int p6), .val (.int p1)] [(.int p5)])) _
    refine XS.iconst X0.here hx rfl (hb hby d3_10) ?_
    show Steps p.tables e below (s₁.setTop (mkF m 11 #[.val (.int p1), .val (.int p2), .val (.int p3), .val (.int p4), .val (.int p5), .val (.int p6), .val (.int p1)] [(.int (1 : Int32)), (.int p5)])) _
    refine XS.icmpYes X0.here hx rfl (pc0 := 11) (pc' := 17) rfl (hb hby d3_11) rfl (feq hc11).2 (by decide) (by decide) ?_
    show Steps p.tables e below (s₁.setTop (mkF m 17 #[.val (.int p1), .val (.int p2), .val (.int p3), .val (.int p4), .val (.int p5), .val (.int p6), .val (.int p1)] [])) _
    refine XS.iloadN X0.here hx rfl (hb hby d3_17) rfl ?_
    show Steps p.tables e below (s₁.setTop (mkF m 18 #[.val (.int p1), .val (.int p2), .val (.int p3), .val (.int p4), .val (.int p5), .val (.int p6), .val (.int p1)] [(.int p4)])) _
    refine XS.iloadN X0.here hx rfl (hb hby d3_18) rfl ?_
    show Steps p.tables e below (s₁.setTop (mkF m 19 #[.val (.int p1), .val (.int p2), .val (.int p3), .val (.int p4), .val (.int p5), .val (.int p6), .val (.int p1)] [(.int p2), (.int p4)])) _
    refine XS.icmpNo X0.here hx rfl (hb hby d3_19) rfl (feq hc19).1 ?_
    show Steps p.tables e below (s₁.setTop (mkF m 22 #[.val (.int p1), .val (.int p2), .val (.int p3), .val (.int p4), .val (.int p5), .val (.int p6), .val (.int p1)] [])) _
    refine XS.iload X0.here hx rfl (hb hby d3_22) rfl ?_
    show Steps p.tables e below (s₁.setTop (mkF m 24 #[.val (.int p1), .val (.int p2), .val (.int p3), .val (.int p4), .val (.int p5), .val (.int p6), .val (.int p1)] [(.int p6)])) _
    refine XS.ifNo X0.here hx rfl (hb hby d3_24) rfl ((if0 _ _).trans (teq hc24).2) ?_
    show Steps p.tables e below (s₁.setTop (mkF m 27 #[.val (.int p1), .val (.int p2), .val (.int p3), .val (.int p4), .val (.int p5), .val (.int p6), .val (.int p1)] [])) _
    refine XS.iinc X0.here hx rfl (hb hby d3_27) rfl (l' := #[.val (.int p1), .val (.int p2), .val (.int p3), .val (.int p4), .val (.int p5), .val (.int p6), .val (.int (p1 + (1 : Int32)))]) rfl ?_
    show Steps p.tables e below (s₁.setTop (mkF m 30 #[.val (.int p1), .val (.int p2), .val (.int p3), .val (.int p4), .val (.int p5), .val (.int p6), .val (.int (p1 + (1 : Int32)))] [])) _
    refine XS.iload X0.here hx rfl (hb hby d3_30) rfl ?_
    show Steps p.tables e below (s₁.setTop (mkF m 32 #[.val (.int p1), .val (.int p2), .val (.int p3), .val (.int p4), .val (.int p5), .val (.int p6), .val (.int (p1 + (1 : Int32)))] [(.int (p1 + (1 : Int32)))])) _
    exact retI X0 hx Bd.returns (hb hby d3_32) hr
  · show Q3 Z p1 p2 p3 p4 p5 p6 h0 n0 _ s₁.heap _
    rw [e0]
    exact ⟨by rw [own_nam, own_inc, own_dec, if_neg hc19, if_pos hc24, if_neg hc5, if_neg hc11], N0, rfl⟩
theorem d3_14 : decode prog_29_method_5_code 14 = .ok (.iinc 6 (-1), 3) := by decide +kernel

set_option maxRecDepth 65536 in
set_option maxHeartbeats 40000000 in
theorem rm3_ff_t (l : Launch) (Z : State) (a0 : Array Value) (hw : ∀ d ∈ tables_1, d.before a0 Z = true) (ws : List Jvm.Cond) (p1 : Int32) (p2 : Int32) (p3 : Int32) (p4 : Int32) (p5 : Int32) (p6 : Int32) (h0 : Heap) (n0 : Nat) (Z0 : n0 ≤ h0.size) (hc5 : ¬ (p3 = p2)) (hc11 : p5 = (1 : Int32)) (hc19 : p4 = p2) :
    MetFree l (⟨"com/example/starling/starling/placement/Placement", "neededAfterMove", "(IIIIII)I"⟩ : MethodName) (head1 (Jvm.Cond.code (⟨"com/example/starling/starling/placement/Placement", "neededAfterMove", "(IIIIII)I"⟩ : MethodName) prog_29_method_5_code 7 (some .int) :: ws) ({ frames := 0, cells := 0, slots := 0, locals := 0 } : Room)) (fun a U => a = #[(.int p1), (.int p2), (.int p3), (.int p4), (.int p5), (.int p6)] ∧ Z.Warmed39 U.vm ∧ U.heap = h0) (fun _ _ _ _ _ => True) (fun _ U o U' => ∃ v L, o = .returned v ∧ Q3 Z p1 p2 p3 p4 p5 p6 h0 n0 v U'.heap L ∧ FrameEnd U o U' L ({ frames := 0, cells := 0, slots := 0, locals := 0 } : Room).cells ({ frames := 0, cells := 0, slots := 0, locals := 0 } : Room).slots) := by
  refine MetFree.of_bodySF (plainFor_of_name pn_3) hisR ?_
  intro p e s m args below meth c s₁ Bd hml0 hP hK
  obtain ⟨rfl, hZ, hh⟩ := hP
  have hx := Bd.exec
  have hby := Bd.bytes
  have hml : c.maxLocals = 7 := hml0
  have hown : s.vm.findClass "com/example/starling/starling/placement/Placement" = some m.cls := findClass_of_methodNamed Bd.named
  have hnm := (name_of_methodNamed Bd.named Bd.method).1
  have X0 : Stand p l e ({ frames := 0, cells := 0, slots := 0, locals := 0 } : Room) s m #[(.int p1), (.int p2), (.int p3), (.int p4), (.int p5), (.int p6)] below meth c s₁ [] 0 0 := Stand.of_body Bd
  have e0 : s₁.heap = h0 := by rw [← hh, Bd.state]; rfl
  have N0 := Fr.nil n0
  have pre0 : ∀ t, Steps p.tables e below (s₁.setTop (mkF m 0 #[.val (.int p1), .val (.int p2), .val (.int p3), .val (.int p4), .val (.int p5), .val (.int p6), .unset] [])) t → Steps p.tables e below (s₁.setTop (entryFrame m #[(.int p1), (.int p2), (.int p3), (.int p4), (.int p5), (.int p6)] 7)) t := fun t k => castTop (ef_3 m p1 p2 p3 p4 p5 p6) k

  obtain ⟨fs, hr, hrun, hended, hW, hsame⟩ := X0.leave (v := some (.int (p1 + (-1 : Int32)))) (fun h => by rw [Bd.returns] at h; cases h)
  refine ⟨_, _, pre0 _ ?_, hrun, hended, _, _, rfl, ?_, ⟨_, rfl⟩, hW, hsame.mono (by decide) (by decide)⟩
  · show Steps p.tables e below (s₁.setTop (mkF m 0 #[.val (.int p1), .val (.int p2), .val (.int p3), .val (.int p4), .val (.int p5), .val (.int p6), .unset] [])) _
    refine XS.iloadN X0.here hx rfl (hb hby d3_0) rfl ?_
    show Steps p.tables e below (s₁.setTop (mkF m 1 #[.val (.int p1), .val (.int p2), .val (.int p3), .val (.int p4), .val (.int p5), .val (.int p6), .unset] [(.int p1)])) _
    refine XS.istore X0.here hx rfl (hb hby d3_1) rfl (l' := #[.val (.int p1), .val (.int p2), .val (.int p3), .val (.int p4), .val (.int p5), .val (.int p6), .val (.int p1)]) rfl ?_
    show Steps p.tables e below (s₁.setTop (mkF m 3 #[.val (.int p1), .val (.int p2), .val (.int p3), .val (.int p4), .val (.int p5), .val (.int p6), .val (.int p1)] [])) _
    refine XS.iloadN X0.here hx rfl (hb hby d3_3) rfl ?_
    show Steps p.tables e below (s₁.setTop (mkF m 4 #[.val (.int p1), .val (.int p2), .val (.int p3), .val (.int p4), .val (.int p5), .val (.int p6), .val (.int p1)] [(.int p3)])) _
    refine XS.iloadN X0.here hx rfl (hb hby d3_4) rfl ?_
    show Steps p.tables e below (s₁.setTop (mkF m 5 #[.val (.int p1), .val (.int p2), .val (.int p3), .val (.int p4), .val (.int p5), .val (.int p6), .val (.int p1)] [(.int p2), (.int p3)])) _
    refine XS.icmpNo X0.here hx rfl (hb hby d3_5) rfl (feq hc5).1 ?_
    show Steps p.tables e below (s₁.setTop (mkF m 8 #[.val (.int p1), .val (.int p2), .val (.int p3), .val (.int p4), .val (.int p5), .val (.int p6), .val (.int p1)] [])) _
    refine XS.iload X0.here hx rfl (hb hby d3_8) rfl ?_
    show Steps p.tables e below (s₁.setTop (mkF m 10 #[.val (.int p1), .val (.int p2), .val (.int p3), .val (.int p4), .val (.int p5), .val (.int p6), .val (.int p1)] [(.int p5)])) _
    refine XS.iconst X0.here hx rfl (hb hby d3_10) ?_
    show Steps p.tables e below (s₁.setTop (mkF m 11 #[.val (.int p1), .val (.int p2), .val (.int p3), .val (.int p4), .val (.int p5), .val (.int p6), .val (.int p1)] [(.int (1 : Int32)), (.int p5)])) _
    refine XS.icmpNo X0.here hx rfl (hb hby d3_11) rfl (teq hc11).2 ?_
    show Steps p.tables e below (s₁.setTop (mkF m 14 #[.val (.int p1), .val (.int p2), .val (.int p3), .val (.int p4), .val (.int p5), .val (.int p6), .val (.int p1)] [])) _
    refine XS.iinc X0.here hx rfl (hb hby d3_14) rfl (l' := #[.val (.int p1), .val (.int p2), .val (.int p3), .val (.int p4), .val (.int p5), .val (.int p6), .val (.int (p1 + (-1 : Int32)))]) rfl ?_
    show Steps p.tables e below (s₁.setTop (mkF m 17 #[.val (.int p1), .val (.int p2), .val (.int p3), .val (.int p4), .val (.int p5), .val (.int p6), .val (.int (p1 + (-1 : Int32)))] [])) _
    refine XS.iloadN X0.here hx rfl (hb hby d3_17) rfl ?_
    show Steps p.tables e below (s₁.setTop (mkF m 18 #[.val (.int p1), .val (.int p2), .val (.int p3), .val (.int p4), .val (.int p5), .val (.int p6), .val (.int (p1 + (-1 : Int32)))] [(.int p4)])) _
    refine XS.iloadN X0.here hx rfl (hb hby d3_18) rfl ?_
    show Steps p.tables e below (s₁.setTop (mkF m 19 #[.val (.int p1), .val (.int p2), .val (.int p3), .val (.int p4), .val (.int p5), .val (.int p6), .val (.int (p1 + (-1 : Int32)))] [(.int p2), (.int p4)])) _
    refine XS.icmpYes X0.here hx rfl (pc0 := 19) (pc' := 30) rfl (hb hby d3_19) rfl (teq hc19).1 (by decide) (by decide) ?_
    show Steps p.tables e below (s₁.setTop (mkF m 30 #[.val (.int p1), .val (.int p2), .val (.int p3), .val (.int p4), .val (.int p5), .val (.int p6), .val (.int (p1 + (-1 : Int32)))] [])) _
    refine XS.iload X0.here hx rfl (hb hby d3_30) rfl ?_
    show Steps p.tables e below (s₁.setTop (mkF m 32 #[.val (.int p1), .val (.int p2), .val (.int p3), .val (.int p4), .val (.int p5), .val (.int p6), .val (.int (p1 + (-1 : Int32)))] [(.int (p1 + (-1 : Int32)))])) _
    exact retI X0 hx Bd.returns (hb hby d3_32) hr
  · show Q3 Z p1 p2 p3 p4 p5 p6 h0 n0 _ s₁.heap _
    rw [e0]
    exact ⟨by rw [own_nam, own_inc, own_dec, if_pos hc19, if_neg hc5, if_pos hc11], N0, rfl⟩

set_option maxRecDepth 65536 in
set_option maxHeartbeats 40000000 in
theorem rm3_ff_ft (l : Launch) (Z : State) (a0 : Array Value) (hw : ∀ d ∈ tables_1, d.before a0 Z = true) (ws : List Jvm.Cond) (p1 : Int32) (p2 : Int32) (p3 : Int32) (p4 : Int32) (p5 : Int32) (p6 : Int32) (h0 : Heap) (n0 : Nat) (Z0 : n0 ≤ h0.size) (hc5 : ¬ (p3 = p2)) (hc11 : p5 = (1 : Int32)) (hc19 : ¬ (p4 = p2)) (hc24 : ¬ (p6 = (0 : Int32))) :
    MetFree l (⟨"com/example/starling/starling/placement/Placement", "neededAfterMove", "(IIIIII)I"⟩ : MethodName) (head1 (Jvm.Cond.code (⟨"com/example/starling/starling/placement/Placement", "neededAfterMove", "(IIIIII)I"⟩ : MethodName) prog_29_method_5_code 7 (some .int) :: ws) ({ frames := 0, cells := 0, slots := 0, locals := 0 } : Room)) (fun a U => a = #[(.int p1), (.int p2), (.int p3), (.int p4), (.int p5), (.int p6)] ∧ Z.Warmed39 U.vm ∧ U.heap = h0) (fun _ _ _ _ _ => True) (fun _ U o U' => ∃ v L, o = .returned v ∧ Q3 Z p1 p2 p3 p4 p5 p6 h0 n0 v U'.heap L ∧ FrameEnd U o U' L ({ frames := 0, cells := 0, slots := 0, locals := 0 } : Room).cells ({ frames := 0, cells := 0, slots := 0, locals := 0 } : Room).slots) := by
  refine MetFree.of_bodySF (plainFor_of_name pn_3) hisR ?_
  intro p e s m args below meth c s₁ Bd hml0 hP hK
  obtain ⟨rfl, hZ, hh⟩ := hP
  have hx := Bd.exec
  have hby := Bd.bytes
  have hml : c.maxLocals = 7 := hml0
  have hown : s.vm.findClass "com/example/starling/starling/placement/Placement" = some m.cls := findClass_of_methodNamed Bd.named
  have hnm := (name_of_methodNamed Bd.named Bd.method).1
  have X0 : Stand p l e ({ frames := 0, cells := 0, slots := 0, locals := 0 } : Room) s m #[(.int p1), (.int p2), (.int p3), (.int p4), (.int p5), (.int p6)] below meth c s₁ [] 0 0 := Stand.of_body Bd
  have e0 : s₁.heap = h0 := by rw [← hh, Bd.state]; rfl
  have N0 := Fr.nil n0
  have pre0 : ∀ t, Steps p.tables e below (s₁.setTop (mkF m 0 #[.val (.int p1), .val (.int p2), .val (.int p3), .val (.int p4), .val (.int p5), .val (.int p6), .unset] [])) t → Steps p.tables e below (s₁.setTop (entryFrame m #[(.int p1), (.int p2), (.int p3), (.int p4), (.int p5), (.int p6)] 7)) t := fun t k => castTop (ef_3 m p1 p2 p3 p4 p5 p6) k

  obtain ⟨fs, hr, hrun, hended, hW, hsame⟩ := X0.leave (v := some (.int (p1 + (-1 : Int32)))) (fun h => by rw [Bd.returns] at h; cases h)
  refine ⟨_, _, pre0 _ ?_, hrun, hended, _, _, rfl, ?_, ⟨_, rfl⟩, hW, hsame.mono (by decide) (by decide)⟩
  · show Steps p.tables e below (s₁.setTop (mkF m 0 #[.val (.int p1), .val (.int p2), .val (.int p3), .val (.int p4), .val (.int p5), .val (.int p6), .unset] [])) _
    refine XS.iloadN X0.here hx rfl (hb hby d3_0) rfl ?_
    show Steps p.tables e below (s₁.setTop (mkF m 1 #[.val (.int p1), .val (.int p2), .val (.int p3), .val (.int p4), .val (.int p5), .val (.int p6), .unset] [(.int p1)])) _
    refine XS.istore X0.here hx rfl (hb hby d3_1) rfl (l' := #[.val (.int p1), .val (.int p2), .val (.int p3), .val (.int p4), .val (.int p5), .val (.int p6), .val (.int p1)]) rfl ?_
    show Steps p.tables e below (s₁.setTop (mkF m 3 #[.val (.int p1), .val (.int p2), .val (.int p3), .val (.int p4), .val (.int p5), .val (.int p6), .val (.int p1)] [])) _
    refine XS.iloadN X0.here hx rfl (hb hby d3_3) rfl ?_
    show Steps p.tables e below (s₁.setTop (mkF m 4 #[.val (.int p1), .val (.int p2), .val (.int p3), .val (.int p4), .val (.int p5), .val (.int p6), .val (.int p1)] [(.int p3)])) _
    refine XS.iloadN X0.here hx rfl (hb hby d3_4) rfl ?_
    show Steps p.tables e below (s₁.setTop (mkF m 5 #[.val (.int p1), .val (.int p2), .val (.int p3), .val (.int p4), .val (.int p5), .val (.int p6), .val (.int p1)] [(.int p2), (.int p3)])) _
    refine XS.icmpNo X0.here hx rfl (hb hby d3_5) rfl (feq hc5).1 ?_
    show Steps p.tables e below (s₁.setTop (mkF m 8 #[.val (.int p1), .val (.int p2), .val (.int p3), .val (.int p4), .val (.int p5), .val (.int p6), .val (.int p1)] [])) _
    refine XS.iload X0.here hx rfl (hb hby d3_8) rfl ?_
    show Steps p.tables e below (s₁.setTop (mkF m 10 #[.val (.int p1), .val (.int p2), .val (.int p3), .val (.int p4), .val (.int p5), .val (.int p6), .val (.int p1)] [(.int p5)])) _
    refine XS.iconst X0.here hx rfl (hb hby d3_10) ?_
    show Steps p.tables e below (s₁.setTop (mkF m 11 #[.val (.int p1), .val (.int p2), .val (.int p3), .val (.int p4), .val (.int p5), .val (.int p6), .val (.int p1)] [(.int (1 : Int32)), (.int p5)])) _
    refine XS.icmpNo X0.here hx rfl (hb hby d3_11) rfl (teq hc11).2 ?_
    show Steps p.tables e below (s₁.setTop (mkF m 14 #[.val (.int p1), .val (.int p2), .val (.int p3), .val (.int p4), .val (.int p5), .val (.int p6), .val (.int p1)] [])) _
    refine XS.iinc X0.here hx rfl (hb hby d3_14) rfl (l' := #[.val (.int p1), .val (.int p2), .val (.int p3), .val (.int p4), .val (.int p5), .val (.int p6), .val (.int (p1 + (-1 : Int32)))]) rfl ?_
    show Steps p.tables e below (s₁.setTop (mkF m 17 #[.val (.int p1), .val (.int p2), .val (.int p3), .val (.int p4), .val (.int p5), .val (.int p6), .val (.int (p1 + (-1 : Int32)))] [])) _
    refine XS.iloadN X0.here hx rfl (hb hby d3_17) rfl ?_
    show Steps p.tables e below (s₁.setTop (mkF m 18 #[.val (.int p1), .val (.int p2), .val (.int p3), .val (.int p4), .val (.int p5), .val (.int p6), .val (.int (p1 + (-1 : Int32)))] [(.int p4)])) _
    refine XS.iloadN X0.here hx rfl (hb hby d3_18) rfl ?_
    show Steps p.tables e below (s₁.setTop (mkF m 19 #[.val (.int p1), .val (.int p2), .val (.int p3), .val (.int p4), .val (.int p5), .val (.int p6), .val (.int (p1 + (-1 : Int32)))] [(.int p2), (.int p4)])) _
    refine XS.icmpNo X0.here hx rfl (hb hby d3_19) rfl (feq hc19).1 ?_
    show Steps p.tables e below (s₁.setTop (mkF m 22 #[.val (.int p1), .val (.int p2), .val (.int p3), .val (.int p4), .val (.int p5), .val (.int p6), .val (.int (p1 + (-1 : Int32)))] [])) _
    refine XS.iload X0.here hx rfl (hb hby d3_22) rfl ?_
    show Steps p.tables e below (s₁.setTop (mkF m 24 #[.val (.int p1), .val (.int p2), .val (.int p3), .val (.int p4), .val (.int p5), .val (.int p6), .val (.int (p1 + (-1 : Int32)))] [(.int p6)])) _
    refine XS.ifYes X0.here hx rfl (pc0 := 24) (pc' := 30) rfl (hb hby d3_24) rfl ((if0 _ _).trans (feq hc24).2) (by decide) (by decide) ?_
    show Steps p.tables e below (s₁.setTop (mkF m 30 #[.val (.int p1), .val (.int p2), .val (.int p3), .val (.int p4), .val (.int p5), .val (.int p6), .val (.int (p1 + (-1 : Int32)))] [])) _
    refine XS.iload X0.here hx rfl (hb hby d3_30) rfl ?_
    show Steps p.tables e below (s₁.setTop (mkF m 32 #[.val (.int p1), .val (.int p2), .val (.int p3), .val (.int p4), .val (.int p5), .val (.int p6), .val (.int (p1 + (-1 : Int32)))] [(.int (p1 + (-1 : Int32)))])) _
    exact retI X0 hx Bd.returns (hb hby d3_32) hr
  · show Q3 Z p1 p2 p3 p4 p5 p6 h0 n0 _ s₁.heap _
    rw [e0]
    exact ⟨by rw [own_nam, own_inc, own_dec, if_neg hc19, if_neg hc24, if_neg hc5, if_pos hc11], N0, rfl⟩

set_option maxRecDepth 65536 in
set_option maxHeartbeats 40000000 in
theorem rm3_ff_ff (l : Launch) (Z : State) (a0 : Array Value) (hw : ∀ d ∈ tables_1, d.before a0 Z = true) (ws : List Jvm.Cond) (p1 : Int32) (p2 : Int32) (p3 : Int32) (p4 : Int32) (p5 : Int32) (p6 : Int32) (h0 : Heap) (n0 : Nat) (Z0 : n0 ≤ h0.size) (hc5 : ¬ (p3 = p2)) (hc11 : p5 = (1 : Int32)) (hc19 : ¬ (p4 = p2)) (hc24 : p6 = (0 : Int32)) :
    MetFree l (⟨"com/example/starling/starling/placement/Placement", "neededAfterMove", "(IIIIII)I"⟩ : MethodName) (head1 (Jvm.Cond.code (⟨"com/example/starling/starling/placement/Placement", "neededAfterMove", "(IIIIII)I"⟩ : MethodName) prog_29_method_5_code 7 (some .int) :: ws) ({ frames := 0, cells := 0, slots := 0, locals := 0 } : Room)) (fun a U => a = #[(.int p1), (.int p2), (.int p3), (.int p4), (.int p5), (.int p6)] ∧ Z.Warmed39 U.vm ∧ U.heap = h0) (fun _ _ _ _ _ => True) (fun _ U o U' => ∃ v L, o = .returned v ∧ Q3 Z p1 p2 p3 p4 p5 p6 h0 n0 v U'.heap L ∧ FrameEnd U o U' L ({ frames := 0, cells := 0, slots := 0, locals := 0 } : Room).cells ({ frames := 0, cells := 0, slots := 0, locals := 0 } : Room).slots) := by
  refine MetFree.of_bodySF (plainFor_of_name pn_3) hisR ?_
  intro p e s m args below meth c s₁ Bd hml0 hP hK
  obtain ⟨rfl, hZ, hh⟩ := hP
  have hx := Bd.exec
  have hby := Bd.bytes
  have hml : c.maxLocals = 7 := hml0
  have hown : s.vm.findClass "com/example/starling/starling/placement/Placement" = some m.cls := findClass_of_methodNamed Bd.named
  have hnm := (name_of_methodNamed Bd.named Bd.method).1
  have X0 : Stand p l e ({ frames := 0, cells := 0, slots := 0, locals := 0 } : Room) s m #[(.int p1), (.int p2), (.int p3), (.int p4), (.int p5), (.int p6)] below meth c s₁ [] 0 0 := Stand.of_body Bd
  have e0 : s₁.heap = h0 := by rw [← hh, Bd.state]; rfl
  have N0 := Fr.nil n0
  have pre0 : ∀ t, Steps p.tables e below (s₁.setTop (mkF m 0 #[.val (.int p1), .val (.int p2), .val (.int p3), .val (.int p4), .val (.int p5), .val (.int p6), .unset] [])) t → Steps p.tables e below (s₁.setTop (entryFrame m #[(.int p1), (.int p2), (.int p3), (.int p4), (.int p5), (.int p6)] 7)) t := fun t k => castTop (ef_3 m p1 p2 p3 p4 p5 p6) k

  obtain ⟨fs, hr, hrun, hended, hW, hsame⟩ := X0.leave (v := some (.int ((p1 + (-1 : Int32)) + (1 : Int32)))) (fun h => by rw [Bd.returns] at h; cases h)
  refine ⟨_, _, pre0 _ ?_, hrun, hended, _, _, rfl, ?_, ⟨_, rfl⟩, hW, hsame.mono (by decide) (by decide)⟩
  · show Steps p.tables e below (s₁.setTop (mkF m 0 #[.val (.int p1), .val (.int p2), .val (.int p3), .val (.int p4), .val (.int p5), .val (.int p6), .unset] [])) _
    refine XS.iloadN X0.here hx rfl (hb hby d3_0) rfl ?_
    show Steps p.tables e below (s₁.setTop (mkF m 1 #[.val (.int p1), .val (.int p2), .val (.int p3), .val (.int p4), .val (.int p5), .val (.int p6), .unset] [(.int p1)])) _
    refine XS.istore X0.here hx rfl (hb hby d3_1) rfl (l' := #[.val (.int p1), .val (.int p2), .val (.int p3), .val (.int p4), .val (.int p5), .val (.int p6), .val (.int p1)]) rfl ?_
    show Steps p.tables e below (s₁.setTop (mkF m 3 #[.val (.int p1), .val (.int p2), .val (.int p3), .val (.int p4), .val (.int p5), .val (.int p6), .val (.int p1)] [])) _
    refine XS.iloadN X0.here hx rfl (hb hby d3_3) rfl ?_
    show Steps p.tables e below (s₁.setTop (mkF m 4 #[.val (.int p1), .val (.int p2), .val (.int p3), .val (.int p4), .val (.int p5), .val (.int p6), .val (.int p1)] [(.int p3)])) _
    refine XS.iloadN X0.here hx rfl (hb hby d3_4) rfl ?_
    show Steps p.tables e below (s₁.setTop (mkF m 5 #[.val (.int p1), .val (.int p2), .val (.int p3), .val (.int p4), .val (.int p5), .val (.int p6), .val (.int p1)] [(.int p2), (.int p3)])) _
    refine XS.icmpNo X0.here hx rfl (hb hby d3_5) rfl (feq hc5).1 ?_
    show Steps p.tables e below (s₁.setTop (mkF m 8 #[.val (.int p1), .val (.int p2), .val (.int p3), .val (.int p4), .val (.int p5), .val (.int p6), .val (.int p1)] [])) _
    refine XS.iload X0.here hx rfl (hb hby d3_8) rfl ?_
    show Steps p.tables e below (s₁.setTop (mkF m 10 #[.val (.int p1), .val (.int p2), .val (.int p3), .val (.int p4), .val (.int p5), .val (.int p6), .val (.int p1)] [(.int p5)])) _
    refine XS.iconst X0.here hx rfl (hb hby d3_10) ?_
    show Steps p.tables e below (s₁.setTop (mkF m 11 #[.val (.int p1), .val (.int p2), .val (.int p3), .val (.int p4), .val (.int p5), .val (.int p6), .val (.int p1)] [(.int (1 : Int32)), (.int p5)])) _
    refine XS.icmpNo X0.here hx rfl (hb hby d3_11) rfl (teq hc11).2 ?_
    show Steps p.tables e below (s₁.setTop (mkF m 14 #[.val (.int p1), .val (.int p2), .val (.int p3), .val (.int p4), .val (.int p5), .val (.int p6), .val (.int p1)] [])) _
    refine XS.iinc X0.here hx rfl (hb hby d3_14) rfl (l' := #[.val (.int p1), .val (.int p2), .val (.int p3), .val (.int p4), .val (.int p5), .val (.int p6), .val (.int (p1 + (-1 : Int32)))]) rfl ?_
    show Steps p.tables e below (s₁.setTop (mkF m 17 #[.val (.int p1), .val (.int p2), .val (.int p3), .val (.int p4), .val (.int p5), .val (.int p6), .val (.int (p1 + (-1 : Int32)))] [])) _
    refine XS.iloadN X0.here hx rfl (hb hby d3_17) rfl ?_
    show Steps p.tables e below (s₁.setTop (mkF m 18 #[.val (.int p1), .val (.int p2), .val (.int p3), .val (.int p4), .val (.int p5), .val (.int p6), .val (.int (p1 + (-1 : Int32)))] [(.int p4)])) _
    refine XS.iloadN X0.here hx rfl (hb hby d3_18) rfl ?_
    show Steps p.tables e below (s₁.setTop (mkF m 19 #[.val (.int p1), .val (.int p2), .val (.int p3), .val (.int p4), .val (.int p5), .val (.int p6), .val (.int (p1 + (-1 : Int32)))] [(.int p2), (.int p4)])) _
    refine XS.icmpNo X0.here hx rfl (hb hby d3_19) rfl (feq hc19).1 ?_
    show Steps p.tables e below (s₁.setTop (mkF m 22 #[.val (.int p1), .val (.int p2), .val (.int p3), .val (.int p4), .val (.int p5), .val (.int p6), .val (.int (p1 + (-1 : Int32)))] [])) _
    refine XS.iload X0.here hx rfl (hb hby d3_22) rfl ?_
    show Steps p.tables e below (s₁.setTop (mkF m 24 #[.val (.int p1), .val (.int p2), .val (.int p3), .val (.int p4), .val (.int p5), .val (.int p6), .val (.int (p1 + (-1 : Int32)))] [(.int p6)])) _
    refine XS.ifNo X0.here hx rfl (hb hby d3_24) rfl ((if0 _ _).trans (teq hc24).2) ?_
    show Steps p.tables e below (s₁.setTop (mkF m 27 #[.val (.int p1), .val (.int p2), .val (.int p3), .val (.int p4), .val (.int p5), .val (.int p6), .val (.int (p1 + (-1 : Int32)))] [])) _
    refine XS.iinc X0.here hx rfl (hb hby d3_27) rfl (l' := #[.val (.int p1), .val (.int p2), .val (.int p3), .val (.int p4), .val (.int p5), .val (.int p6), .val (.int ((p1 + (-1 : Int32)) + (1 : Int32)))]) rfl ?_
    show Steps p.tables e below (s₁.setTop (mkF m 30 #[.val (.int p1), .val (.int p2), .val (.int p3), .val (.int p4), .val (.int p5), .val (.int p6), .val (.int ((p1 + (-1 : Int32)) + (1 : Int32)))] [])) _
    refine XS.iload X0.here hx rfl (hb hby d3_30) rfl ?_
    show Steps p.tables e below (s₁.setTop (mkF m 32 #[.val (.int p1), .val (.int p2), .val (.int p3), .val (.int p4), .val (.int p5), .val (.int p6), .val (.int ((p1 + (-1 : Int32)) + (1 : Int32)))] [(.int ((p1 + (-1 : Int32)) + (1 : Int32)))])) _
    exact retI X0 hx Bd.returns (hb hby d3_32) hr
  · show Q3 Z p1 p2 p3 p4 p5 p6 h0 n0 _ s₁.heap _
    rw [e0]
    exact ⟨by rw [own_nam, own_inc, own_dec, if_neg hc19, if_pos hc24, if_neg hc5, if_pos hc11], N0, rfl⟩
set_option maxRecDepth 65536 in
set_option maxHeartbeats 40000000 in
theorem rm3 (l : Launch) (Z : State) (a0 : Array Value) (hw : ∀ d ∈ tables_1, d.before a0 Z = true) (ws : List Jvm.Cond) (p1 : Int32) (p2 : Int32) (p3 : Int32) (p4 : Int32) (p5 : Int32) (p6 : Int32) (h0 : Heap) (n0 : Nat) (Z0 : n0 ≤ h0.size) :
    MetFree l (⟨"com/example/starling/starling/placement/Placement", "neededAfterMove", "(IIIIII)I"⟩ : MethodName) (head1 (Jvm.Cond.code (⟨"com/example/starling/starling/placement/Placement", "neededAfterMove", "(IIIIII)I"⟩ : MethodName) prog_29_method_5_code 7 (some .int) :: ws) ({ frames := 0, cells := 0, slots := 0, locals := 0 } : Room)) (fun a U => a = #[(.int p1), (.int p2), (.int p3), (.int p4), (.int p5), (.int p6)] ∧ Z.Warmed39 U.vm ∧ U.heap = h0) (fun _ _ _ _ _ => True) (fun _ U o U' => ∃ v L, o = .returned v ∧ Q3 Z p1 p2 p3 p4 p5 p6 h0 n0 v U'.heap L ∧ FrameEnd U o U' L ({ frames := 0, cells := 0, slots := 0, locals := 0 } : Room).cells ({ frames := 0, cells := 0, slots := 0, locals := 0 } : Room).slots) := by
  by_cases hc5 : p3 = p2
  · skip
    by_cases hc19 : p4 = p2
    · exact rm3_t_t l Z a0 hw ws p1 p2 p3 p4 p5 p6 h0 n0 Z0 hc5 hc19
    · by_cases hc24 : p6 = (0 : Int32)
      · exact rm3_t_ff l Z a0 hw ws p1 p2 p3 p4 p5 p6 h0 n0 Z0 hc5 hc19 hc24
      · exact rm3_t_ft l Z a0 hw ws p1 p2 p3 p4 p5 p6 h0 n0 Z0 hc5 hc19 hc24
  · by_cases hc11 : p5 = (1 : Int32)
    · skip
      by_cases hc19 : p4 = p2
      · exact rm3_ff_t l Z a0 hw ws p1 p2 p3 p4 p5 p6 h0 n0 Z0 hc5 hc11 hc19
      · by_cases hc24 : p6 = (0 : Int32)
        · exact rm3_ff_ff l Z a0 hw ws p1 p2 p3 p4 p5 p6 h0 n0 Z0 hc5 hc11 hc19 hc24
        · exact rm3_ff_ft l Z a0 hw ws p1 p2 p3 p4 p5 p6 h0 n0 Z0 hc5 hc11 hc19 hc24
    · skip
      by_cases hc19 : p4 = p2
      · exact rm3_ft_t l Z a0 hw ws p1 p2 p3 p4 p5 p6 h0 n0 Z0 hc5 hc11 hc19
      · by_cases hc24 : p6 = (0 : Int32)
        · exact rm3_ft_ff l Z a0 hw ws p1 p2 p3 p4 p5 p6 h0 n0 Z0 hc5 hc11 hc19 hc24
        · exact rm3_ft_ft l Z a0 hw ws p1 p2 p3 p4 p5 p6 h0 n0 Z0 hc5 hc11 hc19 hc24
theorem pn_0 : plainName "com/example/starling/starling/placement/PlacementNeededAfterMovePinLaw" = true := by first | (simp [plainName, overriddenIn]; done) | decide +kernel
theorem pd_0_0 : parseMethodDescriptor "(III)I" = some ⟨[.int, .int, .int], some .int⟩ := by decide +kernel
theorem pd_0_1 : parseMethodDescriptor "(IIIII)I" = some ⟨[.int, .int, .int, .int, .int], some .int⟩ := by decide +kernel
theorem pd_0_2 : parseMethodDescriptor "(IIIIII)I" = some ⟨[.int, .int, .int, .int, .int, .int], some .int⟩ := by decide +kernel
theorem ef_0 (m : MethodId) (x0 : Int32) (x1 : Int32) (x2 : Int32) (x3 : Int32) (x4 : Int32) (x5 : Int32) : entryFrame m #[(.int x0), (.int x1), (.int x2), (.int x3), (.int x4), (.int x5)] maxLocals = mkF m 0 #[.val (.int x0), .val (.int x1), .val (.int x2), .val (.int x3), .val (.int x4), .val (.int x5), .unset, .unset, .unset, .unset, .unset, .unset, .unset, .unset, .unset, .unset, .unset, .unset, .unset, .unset] [] := by first | (simp [entryFrame, mkF, argsToLocals, Value.category, maxLocals]; done) | rfl
def Q0 (Z : State) (p1 : Int32) (p2 : Int32) (p3 : Int32) (p4 : Int32) (p5 : Int32) (p6 : Int32) (h0 : Heap) (n0 : Nat) (v : Option Value) (h : Heap) (L : List Loc) : Prop := v = some (.int (1 : Int32)) ∧ Fr n0 L
set_option maxRecDepth 65536 in
set_option maxHeartbeats 40000000 in
theorem rm0 (l : Launch) (Z : State) (a0 : Array Value) (hw : ∀ d ∈ tables_1, d.before a0 Z = true) (ws : List Jvm.Cond) (p1 : Int32) (p2 : Int32) (p3 : Int32) (p4 : Int32) (p5 : Int32) (p6 : Int32) (h0 : Heap) (n0 : Nat) (Z0 : n0 ≤ h0.size) :
    MetFree l x (head1 (Jvm.Cond.code x code maxLocals ret :: ws) room_1) (fun a U => a = #[(.int p1), (.int p2), (.int p3), (.int p4), (.int p5), (.int p6)] ∧ Z.Warmed39 U.vm ∧ U.heap = h0) (fun _ _ _ _ _ => True) (fun _ U o U' => ∃ v L, o = .returned v ∧ Q0 Z p1 p2 p3 p4 p5 p6 h0 n0 v U'.heap L ∧ FrameEnd U o U' L room_1.cells room_1.slots) := by
  refine MetFree.of_bodySF (plainFor_of_name pn_0) hisR ?_
  intro p e s m args below meth c s₁ Bd hml0 hP hK
  obtain ⟨rfl, hZ, hh⟩ := hP
  have hx := Bd.exec
  have hby := Bd.bytes
  have hml : c.maxLocals = 20 := hml0
  have hown : s.vm.findClass "com/example/starling/starling/placement/PlacementNeededAfterMovePinLaw" = some m.cls := findClass_of_methodNamed Bd.named
  have hnm := (name_of_methodNamed Bd.named Bd.method).1
  have X0 : Stand p l e room_1 s m #[(.int p1), (.int p2), (.int p3), (.int p4), (.int p5), (.int p6)] below meth c s₁ [] 0 0 := Stand.of_body Bd
  have e0 : s₁.heap = h0 := by rw [← hh, Bd.state]; rfl
  have N0 := Fr.nil n0
  have pre0 : ∀ t, Steps p.tables e below (s₁.setTop (mkF m 0 #[.val (.int p1), .val (.int p2), .val (.int p3), .val (.int p4), .val (.int p5), .val (.int p6), .unset, .unset, .unset, .unset, .unset, .unset, .unset, .unset, .unset, .unset, .unset, .unset, .unset, .unset] [])) t → Steps p.tables e below (s₁.setTop (entryFrame m #[(.int p1), (.int p2), (.int p3), (.int p4), (.int p5), (.int p6)] maxLocals)) t := fun t k => castTop (ef_0 m p1 p2 p3 p4 p5 p6) k
  obtain ⟨c0, h_c0⟩ : ∃ z : Int32, z = (p1 &&& (7 : Int32)) := ⟨_, rfl⟩
  obtain ⟨c1, h_c1⟩ : ∃ z : Int32, z = (((p1.toUInt32 >>> ((3 : Int32) &&& 31).toUInt32).toInt32) &&& (7 : Int32)) := ⟨_, rfl⟩
  obtain ⟨c2, h_c2⟩ : ∃ z : Int32, z = (((p1.toUInt32 >>> ((6 : Int32) &&& 31).toUInt32).toInt32) &&& (7 : Int32)) := ⟨_, rfl⟩
  obtain ⟨c3, h_c3⟩ : ∃ z : Int32, z = (((p1.toUInt32 >>> ((9 : Int32) &&& 31).toUInt32).toInt32) &&& (7 : Int32)) := ⟨_, rfl⟩
  obtain ⟨mm, h_mm⟩ : ∃ z : Int32, z = (p2 &&& (3 : Int32)) := ⟨_, rfl⟩
  obtain ⟨ff, h_ff⟩ : ∃ z : Int32, z = (p3 &&& (3 : Int32)) := ⟨_, rfl⟩
  obtain ⟨tt, h_tt⟩ : ∃ z : Int32, z = (((ff + (1 : Int32)) + ((p4 &&& (2147483647 : Int32)) - ((p4 &&& (2147483647 : Int32)) / (3 : Int32)) * (3 : Int32))) &&& (3 : Int32)) := ⟨_, rfl⟩
  obtain ⟨bs, h_bs⟩ : ∃ z : Int32, z = (p5 &&& (1073741823 : Int32)) := ⟨_, rfl⟩
  obtain ⟨ex, h_ex⟩ : ∃ z : Int32, z = (p6 &&& (1073741823 : Int32)) := ⟨_, rfl⟩
  obtain ⟨_, _, ⟨T7, L7, k7, n7⟩, -, X7, ⟨Lc7, hQ7, l7, y7, z7⟩, st7⟩ := Jvm.LawKit.callS X0 hx (y := (⟨"com/example/starling/starling/placement/PlacementNeededAfterMovePinLaw", "occ", "(III)I"⟩ : MethodName)) hown (mvT hZ (hw _ (List.mem_of_getElem? (i := 2) rfl))) (mvT hZ (hw _ (List.mem_of_getElem? (i := 3) rfl))) (mvT hZ (hw _ (List.mem_of_getElem? (i := 4) rfl))) (mvT hZ (hw _ (List.mem_of_getElem? (i := 5) rfl))) (by decide) (backOf (W := 1) (rm1 l Z a0 hw [] (0 : Int32) mm (c0 + (if ff = (0 : Int32) then (1 : Int32) else 0))  h0 n0 Z0) hZ (hw _ (List.mem_of_getElem? (i := 5) rfl)) (hw _ (List.mem_of_getElem? (i := 4) rfl)) (by decide) (by decide)) (g := (mkF m 89 #[.val (.int p1), .val (.int p2), .val (.int p3), .val (.int p4), .val (.int p5), .val (.int p6), .val (.int c0), .val (.int c1), .val (.int c2), .val (.int c3), .val (.int mm), .val (.int ff), .val (.int tt), .val (.int bs), .val (.int ex), .unset, .unset, .unset, .unset, .unset] [(.int (c0 + (if ff = (0 : Int32) then (1 : Int32) else 0))), (.int mm), (.int (0 : Int32)), (.int ex)])) rfl (by rw [hml]; rfl) (argsL := [(.int (0 : Int32)), (.int mm), (.int (c0 + (if ff = (0 : Int32) then (1 : Int32) else 0)))]) (rest := [(.int ex)]) (lenOf pd_0_0 rfl) rfl (by show 2 * 0 + _ ≤ _; exact Nat.le_of_eq rfl) (hb hby at_89) (fun _ _ => ⟨rfl, e0, (by decide : 0 + 0 ≤ _), (by decide : 0 + 0 ≤ _)⟩)
  dsimp only [Pt.U, Pt.locs, Pt.cells, Pt.slots] at X7 l7 y7 z7 st7 hQ7
  subst l7 y7 z7
  obtain ⟨rfl, N7q, e7⟩ := hQ7
  have N7 := Fr.app N0 N7q
  obtain ⟨_, _, ⟨T8, L8, k8, n8⟩, -, X8, ⟨Lc8, hQ8, l8, y8, z8⟩, st8⟩ := Jvm.LawKit.callS X7 hx (y := (⟨"com/example/starling/starling/placement/PlacementNeededAfterMovePinLaw", "occ", "(III)I"⟩ : MethodName)) hown (mvT hZ (hw _ (List.mem_of_getElem? (i := 2) rfl))) (mvT hZ (hw _ (List.mem_of_getElem? (i := 3) rfl))) (mvT hZ (hw _ (List.mem_of_getElem? (i := 4) rfl))) (mvT hZ (hw _ (List.mem_of_getElem? (i := 5) rfl))) (by decide) (backOf (W := 1) (rm1 l Z a0 hw [] (1 : Int32) mm (c1 + (if ff = (1 : Int32) then (1 : Int32) else 0))  h0 n0 Z0) hZ (hw _ (List.mem_of_getElem? (i := 5) rfl)) (hw _ (List.mem_of_getElem? (i := 4) rfl)) (by decide) (by decide)) (g := (mkF m 110 #[.val (.int p1), .val (.int p2), .val (.int p3), .val (.int p4), .val (.int p5), .val (.int p6), .val (.int c0), .val (.int c1), .val (.int c2), .val (.int c3), .val (.int mm), .val (.int ff), .val (.int tt), .val (.int bs), .val (.int ex), .unset, .unset, .unset, .unset, .unset] [(.int (c1 + (if ff = (1 : Int32) then (1 : Int32) else 0))), (.int mm), (.int (1 : Int32)), (.int (ex + (own_occ (0 : Int32) mm (c0 + (if ff = (0 : Int32) then (1 : Int32) else 0)))))])) rfl (by rw [hml]; rfl) (argsL := [(.int (1 : Int32)), (.int mm), (.int (c1 + (if ff = (1 : Int32) then (1 : Int32) else 0)))]) (rest := [(.int (ex + (own_occ (0 : Int32) mm (c0 + (if ff = (0 : Int32) then (1 : Int32) else 0)))))]) (lenOf pd_0_0 rfl) rfl (by show 2 * 0 + _ ≤ _; exact Nat.le_of_eq rfl) (hb hby at_110) (fun _ _ => ⟨rfl, e7, (by decide : 0 + 0 ≤ _), (by decide : 0 + 0 ≤ _)⟩)
  dsimp only [Pt.U, Pt.locs, Pt.cells, Pt.slots] at X8 l8 y8 z8 st8 hQ8
  subst l8 y8 z8
  obtain ⟨rfl, N8q, e8⟩ := hQ8
  have N8 := Fr.app N7 N8q
  obtain ⟨_, _, ⟨T9, L9, k9, n9⟩, -, X9, ⟨Lc9, hQ9, l9, y9, z9⟩, st9⟩ := Jvm.LawKit.callS X8 hx (y := (⟨"com/example/starling/starling/placement/PlacementNeededAfterMovePinLaw", "occ", "(III)I"⟩ : MethodName)) hown (mvT hZ (hw _ (List.mem_of_getElem? (i := 2) rfl))) (mvT hZ (hw _ (List.mem_of_getElem? (i := 3) rfl))) (mvT hZ (hw _ (List.mem_of_getElem? (i := 4) rfl))) (mvT hZ (hw _ (List.mem_of_getElem? (i := 5) rfl))) (by decide) (backOf (W := 1) (rm1 l Z a0 hw [] (2 : Int32) mm (c2 + (if ff = (2 : Int32) then (1 : Int32) else 0))  h0 n0 Z0) hZ (hw _ (List.mem_of_getElem? (i := 5) rfl)) (hw _ (List.mem_of_getElem? (i := 4) rfl)) (by decide) (by decide)) (g := (mkF m 131 #[.val (.int p1), .val (.int p2), .val (.int p3), .val (.int p4), .val (.int p5), .val (.int p6), .val (.int c0), .val (.int c1), .val (.int c2), .val (.int c3), .val (.int mm), .val (.int ff), .val (.int tt), .val (.int bs), .val (.int ex), .unset, .unset, .unset, .unset, .unset] [(.int (c2 + (if ff = (2 : Int32) then (1 : Int32) else 0))), (.int mm), (.int (2 : Int32)), (.int ((ex + (own_occ (0 : Int32) mm (c0 + (if ff = (0 : Int32) then (1 : Int32) else 0)))) + (own_occ (1 : Int32) mm (c1 + (if ff = (1 : Int32) then (1 : Int32) else 0)))))])) rfl (by rw [hml]; rfl) (argsL := [(.int (2 : Int32)), (.int mm), (.int (c2 + (if ff = (2 : Int32) then (1 : Int32) else 0)))]) (rest := [(.int ((ex + (own_occ (0 : Int32) mm (c0 + (if ff = (0 : Int32) then (1 : Int32) else 0)))) + (own_occ (1 : Int32) mm (c1 + (if ff = (1 : Int32) then (1 : Int32) else 0)))))]) (lenOf pd_0_0 rfl) rfl (by show 2 * 0 + _ ≤ _; exact Nat.le_of_eq rfl) (hb hby at_131) (fun _ _ => ⟨rfl, e8, (by decide : 0 + 0 ≤ _), (by decide : 0 + 0 ≤ _)⟩)
  dsimp only [Pt.U, Pt.locs, Pt.cells, Pt.slots] at X9 l9 y9 z9 st9 hQ9
  subst l9 y9 z9
  obtain ⟨rfl, N9q, e9⟩ := hQ9
  have N9 := Fr.app N8 N9q
  obtain ⟨_, _, ⟨T10, L10, k10, n10⟩, -, X10, ⟨Lc10, hQ10, l10, y10, z10⟩, st10⟩ := Jvm.LawKit.callS X9 hx (y := (⟨"com/example/starling/starling/placement/PlacementNeededAfterMovePinLaw", "occ", "(III)I"⟩ : MethodName)) hown (mvT hZ (hw _ (List.mem_of_getElem? (i := 2) rfl))) (mvT hZ (hw _ (List.mem_of_getElem? (i := 3) rfl))) (mvT hZ (hw _ (List.mem_of_getElem? (i := 4) rfl))) (mvT hZ (hw _ (List.mem_of_getElem? (i := 5) rfl))) (by decide) (backOf (W := 1) (rm1 l Z a0 hw [] (3 : Int32) mm (c3 + (if ff = (3 : Int32) then (1 : Int32) else 0))  h0 n0 Z0) hZ (hw _ (List.mem_of_getElem? (i := 5) rfl)) (hw _ (List.mem_of_getElem? (i := 4) rfl)) (by decide) (by decide)) (g := (mkF m 152 #[.val (.int p1), .val (.int p2), .val (.int p3), .val (.int p4), .val (.int p5), .val (.int p6), .val (.int c0), .val (.int c1), .val (.int c2), .val (.int c3), .val (.int mm), .val (.int ff), .val (.int tt), .val (.int bs), .val (.int ex), .unset, .unset, .unset, .unset, .unset] [(.int (c3 + (if ff = (3 : Int32) then (1 : Int32) else 0))), (.int mm), (.int (3 : Int32)), (.int (((ex + (own_occ (0 : Int32) mm (c0 + (if ff = (0 : Int32) then (1 : Int32) else 0)))) + (own_occ (1 : Int32) mm (c1 + (if ff = (1 : Int32) then (1 : Int32) else 0)))) + (own_occ (2 : Int32) mm (c2 + (if ff = (2 : Int32) then (1 : Int32) else 0)))))])) rfl (by rw [hml]; rfl) (argsL := [(.int (3 : Int32)), (.int mm), (.int (c3 + (if ff = (3 : Int32) then (1 : Int32) else 0)))]) (rest := [(.int (((ex + (own_occ (0 : Int32) mm (c0 + (if ff = (0 : Int32) then (1 : Int32) else 0)))) + (own_occ (1 : Int32) mm (c1 + (if ff = (1 : Int32) then (1 : Int32) else 0)))) + (own_occ (2 : Int32) mm (c2 + (if ff = (2 : Int32) then (1 : Int32) else 0)))))]) (lenOf pd_0_0 rfl) rfl (by show 2 * 0 + _ ≤ _; exact Nat.le_of_eq rfl) (hb hby at_152) (fun _ _ => ⟨rfl, e9, (by decide : 0 + 0 ≤ _), (by decide : 0 + 0 ≤ _)⟩)
  dsimp only [Pt.U, Pt.locs, Pt.cells, Pt.slots] at X10 l10 y10 z10 st10 hQ10
  subst l10 y10 z10
  obtain ⟨rfl, N10q, e10⟩ := hQ10
  have N10 := Fr.app N9 N10q
  obtain ⟨bef, h_bef⟩ : ∃ z : Int32, z = ((((ex + (own_occ (0 : Int32) mm (c0 + (if ff = (0 : Int32) then (1 : Int32) else 0)))) + (own_occ (1 : Int32) mm (c1 + (if ff = (1 : Int32) then (1 : Int32) else 0)))) + (own_occ (2 : Int32) mm (c2 + (if ff = (2 : Int32) then (1 : Int32) else 0)))) + (own_occ (3 : Int32) mm (c3 + (if ff = (3 : Int32) then (1 : Int32) else 0)))) := ⟨_, rfl⟩
  obtain ⟨_, _, ⟨T11, L11, k11, n11⟩, -, X11, ⟨Lc11, hQ11, l11, y11, z11⟩, st11⟩ := Jvm.LawKit.callS X10 hx (y := (⟨"com/example/starling/starling/placement/PlacementNeededAfterMovePinLaw", "occ", "(III)I"⟩ : MethodName)) hown (mvT hZ (hw _ (List.mem_of_getElem? (i := 2) rfl))) (mvT hZ (hw _ (List.mem_of_getElem? (i := 3) rfl))) (mvT hZ (hw _ (List.mem_of_getElem? (i := 4) rfl))) (mvT hZ (hw _ (List.mem_of_getElem? (i := 5) rfl))) (by decide) (backOf (W := 1) (rm1 l Z a0 hw [] (0 : Int32) mm (c0 + (if tt = (0 : Int32) then (1 : Int32) else 0))  h0 n0 Z0) hZ (hw _ (List.mem_of_getElem? (i := 5) rfl)) (hw _ (List.mem_of_getElem? (i := 4) rfl)) (by decide) (by decide)) (g := (mkF m 176 #[.val (.int p1), .val (.int p2), .val (.int p3), .val (.int p4), .val (.int p5), .val (.int p6), .val (.int c0), .val (.int c1), .val (.int c2), .val (.int c3), .val (.int mm), .val (.int ff), .val (.int tt), .val (.int bs), .val (.int ex), .val (.int bef), .unset, .unset, .unset, .unset] [(.int (c0 + (if tt = (0 : Int32) then (1 : Int32) else 0))), (.int mm), (.int (0 : Int32)), (.int ex)])) rfl (by rw [hml]; rfl) (argsL := [(.int (0 : Int32)), (.int mm), (.int (c0 + (if tt = (0 : Int32) then (1 : Int32) else 0)))]) (rest := [(.int ex)]) (lenOf pd_0_0 rfl) rfl (by show 2 * 0 + _ ≤ _; exact Nat.le_of_eq rfl) (hb hby at_176) (fun _ _ => ⟨rfl, e10, (by decide : 0 + 0 ≤ _), (by decide : 0 + 0 ≤ _)⟩)
  dsimp only [Pt.U, Pt.locs, Pt.cells, Pt.slots] at X11 l11 y11 z11 st11 hQ11
  subst l11 y11 z11
  obtain ⟨rfl, N11q, e11⟩ := hQ11
  have N11 := Fr.app N10 N11q
  obtain ⟨_, _, ⟨T12, L12, k12, n12⟩, -, X12, ⟨Lc12, hQ12, l12, y12, z12⟩, st12⟩ := Jvm.LawKit.callS X11 hx (y := (⟨"com/example/starling/starling/placement/PlacementNeededAfterMovePinLaw", "occ", "(III)I"⟩ : MethodName)) hown (mvT hZ (hw _ (List.mem_of_getElem? (i := 2) rfl))) (mvT hZ (hw _ (List.mem_of_getElem? (i := 3) rfl))) (mvT hZ (hw _ (List.mem_of_getElem? (i := 4) rfl))) (mvT hZ (hw _ (List.mem_of_getElem? (i := 5) rfl))) (by decide) (backOf (W := 1) (rm1 l Z a0 hw [] (1 : Int32) mm (c1 + (if tt = (1 : Int32) then (1 : Int32) else 0))  h0 n0 Z0) hZ (hw _ (List.mem_of_getElem? (i := 5) rfl)) (hw _ (List.mem_of_getElem? (i := 4) rfl)) (by decide) (by decide)) (g := (mkF m 197 #[.val (.int p1), .val (.int p2), .val (.int p3), .val (.int p4), .val (.int p5), .val (.int p6), .val (.int c0), .val (.int c1), .val (.int c2), .val (.int c3), .val (.int mm), .val (.int ff), .val (.int tt), .val (.int bs), .val (.int ex), .val (.int bef), .unset, .unset, .unset, .unset] [(.int (c1 + (if tt = (1 : Int32) then (1 : Int32) else 0))), (.int mm), (.int (1 : Int32)), (.int (ex + (own_occ (0 : Int32) mm (c0 + (if tt = (0 : Int32) then (1 : Int32) else 0)))))])) rfl (by rw [hml]; rfl) (argsL := [(.int (1 : Int32)), (.int mm), (.int (c1 + (if tt = (1 : Int32) then (1 : Int32) else 0)))]) (rest := [(.int (ex + (own_occ (0 : Int32) mm (c0 + (if tt = (0 : Int32) then (1 : Int32) else 0)))))]) (lenOf pd_0_0 rfl) rfl (by show 2 * 0 + _ ≤ _; exact Nat.le_of_eq rfl) (hb hby at_197) (fun _ _ => ⟨rfl, e11, (by decide : 0 + 0 ≤ _), (by decide : 0 + 0 ≤ _)⟩)
  dsimp only [Pt.U, Pt.locs, Pt.cells, Pt.slots] at X12 l12 y12 z12 st12 hQ12
  subst l12 y12 z12
  obtain ⟨rfl, N12q, e12⟩ := hQ12
  have N12 := Fr.app N11 N12q
  obtain ⟨_, _, ⟨T13, L13, k13, n13⟩, -, X13, ⟨Lc13, hQ13, l13, y13, z13⟩, st13⟩ := Jvm.LawKit.callS X12 hx (y := (⟨"com/example/starling/starling/placement/PlacementNeededAfterMovePinLaw", "occ", "(III)I"⟩ : MethodName)) hown (mvT hZ (hw _ (List.mem_of_getElem? (i := 2) rfl))) (mvT hZ (hw _ (List.mem_of_getElem? (i := 3) rfl))) (mvT hZ (hw _ (List.mem_of_getElem? (i := 4) rfl))) (mvT hZ (hw _ (List.mem_of_getElem? (i := 5) rfl))) (by decide) (backOf (W := 1) (rm1 l Z a0 hw [] (2 : Int32) mm (c2 + (if tt = (2 : Int32) then (1 : Int32) else 0))  h0 n0 Z0) hZ (hw _ (List.mem_of_getElem? (i := 5) rfl)) (hw _ (List.mem_of_getElem? (i := 4) rfl)) (by decide) (by decide)) (g := (mkF m 218 #[.val (.int p1), .val (.int p2), .val (.int p3), .val (.int p4), .val (.int p5), .val (.int p6), .val (.int c0), .val (.int c1), .val (.int c2), .val (.int c3), .val (.int mm), .val (.int ff), .val (.int tt), .val (.int bs), .val (.int ex), .val (.int bef), .unset, .unset, .unset, .unset] [(.int (c2 + (if tt = (2 : Int32) then (1 : Int32) else 0))), (.int mm), (.int (2 : Int32)), (.int ((ex + (own_occ (0 : Int32) mm (c0 + (if tt = (0 : Int32) then (1 : Int32) else 0)))) + (own_occ (1 : Int32) mm (c1 + (if tt = (1 : Int32) then (1 : Int32) else 0)))))])) rfl (by rw [hml]; rfl) (argsL := [(.int (2 : Int32)), (.int mm), (.int (c2 + (if tt = (2 : Int32) then (1 : Int32) else 0)))]) (rest := [(.int ((ex + (own_occ (0 : Int32) mm (c0 + (if tt = (0 : Int32) then (1 : Int32) else 0)))) + (own_occ (1 : Int32) mm (c1 + (if tt = (1 : Int32) then (1 : Int32) else 0)))))]) (lenOf pd_0_0 rfl) rfl (by show 2 * 0 + _ ≤ _; exact Nat.le_of_eq rfl) (hb hby at_218) (fun _ _ => ⟨rfl, e12, (by decide : 0 + 0 ≤ _), (by decide : 0 + 0 ≤ _)⟩)
  dsimp only [Pt.U, Pt.locs, Pt.cells, Pt.slots] at X13 l13 y13 z13 st13 hQ13
  subst l13 y13 z13
  obtain ⟨rfl, N13q, e13⟩ := hQ13
  have N13 := Fr.app N12 N13q
  obtain ⟨_, _, ⟨T14, L14, k14, n14⟩, -, X14, ⟨Lc14, hQ14, l14, y14, z14⟩, st14⟩ := Jvm.LawKit.callS X13 hx (y := (⟨"com/example/starling/starling/placement/PlacementNeededAfterMovePinLaw", "occ", "(III)I"⟩ : MethodName)) hown (mvT hZ (hw _ (List.mem_of_getElem? (i := 2) rfl))) (mvT hZ (hw _ (List.mem_of_getElem? (i := 3) rfl))) (mvT hZ (hw _ (List.mem_of_getElem? (i := 4) rfl))) (mvT hZ (hw _ (List.mem_of_getElem? (i := 5) rfl))) (by decide) (backOf (W := 1) (rm1 l Z a0 hw [] (3 : Int32) mm (c3 + (if tt = (3 : Int32) then (1 : Int32) else 0))  h0 n0 Z0) hZ (hw _ (List.mem_of_getElem? (i := 5) rfl)) (hw _ (List.mem_of_getElem? (i := 4) rfl)) (by decide) (by decide)) (g := (mkF m 239 #[.val (.int p1), .val (.int p2), .val (.int p3), .val (.int p4), .val (.int p5), .val (.int p6), .val (.int c0), .val (.int c1), .val (.int c2), .val (.int c3), .val (.int mm), .val (.int ff), .val (.int tt), .val (.int bs), .val (.int ex), .val (.int bef), .unset, .unset, .unset, .unset] [(.int (c3 + (if tt = (3 : Int32) then (1 : Int32) else 0))), (.int mm), (.int (3 : Int32)), (.int (((ex + (own_occ (0 : Int32) mm (c0 + (if tt = (0 : Int32) then (1 : Int32) else 0)))) + (own_occ (1 : Int32) mm (c1 + (if tt = (1 : Int32) then (1 : Int32) else 0)))) + (own_occ (2 : Int32) mm (c2 + (if tt = (2 : Int32) then (1 : Int32) else 0)))))])) rfl (by rw [hml]; rfl) (argsL := [(.int (3 : Int32)), (.int mm), (.int (c3 + (if tt = (3 : Int32) then (1 : Int32) else 0)))]) (rest := [(.int (((ex + (own_occ (0 : Int32) mm (c0 + (if tt = (0 : Int32) then (1 : Int32) else 0)))) + (own_occ (1 : Int32) mm (c1 + (if tt = (1 : Int32) then (1 : Int32) else 0)))) + (own_occ (2 : Int32) mm (c2 + (if tt = (2 : Int32) then (1 : Int32) else 0)))))]) (lenOf pd_0_0 rfl) rfl (by show 2 * 0 + _ ≤ _; exact Nat.le_of_eq rfl) (hb hby at_239) (fun _ _ => ⟨rfl, e13, (by decide : 0 + 0 ≤ _), (by decide : 0 + 0 ≤ _)⟩)
  dsimp only [Pt.U, Pt.locs, Pt.cells, Pt.slots] at X14 l14 y14 z14 st14 hQ14
  subst l14 y14 z14
  obtain ⟨rfl, N14q, e14⟩ := hQ14
  have N14 := Fr.app N13 N14q
  obtain ⟨aft, h_aft⟩ : ∃ z : Int32, z = ((((ex + (own_occ (0 : Int32) mm (c0 + (if tt = (0 : Int32) then (1 : Int32) else 0)))) + (own_occ (1 : Int32) mm (c1 + (if tt = (1 : Int32) then (1 : Int32) else 0)))) + (own_occ (2 : Int32) mm (c2 + (if tt = (2 : Int32) then (1 : Int32) else 0)))) + (own_occ (3 : Int32) mm (c3 + (if tt = (3 : Int32) then (1 : Int32) else 0)))) := ⟨_, rfl⟩
  obtain ⟨_, _, ⟨T15, L15, k15, n15⟩, -, X15, ⟨Lc15, hQ15, l15, y15, z15⟩, st15⟩ := Jvm.LawKit.callS X14 hx (y := (⟨"com/example/starling/starling/placement/PlacementNeededAfterMovePinLaw", "pick", "(IIIII)I"⟩ : MethodName)) hown (mvT hZ (hw _ (List.mem_of_getElem? (i := 6) rfl))) (mvT hZ (hw _ (List.mem_of_getElem? (i := 7) rfl))) (mvT hZ (hw _ (List.mem_of_getElem? (i := 4) rfl))) (mvT hZ (hw _ (List.mem_of_getElem? (i := 8) rfl))) (by decide) (backOf (W := 0) (rm2 l Z a0 hw [] ff c0 c1 c2 c3  h0 n0 Z0) hZ (hw _ (List.mem_of_getElem? (i := 8) rfl)) (hw _ (List.mem_of_getElem? (i := 4) rfl)) (by decide) (by decide)) (g := (mkF m 255 #[.val (.int p1), .val (.int p2), .val (.int p3), .val (.int p4), .val (.int p5), .val (.int p6), .val (.int c0), .val (.int c1), .val (.int c2), .val (.int c3), .val (.int mm), .val (.int ff), .val (.int tt), .val (.int bs), .val (.int ex), .val (.int bef), .val (.int aft), .unset, .unset, .unset] [(.int c3), (.int c2), (.int c1), (.int c0), (.int ff)])) rfl (by rw [hml]; rfl) (argsL := [(.int ff), (.int c0), (.int c1), (.int c2), (.int c3)]) (rest := []) (lenOf pd_0_1 rfl) rfl (by show 2 * 0 + _ ≤ _; exact Nat.le_of_eq rfl) (hb hby at_255) (fun _ _ => ⟨rfl, e14, (by decide : 0 + 0 ≤ _), (by decide : 0 + 0 ≤ _)⟩)
  dsimp only [Pt.U, Pt.locs, Pt.cells, Pt.slots] at X15 l15 y15 z15 st15 hQ15
  subst l15 y15 z15
  obtain ⟨rfl, N15q, e15⟩ := hQ15
  have N15 := Fr.app N14 N15q
  obtain ⟨_, _, ⟨T16, L16, k16, n16⟩, -, X16, ⟨Lc16, hQ16, l16, y16, z16⟩, st16⟩ := Jvm.LawKit.callS X15 hx (y := (⟨"com/example/starling/starling/placement/PlacementNeededAfterMovePinLaw", "pick", "(IIIII)I"⟩ : MethodName)) hown (mvT hZ (hw _ (List.mem_of_getElem? (i := 6) rfl))) (mvT hZ (hw _ (List.mem_of_getElem? (i := 7) rfl))) (mvT hZ (hw _ (List.mem_of_getElem? (i := 4) rfl))) (mvT hZ (hw _ (List.mem_of_getElem? (i := 8) rfl))) (by decide) (backOf (W := 0) (rm2 l Z a0 hw [] tt c0 c1 c2 c3  h0 n0 Z0) hZ (hw _ (List.mem_of_getElem? (i := 8) rfl)) (hw _ (List.mem_of_getElem? (i := 4) rfl)) (by decide) (by decide)) (g := (mkF m 272 #[.val (.int p1), .val (.int p2), .val (.int p3), .val (.int p4), .val (.int p5), .val (.int p6), .val (.int c0), .val (.int c1), .val (.int c2), .val (.int c3), .val (.int mm), .val (.int ff), .val (.int tt), .val (.int bs), .val (.int ex), .val (.int bef), .val (.int aft), .val (.int ((own_pick ff c0 c1 c2 c3) + (1 : Int32))), .unset, .unset] [(.int c3), (.int c2), (.int c1), (.int c0), (.int tt)])) rfl (by rw [hml]; rfl) (argsL := [(.int tt), (.int c0), (.int c1), (.int c2), (.int c3)]) (rest := []) (lenOf pd_0_1 rfl) rfl (by show 2 * 0 + _ ≤ _; exact Nat.le_of_eq rfl) (hb hby at_272) (fun _ _ => ⟨rfl, e15, (by decide : 0 + 0 ≤ _), (by decide : 0 + 0 ≤ _)⟩)
  dsimp only [Pt.U, Pt.locs, Pt.cells, Pt.slots] at X16 l16 y16 z16 st16 hQ16
  subst l16 y16 z16
  obtain ⟨rfl, N16q, e16⟩ := hQ16
  have N16 := Fr.app N15 N16q
  obtain ⟨_, _, ⟨T17, L17, k17, n17⟩, -, X17, ⟨Lc17, hQ17, l17, y17, z17⟩, st17⟩ := Jvm.LawKit.callS X16 hx (y := (⟨"com/example/starling/starling/placement/Placement", "neededAfterMove", "(IIIIII)I"⟩ : MethodName)) hown (mvT hZ (hw _ (List.mem_of_getElem? (i := 9) rfl))) (mvT hZ (hw _ (List.mem_of_getElem? (i := 10) rfl))) (mvT hZ (hw _ (List.mem_of_getElem? (i := 11) rfl))) (mvT hZ (hw _ (List.mem_of_getElem? (i := 12) rfl))) (by decide) (backOf (W := 0) (rm3 l Z a0 hw [] bef (bs + mm) (bs + ff) (bs + tt) ((own_pick ff c0 c1 c2 c3) + (1 : Int32)) (own_pick tt c0 c1 c2 c3)  h0 n0 Z0) hZ (hw _ (List.mem_of_getElem? (i := 12) rfl)) (hw _ (List.mem_of_getElem? (i := 11) rfl)) (by decide) (by decide)) (g := (mkF m 298 #[.val (.int p1), .val (.int p2), .val (.int p3), .val (.int p4), .val (.int p5), .val (.int p6), .val (.int c0), .val (.int c1), .val (.int c2), .val (.int c3), .val (.int mm), .val (.int ff), .val (.int tt), .val (.int bs), .val (.int ex), .val (.int bef), .val (.int aft), .val (.int ((own_pick ff c0 c1 c2 c3) + (1 : Int32))), .val (.int (own_pick tt c0 c1 c2 c3)), .unset] [(.int (own_pick tt c0 c1 c2 c3)), (.int ((own_pick ff c0 c1 c2 c3) + (1 : Int32))), (.int (bs + tt)), (.int (bs + ff)), (.int (bs + mm)), (.int bef)])) rfl (by rw [hml]; rfl) (argsL := [(.int bef), (.int (bs + mm)), (.int (bs + ff)), (.int (bs + tt)), (.int ((own_pick ff c0 c1 c2 c3) + (1 : Int32))), (.int (own_pick tt c0 c1 c2 c3))]) (rest := []) (lenOf pd_0_2 rfl) rfl (by show 2 * 0 + _ ≤ _; exact Nat.le_of_eq rfl) (hb hby at_298) (fun _ _ => ⟨rfl, e16, (by decide : 0 + 0 ≤ _), (by decide : 0 + 0 ≤ _)⟩)
  dsimp only [Pt.U, Pt.locs, Pt.cells, Pt.slots] at X17 l17 y17 z17 st17 hQ17
  subst l17 y17 z17
  obtain ⟨rfl, N17q, e17⟩ := hQ17
  have N17 := Fr.app N16 N17q
  obtain ⟨got, h_got⟩ : ∃ z : Int32, z = (own_nam bef (bs + mm) (bs + ff) (bs + tt) ((own_pick ff c0 c1 c2 c3) + (1 : Int32)) (own_pick tt c0 c1 c2 c3)) := ⟨_, rfl⟩
  have hc307 : got = aft := by
    subst h_got h_aft h_bef
    refine own_law ex bs mm ff tt c0 c1 c2 c3 ?_ ?_ ?_ ?_ ?_ ?_
    · rw [h_c0]; exact own_small _
    · rw [h_c1]; exact own_small _
    · rw [h_c2]; exact own_small _
    · rw [h_c3]; exact own_small _
    · rw [h_ff]; exact own_four _
    · rw [h_tt]; exact own_four _
  obtain ⟨fs, hr, hrun, hended, hW, hsame⟩ := X17.leave (v := some (.int (1 : Int32))) (fun h => by rw [Bd.returns] at h; cases h)
  refine ⟨_, _, pre0 _ ?_, hrun, hended, _, _, rfl, ?_, ⟨_, rfl⟩, hW, hsame.mono (by decide) (by decide)⟩
  · show Steps p.tables e below (s₁.setTop (mkF m 0 #[.val (.int p1), .val (.int p2), .val (.int p3), .val (.int p4), .val (.int p5), .val (.int p6), .unset, .unset, .unset, .unset, .unset, .unset, .unset, .unset, .unset, .unset, .unset, .unset, .unset, .unset] [])) _
    refine XS.iloadN X0.here hx rfl (hb hby at_0) rfl ?_
    show Steps p.tables e below (s₁.setTop (mkF m 1 #[.val (.int p1), .val (.int p2), .val (.int p3), .val (.int p4), .val (.int p5), .val (.int p6), .unset, .unset, .unset, .unset, .unset, .unset, .unset, .unset, .unset, .unset, .unset, .unset, .unset, .unset] [(.int p1)])) _
    refine XS.bipush X0.here hx rfl (hb hby at_1) ?_
    show Steps p.tables e below (s₁.setTop (mkF m 3 #[.val (.int p1), .val (.int p2), .val (.int p3), .val (.int p4), .val (.int p5), .val (.int p6), .unset, .unset, .unset, .unset, .unset, .unset, .unset, .unset, .unset, .unset, .unset, .unset, .unset, .unset] [(.int (7 : Int32)), (.int p1)])) _
    refine XS.iand X0.here hx rfl (hb hby at_3) rfl ?_
    show Steps p.tables e below (s₁.setTop (mkF m 4 #[.val (.int p1), .val (.int p2), .val (.int p3), .val (.int p4), .val (.int p5), .val (.int p6), .unset, .unset, .unset, .unset, .unset, .unset, .unset, .unset, .unset, .unset, .unset, .unset, .unset, .unset] [(.int (p1 &&& (7 : Int32)))])) _
    refine XS.istore X0.here hx rfl (hb hby at_4) (x := c0) (rest := []) (by subst h_c0; rfl) (l' := #[.val (.int p1), .val (.int p2), .val (.int p3), .val (.int p4), .val (.int p5), .val (.int p6), .val (.int c0), .unset, .unset, .unset, .unset, .unset, .unset, .unset, .unset, .unset, .unset, .unset, .unset, .unset]) rfl ?_
    show Steps p.tables e below (s₁.setTop (mkF m 6 #[.val (.int p1), .val (.int p2), .val (.int p3), .val (.int p4), .val (.int p5), .val (.int p6), .val (.int c0), .unset, .unset, .unset, .unset, .unset, .unset, .unset, .unset, .unset, .unset, .unset, .unset, .unset] [])) _
    refine XS.iloadN X0.here hx rfl (hb hby at_6) rfl ?_
    show Steps p.tables e below (s₁.setTop (mkF m 7 #[.val (.int p1), .val (.int p2), .val (.int p3), .val (.int p4), .val (.int p5), .val (.int p6), .val (.int c0), .unset, .unset, .unset, .unset, .unset, .unset, .unset, .unset, .unset, .unset, .unset, .unset, .unset] [(.int p1)])) _
    refine XS.iconst X0.here hx rfl (hb hby at_7) ?_
    show Steps p.tables e below (s₁.setTop (mkF m 8 #[.val (.int p1), .val (.int p2), .val (.int p3), .val (.int p4), .val (.int p5), .val (.int p6), .val (.int c0), .unset, .unset, .unset, .unset, .unset, .unset, .unset, .unset, .unset, .unset, .unset, .unset, .unset] [(.int (3 : Int32)), (.int p1)])) _
    refine XS.iushr X0.here hx rfl (hb hby at_8) rfl ?_
    show Steps p.tables e below (s₁.setTop (mkF m 9 #[.val (.int p1), .val (.int p2), .val (.int p3), .val (.int p4), .val (.int p5), .val (.int p6), .val (.int c0), .unset, .unset, .unset, .unset, .unset, .unset, .unset, .unset, .unset, .unset, .unset, .unset, .unset] [(.int ((p1.toUInt32 >>> ((3 : Int32) &&& 31).toUInt32).toInt32))])) _
    refine XS.bipush X0.here hx rfl (hb hby at_9) ?_
    show Steps p.tables e below (s₁.setTop (mkF m 11 #[.val (.int p1), .val (.int p2), .val (.int p3), .val (.int p4), .val (.int p5), .val (.int p6), .val (.int c0), .unset, .unset, .unset, .unset, .unset, .unset, .unset, .unset, .unset, .unset, .unset, .unset, .unset] [(.int (7 : Int32)), (.int ((p1.toUInt32 >>> ((3 : Int32) &&& 31).toUInt32).toInt32))])) _
    refine XS.iand X0.here hx rfl (hb hby at_11) rfl ?_
    show Steps p.tables e below (s₁.setTop (mkF m 12 #[.val (.int p1), .val (.int p2), .val (.int p3), .val (.int p4), .val (.int p5), .val (.int p6), .val (.int c0), .unset, .unset, .unset, .unset, .unset, .unset, .unset, .unset, .unset, .unset, .unset, .unset, .unset] [(.int (((p1.toUInt32 >>> ((3 : Int32) &&& 31).toUInt32).toInt32) &&& (7 : Int32)))])) _
    refine XS.istore X0.here hx rfl (hb hby at_12) (x := c1) (rest := []) (by subst h_c1; rfl) (l' := #[.val (.int p1), .val (.int p2), .val (.int p3), .val (.int p4), .val (.int p5), .val (.int p6), .val (.int c0), .val (.int c1), .unset, .unset, .unset, .unset, .unset, .unset, .unset, .unset, .unset, .unset, .unset, .unset]) rfl ?_
    show Steps p.tables e below (s₁.setTop (mkF m 14 #[.val (.int p1), .val (.int p2), .val (.int p3), .val (.int p4), .val (.int p5), .val (.int p6), .val (.int c0), .val (.int c1), .unset, .unset, .unset, .unset, .unset, .unset, .unset, .unset, .unset, .unset, .unset, .unset] [])) _
    refine XS.iloadN X0.here hx rfl (hb hby at_14) rfl ?_
    show Steps p.tables e below (s₁.setTop (mkF m 15 #[.val (.int p1), .val (.int p2), .val (.int p3), .val (.int p4), .val (.int p5), .val (.int p6), .val (.int c0), .val (.int c1), .unset, .unset, .unset, .unset, .unset, .unset, .unset, .unset, .unset, .unset, .unset, .unset] [(.int p1)])) _
    refine XS.bipush X0.here hx rfl (hb hby at_15) ?_
    show Steps p.tables e below (s₁.setTop (mkF m 17 #[.val (.int p1), .val (.int p2), .val (.int p3), .val (.int p4), .val (.int p5), .val (.int p6), .val (.int c0), .val (.int c1), .unset, .unset, .unset, .unset, .unset, .unset, .unset, .unset, .unset, .unset, .unset, .unset] [(.int (6 : Int32)), (.int p1)])) _
    refine XS.iushr X0.here hx rfl (hb hby at_17) rfl ?_
    show Steps p.tables e below (s₁.setTop (mkF m 18 #[.val (.int p1), .val (.int p2), .val (.int p3), .val (.int p4), .val (.int p5), .val (.int p6), .val (.int c0), .val (.int c1), .unset, .unset, .unset, .unset, .unset, .unset, .unset, .unset, .unset, .unset, .unset, .unset] [(.int ((p1.toUInt32 >>> ((6 : Int32) &&& 31).toUInt32).toInt32))])) _
    refine XS.bipush X0.here hx rfl (hb hby at_18) ?_
    show Steps p.tables e below (s₁.setTop (mkF m 20 #[.val (.int p1), .val (.int p2), .val (.int p3), .val (.int p4), .val (.int p5), .val (.int p6), .val (.int c0), .val (.int c1), .unset, .unset, .unset, .unset, .unset, .unset, .unset, .unset, .unset, .unset, .unset, .unset] [(.int (7 : Int32)), (.int ((p1.toUInt32 >>> ((6 : Int32) &&& 31).toUInt32).toInt32))])) _
    refine XS.iand X0.here hx rfl (hb hby at_20) rfl ?_
    show Steps p.tables e below (s₁.setTop (mkF m 21 #[.val (.int p1), .val (.int p2), .val (.int p3), .val (.int p4), .val (.int p5), .val (.int p6), .val (.int c0), .val (.int c1), .unset, .unset, .unset, .unset, .unset, .unset, .unset, .unset, .unset, .unset, .unset, .unset] [(.int (((p1.toUInt32 >>> ((6 : Int32) &&& 31).toUInt32).toInt32) &&& (7 : Int32)))])) _
    refine XS.istore X0.here hx rfl (hb hby at_21) (x := c2) (rest := []) (by subst h_c2; rfl) (l' := #[.val (.int p1), .val (.int p2), .val (.int p3), .val (.int p4), .val (.int p5), .val (.int p6), .val (.int c0), .val (.int c1), .val (.int c2), .unset, .unset, .unset, .unset, .unset, .unset, .unset, .unset, .unset, .unset, .unset]) rfl ?_
    show Steps p.tables e below (s₁.setTop (mkF m 23 #[.val (.int p1), .val (.int p2), .val (.int p3), .val (.int p4), .val (.int p5), .val (.int p6), .val (.int c0), .val (.int c1), .val (.int c2), .unset, .unset, .unset, .unset, .unset, .unset, .unset, .unset, .unset, .unset, .unset] [])) _
    refine XS.iloadN X0.here hx rfl (hb hby at_23) rfl ?_
    show Steps p.tables e below (s₁.setTop (mkF m 24 #[.val (.int p1), .val (.int p2), .val (.int p3), .val (.int p4), .val (.int p5), .val (.int p6), .val (.int c0), .val (.int c1), .val (.int c2), .unset, .unset, .unset, .unset, .unset, .unset, .unset, .unset, .unset, .unset, .unset] [(.int p1)])) _
    refine XS.bipush X0.here hx rfl (hb hby at_24) ?_
    show Steps p.tables e below (s₁.setTop (mkF m 26 #[.val (.int p1), .val (.int p2), .val (.int p3), .val (.int p4), .val (.int p5), .val (.int p6), .val (.int c0), .val (.int c1), .val (.int c2), .unset, .unset, .unset, .unset, .unset, .unset, .unset, .unset, .unset, .unset, .unset] [(.int (9 : Int32)), (.int p1)])) _
    refine XS.iushr X0.here hx rfl (hb hby at_26) rfl ?_
    show Steps p.tables e below (s₁.setTop (mkF m 27 #[.val (.int p1), .val (.int p2), .val (.int p3), .val (.int p4), .val (.int p5), .val (.int p6), .val (.int c0), .val (.int c1), .val (.int c2), .unset, .unset, .unset, .unset, .unset, .unset, .unset, .unset, .unset, .unset, .unset] [(.int ((p1.toUInt32 >>> ((9 : Int32) &&& 31).toUInt32).toInt32))])) _
    refine XS.bipush X0.here hx rfl (hb hby at_27) ?_
    show Steps p.tables e below (s₁.setTop (mkF m 29 #[.val (.int p1), .val (.int p2), .val (.int p3), .val (.int p4), .val (.int p5), .val (.int p6), .val (.int c0), .val (.int c1), .val (.int c2), .unset, .unset, .unset, .unset, .unset, .unset, .unset, .unset, .unset, .unset, .unset] [(.int (7 : Int32)), (.int ((p1.toUInt32 >>> ((9 : Int32) &&& 31).toUInt32).toInt32))])) _
    refine XS.iand X0.here hx rfl (hb hby at_29) rfl ?_
    show Steps p.tables e below (s₁.setTop (mkF m 30 #[.val (.int p1), .val (.int p2), .val (.int p3), .val (.int p4), .val (.int p5), .val (.int p6), .val (.int c0), .val (.int c1), .val (.int c2), .unset, .unset, .unset, .unset, .unset, .unset, .unset, .unset, .unset, .unset, .unset] [(.int (((p1.toUInt32 >>> ((9 : Int32) &&& 31).toUInt32).toInt32) &&& (7 : Int32)))])) _
    refine XS.istore X0.here hx rfl (hb hby at_30) (x := c3) (rest := []) (by subst h_c3; rfl) (l' := #[.val (.int p1), .val (.int p2), .val (.int p3), .val (.int p4), .val (.int p5), .val (.int p6), .val (.int c0), .val (.int c1), .val (.int c2), .val (.int c3), .unset, .unset, .unset, .unset, .unset, .unset, .unset, .unset, .unset, .unset]) rfl ?_
    show Steps p.tables e below (s₁.setTop (mkF m 32 #[.val (.int p1), .val (.int p2), .val (.int p3), .val (.int p4), .val (.int p5), .val (.int p6), .val (.int c0), .val (.int c1), .val (.int c2), .val (.int c3), .unset, .unset, .unset, .unset, .unset, .unset, .unset, .unset, .unset, .unset] [])) _
    refine XS.iloadN X0.here hx rfl (hb hby at_32) rfl ?_
    show Steps p.tables e below (s₁.setTop (mkF m 33 #[.val (.int p1), .val (.int p2), .val (.int p3), .val (.int p4), .val (.int p5), .val (.int p6), .val (.int c0), .val (.int c1), .val (.int c2), .val (.int c3), .unset, .unset, .unset, .unset, .unset, .unset, .unset, .unset, .unset, .unset] [(.int p2)])) _
    refine XS.iconst X0.here hx rfl (hb hby at_33) ?_
    show Steps p.tables e below (s₁.setTop (mkF m 34 #[.val (.int p1), .val (.int p2), .val (.int p3), .val (.int p4), .val (.int p5), .val (.int p6), .val (.int c0), .val (.int c1), .val (.int c2), .val (.int c3), .unset, .unset, .unset, .unset, .unset, .unset, .unset, .unset, .unset, .unset] [(.int (3 : Int32)), (.int p2)])) _
    refine XS.iand X0.here hx rfl (hb hby at_34) rfl ?_
    show Steps p.tables e below (s₁.setTop (mkF m 35 #[.val (.int p1), .val (.int p2), .val (.int p3), .val (.int p4), .val (.int p5), .val (.int p6), .val (.int c0), .val (.int c1), .val (.int c2), .val (.int c3), .unset, .unset, .unset, .unset, .unset, .unset, .unset, .unset, .unset, .unset] [(.int (p2 &&& (3 : Int32)))])) _
    refine XS.istore X0.here hx rfl (hb hby at_35) (x := mm) (rest := []) (by subst h_mm; rfl) (l' := #[.val (.int p1), .val (.int p2), .val (.int p3), .val (.int p4), .val (.int p5), .val (.int p6), .val (.int c0), .val (.int c1), .val (.int c2), .val (.int c3), .val (.int mm), .unset, .unset, .unset, .unset, .unset, .unset, .unset, .unset, .unset]) rfl ?_
    show Steps p.tables e below (s₁.setTop (mkF m 37 #[.val (.int p1), .val (.int p2), .val (.int p3), .val (.int p4), .val (.int p5), .val (.int p6), .val (.int c0), .val (.int c1), .val (.int c2), .val (.int c3), .val (.int mm), .unset, .unset, .unset, .unset, .unset, .unset, .unset, .unset, .unset] [])) _
    refine XS.iloadN X0.here hx rfl (hb hby at_37) rfl ?_
    show Steps p.tables e below (s₁.setTop (mkF m 38 #[.val (.int p1), .val (.int p2), .val (.int p3), .val (.int p4), .val (.int p5), .val (.int p6), .val (.int c0), .val (.int c1), .val (.int c2), .val (.int c3), .val (.int mm), .unset, .unset, .unset, .unset, .unset, .unset, .unset, .unset, .unset] [(.int p3)])) _
    refine XS.iconst X0.here hx rfl (hb hby at_38) ?_
    show Steps p.tables e below (s₁.setTop (mkF m 39 #[.val (.int p1), .val (.int p2), .val (.int p3), .val (.int p4), .val (.int p5), .val (.int p6), .val (.int c0), .val (.int c1), .val (.int c2), .val (.int c3), .val (.int mm), .unset, .unset, .unset, .unset, .unset, .unset, .unset, .unset, .unset] [(.int (3 : Int32)), (.int p3)])) _
    refine XS.iand X0.here hx rfl (hb hby at_39) rfl ?_
    show Steps p.tables e below (s₁.setTop (mkF m 40 #[.val (.int p1), .val (.int p2), .val (.int p3), .val (.int p4), .val (.int p5), .val (.int p6), .val (.int c0), .val (.int c1), .val (.int c2), .val (.int c3), .val (.int mm), .unset, .unset, .unset, .unset, .unset, .unset, .unset, .unset, .unset] [(.int (p3 &&& (3 : Int32)))])) _
    refine XS.istore X0.here hx rfl (hb hby at_40) (x := ff) (rest := []) (by subst h_ff; rfl) (l' := #[.val (.int p1), .val (.int p2), .val (.int p3), .val (.int p4), .val (.int p5), .val (.int p6), .val (.int c0), .val (.int c1), .val (.int c2), .val (.int c3), .val (.int mm), .val (.int ff), .unset, .unset, .unset, .unset, .unset, .unset, .unset, .unset]) rfl ?_
    show Steps p.tables e below (s₁.setTop (mkF m 42 #[.val (.int p1), .val (.int p2), .val (.int p3), .val (.int p4), .val (.int p5), .val (.int p6), .val (.int c0), .val (.int c1), .val (.int c2), .val (.int c3), .val (.int mm), .val (.int ff), .unset, .unset, .unset, .unset, .unset, .unset, .unset, .unset] [])) _
    refine XS.iload X0.here hx rfl (hb hby at_42) rfl ?_
    show Steps p.tables e below (s₁.setTop (mkF m 44 #[.val (.int p1), .val (.int p2), .val (.int p3), .val (.int p4), .val (.int p5), .val (.int p6), .val (.int c0), .val (.int c1), .val (.int c2), .val (.int c3), .val (.int mm), .val (.int ff), .unset, .unset, .unset, .unset, .unset, .unset, .unset, .unset] [(.int ff)])) _
    refine XS.iconst X0.here hx rfl (hb hby at_44) ?_
    show Steps p.tables e below (s₁.setTop (mkF m 45 #[.val (.int p1), .val (.int p2), .val (.int p3), .val (.int p4), .val (.int p5), .val (.int p6), .val (.int c0), .val (.int c1), .val (.int c2), .val (.int c3), .val (.int mm), .val (.int ff), .unset, .unset, .unset, .unset, .unset, .unset, .unset, .unset] [(.int (1 : Int32)), (.int ff)])) _
    refine XS.iadd X0.here hx rfl (hb hby at_45) rfl ?_
    show Steps p.tables e below (s₁.setTop (mkF m 46 #[.val (.int p1), .val (.int p2), .val (.int p3), .val (.int p4), .val (.int p5), .val (.int p6), .val (.int c0), .val (.int c1), .val (.int c2), .val (.int c3), .val (.int mm), .val (.int ff), .unset, .unset, .unset, .unset, .unset, .unset, .unset, .unset] [(.int (ff + (1 : Int32)))])) _
    refine XS.iloadN X0.here hx rfl (hb hby at_46) rfl ?_
    show Steps p.tables e below (s₁.setTop (mkF m 47 #[.val (.int p1), .val (.int p2), .val (.int p3), .val (.int p4), .val (.int p5), .val (.int p6), .val (.int c0), .val (.int c1), .val (.int c2), .val (.int c3), .val (.int mm), .val (.int ff), .unset, .unset, .unset, .unset, .unset, .unset, .unset, .unset] [(.int p4), (.int (ff + (1 : Int32)))])) _
    refine X0.ldcInt hx hown (mvT hZ (hw _ (List.mem_of_getElem? (i := 0) rfl))) (g := (mkF m 47 #[.val (.int p1), .val (.int p2), .val (.int p3), .val (.int p4), .val (.int p5), .val (.int p6), .val (.int c0), .val (.int c1), .val (.int c2), .val (.int c3), .val (.int mm), .val (.int ff), .unset, .unset, .unset, .unset, .unset, .unset, .unset, .unset] [(.int p4), (.int (ff + (1 : Int32)))])) rfl (hb hby at_47) _ ?_
    show Steps p.tables e below (s₁.setTop (mkF m 49 #[.val (.int p1), .val (.int p2), .val (.int p3), .val (.int p4), .val (.int p5), .val (.int p6), .val (.int c0), .val (.int c1), .val (.int c2), .val (.int c3), .val (.int mm), .val (.int ff), .unset, .unset, .unset, .unset, .unset, .unset, .unset, .unset] [(.int (2147483647 : Int32)), (.int p4), (.int (ff + (1 : Int32)))])) _
    refine XS.iand X0.here hx rfl (hb hby at_49) rfl ?_
    show Steps p.tables e below (s₁.setTop (mkF m 50 #[.val (.int p1), .val (.int p2), .val (.int p3), .val (.int p4), .val (.int p5), .val (.int p6), .val (.int c0), .val (.int c1), .val (.int c2), .val (.int c3), .val (.int mm), .val (.int ff), .unset, .unset, .unset, .unset, .unset, .unset, .unset, .unset] [(.int (p4 &&& (2147483647 : Int32))), (.int (ff + (1 : Int32)))])) _
    refine XS.iconst X0.here hx rfl (hb hby at_50) ?_
    show Steps p.tables e below (s₁.setTop (mkF m 51 #[.val (.int p1), .val (.int p2), .val (.int p3), .val (.int p4), .val (.int p5), .val (.int p6), .val (.int c0), .val (.int c1), .val (.int c2), .val (.int c3), .val (.int mm), .val (.int ff), .unset, .unset, .unset, .unset, .unset, .unset, .unset, .unset] [(.int (3 : Int32)), (.int (p4 &&& (2147483647 : Int32))), (.int (ff + (1 : Int32)))])) _
    refine XS.irem X0.here hx rfl (hb hby at_51) rfl (by decide) ?_
    show Steps p.tables e below (s₁.setTop (mkF m 52 #[.val (.int p1), .val (.int p2), .val (.int p3), .val (.int p4), .val (.int p5), .val (.int p6), .val (.int c0), .val (.int c1), .val (.int c2), .val (.int c3), .val (.int mm), .val (.int ff), .unset, .unset, .unset, .unset, .unset, .unset, .unset, .unset] [(.int ((p4 &&& (2147483647 : Int32)) - ((p4 &&& (2147483647 : Int32)) / (3 : Int32)) * (3 : Int32))), (.int (ff + (1 : Int32)))])) _
    refine XS.iadd X0.here hx rfl (hb hby at_52) rfl ?_
    show Steps p.tables e below (s₁.setTop (mkF m 53 #[.val (.int p1), .val (.int p2), .val (.int p3), .val (.int p4), .val (.int p5), .val (.int p6), .val (.int c0), .val (.int c1), .val (.int c2), .val (.int c3), .val (.int mm), .val (.int ff), .unset, .unset, .unset, .unset, .unset, .unset, .unset, .unset] [(.int ((ff + (1 : Int32)) + ((p4 &&& (2147483647 : Int32)) - ((p4 &&& (2147483647 : Int32)) / (3 : Int32)) * (3 : Int32))))])) _
    refine XS.iconst X0.here hx rfl (hb hby at_53) ?_
    show Steps p.tables e below (s₁.setTop (mkF m 54 #[.val (.int p1), .val (.int p2), .val (.int p3), .val (.int p4), .val (.int p5), .val (.int p6), .val (.int c0), .val (.int c1), .val (.int c2), .val (.int c3), .val (.int mm), .val (.int ff), .unset, .unset, .unset, .unset, .unset, .unset, .unset, .unset] [(.int (3 : Int32)), (.int ((ff + (1 : Int32)) + ((p4 &&& (2147483647 : Int32)) - ((p4 &&& (2147483647 : Int32)) / (3 : Int32)) * (3 : Int32))))])) _
    refine XS.iand X0.here hx rfl (hb hby at_54) rfl ?_
    show Steps p.tables e below (s₁.setTop (mkF m 55 #[.val (.int p1), .val (.int p2), .val (.int p3), .val (.int p4), .val (.int p5), .val (.int p6), .val (.int c0), .val (.int c1), .val (.int c2), .val (.int c3), .val (.int mm), .val (.int ff), .unset, .unset, .unset, .unset, .unset, .unset, .unset, .unset] [(.int (((ff + (1 : Int32)) + ((p4 &&& (2147483647 : Int32)) - ((p4 &&& (2147483647 : Int32)) / (3 : Int32)) * (3 : Int32))) &&& (3 : Int32)))])) _
    refine XS.istore X0.here hx rfl (hb hby at_55) (x := tt) (rest := []) (by subst h_tt; rfl) (l' := #[.val (.int p1), .val (.int p2), .val (.int p3), .val (.int p4), .val (.int p5), .val (.int p6), .val (.int c0), .val (.int c1), .val (.int c2), .val (.int c3), .val (.int mm), .val (.int ff), .val (.int tt), .unset, .unset, .unset, .unset, .unset, .unset, .unset]) rfl ?_
    show Steps p.tables e below (s₁.setTop (mkF m 57 #[.val (.int p1), .val (.int p2), .val (.int p3), .val (.int p4), .val (.int p5), .val (.int p6), .val (.int c0), .val (.int c1), .val (.int c2), .val (.int c3), .val (.int mm), .val (.int ff), .val (.int tt), .unset, .unset, .unset, .unset, .unset, .unset, .unset] [])) _
    refine XS.iload X0.here hx rfl (hb hby at_57) rfl ?_
    show Steps p.tables e below (s₁.setTop (mkF m 59 #[.val (.int p1), .val (.int p2), .val (.int p3), .val (.int p4), .val (.int p5), .val (.int p6), .val (.int c0), .val (.int c1), .val (.int c2), .val (.int c3), .val (.int mm), .val (.int ff), .val (.int tt), .unset, .unset, .unset, .unset, .unset, .unset, .unset] [(.int p5)])) _
    refine X0.ldcInt hx hown (mvT hZ (hw _ (List.mem_of_getElem? (i := 1) rfl))) (g := (mkF m 59 #[.val (.int p1), .val (.int p2), .val (.int p3), .val (.int p4), .val (.int p5), .val (.int p6), .val (.int c0), .val (.int c1), .val (.int c2), .val (.int c3), .val (.int mm), .val (.int ff), .val (.int tt), .unset, .unset, .unset, .unset, .unset, .unset, .unset] [(.int p5)])) rfl (hb hby at_59) _ ?_
    show Steps p.tables e below (s₁.setTop (mkF m 61 #[.val (.int p1), .val (.int p2), .val (.int p3), .val (.int p4), .val (.int p5), .val (.int p6), .val (.int c0), .val (.int c1), .val (.int c2), .val (.int c3), .val (.int mm), .val (.int ff), .val (.int tt), .unset, .unset, .unset, .unset, .unset, .unset, .unset] [(.int (1073741823 : Int32)), (.int p5)])) _
    refine XS.iand X0.here hx rfl (hb hby at_61) rfl ?_
    show Steps p.tables e below (s₁.setTop (mkF m 62 #[.val (.int p1), .val (.int p2), .val (.int p3), .val (.int p4), .val (.int p5), .val (.int p6), .val (.int c0), .val (.int c1), .val (.int c2), .val (.int c3), .val (.int mm), .val (.int ff), .val (.int tt), .unset, .unset, .unset, .unset, .unset, .unset, .unset] [(.int (p5 &&& (1073741823 : Int32)))])) _
    refine XS.istore X0.here hx rfl (hb hby at_62) (x := bs) (rest := []) (by subst h_bs; rfl) (l' := #[.val (.int p1), .val (.int p2), .val (.int p3), .val (.int p4), .val (.int p5), .val (.int p6), .val (.int c0), .val (.int c1), .val (.int c2), .val (.int c3), .val (.int mm), .val (.int ff), .val (.int tt), .val (.int bs), .unset, .unset, .unset, .unset, .unset, .unset]) rfl ?_
    show Steps p.tables e below (s₁.setTop (mkF m 64 #[.val (.int p1), .val (.int p2), .val (.int p3), .val (.int p4), .val (.int p5), .val (.int p6), .val (.int c0), .val (.int c1), .val (.int c2), .val (.int c3), .val (.int mm), .val (.int ff), .val (.int tt), .val (.int bs), .unset, .unset, .unset, .unset, .unset, .unset] [])) _
    refine XS.iload X0.here hx rfl (hb hby at_64) rfl ?_
    show Steps p.tables e below (s₁.setTop (mkF m 66 #[.val (.int p1), .val (.int p2), .val (.int p3), .val (.int p4), .val (.int p5), .val (.int p6), .val (.int c0), .val (.int c1), .val (.int c2), .val (.int c3), .val (.int mm), .val (.int ff), .val (.int tt), .val (.int bs), .unset, .unset, .unset, .unset, .unset, .unset] [(.int p6)])) _
    refine X0.ldcInt hx hown (mvT hZ (hw _ (List.mem_of_getElem? (i := 1) rfl))) (g := (mkF m 66 #[.val (.int p1), .val (.int p2), .val (.int p3), .val (.int p4), .val (.int p5), .val (.int p6), .val (.int c0), .val (.int c1), .val (.int c2), .val (.int c3), .val (.int mm), .val (.int ff), .val (.int tt), .val (.int bs), .unset, .unset, .unset, .unset, .unset, .unset] [(.int p6)])) rfl (hb hby at_66) _ ?_
    show Steps p.tables e below (s₁.setTop (mkF m 68 #[.val (.int p1), .val (.int p2), .val (.int p3), .val (.int p4), .val (.int p5), .val (.int p6), .val (.int c0), .val (.int c1), .val (.int c2), .val (.int c3), .val (.int mm), .val (.int ff), .val (.int tt), .val (.int bs), .unset, .unset, .unset, .unset, .unset, .unset] [(.int (1073741823 : Int32)), (.int p6)])) _
    refine XS.iand X0.here hx rfl (hb hby at_68) rfl ?_
    show Steps p.tables e below (s₁.setTop (mkF m 69 #[.val (.int p1), .val (.int p2), .val (.int p3), .val (.int p4), .val (.int p5), .val (.int p6), .val (.int c0), .val (.int c1), .val (.int c2), .val (.int c3), .val (.int mm), .val (.int ff), .val (.int tt), .val (.int bs), .unset, .unset, .unset, .unset, .unset, .unset] [(.int (p6 &&& (1073741823 : Int32)))])) _
    refine XS.istore X0.here hx rfl (hb hby at_69) (x := ex) (rest := []) (by subst h_ex; rfl) (l' := #[.val (.int p1), .val (.int p2), .val (.int p3), .val (.int p4), .val (.int p5), .val (.int p6), .val (.int c0), .val (.int c1), .val (.int c2), .val (.int c3), .val (.int mm), .val (.int ff), .val (.int tt), .val (.int bs), .val (.int ex), .unset, .unset, .unset, .unset, .unset]) rfl ?_
    show Steps p.tables e below (s₁.setTop (mkF m 71 #[.val (.int p1), .val (.int p2), .val (.int p3), .val (.int p4), .val (.int p5), .val (.int p6), .val (.int c0), .val (.int c1), .val (.int c2), .val (.int c3), .val (.int mm), .val (.int ff), .val (.int tt), .val (.int bs), .val (.int ex), .unset, .unset, .unset, .unset, .unset] [])) _
    refine XS.iload X0.here hx rfl (hb hby at_71) rfl ?_
    show Steps p.tables e below (s₁.setTop (mkF m 73 #[.val (.int p1), .val (.int p2), .val (.int p3), .val (.int p4), .val (.int p5), .val (.int p6), .val (.int c0), .val (.int c1), .val (.int c2), .val (.int c3), .val (.int mm), .val (.int ff), .val (.int tt), .val (.int bs), .val (.int ex), .unset, .unset, .unset, .unset, .unset] [(.int ex)])) _
    refine XS.iconst X0.here hx rfl (hb hby at_73) ?_
    show Steps p.tables e below (s₁.setTop (mkF m 74 #[.val (.int p1), .val (.int p2), .val (.int p3), .val (.int p4), .val (.int p5), .val (.int p6), .val (.int c0), .val (.int c1), .val (.int c2), .val (.int c3), .val (.int mm), .val (.int ff), .val (.int tt), .val (.int bs), .val (.int ex), .unset, .unset, .unset, .unset, .unset] [(.int (0 : Int32)), (.int ex)])) _
    refine XS.iload X0.here hx rfl (hb hby at_74) rfl ?_
    show Steps p.tables e below (s₁.setTop (mkF m 76 #[.val (.int p1), .val (.int p2), .val (.int p3), .val (.int p4), .val (.int p5), .val (.int p6), .val (.int c0), .val (.int c1), .val (.int c2), .val (.int c3), .val (.int mm), .val (.int ff), .val (.int tt), .val (.int bs), .val (.int ex), .unset, .unset, .unset, .unset, .unset] [(.int mm), (.int (0 : Int32)), (.int ex)])) _
    refine XS.iload X0.here hx rfl (hb hby at_76) rfl ?_
    show Steps p.tables e below (s₁.setTop (mkF m 78 #[.val (.int p1), .val (.int p2), .val (.int p3), .val (.int p4), .val (.int p5), .val (.int p6), .val (.int c0), .val (.int c1), .val (.int c2), .val (.int c3), .val (.int mm), .val (.int ff), .val (.int tt), .val (.int bs), .val (.int ex), .unset, .unset, .unset, .unset, .unset] [(.int c0), (.int mm), (.int (0 : Int32)), (.int ex)])) _
    refine XS.iload X0.here hx rfl (hb hby at_78) rfl ?_
    show Steps p.tables e below (s₁.setTop (mkF m 80 #[.val (.int p1), .val (.int p2), .val (.int p3), .val (.int p4), .val (.int p5), .val (.int p6), .val (.int c0), .val (.int c1), .val (.int c2), .val (.int c3), .val (.int mm), .val (.int ff), .val (.int tt), .val (.int bs), .val (.int ex), .unset, .unset, .unset, .unset, .unset] [(.int ff), (.int c0), (.int mm), (.int (0 : Int32)), (.int ex)])) _
    refine own_tif_ne X0.here hx (hb hby at_80) (hb hby at_83) (hb hby at_84) (hb hby at_87) ?_
    show Steps p.tables e below (s₁.setTop (mkF m 88 #[.val (.int p1), .val (.int p2), .val (.int p3), .val (.int p4), .val (.int p5), .val (.int p6), .val (.int c0), .val (.int c1), .val (.int c2), .val (.int c3), .val (.int mm), .val (.int ff), .val (.int tt), .val (.int bs), .val (.int ex), .unset, .unset, .unset, .unset, .unset] [(.int (if ff = (0 : Int32) then (1 : Int32) else 0)), (.int c0), (.int mm), (.int (0 : Int32)), (.int ex)])) _
    refine XS.iadd X0.here hx rfl (hb hby at_88) rfl ?_
    show Steps p.tables e below (s₁.setTop (mkF m 89 #[.val (.int p1), .val (.int p2), .val (.int p3), .val (.int p4), .val (.int p5), .val (.int p6), .val (.int c0), .val (.int c1), .val (.int c2), .val (.int c3), .val (.int mm), .val (.int ff), .val (.int tt), .val (.int bs), .val (.int ex), .unset, .unset, .unset, .unset, .unset] [(.int (c0 + (if ff = (0 : Int32) then (1 : Int32) else 0))), (.int mm), (.int (0 : Int32)), (.int ex)])) _
    refine st7 _ ?_
    show Steps p.tables e below (T7.setTop (mkF m 92 #[.val (.int p1), .val (.int p2), .val (.int p3), .val (.int p4), .val (.int p5), .val (.int p6), .val (.int c0), .val (.int c1), .val (.int c2), .val (.int c3), .val (.int mm), .val (.int ff), .val (.int tt), .val (.int bs), .val (.int ex), .unset, .unset, .unset, .unset, .unset] [(.int (own_occ (0 : Int32) mm (c0 + (if ff = (0 : Int32) then (1 : Int32) else 0)))), (.int ex)])) _
    refine XS.iadd X7.here hx rfl (hb hby at_92) rfl ?_
    show Steps p.tables e below (T7.setTop (mkF m 93 #[.val (.int p1), .val (.int p2), .val (.int p3), .val (.int p4), .val (.int p5), .val (.int p6), .val (.int c0), .val (.int c1), .val (.int c2), .val (.int c3), .val (.int mm), .val (.int ff), .val (.int tt), .val (.int bs), .val (.int ex), .unset, .unset, .unset, .unset, .unset] [(.int (ex + (own_occ (0 : Int32) mm (c0 + (if ff = (0 : Int32) then (1 : Int32) else 0)))))])) _
    refine XS.iconst X7.here hx rfl (hb hby at_93) ?_
    show Steps p.tables e below (T7.setTop (mkF m 94 #[.val (.int p1), .val (.int p2), .val (.int p3), .val (.int p4), .val (.int p5), .val (.int p6), .val (.int c0), .val (.int c1), .val (.int c2), .val (.int c3), .val (.int mm), .val (.int ff), .val (.int tt), .val (.int bs), .val (.int ex), .unset, .unset, .unset, .unset, .unset] [(.int (1 : Int32)), (.int (ex + (own_occ (0 : Int32) mm (c0 + (if ff = (0 : Int32) then (1 : Int32) else 0)))))])) _
    refine XS.iload X7.here hx rfl (hb hby at_94) rfl ?_
    show Steps p.tables e below (T7.setTop (mkF m 96 #[.val (.int p1), .val (.int p2), .val (.int p3), .val (.int p4), .val (.int p5), .val (.int p6), .val (.int c0), .val (.int c1), .val (.int c2), .val (.int c3), .val (.int mm), .val (.int ff), .val (.int tt), .val (.int bs), .val (.int ex), .unset, .unset, .unset, .unset, .unset] [(.int mm), (.int (1 : Int32)), (.int (ex + (own_occ (0 : Int32) mm (c0 + (if ff = (0 : Int32) then (1 : Int32) else 0)))))])) _
    refine XS.iload X7.here hx rfl (hb hby at_96) rfl ?_
    show Steps p.tables e below (T7.setTop (mkF m 98 #[.val (.int p1), .val (.int p2), .val (.int p3), .val (.int p4), .val (.int p5), .val (.int p6), .val (.int c0), .val (.int c1), .val (.int c2), .val (.int c3), .val (.int mm), .val (.int ff), .val (.int tt), .val (.int bs), .val (.int ex), .unset, .unset, .unset, .unset, .unset] [(.int c1), (.int mm), (.int (1 : Int32)), (.int (ex + (own_occ (0 : Int32) mm (c0 + (if ff = (0 : Int32) then (1 : Int32) else 0)))))])) _
    refine XS.iload X7.here hx rfl (hb hby at_98) rfl ?_
    show Steps p.tables e below (T7.setTop (mkF m 100 #[.val (.int p1), .val (.int p2), .val (.int p3), .val (.int p4), .val (.int p5), .val (.int p6), .val (.int c0), .val (.int c1), .val (.int c2), .val (.int c3), .val (.int mm), .val (.int ff), .val (.int tt), .val (.int bs), .val (.int ex), .unset, .unset, .unset, .unset, .unset] [(.int ff), (.int c1), (.int mm), (.int (1 : Int32)), (.int (ex + (own_occ (0 : Int32) mm (c0 + (if ff = (0 : Int32) then (1 : Int32) else 0)))))])) _
    refine XS.iconst X7.here hx rfl (hb hby at_100) ?_
    show Steps p.tables e below (T7.setTop (mkF m 101 #[.val (.int p1), .val (.int p2), .val (.int p3), .val (.int p4), .val (.int p5), .val (.int p6), .val (.int c0), .val (.int c1), .val (.int c2), .val (.int c3), .val (.int mm), .val (.int ff), .val (.int tt), .val (.int bs), .val (.int ex), .unset, .unset, .unset, .unset, .unset] [(.int (1 : Int32)), (.int ff), (.int c1), (.int mm), (.int (1 : Int32)), (.int (ex + (own_occ (0 : Int32) mm (c0 + (if ff = (0 : Int32) then (1 : Int32) else 0)))))])) _
    refine own_tic_ne X7.here hx (hb hby at_101) (hb hby at_104) (hb hby at_105) (hb hby at_108) ?_
    show Steps p.tables e below (T7.setTop (mkF m 109 #[.val (.int p1), .val (.int p2), .val (.int p3), .val (.int p4), .val (.int p5), .val (.int p6), .val (.int c0), .val (.int c1), .val (.int c2), .val (.int c3), .val (.int mm), .val (.int ff), .val (.int tt), .val (.int bs), .val (.int ex), .unset, .unset, .unset, .unset, .unset] [(.int (if ff = (1 : Int32) then (1 : Int32) else 0)), (.int c1), (.int mm), (.int (1 : Int32)), (.int (ex + (own_occ (0 : Int32) mm (c0 + (if ff = (0 : Int32) then (1 : Int32) else 0)))))])) _
    refine XS.iadd X7.here hx rfl (hb hby at_109) rfl ?_
    show Steps p.tables e below (T7.setTop (mkF m 110 #[.val (.int p1), .val (.int p2), .val (.int p3), .val (.int p4), .val (.int p5), .val (.int p6), .val (.int c0), .val (.int c1), .val (.int c2), .val (.int c3), .val (.int mm), .val (.int ff), .val (.int tt), .val (.int bs), .val (.int ex), .unset, .unset, .unset, .unset, .unset] [(.int (c1 + (if ff = (1 : Int32) then (1 : Int32) else 0))), (.int mm), (.int (1 : Int32)), (.int (ex + (own_occ (0 : Int32) mm (c0 + (if ff = (0 : Int32) then (1 : Int32) else 0)))))])) _
    refine st8 _ ?_
    show Steps p.tables e below (T8.setTop (mkF m 113 #[.val (.int p1), .val (.int p2), .val (.int p3), .val (.int p4), .val (.int p5), .val (.int p6), .val (.int c0), .val (.int c1), .val (.int c2), .val (.int c3), .val (.int mm), .val (.int ff), .val (.int tt), .val (.int bs), .val (.int ex), .unset, .unset, .unset, .unset, .unset] [(.int (own_occ (1 : Int32) mm (c1 + (if ff = (1 : Int32) then (1 : Int32) else 0)))), (.int (ex + (own_occ (0 : Int32) mm (c0 + (if ff = (0 : Int32) then (1 : Int32) else 0)))))])) _
    refine XS.iadd X8.here hx rfl (hb hby at_113) rfl ?_
    show Steps p.tables e below (T8.setTop (mkF m 114 #[.val (.int p1), .val (.int p2), .val (.int p3), .val (.int p4), .val (.int p5), .val (.int p6), .val (.int c0), .val (.int c1), .val (.int c2), .val (.int c3), .val (.int mm), .val (.int ff), .val (.int tt), .val (.int bs), .val (.int ex), .unset, .unset, .unset, .unset, .unset] [(.int ((ex + (own_occ (0 : Int32) mm (c0 + (if ff = (0 : Int32) then (1 : Int32) else 0)))) + (own_occ (1 : Int32) mm (c1 + (if ff = (1 : Int32) then (1 : Int32) else 0)))))])) _
    refine XS.iconst X8.here hx rfl (hb hby at_114) ?_
    show Steps p.tables e below (T8.setTop (mkF m 115 #[.val (.int p1), .val (.int p2), .val (.int p3), .val (.int p4), .val (.int p5), .val (.int p6), .val (.int c0), .val (.int c1), .val (.int c2), .val (.int c3), .val (.int mm), .val (.int ff), .val (.int tt), .val (.int bs), .val (.int ex), .unset, .unset, .unset, .unset, .unset] [(.int (2 : Int32)), (.int ((ex + (own_occ (0 : Int32) mm (c0 + (if ff = (0 : Int32) then (1 : Int32) else 0)))) + (own_occ (1 : Int32) mm (c1 + (if ff = (1 : Int32) then (1 : Int32) else 0)))))])) _
    refine XS.iload X8.here hx rfl (hb hby at_115) rfl ?_
    show Steps p.tables e below (T8.setTop (mkF m 117 #[.val (.int p1), .val (.int p2), .val (.int p3), .val (.int p4), .val (.int p5), .val (.int p6), .val (.int c0), .val (.int c1), .val (.int c2), .val (.int c3), .val (.int mm), .val (.int ff), .val (.int tt), .val (.int bs), .val (.int ex), .unset, .unset, .unset, .unset, .unset] [(.int mm), (.int (2 : Int32)), (.int ((ex + (own_occ (0 : Int32) mm (c0 + (if ff = (0 : Int32) then (1 : Int32) else 0)))) + (own_occ (1 : Int32) mm (c1 + (if ff = (1 : Int32) then (1 : Int32) else 0)))))])) _
    refine XS.iload X8.here hx rfl (hb hby at_117) rfl ?_
    show Steps p.tables e below (T8.setTop (mkF m 119 #[.val (.int p1), .val (.int p2), .val (.int p3), .val (.int p4), .val (.int p5), .val (.int p6), .val (.int c0), .val (.int c1), .val (.int c2), .val (.int c3), .val (.int mm), .val (.int ff), .val (.int tt), .val (.int bs), .val (.int ex), .unset, .unset, .unset, .unset, .unset] [(.int c2), (.int mm), (.int (2 : Int32)), (.int ((ex + (own_occ (0 : Int32) mm (c0 + (if ff = (0 : Int32) then (1 : Int32) else 0)))) + (own_occ (1 : Int32) mm (c1 + (if ff = (1 : Int32) then (1 : Int32) else 0)))))])) _
    refine XS.iload X8.here hx rfl (hb hby at_119) rfl ?_
    show Steps p.tables e below (T8.setTop (mkF m 121 #[.val (.int p1), .val (.int p2), .val (.int p3), .val (.int p4), .val (.int p5), .val (.int p6), .val (.int c0), .val (.int c1), .val (.int c2), .val (.int c3), .val (.int mm), .val (.int ff), .val (.int tt), .val (.int bs), .val (.int ex), .unset, .unset, .unset, .unset, .unset] [(.int ff), (.int c2), (.int mm), (.int (2 : Int32)), (.int ((ex + (own_occ (0 : Int32) mm (c0 + (if ff = (0 : Int32) then (1 : Int32) else 0)))) + (own_occ (1 : Int32) mm (c1 + (if ff = (1 : Int32) then (1 : Int32) else 0)))))])) _
    refine XS.iconst X8.here hx rfl (hb hby at_121) ?_
    show Steps p.tables e below (T8.setTop (mkF m 122 #[.val (.int p1), .val (.int p2), .val (.int p3), .val (.int p4), .val (.int p5), .val (.int p6), .val (.int c0), .val (.int c1), .val (.int c2), .val (.int c3), .val (.int mm), .val (.int ff), .val (.int tt), .val (.int bs), .val (.int ex), .unset, .unset, .unset, .unset, .unset] [(.int (2 : Int32)), (.int ff), (.int c2), (.int mm), (.int (2 : Int32)), (.int ((ex + (own_occ (0 : Int32) mm (c0 + (if ff = (0 : Int32) then (1 : Int32) else 0)))) + (own_occ (1 : Int32) mm (c1 + (if ff = (1 : Int32) then (1 : Int32) else 0)))))])) _
    refine own_tic_ne X8.here hx (hb hby at_122) (hb hby at_125) (hb hby at_126) (hb hby at_129) ?_
    show Steps p.tables e below (T8.setTop (mkF m 130 #[.val (.int p1), .val (.int p2), .val (.int p3), .val (.int p4), .val (.int p5), .val (.int p6), .val (.int c0), .val (.int c1), .val (.int c2), .val (.int c3), .val (.int mm), .val (.int ff), .val (.int tt), .val (.int bs), .val (.int ex), .unset, .unset, .unset, .unset, .unset] [(.int (if ff = (2 : Int32) then (1 : Int32) else 0)), (.int c2), (.int mm), (.int (2 : Int32)), (.int ((ex + (own_occ (0 : Int32) mm (c0 + (if ff = (0 : Int32) then (1 : Int32) else 0)))) + (own_occ (1 : Int32) mm (c1 + (if ff = (1 : Int32) then (1 : Int32) else 0)))))])) _
    refine XS.iadd X8.here hx rfl (hb hby at_130) rfl ?_
    show Steps p.tables e below (T8.setTop (mkF m 131 #[.val (.int p1), .val (.int p2), .val (.int p3), .val (.int p4), .val (.int p5), .val (.int p6), .val (.int c0), .val (.int c1), .val (.int c2), .val (.int c3), .val (.int mm), .val (.int ff), .val (.int tt), .val (.int bs), .val (.int ex), .unset, .unset, .unset, .unset, .unset] [(.int (c2 + (if ff = (2 : Int32) then (1 : Int32) else 0))), (.int mm), (.int (2 : Int32)), (.int ((ex + (own_occ (0 : Int32) mm (c0 + (if ff = (0 : Int32) then (1 : Int32) else 0)))) + (own_occ (1 : Int32) mm (c1 + (if ff = (1 : Int32) then (1 : Int32) else 0)))))])) _
    refine st9 _ ?_
    show Steps p.tables e below (T9.setTop (mkF m 134 #[.val (.int p1), .val (.int p2), .val (.int p3), .val (.int p4), .val (.int p5), .val (.int p6), .val (.int c0), .val (.int c1), .val (.int c2), .val (.int c3), .val (.int mm), .val (.int ff), .val (.int tt), .val (.int bs), .val (.int ex), .unset, .unset, .unset, .unset, .unset] [(.int (own_occ (2 : Int32) mm (c2 + (if ff = (2 : Int32) then (1 : Int32) else 0)))), (.int ((ex + (own_occ (0 : Int32) mm (c0 + (if ff = (0 : Int32) then (1 : Int32) else 0)))) + (own_occ (1 : Int32) mm (c1 + (if ff = (1 : Int32) then (1 : Int32) else 0)))))])) _
    refine XS.iadd X9.here hx rfl (hb hby at_134) rfl ?_
    show Steps p.tables e below (T9.setTop (mkF m 135 #[.val (.int p1), .val (.int p2), .val (.int p3), .val (.int p4), .val (.int p5), .val (.int p6), .val (.int c0), .val (.int c1), .val (.int c2), .val (.int c3), .val (.int mm), .val (.int ff), .val (.int tt), .val (.int bs), .val (.int ex), .unset, .unset, .unset, .unset, .unset] [(.int (((ex + (own_occ (0 : Int32) mm (c0 + (if ff = (0 : Int32) then (1 : Int32) else 0)))) + (own_occ (1 : Int32) mm (c1 + (if ff = (1 : Int32) then (1 : Int32) else 0)))) + (own_occ (2 : Int32) mm (c2 + (if ff = (2 : Int32) then (1 : Int32) else 0)))))])) _
    refine XS.iconst X9.here hx rfl (hb hby at_135) ?_
    show Steps p.tables e below (T9.setTop (mkF m 136 #[.val (.int p1), .val (.int p2), .val (.int p3), .val (.int p4), .val (.int p5), .val (.int p6), .val (.int c0), .val (.int c1), .val (.int c2), .val (.int c3), .val (.int mm), .val (.int ff), .val (.int tt), .val (.int bs), .val (.int ex), .unset, .unset, .unset, .unset, .unset] [(.int (3 : Int32)), (.int (((ex + (own_occ (0 : Int32) mm (c0 + (if ff = (0 : Int32) then (1 : Int32) else 0)))) + (own_occ (1 : Int32) mm (c1 + (if ff = (1 : Int32) then (1 : Int32) else 0)))) + (own_occ (2 : Int32) mm (c2 + (if ff = (2 : Int32) then (1 : Int32) else 0)))))])) _
    refine XS.iload X9.here hx rfl (hb hby at_136) rfl ?_
    show Steps p.tables e below (T9.setTop (mkF m 138 #[.val (.int p1), .val (.int p2), .val (.int p3), .val (.int p4), .val (.int p5), .val (.int p6), .val (.int c0), .val (.int c1), .val (.int c2), .val (.int c3), .val (.int mm), .val (.int ff), .val (.int tt), .val (.int bs), .val (.int ex), .unset, .unset, .unset, .unset, .unset] [(.int mm), (.int (3 : Int32)), (.int (((ex + (own_occ (0 : Int32) mm (c0 + (if ff = (0 : Int32) then (1 : Int32) else 0)))) + (own_occ (1 : Int32) mm (c1 + (if ff = (1 : Int32) then (1 : Int32) else 0)))) + (own_occ (2 : Int32) mm (c2 + (if ff = (2 : Int32) then (1 : Int32) else 0)))))])) _
    refine XS.iload X9.here hx rfl (hb hby at_138) rfl ?_
    show Steps p.tables e below (T9.setTop (mkF m 140 #[.val (.int p1), .val (.int p2), .val (.int p3), .val (.int p4), .val (.int p5), .val (.int p6), .val (.int c0), .val (.int c1), .val (.int c2), .val (.int c3), .val (.int mm), .val (.int ff), .val (.int tt), .val (.int bs), .val (.int ex), .unset, .unset, .unset, .unset, .unset] [(.int c3), (.int mm), (.int (3 : Int32)), (.int (((ex + (own_occ (0 : Int32) mm (c0 + (if ff = (0 : Int32) then (1 : Int32) else 0)))) + (own_occ (1 : Int32) mm (c1 + (if ff = (1 : Int32) then (1 : Int32) else 0)))) + (own_occ (2 : Int32) mm (c2 + (if ff = (2 : Int32) then (1 : Int32) else 0)))))])) _
    refine XS.iload X9.here hx rfl (hb hby at_140) rfl ?_
    show Steps p.tables e below (T9.setTop (mkF m 142 #[.val (.int p1), .val (.int p2), .val (.int p3), .val (.int p4), .val (.int p5), .val (.int p6), .val (.int c0), .val (.int c1), .val (.int c2), .val (.int c3), .val (.int mm), .val (.int ff), .val (.int tt), .val (.int bs), .val (.int ex), .unset, .unset, .unset, .unset, .unset] [(.int ff), (.int c3), (.int mm), (.int (3 : Int32)), (.int (((ex + (own_occ (0 : Int32) mm (c0 + (if ff = (0 : Int32) then (1 : Int32) else 0)))) + (own_occ (1 : Int32) mm (c1 + (if ff = (1 : Int32) then (1 : Int32) else 0)))) + (own_occ (2 : Int32) mm (c2 + (if ff = (2 : Int32) then (1 : Int32) else 0)))))])) _
    refine XS.iconst X9.here hx rfl (hb hby at_142) ?_
    show Steps p.tables e below (T9.setTop (mkF m 143 #[.val (.int p1), .val (.int p2), .val (.int p3), .val (.int p4), .val (.int p5), .val (.int p6), .val (.int c0), .val (.int c1), .val (.int c2), .val (.int c3), .val (.int mm), .val (.int ff), .val (.int tt), .val (.int bs), .val (.int ex), .unset, .unset, .unset, .unset, .unset] [(.int (3 : Int32)), (.int ff), (.int c3), (.int mm), (.int (3 : Int32)), (.int (((ex + (own_occ (0 : Int32) mm (c0 + (if ff = (0 : Int32) then (1 : Int32) else 0)))) + (own_occ (1 : Int32) mm (c1 + (if ff = (1 : Int32) then (1 : Int32) else 0)))) + (own_occ (2 : Int32) mm (c2 + (if ff = (2 : Int32) then (1 : Int32) else 0)))))])) _
    refine own_tic_ne X9.here hx (hb hby at_143) (hb hby at_146) (hb hby at_147) (hb hby at_150) ?_
    show Steps p.tables e below (T9.setTop (mkF m 151 #[.val (.int p1), .val (.int p2), .val (.int p3), .val (.int p4), .val (.int p5), .val (.int p6), .val (.int c0), .val (.int c1), .val (.int c2), .val (.int c3), .val (.int mm), .val (.int ff), .val (.int tt), .val (.int bs), .val (.int ex), .unset, .unset, .unset, .unset, .unset] [(.int (if ff = (3 : Int32) then (1 : Int32) else 0)), (.int c3), (.int mm), (.int (3 : Int32)), (.int (((ex + (own_occ (0 : Int32) mm (c0 + (if ff = (0 : Int32) then (1 : Int32) else 0)))) + (own_occ (1 : Int32) mm (c1 + (if ff = (1 : Int32) then (1 : Int32) else 0)))) + (own_occ (2 : Int32) mm (c2 + (if ff = (2 : Int32) then (1 : Int32) else 0)))))])) _
    refine XS.iadd X9.here hx rfl (hb hby at_151) rfl ?_
    show Steps p.tables e below (T9.setTop (mkF m 152 #[.val (.int p1), .val (.int p2), .val (.int p3), .val (.int p4), .val (.int p5), .val (.int p6), .val (.int c0), .val (.int c1), .val (.int c2), .val (.int c3), .val (.int mm), .val (.int ff), .val (.int tt), .val (.int bs), .val (.int ex), .unset, .unset, .unset, .unset, .unset] [(.int (c3 + (if ff = (3 : Int32) then (1 : Int32) else 0))), (.int mm), (.int (3 : Int32)), (.int (((ex + (own_occ (0 : Int32) mm (c0 + (if ff = (0 : Int32) then (1 : Int32) else 0)))) + (own_occ (1 : Int32) mm (c1 + (if ff = (1 : Int32) then (1 : Int32) else 0)))) + (own_occ (2 : Int32) mm (c2 + (if ff = (2 : Int32) then (1 : Int32) else 0)))))])) _
    refine st10 _ ?_
    show Steps p.tables e below (T10.setTop (mkF m 155 #[.val (.int p1), .val (.int p2), .val (.int p3), .val (.int p4), .val (.int p5), .val (.int p6), .val (.int c0), .val (.int c1), .val (.int c2), .val (.int c3), .val (.int mm), .val (.int ff), .val (.int tt), .val (.int bs), .val (.int ex), .unset, .unset, .unset, .unset, .unset] [(.int (own_occ (3 : Int32) mm (c3 + (if ff = (3 : Int32) then (1 : Int32) else 0)))), (.int (((ex + (own_occ (0 : Int32) mm (c0 + (if ff = (0 : Int32) then (1 : Int32) else 0)))) + (own_occ (1 : Int32) mm (c1 + (if ff = (1 : Int32) then (1 : Int32) else 0)))) + (own_occ (2 : Int32) mm (c2 + (if ff = (2 : Int32) then (1 : Int32) else 0)))))])) _
    refine XS.iadd X10.here hx rfl (hb hby at_155) rfl ?_
    show Steps p.tables e below (T10.setTop (mkF m 156 #[.val (.int p1), .val (.int p2), .val (.int p3), .val (.int p4), .val (.int p5), .val (.int p6), .val (.int c0), .val (.int c1), .val (.int c2), .val (.int c3), .val (.int mm), .val (.int ff), .val (.int tt), .val (.int bs), .val (.int ex), .unset, .unset, .unset, .unset, .unset] [(.int ((((ex + (own_occ (0 : Int32) mm (c0 + (if ff = (0 : Int32) then (1 : Int32) else 0)))) + (own_occ (1 : Int32) mm (c1 + (if ff = (1 : Int32) then (1 : Int32) else 0)))) + (own_occ (2 : Int32) mm (c2 + (if ff = (2 : Int32) then (1 : Int32) else 0)))) + (own_occ (3 : Int32) mm (c3 + (if ff = (3 : Int32) then (1 : Int32) else 0)))))])) _
    refine XS.istore X10.here hx rfl (hb hby at_156) (x := bef) (rest := []) (by subst h_bef; rfl) (l' := #[.val (.int p1), .val (.int p2), .val (.int p3), .val (.int p4), .val (.int p5), .val (.int p6), .val (.int c0), .val (.int c1), .val (.int c2), .val (.int c3), .val (.int mm), .val (.int ff), .val (.int tt), .val (.int bs), .val (.int ex), .val (.int bef), .unset, .unset, .unset, .unset]) rfl ?_
    show Steps p.tables e below (T10.setTop (mkF m 158 #[.val (.int p1), .val (.int p2), .val (.int p3), .val (.int p4), .val (.int p5), .val (.int p6), .val (.int c0), .val (.int c1), .val (.int c2), .val (.int c3), .val (.int mm), .val (.int ff), .val (.int tt), .val (.int bs), .val (.int ex), .val (.int bef), .unset, .unset, .unset, .unset] [])) _
    refine XS.iload X10.here hx rfl (hb hby at_158) rfl ?_
    show Steps p.tables e below (T10.setTop (mkF m 160 #[.val (.int p1), .val (.int p2), .val (.int p3), .val (.int p4), .val (.int p5), .val (.int p6), .val (.int c0), .val (.int c1), .val (.int c2), .val (.int c3), .val (.int mm), .val (.int ff), .val (.int tt), .val (.int bs), .val (.int ex), .val (.int bef), .unset, .unset, .unset, .unset] [(.int ex)])) _
    refine XS.iconst X10.here hx rfl (hb hby at_160) ?_
    show Steps p.tables e below (T10.setTop (mkF m 161 #[.val (.int p1), .val (.int p2), .val (.int p3), .val (.int p4), .val (.int p5), .val (.int p6), .val (.int c0), .val (.int c1), .val (.int c2), .val (.int c3), .val (.int mm), .val (.int ff), .val (.int tt), .val (.int bs), .val (.int ex), .val (.int bef), .unset, .unset, .unset, .unset] [(.int (0 : Int32)), (.int ex)])) _
    refine XS.iload X10.here hx rfl (hb hby at_161) rfl ?_
    show Steps p.tables e below (T10.setTop (mkF m 163 #[.val (.int p1), .val (.int p2), .val (.int p3), .val (.int p4), .val (.int p5), .val (.int p6), .val (.int c0), .val (.int c1), .val (.int c2), .val (.int c3), .val (.int mm), .val (.int ff), .val (.int tt), .val (.int bs), .val (.int ex), .val (.int bef), .unset, .unset, .unset, .unset] [(.int mm), (.int (0 : Int32)), (.int ex)])) _
    refine XS.iload X10.here hx rfl (hb hby at_163) rfl ?_
    show Steps p.tables e below (T10.setTop (mkF m 165 #[.val (.int p1), .val (.int p2), .val (.int p3), .val (.int p4), .val (.int p5), .val (.int p6), .val (.int c0), .val (.int c1), .val (.int c2), .val (.int c3), .val (.int mm), .val (.int ff), .val (.int tt), .val (.int bs), .val (.int ex), .val (.int bef), .unset, .unset, .unset, .unset] [(.int c0), (.int mm), (.int (0 : Int32)), (.int ex)])) _
    refine XS.iload X10.here hx rfl (hb hby at_165) rfl ?_
    show Steps p.tables e below (T10.setTop (mkF m 167 #[.val (.int p1), .val (.int p2), .val (.int p3), .val (.int p4), .val (.int p5), .val (.int p6), .val (.int c0), .val (.int c1), .val (.int c2), .val (.int c3), .val (.int mm), .val (.int ff), .val (.int tt), .val (.int bs), .val (.int ex), .val (.int bef), .unset, .unset, .unset, .unset] [(.int tt), (.int c0), (.int mm), (.int (0 : Int32)), (.int ex)])) _
    refine own_tif_ne X10.here hx (hb hby at_167) (hb hby at_170) (hb hby at_171) (hb hby at_174) ?_
    show Steps p.tables e below (T10.setTop (mkF m 175 #[.val (.int p1), .val (.int p2), .val (.int p3), .val (.int p4), .val (.int p5), .val (.int p6), .val (.int c0), .val (.int c1), .val (.int c2), .val (.int c3), .val (.int mm), .val (.int ff), .val (.int tt), .val (.int bs), .val (.int ex), .val (.int bef), .unset, .unset, .unset, .unset] [(.int (if tt = (0 : Int32) then (1 : Int32) else 0)), (.int c0), (.int mm), (.int (0 : Int32)), (.int ex)])) _
    refine XS.iadd X10.here hx rfl (hb hby at_175) rfl ?_
    show Steps p.tables e below (T10.setTop (mkF m 176 #[.val (.int p1), .val (.int p2), .val (.int p3), .val (.int p4), .val (.int p5), .val (.int p6), .val (.int c0), .val (.int c1), .val (.int c2), .val (.int c3), .val (.int mm), .val (.int ff), .val (.int tt), .val (.int bs), .val (.int ex), .val (.int bef), .unset, .unset, .unset, .unset] [(.int (c0 + (if tt = (0 : Int32) then (1 : Int32) else 0))), (.int mm), (.int (0 : Int32)), (.int ex)])) _
    refine st11 _ ?_
    show Steps p.tables e below (T11.setTop (mkF m 179 #[.val (.int p1), .val (.int p2), .val (.int p3), .val (.int p4), .val (.int p5), .val (.int p6), .val (.int c0), .val (.int c1), .val (.int c2), .val (.int c3), .val (.int mm), .val (.int ff), .val (.int tt), .val (.int bs), .val (.int ex), .val (.int bef), .unset, .unset, .unset, .unset] [(.int (own_occ (0 : Int32) mm (c0 + (if tt = (0 : Int32) then (1 : Int32) else 0)))), (.int ex)])) _
    refine XS.iadd X11.here hx rfl (hb hby at_179) rfl ?_
    show Steps p.tables e below (T11.setTop (mkF m 180 #[.val (.int p1), .val (.int p2), .val (.int p3), .val (.int p4), .val (.int p5), .val (.int p6), .val (.int c0), .val (.int c1), .val (.int c2), .val (.int c3), .val (.int mm), .val (.int ff), .val (.int tt), .val (.int bs), .val (.int ex), .val (.int bef), .unset, .unset, .unset, .unset] [(.int (ex + (own_occ (0 : Int32) mm (c0 + (if tt = (0 : Int32) then (1 : Int32) else 0)))))])) _
    refine XS.iconst X11.here hx rfl (hb hby at_180) ?_
    show Steps p.tables e below (T11.setTop (mkF m 181 #[.val (.int p1), .val (.int p2), .val (.int p3), .val (.int p4), .val (.int p5), .val (.int p6), .val (.int c0), .val (.int c1), .val (.int c2), .val (.int c3), .val (.int mm), .val (.int ff), .val (.int tt), .val (.int bs), .val (.int ex), .val (.int bef), .unset, .unset, .unset, .unset] [(.int (1 : Int32)), (.int (ex + (own_occ (0 : Int32) mm (c0 + (if tt = (0 : Int32) then (1 : Int32) else 0)))))])) _
    refine XS.iload X11.here hx rfl (hb hby at_181) rfl ?_
    show Steps p.tables e below (T11.setTop (mkF m 183 #[.val (.int p1), .val (.int p2), .val (.int p3), .val (.int p4), .val (.int p5), .val (.int p6), .val (.int c0), .val (.int c1), .val (.int c2), .val (.int c3), .val (.int mm), .val (.int ff), .val (.int tt), .val (.int bs), .val (.int ex), .val (.int bef), .unset, .unset, .unset, .unset] [(.int mm), (.int (1 : Int32)), (.int (ex + (own_occ (0 : Int32) mm (c0 + (if tt = (0 : Int32) then (1 : Int32) else 0)))))])) _
    refine XS.iload X11.here hx rfl (hb hby at_183) rfl ?_
    show Steps p.tables e below (T11.setTop (mkF m 185 #[.val (.int p1), .val (.int p2), .val (.int p3), .val (.int p4), .val (.int p5), .val (.int p6), .val (.int c0), .val (.int c1), .val (.int c2), .val (.int c3), .val (.int mm), .val (.int ff), .val (.int tt), .val (.int bs), .val (.int ex), .val (.int bef), .unset, .unset, .unset, .unset] [(.int c1), (.int mm), (.int (1 : Int32)), (.int (ex + (own_occ (0 : Int32) mm (c0 + (if tt = (0 : Int32) then (1 : Int32) else 0)))))])) _
    refine XS.iload X11.here hx rfl (hb hby at_185) rfl ?_
    show Steps p.tables e below (T11.setTop (mkF m 187 #[.val (.int p1), .val (.int p2), .val (.int p3), .val (.int p4), .val (.int p5), .val (.int p6), .val (.int c0), .val (.int c1), .val (.int c2), .val (.int c3), .val (.int mm), .val (.int ff), .val (.int tt), .val (.int bs), .val (.int ex), .val (.int bef), .unset, .unset, .unset, .unset] [(.int tt), (.int c1), (.int mm), (.int (1 : Int32)), (.int (ex + (own_occ (0 : Int32) mm (c0 + (if tt = (0 : Int32) then (1 : Int32) else 0)))))])) _
    refine XS.iconst X11.here hx rfl (hb hby at_187) ?_
    show Steps p.tables e below (T11.setTop (mkF m 188 #[.val (.int p1), .val (.int p2), .val (.int p3), .val (.int p4), .val (.int p5), .val (.int p6), .val (.int c0), .val (.int c1), .val (.int c2), .val (.int c3), .val (.int mm), .val (.int ff), .val (.int tt), .val (.int bs), .val (.int ex), .val (.int bef), .unset, .unset, .unset, .unset] [(.int (1 : Int32)), (.int tt), (.int c1), (.int mm), (.int (1 : Int32)), (.int (ex + (own_occ (0 : Int32) mm (c0 + (if tt = (0 : Int32) then (1 : Int32) else 0)))))])) _
    refine own_tic_ne X11.here hx (hb hby at_188) (hb hby at_191) (hb hby at_192) (hb hby at_195) ?_
    show Steps p.tables e below (T11.setTop (mkF m 196 #[.val (.int p1), .val (.int p2), .val (.int p3), .val (.int p4), .val (.int p5), .val (.int p6), .val (.int c0), .val (.int c1), .val (.int c2), .val (.int c3), .val (.int mm), .val (.int ff), .val (.int tt), .val (.int bs), .val (.int ex), .val (.int bef), .unset, .unset, .unset, .unset] [(.int (if tt = (1 : Int32) then (1 : Int32) else 0)), (.int c1), (.int mm), (.int (1 : Int32)), (.int (ex + (own_occ (0 : Int32) mm (c0 + (if tt = (0 : Int32) then (1 : Int32) else 0)))))])) _
    refine XS.iadd X11.here hx rfl (hb hby at_196) rfl ?_
    show Steps p.tables e below (T11.setTop (mkF m 197 #[.val (.int p1), .val (.int p2), .val (.int p3), .val (.int p4), .val (.int p5), .val (.int p6), .val (.int c0), .val (.int c1), .val (.int c2), .val (.int c3), .val (.int mm), .val (.int ff), .val (.int tt), .val (.int bs), .val (.int ex), .val (.int bef), .unset, .unset, .unset, .unset] [(.int (c1 + (if tt = (1 : Int32) then (1 : Int32) else 0))), (.int mm), (.int (1 : Int32)), (.int (ex + (own_occ (0 : Int32) mm (c0 + (if tt = (0 : Int32) then (1 : Int32) else 0)))))])) _
    refine st12 _ ?_
    show Steps p.tables e below (T12.setTop (mkF m 200 #[.val (.int p1), .val (.int p2), .val (.int p3), .val (.int p4), .val (.int p5), .val (.int p6), .val (.int c0), .val (.int c1), .val (.int c2), .val (.int c3), .val (.int mm), .val (.int ff), .val (.int tt), .val (.int bs), .val (.int ex), .val (.int bef), .unset, .unset, .unset, .unset] [(.int (own_occ (1 : Int32) mm (c1 + (if tt = (1 : Int32) then (1 : Int32) else 0)))), (.int (ex + (own_occ (0 : Int32) mm (c0 + (if tt = (0 : Int32) then (1 : Int32) else 0)))))])) _
    refine XS.iadd X12.here hx rfl (hb hby at_200) rfl ?_
    show Steps p.tables e below (T12.setTop (mkF m 201 #[.val (.int p1), .val (.int p2), .val (.int p3), .val (.int p4), .val (.int p5), .val (.int p6), .val (.int c0), .val (.int c1), .val (.int c2), .val (.int c3), .val (.int mm), .val (.int ff), .val (.int tt), .val (.int bs), .val (.int ex), .val (.int bef), .unset, .unset, .unset, .unset] [(.int ((ex + (own_occ (0 : Int32) mm (c0 + (if tt = (0 : Int32) then (1 : Int32) else 0)))) + (own_occ (1 : Int32) mm (c1 + (if tt = (1 : Int32) then (1 : Int32) else 0)))))])) _
    refine XS.iconst X12.here hx rfl (hb hby at_201) ?_
    show Steps p.tables e below (T12.setTop (mkF m 202 #[.val (.int p1), .val (.int p2), .val (.int p3), .val (.int p4), .val (.int p5), .val (.int p6), .val (.int c0), .val (.int c1), .val (.int c2), .val (.int c3), .val (.int mm), .val (.int ff), .val (.int tt), .val (.int bs), .val (.int ex), .val (.int bef), .unset, .unset, .unset, .unset] [(.int (2 : Int32)), (.int ((ex + (own_occ (0 : Int32) mm (c0 + (if tt = (0 : Int32) then (1 : Int32) else 0)))) + (own_occ (1 : Int32) mm (c1 + (if tt = (1 : Int32) then (1 : Int32) else 0)))))])) _
    refine XS.iload X12.here hx rfl (hb hby at_202) rfl ?_
    show Steps p.tables e below (T12.setTop (mkF m 204 #[.val (.int p1), .val (.int p2), .val (.int p3), .val (.int p4), .val (.int p5), .val (.int p6), .val (.int c0), .val (.int c1), .val (.int c2), .val (.int c3), .val (.int mm), .val (.int ff), .val (.int tt), .val (.int bs), .val (.int ex), .val (.int bef), .unset, .unset, .unset, .unset] [(.int mm), (.int (2 : Int32)), (.int ((ex + (own_occ (0 : Int32) mm (c0 + (if tt = (0 : Int32) then (1 : Int32) else 0)))) + (own_occ (1 : Int32) mm (c1 + (if tt = (1 : Int32) then (1 : Int32) else 0)))))])) _
    refine XS.iload X12.here hx rfl (hb hby at_204) rfl ?_
    show Steps p.tables e below (T12.setTop (mkF m 206 #[.val (.int p1), .val (.int p2), .val (.int p3), .val (.int p4), .val (.int p5), .val (.int p6), .val (.int c0), .val (.int c1), .val (.int c2), .val (.int c3), .val (.int mm), .val (.int ff), .val (.int tt), .val (.int bs), .val (.int ex), .val (.int bef), .unset, .unset, .unset, .unset] [(.int c2), (.int mm), (.int (2 : Int32)), (.int ((ex + (own_occ (0 : Int32) mm (c0 + (if tt = (0 : Int32) then (1 : Int32) else 0)))) + (own_occ (1 : Int32) mm (c1 + (if tt = (1 : Int32) then (1 : Int32) else 0)))))])) _
    refine XS.iload X12.here hx rfl (hb hby at_206) rfl ?_
    show Steps p.tables e below (T12.setTop (mkF m 208 #[.val (.int p1), .val (.int p2), .val (.int p3), .val (.int p4), .val (.int p5), .val (.int p6), .val (.int c0), .val (.int c1), .val (.int c2), .val (.int c3), .val (.int mm), .val (.int ff), .val (.int tt), .val (.int bs), .val (.int ex), .val (.int bef), .unset, .unset, .unset, .unset] [(.int tt), (.int c2), (.int mm), (.int (2 : Int32)), (.int ((ex + (own_occ (0 : Int32) mm (c0 + (if tt = (0 : Int32) then (1 : Int32) else 0)))) + (own_occ (1 : Int32) mm (c1 + (if tt = (1 : Int32) then (1 : Int32) else 0)))))])) _
    refine XS.iconst X12.here hx rfl (hb hby at_208) ?_
    show Steps p.tables e below (T12.setTop (mkF m 209 #[.val (.int p1), .val (.int p2), .val (.int p3), .val (.int p4), .val (.int p5), .val (.int p6), .val (.int c0), .val (.int c1), .val (.int c2), .val (.int c3), .val (.int mm), .val (.int ff), .val (.int tt), .val (.int bs), .val (.int ex), .val (.int bef), .unset, .unset, .unset, .unset] [(.int (2 : Int32)), (.int tt), (.int c2), (.int mm), (.int (2 : Int32)), (.int ((ex + (own_occ (0 : Int32) mm (c0 + (if tt = (0 : Int32) then (1 : Int32) else 0)))) + (own_occ (1 : Int32) mm (c1 + (if tt = (1 : Int32) then (1 : Int32) else 0)))))])) _
    refine own_tic_ne X12.here hx (hb hby at_209) (hb hby at_212) (hb hby at_213) (hb hby at_216) ?_
    show Steps p.tables e below (T12.setTop (mkF m 217 #[.val (.int p1), .val (.int p2), .val (.int p3), .val (.int p4), .val (.int p5), .val (.int p6), .val (.int c0), .val (.int c1), .val (.int c2), .val (.int c3), .val (.int mm), .val (.int ff), .val (.int tt), .val (.int bs), .val (.int ex), .val (.int bef), .unset, .unset, .unset, .unset] [(.int (if tt = (2 : Int32) then (1 : Int32) else 0)), (.int c2), (.int mm), (.int (2 : Int32)), (.int ((ex + (own_occ (0 : Int32) mm (c0 + (if tt = (0 : Int32) then (1 : Int32) else 0)))) + (own_occ (1 : Int32) mm (c1 + (if tt = (1 : Int32) then (1 : Int32) else 0)))))])) _
    refine XS.iadd X12.here hx rfl (hb hby at_217) rfl ?_
    show Steps p.tables e below (T12.setTop (mkF m 218 #[.val (.int p1), .val (.int p2), .val (.int p3), .val (.int p4), .val (.int p5), .val (.int p6), .val (.int c0), .val (.int c1), .val (.int c2), .val (.int c3), .val (.int mm), .val (.int ff), .val (.int tt), .val (.int bs), .val (.int ex), .val (.int bef), .unset, .unset, .unset, .unset] [(.int (c2 + (if tt = (2 : Int32) then (1 : Int32) else 0))), (.int mm), (.int (2 : Int32)), (.int ((ex + (own_occ (0 : Int32) mm (c0 + (if tt = (0 : Int32) then (1 : Int32) else 0)))) + (own_occ (1 : Int32) mm (c1 + (if tt = (1 : Int32) then (1 : Int32) else 0)))))])) _
    refine st13 _ ?_
    show Steps p.tables e below (T13.setTop (mkF m 221 #[.val (.int p1), .val (.int p2), .val (.int p3), .val (.int p4), .val (.int p5), .val (.int p6), .val (.int c0), .val (.int c1), .val (.int c2), .val (.int c3), .val (.int mm), .val (.int ff), .val (.int tt), .val (.int bs), .val (.int ex), .val (.int bef), .unset, .unset, .unset, .unset] [(.int (own_occ (2 : Int32) mm (c2 + (if tt = (2 : Int32) then (1 : Int32) else 0)))), (.int ((ex + (own_occ (0 : Int32) mm (c0 + (if tt = (0 : Int32) then (1 : Int32) else 0)))) + (own_occ (1 : Int32) mm (c1 + (if tt = (1 : Int32) then (1 : Int32) else 0)))))])) _
    refine XS.iadd X13.here hx rfl (hb hby at_221) rfl ?_
    show Steps p.tables e below (T13.setTop (mkF m 222 #[.val (.int p1), .val (.int p2), .val (.int p3), .val (.int p4), .val (.int p5), .val (.int p6), .val (.int c0), .val (.int c1), .val (.int c2), .val (.int c3), .val (.int mm), .val (.int ff), .val (.int tt), .val (.int bs), .val (.int ex), .val (.int bef), .unset, .unset, .unset, .unset] [(.int (((ex + (own_occ (0 : Int32) mm (c0 + (if tt = (0 : Int32) then (1 : Int32) else 0)))) + (own_occ (1 : Int32) mm (c1 + (if tt = (1 : Int32) then (1 : Int32) else 0)))) + (own_occ (2 : Int32) mm (c2 + (if tt = (2 : Int32) then (1 : Int32) else 0)))))])) _
    refine XS.iconst X13.here hx rfl (hb hby at_222) ?_
    show Steps p.tables e below (T13.setTop (mkF m 223 #[.val (.int p1), .val (.int p2), .val (.int p3), .val (.int p4), .val (.int p5), .val (.int p6), .val (.int c0), .val (.int c1), .val (.int c2), .val (.int c3), .val (.int mm), .val (.int ff), .val (.int tt), .val (.int bs), .val (.int ex), .val (.int bef), .unset, .unset, .unset, .unset] [(.int (3 : Int32)), (.int (((ex + (own_occ (0 : Int32) mm (c0 + (if tt = (0 : Int32) then (1 : Int32) else 0)))) + (own_occ (1 : Int32) mm (c1 + (if tt = (1 : Int32) then (1 : Int32) else 0)))) + (own_occ (2 : Int32) mm (c2 + (if tt = (2 : Int32) then (1 : Int32) else 0)))))])) _
    refine XS.iload X13.here hx rfl (hb hby at_223) rfl ?_
    show Steps p.tables e below (T13.setTop (mkF m 225 #[.val (.int p1), .val (.int p2), .val (.int p3), .val (.int p4), .val (.int p5), .val (.int p6), .val (.int c0), .val (.int c1), .val (.int c2), .val (.int c3), .val (.int mm), .val (.int ff), .val (.int tt), .val (.int bs), .val (.int ex), .val (.int bef), .unset, .unset, .unset, .unset] [(.int mm), (.int (3 : Int32)), (.int (((ex + (own_occ (0 : Int32) mm (c0 + (if tt = (0 : Int32) then (1 : Int32) else 0)))) + (own_occ (1 : Int32) mm (c1 + (if tt = (1 : Int32) then (1 : Int32) else 0)))) + (own_occ (2 : Int32) mm (c2 + (if tt = (2 : Int32) then (1 : Int32) else 0)))))])) _
    refine XS.iload X13.here hx rfl (hb hby at_225) rfl ?_
    show Steps p.tables e below (T13.setTop (mkF m 227 #[.val (.int p1), .val (.int p2), .val (.int p3), .val (.int p4), .val (.int p5), .val (.int p6), .val (.int c0), .val (.int c1), .val (.int c2), .val (.int c3), .val (.int mm), .val (.int ff), .val (.int tt), .val (.int bs), .val (.int ex), .val (.int bef), .unset, .unset, .unset, .unset] [(.int c3), (.int mm), (.int (3 : Int32)), (.int (((ex + (own_occ (0 : Int32) mm (c0 + (if tt = (0 : Int32) then (1 : Int32) else 0)))) + (own_occ (1 : Int32) mm (c1 + (if tt = (1 : Int32) then (1 : Int32) else 0)))) + (own_occ (2 : Int32) mm (c2 + (if tt = (2 : Int32) then (1 : Int32) else 0)))))])) _
    refine XS.iload X13.here hx rfl (hb hby at_227) rfl ?_
    show Steps p.tables e below (T13.setTop (mkF m 229 #[.val (.int p1), .val (.int p2), .val (.int p3), .val (.int p4), .val (.int p5), .val (.int p6), .val (.int c0), .val (.int c1), .val (.int c2), .val (.int c3), .val (.int mm), .val (.int ff), .val (.int tt), .val (.int bs), .val (.int ex), .val (.int bef), .unset, .unset, .unset, .unset] [(.int tt), (.int c3), (.int mm), (.int (3 : Int32)), (.int (((ex + (own_occ (0 : Int32) mm (c0 + (if tt = (0 : Int32) then (1 : Int32) else 0)))) + (own_occ (1 : Int32) mm (c1 + (if tt = (1 : Int32) then (1 : Int32) else 0)))) + (own_occ (2 : Int32) mm (c2 + (if tt = (2 : Int32) then (1 : Int32) else 0)))))])) _
    refine XS.iconst X13.here hx rfl (hb hby at_229) ?_
    show Steps p.tables e below (T13.setTop (mkF m 230 #[.val (.int p1), .val (.int p2), .val (.int p3), .val (.int p4), .val (.int p5), .val (.int p6), .val (.int c0), .val (.int c1), .val (.int c2), .val (.int c3), .val (.int mm), .val (.int ff), .val (.int tt), .val (.int bs), .val (.int ex), .val (.int bef), .unset, .unset, .unset, .unset] [(.int (3 : Int32)), (.int tt), (.int c3), (.int mm), (.int (3 : Int32)), (.int (((ex + (own_occ (0 : Int32) mm (c0 + (if tt = (0 : Int32) then (1 : Int32) else 0)))) + (own_occ (1 : Int32) mm (c1 + (if tt = (1 : Int32) then (1 : Int32) else 0)))) + (own_occ (2 : Int32) mm (c2 + (if tt = (2 : Int32) then (1 : Int32) else 0)))))])) _
    refine own_tic_ne X13.here hx (hb hby at_230) (hb hby at_233) (hb hby at_234) (hb hby at_237) ?_
    show Steps p.tables e below (T13.setTop (mkF m 238 #[.val (.int p1), .val (.int p2), .val (.int p3), .val (.int p4), .val (.int p5), .val (.int p6), .val (.int c0), .val (.int c1), .val (.int c2), .val (.int c3), .val (.int mm), .val (.int ff), .val (.int tt), .val (.int bs), .val (.int ex), .val (.int bef), .unset, .unset, .unset, .unset] [(.int (if tt = (3 : Int32) then (1 : Int32) else 0)), (.int c3), (.int mm), (.int (3 : Int32)), (.int (((ex + (own_occ (0 : Int32) mm (c0 + (if tt = (0 : Int32) then (1 : Int32) else 0)))) + (own_occ (1 : Int32) mm (c1 + (if tt = (1 : Int32) then (1 : Int32) else 0)))) + (own_occ (2 : Int32) mm (c2 + (if tt = (2 : Int32) then (1 : Int32) else 0)))))])) _
    refine XS.iadd X13.here hx rfl (hb hby at_238) rfl ?_
    show Steps p.tables e below (T13.setTop (mkF m 239 #[.val (.int p1), .val (.int p2), .val (.int p3), .val (.int p4), .val (.int p5), .val (.int p6), .val (.int c0), .val (.int c1), .val (.int c2), .val (.int c3), .val (.int mm), .val (.int ff), .val (.int tt), .val (.int bs), .val (.int ex), .val (.int bef), .unset, .unset, .unset, .unset] [(.int (c3 + (if tt = (3 : Int32) then (1 : Int32) else 0))), (.int mm), (.int (3 : Int32)), (.int (((ex + (own_occ (0 : Int32) mm (c0 + (if tt = (0 : Int32) then (1 : Int32) else 0)))) + (own_occ (1 : Int32) mm (c1 + (if tt = (1 : Int32) then (1 : Int32) else 0)))) + (own_occ (2 : Int32) mm (c2 + (if tt = (2 : Int32) then (1 : Int32) else 0)))))])) _
    refine st14 _ ?_
    show Steps p.tables e below (T14.setTop (mkF m 242 #[.val (.int p1), .val (.int p2), .val (.int p3), .val (.int p4), .val (.int p5), .val (.int p6), .val (.int c0), .val (.int c1), .val (.int c2), .val (.int c3), .val (.int mm), .val (.int ff), .val (.int tt), .val (.int bs), .val (.int ex), .val (.int bef), .unset, .unset, .unset, .unset] [(.int (own_occ (3 : Int32) mm (c3 + (if tt = (3 : Int32) then (1 : Int32) else 0)))), (.int (((ex + (own_occ (0 : Int32) mm (c0 + (if tt = (0 : Int32) then (1 : Int32) else 0)))) + (own_occ (1 : Int32) mm (c1 + (if tt = (1 : Int32) then (1 : Int32) else 0)))) + (own_occ (2 : Int32) mm (c2 + (if tt = (2 : Int32) then (1 : Int32) else 0)))))])) _
    refine XS.iadd X14.here hx rfl (hb hby at_242) rfl ?_
    show Steps p.tables e below (T14.setTop (mkF m 243 #[.val (.int p1), .val (.int p2), .val (.int p3), .val (.int p4), .val (.int p5), .val (.int p6), .val (.int c0), .val (.int c1), .val (.int c2), .val (.int c3), .val (.int mm), .val (.int ff), .val (.int tt), .val (.int bs), .val (.int ex), .val (.int bef), .unset, .unset, .unset, .unset] [(.int ((((ex + (own_occ (0 : Int32) mm (c0 + (if tt = (0 : Int32) then (1 : Int32) else 0)))) + (own_occ (1 : Int32) mm (c1 + (if tt = (1 : Int32) then (1 : Int32) else 0)))) + (own_occ (2 : Int32) mm (c2 + (if tt = (2 : Int32) then (1 : Int32) else 0)))) + (own_occ (3 : Int32) mm (c3 + (if tt = (3 : Int32) then (1 : Int32) else 0)))))])) _
    refine XS.istore X14.here hx rfl (hb hby at_243) (x := aft) (rest := []) (by subst h_aft; rfl) (l' := #[.val (.int p1), .val (.int p2), .val (.int p3), .val (.int p4), .val (.int p5), .val (.int p6), .val (.int c0), .val (.int c1), .val (.int c2), .val (.int c3), .val (.int mm), .val (.int ff), .val (.int tt), .val (.int bs), .val (.int ex), .val (.int bef), .val (.int aft), .unset, .unset, .unset]) rfl ?_
    show Steps p.tables e below (T14.setTop (mkF m 245 #[.val (.int p1), .val (.int p2), .val (.int p3), .val (.int p4), .val (.int p5), .val (.int p6), .val (.int c0), .val (.int c1), .val (.int c2), .val (.int c3), .val (.int mm), .val (.int ff), .val (.int tt), .val (.int bs), .val (.int ex), .val (.int bef), .val (.int aft), .unset, .unset, .unset] [])) _
    refine XS.iload X14.here hx rfl (hb hby at_245) rfl ?_
    show Steps p.tables e below (T14.setTop (mkF m 247 #[.val (.int p1), .val (.int p2), .val (.int p3), .val (.int p4), .val (.int p5), .val (.int p6), .val (.int c0), .val (.int c1), .val (.int c2), .val (.int c3), .val (.int mm), .val (.int ff), .val (.int tt), .val (.int bs), .val (.int ex), .val (.int bef), .val (.int aft), .unset, .unset, .unset] [(.int ff)])) _
    refine XS.iload X14.here hx rfl (hb hby at_247) rfl ?_
    show Steps p.tables e below (T14.setTop (mkF m 249 #[.val (.int p1), .val (.int p2), .val (.int p3), .val (.int p4), .val (.int p5), .val (.int p6), .val (.int c0), .val (.int c1), .val (.int c2), .val (.int c3), .val (.int mm), .val (.int ff), .val (.int tt), .val (.int bs), .val (.int ex), .val (.int bef), .val (.int aft), .unset, .unset, .unset] [(.int c0), (.int ff)])) _
    refine XS.iload X14.here hx rfl (hb hby at_249) rfl ?_
    show Steps p.tables e below (T14.setTop (mkF m 251 #[.val (.int p1), .val (.int p2), .val (.int p3), .val (.int p4), .val (.int p5), .val (.int p6), .val (.int c0), .val (.int c1), .val (.int c2), .val (.int c3), .val (.int mm), .val (.int ff), .val (.int tt), .val (.int bs), .val (.int ex), .val (.int bef), .val (.int aft), .unset, .unset, .unset] [(.int c1), (.int c0), (.int ff)])) _
    refine XS.iload X14.here hx rfl (hb hby at_251) rfl ?_
    show Steps p.tables e below (T14.setTop (mkF m 253 #[.val (.int p1), .val (.int p2), .val (.int p3), .val (.int p4), .val (.int p5), .val (.int p6), .val (.int c0), .val (.int c1), .val (.int c2), .val (.int c3), .val (.int mm), .val (.int ff), .val (.int tt), .val (.int bs), .val (.int ex), .val (.int bef), .val (.int aft), .unset, .unset, .unset] [(.int c2), (.int c1), (.int c0), (.int ff)])) _
    refine XS.iload X14.here hx rfl (hb hby at_253) rfl ?_
    show Steps p.tables e below (T14.setTop (mkF m 255 #[.val (.int p1), .val (.int p2), .val (.int p3), .val (.int p4), .val (.int p5), .val (.int p6), .val (.int c0), .val (.int c1), .val (.int c2), .val (.int c3), .val (.int mm), .val (.int ff), .val (.int tt), .val (.int bs), .val (.int ex), .val (.int bef), .val (.int aft), .unset, .unset, .unset] [(.int c3), (.int c2), (.int c1), (.int c0), (.int ff)])) _
    refine st15 _ ?_
    show Steps p.tables e below (T15.setTop (mkF m 258 #[.val (.int p1), .val (.int p2), .val (.int p3), .val (.int p4), .val (.int p5), .val (.int p6), .val (.int c0), .val (.int c1), .val (.int c2), .val (.int c3), .val (.int mm), .val (.int ff), .val (.int tt), .val (.int bs), .val (.int ex), .val (.int bef), .val (.int aft), .unset, .unset, .unset] [(.int (own_pick ff c0 c1 c2 c3))])) _
    refine XS.iconst X15.here hx rfl (hb hby at_258) ?_
    show Steps p.tables e below (T15.setTop (mkF m 259 #[.val (.int p1), .val (.int p2), .val (.int p3), .val (.int p4), .val (.int p5), .val (.int p6), .val (.int c0), .val (.int c1), .val (.int c2), .val (.int c3), .val (.int mm), .val (.int ff), .val (.int tt), .val (.int bs), .val (.int ex), .val (.int bef), .val (.int aft), .unset, .unset, .unset] [(.int (1 : Int32)), (.int (own_pick ff c0 c1 c2 c3))])) _
    refine XS.iadd X15.here hx rfl (hb hby at_259) rfl ?_
    show Steps p.tables e below (T15.setTop (mkF m 260 #[.val (.int p1), .val (.int p2), .val (.int p3), .val (.int p4), .val (.int p5), .val (.int p6), .val (.int c0), .val (.int c1), .val (.int c2), .val (.int c3), .val (.int mm), .val (.int ff), .val (.int tt), .val (.int bs), .val (.int ex), .val (.int bef), .val (.int aft), .unset, .unset, .unset] [(.int ((own_pick ff c0 c1 c2 c3) + (1 : Int32)))])) _
    refine XS.istore X15.here hx rfl (hb hby at_260) rfl (l' := #[.val (.int p1), .val (.int p2), .val (.int p3), .val (.int p4), .val (.int p5), .val (.int p6), .val (.int c0), .val (.int c1), .val (.int c2), .val (.int c3), .val (.int mm), .val (.int ff), .val (.int tt), .val (.int bs), .val (.int ex), .val (.int bef), .val (.int aft), .val (.int ((own_pick ff c0 c1 c2 c3) + (1 : Int32))), .unset, .unset]) rfl ?_
    show Steps p.tables e below (T15.setTop (mkF m 262 #[.val (.int p1), .val (.int p2), .val (.int p3), .val (.int p4), .val (.int p5), .val (.int p6), .val (.int c0), .val (.int c1), .val (.int c2), .val (.int c3), .val (.int mm), .val (.int ff), .val (.int tt), .val (.int bs), .val (.int ex), .val (.int bef), .val (.int aft), .val (.int ((own_pick ff c0 c1 c2 c3) + (1 : Int32))), .unset, .unset] [])) _
    refine XS.iload X15.here hx rfl (hb hby at_262) rfl ?_
    show Steps p.tables e below (T15.setTop (mkF m 264 #[.val (.int p1), .val (.int p2), .val (.int p3), .val (.int p4), .val (.int p5), .val (.int p6), .val (.int c0), .val (.int c1), .val (.int c2), .val (.int c3), .val (.int mm), .val (.int ff), .val (.int tt), .val (.int bs), .val (.int ex), .val (.int bef), .val (.int aft), .val (.int ((own_pick ff c0 c1 c2 c3) + (1 : Int32))), .unset, .unset] [(.int tt)])) _
    refine XS.iload X15.here hx rfl (hb hby at_264) rfl ?_
    show Steps p.tables e below (T15.setTop (mkF m 266 #[.val (.int p1), .val (.int p2), .val (.int p3), .val (.int p4), .val (.int p5), .val (.int p6), .val (.int c0), .val (.int c1), .val (.int c2), .val (.int c3), .val (.int mm), .val (.int ff), .val (.int tt), .val (.int bs), .val (.int ex), .val (.int bef), .val (.int aft), .val (.int ((own_pick ff c0 c1 c2 c3) + (1 : Int32))), .unset, .unset] [(.int c0), (.int tt)])) _
    refine XS.iload X15.here hx rfl (hb hby at_266) rfl ?_
    show Steps p.tables e below (T15.setTop (mkF m 268 #[.val (.int p1), .val (.int p2), .val (.int p3), .val (.int p4), .val (.int p5), .val (.int p6), .val (.int c0), .val (.int c1), .val (.int c2), .val (.int c3), .val (.int mm), .val (.int ff), .val (.int tt), .val (.int bs), .val (.int ex), .val (.int bef), .val (.int aft), .val (.int ((own_pick ff c0 c1 c2 c3) + (1 : Int32))), .unset, .unset] [(.int c1), (.int c0), (.int tt)])) _
    refine XS.iload X15.here hx rfl (hb hby at_268) rfl ?_
    show Steps p.tables e below (T15.setTop (mkF m 270 #[.val (.int p1), .val (.int p2), .val (.int p3), .val (.int p4), .val (.int p5), .val (.int p6), .val (.int c0), .val (.int c1), .val (.int c2), .val (.int c3), .val (.int mm), .val (.int ff), .val (.int tt), .val (.int bs), .val (.int ex), .val (.int bef), .val (.int aft), .val (.int ((own_pick ff c0 c1 c2 c3) + (1 : Int32))), .unset, .unset] [(.int c2), (.int c1), (.int c0), (.int tt)])) _
    refine XS.iload X15.here hx rfl (hb hby at_270) rfl ?_
    show Steps p.tables e below (T15.setTop (mkF m 272 #[.val (.int p1), .val (.int p2), .val (.int p3), .val (.int p4), .val (.int p5), .val (.int p6), .val (.int c0), .val (.int c1), .val (.int c2), .val (.int c3), .val (.int mm), .val (.int ff), .val (.int tt), .val (.int bs), .val (.int ex), .val (.int bef), .val (.int aft), .val (.int ((own_pick ff c0 c1 c2 c3) + (1 : Int32))), .unset, .unset] [(.int c3), (.int c2), (.int c1), (.int c0), (.int tt)])) _
    refine st16 _ ?_
    show Steps p.tables e below (T16.setTop (mkF m 275 #[.val (.int p1), .val (.int p2), .val (.int p3), .val (.int p4), .val (.int p5), .val (.int p6), .val (.int c0), .val (.int c1), .val (.int c2), .val (.int c3), .val (.int mm), .val (.int ff), .val (.int tt), .val (.int bs), .val (.int ex), .val (.int bef), .val (.int aft), .val (.int ((own_pick ff c0 c1 c2 c3) + (1 : Int32))), .unset, .unset] [(.int (own_pick tt c0 c1 c2 c3))])) _
    refine XS.istore X16.here hx rfl (hb hby at_275) rfl (l' := #[.val (.int p1), .val (.int p2), .val (.int p3), .val (.int p4), .val (.int p5), .val (.int p6), .val (.int c0), .val (.int c1), .val (.int c2), .val (.int c3), .val (.int mm), .val (.int ff), .val (.int tt), .val (.int bs), .val (.int ex), .val (.int bef), .val (.int aft), .val (.int ((own_pick ff c0 c1 c2 c3) + (1 : Int32))), .val (.int (own_pick tt c0 c1 c2 c3)), .unset]) rfl ?_
    show Steps p.tables e below (T16.setTop (mkF m 277 #[.val (.int p1), .val (.int p2), .val (.int p3), .val (.int p4), .val (.int p5), .val (.int p6), .val (.int c0), .val (.int c1), .val (.int c2), .val (.int c3), .val (.int mm), .val (.int ff), .val (.int tt), .val (.int bs), .val (.int ex), .val (.int bef), .val (.int aft), .val (.int ((own_pick ff c0 c1 c2 c3) + (1 : Int32))), .val (.int (own_pick tt c0 c1 c2 c3)), .unset] [])) _
    refine XS.iload X16.here hx rfl (hb hby at_277) rfl ?_
    show Steps p.tables e below (T16.setTop (mkF m 279 #[.val (.int p1), .val (.int p2), .val (.int p3), .val (.int p4), .val (.int p5), .val (.int p6), .val (.int c0), .val (.int c1), .val (.int c2), .val (.int c3), .val (.int mm), .val (.int ff), .val (.int tt), .val (.int bs), .val (.int ex), .val (.int bef), .val (.int aft), .val (.int ((own_pick ff c0 c1 c2 c3) + (1 : Int32))), .val (.int (own_pick tt c0 c1 c2 c3)), .unset] [(.int bef)])) _
    refine XS.iload X16.here hx rfl (hb hby at_279) rfl ?_
    show Steps p.tables e below (T16.setTop (mkF m 281 #[.val (.int p1), .val (.int p2), .val (.int p3), .val (.int p4), .val (.int p5), .val (.int p6), .val (.int c0), .val (.int c1), .val (.int c2), .val (.int c3), .val (.int mm), .val (.int ff), .val (.int tt), .val (.int bs), .val (.int ex), .val (.int bef), .val (.int aft), .val (.int ((own_pick ff c0 c1 c2 c3) + (1 : Int32))), .val (.int (own_pick tt c0 c1 c2 c3)), .unset] [(.int bs), (.int bef)])) _
    refine XS.iload X16.here hx rfl (hb hby at_281) rfl ?_
    show Steps p.tables e below (T16.setTop (mkF m 283 #[.val (.int p1), .val (.int p2), .val (.int p3), .val (.int p4), .val (.int p5), .val (.int p6), .val (.int c0), .val (.int c1), .val (.int c2), .val (.int c3), .val (.int mm), .val (.int ff), .val (.int tt), .val (.int bs), .val (.int ex), .val (.int bef), .val (.int aft), .val (.int ((own_pick ff c0 c1 c2 c3) + (1 : Int32))), .val (.int (own_pick tt c0 c1 c2 c3)), .unset] [(.int mm), (.int bs), (.int bef)])) _
    refine XS.iadd X16.here hx rfl (hb hby at_283) rfl ?_
    show Steps p.tables e below (T16.setTop (mkF m 284 #[.val (.int p1), .val (.int p2), .val (.int p3), .val (.int p4), .val (.int p5), .val (.int p6), .val (.int c0), .val (.int c1), .val (.int c2), .val (.int c3), .val (.int mm), .val (.int ff), .val (.int tt), .val (.int bs), .val (.int ex), .val (.int bef), .val (.int aft), .val (.int ((own_pick ff c0 c1 c2 c3) + (1 : Int32))), .val (.int (own_pick tt c0 c1 c2 c3)), .unset] [(.int (bs + mm)), (.int bef)])) _
    refine XS.iload X16.here hx rfl (hb hby at_284) rfl ?_
    show Steps p.tables e below (T16.setTop (mkF m 286 #[.val (.int p1), .val (.int p2), .val (.int p3), .val (.int p4), .val (.int p5), .val (.int p6), .val (.int c0), .val (.int c1), .val (.int c2), .val (.int c3), .val (.int mm), .val (.int ff), .val (.int tt), .val (.int bs), .val (.int ex), .val (.int bef), .val (.int aft), .val (.int ((own_pick ff c0 c1 c2 c3) + (1 : Int32))), .val (.int (own_pick tt c0 c1 c2 c3)), .unset] [(.int bs), (.int (bs + mm)), (.int bef)])) _
    refine XS.iload X16.here hx rfl (hb hby at_286) rfl ?_
    show Steps p.tables e below (T16.setTop (mkF m 288 #[.val (.int p1), .val (.int p2), .val (.int p3), .val (.int p4), .val (.int p5), .val (.int p6), .val (.int c0), .val (.int c1), .val (.int c2), .val (.int c3), .val (.int mm), .val (.int ff), .val (.int tt), .val (.int bs), .val (.int ex), .val (.int bef), .val (.int aft), .val (.int ((own_pick ff c0 c1 c2 c3) + (1 : Int32))), .val (.int (own_pick tt c0 c1 c2 c3)), .unset] [(.int ff), (.int bs), (.int (bs + mm)), (.int bef)])) _
    refine XS.iadd X16.here hx rfl (hb hby at_288) rfl ?_
    show Steps p.tables e below (T16.setTop (mkF m 289 #[.val (.int p1), .val (.int p2), .val (.int p3), .val (.int p4), .val (.int p5), .val (.int p6), .val (.int c0), .val (.int c1), .val (.int c2), .val (.int c3), .val (.int mm), .val (.int ff), .val (.int tt), .val (.int bs), .val (.int ex), .val (.int bef), .val (.int aft), .val (.int ((own_pick ff c0 c1 c2 c3) + (1 : Int32))), .val (.int (own_pick tt c0 c1 c2 c3)), .unset] [(.int (bs + ff)), (.int (bs + mm)), (.int bef)])) _
    refine XS.iload X16.here hx rfl (hb hby at_289) rfl ?_
    show Steps p.tables e below (T16.setTop (mkF m 291 #[.val (.int p1), .val (.int p2), .val (.int p3), .val (.int p4), .val (.int p5), .val (.int p6), .val (.int c0), .val (.int c1), .val (.int c2), .val (.int c3), .val (.int mm), .val (.int ff), .val (.int tt), .val (.int bs), .val (.int ex), .val (.int bef), .val (.int aft), .val (.int ((own_pick ff c0 c1 c2 c3) + (1 : Int32))), .val (.int (own_pick tt c0 c1 c2 c3)), .unset] [(.int bs), (.int (bs + ff)), (.int (bs + mm)), (.int bef)])) _
    refine XS.iload X16.here hx rfl (hb hby at_291) rfl ?_
    show Steps p.tables e below (T16.setTop (mkF m 293 #[.val (.int p1), .val (.int p2), .val (.int p3), .val (.int p4), .val (.int p5), .val (.int p6), .val (.int c0), .val (.int c1), .val (.int c2), .val (.int c3), .val (.int mm), .val (.int ff), .val (.int tt), .val (.int bs), .val (.int ex), .val (.int bef), .val (.int aft), .val (.int ((own_pick ff c0 c1 c2 c3) + (1 : Int32))), .val (.int (own_pick tt c0 c1 c2 c3)), .unset] [(.int tt), (.int bs), (.int (bs + ff)), (.int (bs + mm)), (.int bef)])) _
    refine XS.iadd X16.here hx rfl (hb hby at_293) rfl ?_
    show Steps p.tables e below (T16.setTop (mkF m 294 #[.val (.int p1), .val (.int p2), .val (.int p3), .val (.int p4), .val (.int p5), .val (.int p6), .val (.int c0), .val (.int c1), .val (.int c2), .val (.int c3), .val (.int mm), .val (.int ff), .val (.int tt), .val (.int bs), .val (.int ex), .val (.int bef), .val (.int aft), .val (.int ((own_pick ff c0 c1 c2 c3) + (1 : Int32))), .val (.int (own_pick tt c0 c1 c2 c3)), .unset] [(.int (bs + tt)), (.int (bs + ff)), (.int (bs + mm)), (.int bef)])) _
    refine XS.iload X16.here hx rfl (hb hby at_294) rfl ?_
    show Steps p.tables e below (T16.setTop (mkF m 296 #[.val (.int p1), .val (.int p2), .val (.int p3), .val (.int p4), .val (.int p5), .val (.int p6), .val (.int c0), .val (.int c1), .val (.int c2), .val (.int c3), .val (.int mm), .val (.int ff), .val (.int tt), .val (.int bs), .val (.int ex), .val (.int bef), .val (.int aft), .val (.int ((own_pick ff c0 c1 c2 c3) + (1 : Int32))), .val (.int (own_pick tt c0 c1 c2 c3)), .unset] [(.int ((own_pick ff c0 c1 c2 c3) + (1 : Int32))), (.int (bs + tt)), (.int (bs + ff)), (.int (bs + mm)), (.int bef)])) _
    refine XS.iload X16.here hx rfl (hb hby at_296) rfl ?_
    show Steps p.tables e below (T16.setTop (mkF m 298 #[.val (.int p1), .val (.int p2), .val (.int p3), .val (.int p4), .val (.int p5), .val (.int p6), .val (.int c0), .val (.int c1), .val (.int c2), .val (.int c3), .val (.int mm), .val (.int ff), .val (.int tt), .val (.int bs), .val (.int ex), .val (.int bef), .val (.int aft), .val (.int ((own_pick ff c0 c1 c2 c3) + (1 : Int32))), .val (.int (own_pick tt c0 c1 c2 c3)), .unset] [(.int (own_pick tt c0 c1 c2 c3)), (.int ((own_pick ff c0 c1 c2 c3) + (1 : Int32))), (.int (bs + tt)), (.int (bs + ff)), (.int (bs + mm)), (.int bef)])) _
    refine st17 _ ?_
    show Steps p.tables e below (T17.setTop (mkF m 301 #[.val (.int p1), .val (.int p2), .val (.int p3), .val (.int p4), .val (.int p5), .val (.int p6), .val (.int c0), .val (.int c1), .val (.int c2), .val (.int c3), .val (.int mm), .val (.int ff), .val (.int tt), .val (.int bs), .val (.int ex), .val (.int bef), .val (.int aft), .val (.int ((own_pick ff c0 c1 c2 c3) + (1 : Int32))), .val (.int (own_pick tt c0 c1 c2 c3)), .unset] [(.int (own_nam bef (bs + mm) (bs + ff) (bs + tt) ((own_pick ff c0 c1 c2 c3) + (1 : Int32)) (own_pick tt c0 c1 c2 c3)))])) _
    refine XS.istore X17.here hx rfl (hb hby at_301) (x := got) (rest := []) (by subst h_got; rfl) (l' := #[.val (.int p1), .val (.int p2), .val (.int p3), .val (.int p4), .val (.int p5), .val (.int p6), .val (.int c0), .val (.int c1), .val (.int c2), .val (.int c3), .val (.int mm), .val (.int ff), .val (.int tt), .val (.int bs), .val (.int ex), .val (.int bef), .val (.int aft), .val (.int ((own_pick ff c0 c1 c2 c3) + (1 : Int32))), .val (.int (own_pick tt c0 c1 c2 c3)), .val (.int got)]) rfl ?_
    show Steps p.tables e below (T17.setTop (mkF m 303 #[.val (.int p1), .val (.int p2), .val (.int p3), .val (.int p4), .val (.int p5), .val (.int p6), .val (.int c0), .val (.int c1), .val (.int c2), .val (.int c3), .val (.int mm), .val (.int ff), .val (.int tt), .val (.int bs), .val (.int ex), .val (.int bef), .val (.int aft), .val (.int ((own_pick ff c0 c1 c2 c3) + (1 : Int32))), .val (.int (own_pick tt c0 c1 c2 c3)), .val (.int got)] [])) _
    refine XS.iload X17.here hx rfl (hb hby at_303) rfl ?_
    show Steps p.tables e below (T17.setTop (mkF m 305 #[.val (.int p1), .val (.int p2), .val (.int p3), .val (.int p4), .val (.int p5), .val (.int p6), .val (.int c0), .val (.int c1), .val (.int c2), .val (.int c3), .val (.int mm), .val (.int ff), .val (.int tt), .val (.int bs), .val (.int ex), .val (.int bef), .val (.int aft), .val (.int ((own_pick ff c0 c1 c2 c3) + (1 : Int32))), .val (.int (own_pick tt c0 c1 c2 c3)), .val (.int got)] [(.int got)])) _
    refine XS.iload X17.here hx rfl (hb hby at_305) rfl ?_
    show Steps p.tables e below (T17.setTop (mkF m 307 #[.val (.int p1), .val (.int p2), .val (.int p3), .val (.int p4), .val (.int p5), .val (.int p6), .val (.int c0), .val (.int c1), .val (.int c2), .val (.int c3), .val (.int mm), .val (.int ff), .val (.int tt), .val (.int bs), .val (.int ex), .val (.int bef), .val (.int aft), .val (.int ((own_pick ff c0 c1 c2 c3) + (1 : Int32))), .val (.int (own_pick tt c0 c1 c2 c3)), .val (.int got)] [(.int aft), (.int got)])) _
    refine XS.icmpNo X17.here hx rfl (hb hby at_307) rfl (teq hc307).2 ?_
    show Steps p.tables e below (T17.setTop (mkF m 310 #[.val (.int p1), .val (.int p2), .val (.int p3), .val (.int p4), .val (.int p5), .val (.int p6), .val (.int c0), .val (.int c1), .val (.int c2), .val (.int c3), .val (.int mm), .val (.int ff), .val (.int tt), .val (.int bs), .val (.int ex), .val (.int bef), .val (.int aft), .val (.int ((own_pick ff c0 c1 c2 c3) + (1 : Int32))), .val (.int (own_pick tt c0 c1 c2 c3)), .val (.int got)] [])) _
    refine XS.iconst X17.here hx rfl (hb hby at_310) ?_
    show Steps p.tables e below (T17.setTop (mkF m 311 #[.val (.int p1), .val (.int p2), .val (.int p3), .val (.int p4), .val (.int p5), .val (.int p6), .val (.int c0), .val (.int c1), .val (.int c2), .val (.int c3), .val (.int mm), .val (.int ff), .val (.int tt), .val (.int bs), .val (.int ex), .val (.int bef), .val (.int aft), .val (.int ((own_pick ff c0 c1 c2 c3) + (1 : Int32))), .val (.int (own_pick tt c0 c1 c2 c3)), .val (.int got)] [(.int (1 : Int32))])) _
    refine XS.goto X17.here hx rfl (pc0 := 311) (pc' := 315) rfl (hb hby at_311) (by decide) (by decide) ?_
    show Steps p.tables e below (T17.setTop (mkF m 315 #[.val (.int p1), .val (.int p2), .val (.int p3), .val (.int p4), .val (.int p5), .val (.int p6), .val (.int c0), .val (.int c1), .val (.int c2), .val (.int c3), .val (.int mm), .val (.int ff), .val (.int tt), .val (.int bs), .val (.int ex), .val (.int bef), .val (.int aft), .val (.int ((own_pick ff c0 c1 c2 c3) + (1 : Int32))), .val (.int (own_pick tt c0 c1 c2 c3)), .val (.int got)] [(.int (1 : Int32))])) _
    exact retN X17 hx (t := .boolean) Bd.returns (by simp) (hb hby at_315) hr
  · show Q0 Z p1 p2 p3 p4 p5 p6 h0 n0 _ T17.heap _
    rw [e17]
    exact ⟨rfl, N17⟩
set_option maxRecDepth 65536 in
set_option maxHeartbeats 40000000 in
theorem comes_1 {Post : Tables → Env → Array Value → State → Outcome → State → Prop} (hpost : ∀ tb e args s v u, (limb_1_1.after args s (.returned v) u = true ∧ limb_1_2.after args s (.returned v) u = true ∧ True) → FrameEnd s (.returned v) u (Jvm.fieldLocs frame_1_writes args s ++ Jvm.arrayLocs frame_1_arrays args s ++ Jvm.staticLocs frame_1_statics s) 0 0 → Post tb e args s (.returned v) u) :
    ArmFor flags0 classFile x code maxLocals ret World_1 tables_1 room_1 Calls_1 rest_1 Pre_1 Post := by
  intro l hfl _ _ p e ha hc hk s m args below hf hA hF happ hP
  obtain ⟨hcalls, hrest, hpre⟩ := hP
  obtain ⟨-, -, -, hnamed, -, -, -, hat⟩ := (Spec.applies_iff hf).mp happ
  obtain ⟨hg, hn⟩ := and_e (Cond.before_iff.mp (show (Jvm.Cond.and given_1 narrow_1).before args s = true from hpre))
  obtain ⟨g18, g19⟩ := and_e hg
  obtain ⟨g20, g21⟩ := and_e g19
  obtain ⟨g22, g23⟩ := and_e g21
  obtain ⟨g24, g25⟩ := and_e g23
  obtain ⟨g26, g27⟩ := and_e g25
  obtain ⟨g28, g29⟩ := and_e g27
  obtain ⟨w0, w1, w2, w3, w4, w5, rfl⟩ : ∃ w0 w1 w2 w3 w4 w5 : Value, args = #[w0, w1, w2, w3, w4, w5] := by
    have hs : args.size = 6 := by simpa [Cond.value, given_1] using g18
    obtain ⟨L⟩ := args
    match L, hs with
    | [w0, w1, w2, w3, w4, w5], _ => exact ⟨w0, w1, w2, w3, w4, w5, rfl⟩
  have hw := fun d (hd : d ∈ tables_1) => atoms_spec (ws := Jvm.Cond.code x code maxLocals ret :: tables_1) hat d (List.mem_cons_of_mem _ hd)
  have hfit : Fit s := fun {y c} hc i hi => by
    obtain ⟨ha, rfl⟩ := Array.getElem?_eq_some_iff.mp hc
    have q := List.all_eq_true.mp ((Array.all_eq_true_iff_forall_mem.mp hF) _ (Array.getElem_mem ha)) i (List.mem_range.mpr hi)
    simpa [Array.getElem?_eq_getElem hi] using q
  obtain ⟨i0, ei0⟩ := is_v g20
  obtain rfl : w0 = (.int i0) := Option.some.inj ei0
  obtain ⟨i1, ei1⟩ := is_v g22
  obtain rfl : w1 = (.int i1) := Option.some.inj ei1
  obtain ⟨i2, ei2⟩ := is_v g24
  obtain rfl : w2 = (.int i2) := Option.some.inj ei2
  obtain ⟨i3, ei3⟩ := is_v g26
  obtain rfl : w3 = (.int i3) := Option.some.inj ei3
  obtain ⟨i4, ei4⟩ := is_v g28
  obtain rfl : w4 = (.int i4) := Option.some.inj ei4
  obtain ⟨i5, ei5⟩ := is_v g29
  obtain rfl : w5 = (.int i5) := Option.some.inj ei5
  obtain ⟨n, o, h1, h2, h3, _, L, rfl, ⟨rfl, N⟩, hq⟩ := rm0 l s _ hw tables_1 i0 i1 i2 i3 i4 i5 s.heap s.heap.size (Nat.le_refl _) p e ha hc hk s m _ below hf ((Spec.applies_iff_loose hf).mp happ).1 ⟨rfl, State.Warmed39.refl s, rfl⟩ trivial
  refine ⟨n, _, h1, h2, h3, hpost _ _ _ _ _ _ ⟨Cond.after_iff.mpr rfl, Cond.after_iff.mpr (eq_i res_at (Term.int_eval (1)) rfl), trivial⟩ ⟨hq.1, hq.2.1, (hq.2.2.sift fun y hy => Or.inr (N y hy)).mono (by decide) (by decide)⟩⟩
theorem main_1_1 : Claimed_1_1 := comes_1 fun _ _ _ _ _ _ h hF => ⟨h.1, hF⟩
theorem main_1_2 : Claimed_1_2 := comes_1 fun _ _ _ _ _ _ h hF => ⟨h.2.1, hF⟩
end Jvm.Pilot.@@N@@
namespace Jvm.Pilot.@@N@@
open Jvm Jvm.ClassFile Sem Op Lib Jvm.Free Jvm.Stand Jvm.Pilot.@@N@@.Jvm.D
/-! MADE BY PROGRAM (witnessworld.py) out of the Statement's table words and the real class files: 9 classes; the members and pool entries that the words name. The judged class is class 1, her method 1. -/
namespace start1
open Jvm.ClassFile
def u (s : String) : CpInfo := .utf8 (stringToUtf16 s)
/-- a pool by its gaps: so many unusable entries, then the entry; so many at the end -/
def gap : Nat → List CpInfo → List CpInfo
  | 0, r => r
  | n + 1, r => .unusable :: gap n r
def poolList (es : List (Nat × CpInfo)) (last : Nat) : List CpInfo := es.foldr (fun e r => gap e.1 (e.2 :: r)) (gap last [])
def pool (es : List (Nat × CpInfo)) (last : Nat) : Array CpInfo := ⟨poolList es last⟩
def fileOf (pool : Array CpInfo) (this : Nat) (attrs : Array Attribute := #[]) (ms : Array MethodInfo := #[]) (fl : Nat := 33) (sup : Nat := 0) (ifs : Array Nat := #[]) (fds : Array FieldInfo := #[]) : ClassFile where
  minorVersion := 0
  majorVersion := 65
  constantPool := pool
  accessFlags := fl
  thisClass := this
  superClass := sup
  interfaces := ifs
  fields := fds
  methods := ms
  attributes := attrs
def plain (name : String) (sup : Option ClassId) : Class where
  name := name
  kind := .ordinary
  loader := none
  accessFlags := 33
  super := sup
  interfaces := #[]
  cf := none
  fields := #[]
  methods := #[]
  instanceTypes := #[]
  staticTypes := #[]
  resolved := #[]
  callSites := []
  init := .initialized
  statics := none
  mirror := none

def pool0 : Array CpInfo := pool [(5, u "<init>"), (0, u "()V"), (1, .class_ 10), (1, u "java/lang/Object")] 113

def k0m0 : Method := { name := "<init>", desc := "()V", sig := { parameters := [], returnType := none }, accessFlags := 1, code := none }
/-- java/lang/Object -/
def k0 : Class := { plain "java/lang/Object" none with
  accessFlags := 33
  interfaces := #[]
  cf := some (fileOf pool0 8 #[] #[{ accessFlags := 1, nameIndex := 5, descriptorIndex := 6, attributes := #[] }] 33 0 #[] #[])
  fields := #[]
  methods := #[k0m0]
  instanceTypes := #[]
  staticTypes := #[]
  resolved := Array.replicate 124 none
  statics := none }

def pool1 : Array CpInfo := pool [(2, .class_ 4), (1, u "java/lang/Object"), (0, u "<init>"), (0, u "()V"), (0, .integer 2147483647), (0, .integer 1073741823), (0, .methodref 10 11), (0, .class_ 12), (0, .nameAndType 13 14), (0, u "com/example/starling/starling/placement/PlacementNeededAfterMovePinLaw"), (0, u "occ"), (0, u "(III)I"), (0, .methodref 10 16), (0, .nameAndType 17 18), (0, u "pick"), (0, u "(IIIII)I"), (0, .methodref 20 21), (0, .class_ 22), (0, .nameAndType 23 24), (0, u "com/example/starling/starling/placement/Placement"), (0, u "neededAfterMove"), (0, u "(IIIIII)I"), (2, u "law"), (0, u "(IIIIII)Z")] 3

def k1m0 : Method := { name := "<init>", desc := "()V", sig := { parameters := [], returnType := none }, accessFlags := 1, code := none }
def k1c1 : Code := { maxStack := 6, maxLocals := 20, code := code, exceptionTable := #[], attributes := #[] }
def k1m1 : Method := { name := "law", desc := "(IIIIII)Z", sig := { parameters := [.int, .int, .int, .int, .int, .int], returnType := some .boolean }, accessFlags := 9, code := some k1c1 }
def k1c2 : Code := { maxStack := 2, maxLocals := 3, code := method_3_code, exceptionTable := #[], attributes := #[] }
def k1m2 : Method := { name := "occ", desc := "(III)I", sig := { parameters := [.int, .int, .int], returnType := some .int }, accessFlags := 10, code := some k1c2 }
def k1c3 : Code := { maxStack := 2, maxLocals := 5, code := method_4_code, exceptionTable := #[], attributes := #[] }
def k1m3 : Method := { name := "pick", desc := "(IIIII)I", sig := { parameters := [.int, .int, .int, .int, .int], returnType := some .int }, accessFlags := 10, code := some k1c3 }
/-- com/example/starling/starling/placement/PlacementNeededAfterMovePinLaw -/
def k1 : Class := { plain "com/example/starling/starling/placement/PlacementNeededAfterMovePinLaw" (some 0) with
  accessFlags := 49
  interfaces := #[]
  cf := some (fileOf pool1 10 #[] #[{ accessFlags := 1, nameIndex := 5, descriptorIndex := 6, attributes := #[] }, { accessFlags := 9, nameIndex := 27, descriptorIndex := 28, attributes := #[] }, { accessFlags := 10, nameIndex := 13, descriptorIndex := 14, attributes := #[] }, { accessFlags := 10, nameIndex := 17, descriptorIndex := 18, attributes := #[] }] 49 2 #[] #[])
  fields := #[]
  methods := #[k1m0, k1m1, k1m2, k1m3]
  instanceTypes := #[]
  staticTypes := #[]
  resolved := Array.replicate 32 none
  statics := none }

def pool2 : Array CpInfo := pool [(4, .class_ 6), (1, u "java/lang/Object"), (15, .class_ 24), (1, u "com/example/starling/starling/placement/Placement"), (0, u "top"), (0, u "I"), (5, u "removed"), (0, u "Ljava/util/NavigableSet;"), (3, u "[I"), (4, u "masters"), (7, u "replicas"), (0, u "Ljava/util/List;"), (22, .class_ 76), (1, u "com/example/starling/starling/placement/Placement$Locality"), (112, u "HIGHEST_SERVER"), (10, u "neededAfterMove"), (0, u "(IIIIII)I")] 56

def k2c0 : Code := { maxStack := 2, maxLocals := 7, code := prog_29_method_5_code, exceptionTable := #[], attributes := #[] }
def k2m0 : Method := { name := "neededAfterMove", desc := "(IIIIII)I", sig := { parameters := [.int, .int, .int, .int, .int, .int], returnType := some .int }, accessFlags := 8, code := some k2c0 }
/-- com/example/starling/starling/placement/Placement -/
def k2 : Class := { plain "com/example/starling/starling/placement/Placement" (some 0) with
  accessFlags := 49
  interfaces := #[]
  cf := some (fileOf pool2 22 #[.nestMembers #[74]] #[{ accessFlags := 8, nameIndex := 200, descriptorIndex := 201, attributes := #[] }] 49 4 #[] #[{ accessFlags := 24, nameIndex := 189, descriptorIndex := 26, attributes := #[] }, { accessFlags := 2, nameIndex := 25, descriptorIndex := 26, attributes := #[] }, { accessFlags := 18, nameIndex := 32, descriptorIndex := 33, attributes := #[] }, { accessFlags := 18, nameIndex := 42, descriptorIndex := 37, attributes := #[] }, { accessFlags := 18, nameIndex := 50, descriptorIndex := 51, attributes := #[] }])
  fields := #[{ name := "HIGHEST_SERVER", type := .int, accessFlags := 24, slot := 0, constantValue := 0 }, { name := "top", type := .int, accessFlags := 2, slot := 0, constantValue := 0 }, { name := "removed", type := (.object "java/util/NavigableSet"), accessFlags := 18, slot := 1, constantValue := 0 }, { name := "masters", type := (.array .int), accessFlags := 18, slot := 2, constantValue := 0 }, { name := "replicas", type := (.object "java/util/List"), accessFlags := 18, slot := 3, constantValue := 0 }]
  methods := #[k2m0]
  instanceTypes := #[.int, (.object "java/util/NavigableSet"), (.array .int), (.object "java/util/List")]
  staticTypes := #[.int]
  resolved := Array.replicate 258 none
  statics := none }

def pool3 : Array CpInfo := pool [(1, u "java/lang/Cloneable"), (0, .class_ 1), (0, u "java/lang/Object"), (0, .class_ 3)] 3

/-- java/lang/Cloneable -/
def k3 : Class := { plain "java/lang/Cloneable" (some 0) with
  accessFlags := 1537
  interfaces := #[]
  cf := some (fileOf pool3 2 #[] #[] 1537 4 #[] #[])
  fields := #[]
  methods := #[]
  instanceTypes := #[]
  staticTypes := #[]
  resolved := Array.replicate 8 none
  statics := none }

def pool4 : Array CpInfo := pool [(1, u "java/io/Serializable"), (0, .class_ 1), (0, u "java/lang/Object"), (0, .class_ 3)] 3

/-- java/io/Serializable -/
def k4 : Class := { plain "java/io/Serializable" (some 0) with
  accessFlags := 1537
  interfaces := #[]
  cf := some (fileOf pool4 2 #[] #[] 1537 4 #[] #[])
  fields := #[]
  methods := #[]
  instanceTypes := #[]
  staticTypes := #[]
  resolved := Array.replicate 8 none
  statics := none }

/-- the primitive byte -/
def k5 : Class := { plain "byte" none with kind := .primitive 'B', accessFlags := 0x411 }
/-- [B -/
def k6 : Class := { plain "[B" (some 0) with kind := .array 5 .byte, interfaces := #[3, 4], accessFlags := 1041 }

/-- the primitive int -/
def k7 : Class := { plain "int" none with kind := .primitive 'I', accessFlags := 0x411 }
/-- [I -/
def k8 : Class := { plain "[I" (some 0) with kind := .array 7 .int, interfaces := #[3, 4], accessFlags := 1041 }

def heap : Heap := #[]
def classes : Array Class := #[k0, k1, k2, k3, k4, k5, k6, k7, k8]
def interned : List (Array UInt16 × Addr) := []
def slotsUsed : Nat := 0
def theMethod : MethodId := ⟨1, 1⟩
def args0 : Array Value := #[.int 5, .int 3, .int 7, .int 2, .int 9, .int 4]
def aboutOver (below : List Frame) : State where
  vm := { classes := classes, interned := interned.toArray }
  heap := heap
  slotsUsed := slotsUsed
  threads := #[{ frames := .invoking theMethod args0 :: below }]
def below0 : List Frame := [.native { method := ⟨0, 0⟩, args := #[] }]
def about1 : State := aboutOver below0
def p0 : Program := .bare "" "" ""
def e0 : Env := launch0.env 0 0 0
theorem w_frames : about1.frames = Frame.invoking theMethod args0 :: below0 := rfl
set_option maxRecDepth 65536 in
theorem w_args : argsFit about1.vm theMethod args0 = true := by decide +kernel
set_option maxRecDepth 65536 in
theorem w_heap : heapFits about1 = true := by decide +kernel
set_option maxRecDepth 65536 in
theorem w_runnable : about1.curStatus? = some .runnable := by decide +kernel
set_option maxRecDepth 65536 in
theorem w_alone : about1.alone = true := by decide +kernel
set_option maxRecDepth 65536 in
theorem w_named : about1.methodNamed? x = some theMethod := by decide +kernel
set_option maxRecDepth 65536 in
theorem w_hears : about1.hears theMethod below0 = true := by decide +kernel
set_option maxRecDepth 65536 in
theorem w_ripe : about1.ripe theMethod args0 below0 = true := by decide +kernel
theorem w_running : about1.status = .running := rfl
set_option maxRecDepth 65536 in
theorem w_room : about1.hasRoom e0.platform room_1 = true :=
  launch0.hasRoom_least _ room_1 (by decide +kernel) (by decide +kernel) (by decide +kernel) (by decide +kernel) (by decide +kernel) (by decide +kernel)
theorem allAtoms_all (ts : List Jvm.Cond) (a : Array Jvm.Value) (st : Jvm.State) : (allAtoms ts).before a st = ts.all (fun c => c.before a st) := by
  induction ts with
  | nil => rfl
  | cons c t ih =>
    show (Jvm.Cond.and c (allAtoms t)).before a st = _
    rw [Jvm.Cond.before_and, ih, List.all_cons]
def words1 : List Jvm.Cond := Jvm.Cond.code x code maxLocals ret :: tables_1
/-- a 'code' word, met by the world's own term for the bytes: nothing is compared byte by byte -/
theorem code_word {y : MethodName} {bytes : ByteArray} {mx : Nat} {rt : Option FieldType} {a : Array Value} {s : State} {m : MethodId} {meth : Method} {c : Code} (h1 : s.methodNamed? y = some m) (h2 : s.vm.method? m = some meth) (h3 : meth.code = some c) (h4 : c.code = bytes)
    (h5 : (c.maxLocals == mx && c.exceptionTable.isEmpty && decide (c.maxStack ≤ mostOperands) && decide (meth.sig.returnType = rt) && !meth.locks && decide (parseMethodDescriptor y.desc = some meth.sig)) = true) : (Jvm.Cond.code y bytes mx rt).before a s = true := by
  simp only [Bool.and_eq_true, beq_iff_eq, Bool.not_eq_true', decide_eq_true_eq] at h5
  obtain ⟨⟨⟨⟨⟨g1, g2⟩, g3⟩, g4⟩, g5⟩, g6⟩ := h5
  simp [Cond.before, Cond.holds, Cond.value, h1, h2, h3, h4, g1, g2, g3, g4, g5, g6]
def isCode : Jvm.Cond → Bool
  | .code _ _ _ _ => true
  | _ => false
theorem all_split {L : List Jvm.Cond} {P : Jvm.Cond → Bool} (h1 : L.all (fun c => isCode c || P c) = true) (h2 : ∀ c ∈ L.filter isCode, P c = true) : L.all P = true := by
  refine List.all_eq_true.mpr fun c hc => ?_
  have h := List.all_eq_true.mp h1 c hc
  rcases Bool.eq_false_or_eq_true (isCode c) with hi | hi
  · exact h2 c (List.mem_filter.mpr ⟨hc, hi⟩)
  · simpa [hi] using h
set_option maxRecDepth 65536 in
theorem w_c0 : (Jvm.Cond.code x code maxLocals ret).before args0 about1 = true := code_word (m := ⟨1, 1⟩) (meth := k1m1) (c := k1c1) (by decide +kernel) rfl rfl rfl (by decide +kernel)
set_option maxRecDepth 65536 in
theorem w_c1 : (Jvm.Cond.code ({ cls := "com/example/starling/starling/placement/PlacementNeededAfterMovePinLaw", name := "occ", desc := "(III)I" } : Jvm.MethodName) method_3_code (3 : Nat) (Option.some Jvm.ClassFile.FieldType.int)).before args0 about1 = true := code_word (m := ⟨1, 2⟩) (meth := k1m2) (c := k1c2) (by decide +kernel) rfl rfl rfl (by decide +kernel)
set_option maxRecDepth 65536 in
theorem w_c2 : (Jvm.Cond.code ({ cls := "com/example/starling/starling/placement/PlacementNeededAfterMovePinLaw", name := "pick", desc := "(IIIII)I" } : Jvm.MethodName) method_4_code (5 : Nat) (Option.some Jvm.ClassFile.FieldType.int)).before args0 about1 = true := code_word (m := ⟨1, 3⟩) (meth := k1m3) (c := k1c3) (by decide +kernel) rfl rfl rfl (by decide +kernel)
set_option maxRecDepth 65536 in
theorem w_c3 : (Jvm.Cond.code ({ cls := "com/example/starling/starling/placement/Placement", name := "neededAfterMove", desc := "(IIIIII)I" } : Jvm.MethodName) prog_29_method_5_code (7 : Nat) (Option.some Jvm.ClassFile.FieldType.int)).before args0 about1 = true := code_word (m := ⟨2, 0⟩) (meth := k2m0) (c := k2c0) (by decide +kernel) rfl rfl rfl (by decide +kernel)
def codes1 : List Jvm.Cond := [Jvm.Cond.code x code maxLocals ret, Jvm.Cond.code ({ cls := "com/example/starling/starling/placement/PlacementNeededAfterMovePinLaw", name := "occ", desc := "(III)I" } : Jvm.MethodName) method_3_code (3 : Nat) (Option.some Jvm.ClassFile.FieldType.int), Jvm.Cond.code ({ cls := "com/example/starling/starling/placement/PlacementNeededAfterMovePinLaw", name := "pick", desc := "(IIIII)I" } : Jvm.MethodName) method_4_code (5 : Nat) (Option.some Jvm.ClassFile.FieldType.int), Jvm.Cond.code ({ cls := "com/example/starling/starling/placement/Placement", name := "neededAfterMove", desc := "(IIIIII)I" } : Jvm.MethodName) prog_29_method_5_code (7 : Nat) (Option.some Jvm.ClassFile.FieldType.int)]
set_option maxRecDepth 65536 in
theorem codes_eq : words1.filter isCode = codes1 := rfl
theorem w_codes : ∀ c ∈ words1.filter isCode, c.before args0 about1 = true := by
  rw [codes_eq]
  intro c hc
  simp only [codes1, List.mem_cons, List.not_mem_nil, or_false] at hc
  rcases hc with rfl | rfl | rfl | rfl
  · exact w_c0
  · exact w_c1
  · exact w_c2
  · exact w_c3
set_option maxRecDepth 65536 in
theorem w_t1 : words1.all (fun c => isCode c || c.before args0 about1) = true := by decide +kernel
theorem w_tables : (allAtoms (Jvm.Cond.code x code maxLocals ret :: tables_1)).before args0 about1 = true := by
  rw [allAtoms_all]
  show words1.all (fun c => c.before args0 about1) = true
  refine all_split ?_ w_codes
  rw [w_t1]
set_option maxRecDepth 65536 in
theorem w_case : (Jvm.Cond.and given_1 narrow_1).before args0 about1 = true := by decide +kernel
theorem w_applies : (headSpec (Jvm.Cond.code x code maxLocals ret :: tables_1) room_1).applies x e0.platform about1 = true :=
  (Spec.applies_iff w_frames).mpr ⟨w_running, w_runnable, w_alone, w_named, w_hears, w_ripe, w_room, w_tables⟩
theorem atStart : AtStart classFile x code maxLocals ret World_1 tables_1 room_1 Calls_1 rest_1 Pre_1 launch0 p0 e0 about1 theMethod args0 below0 :=
  ⟨lists_1, trivial, launch0.admits_env _ _ _, launch0.least_env, fairChoices_fair.cas, fairChoices_fair.clock, w_frames, w_args, w_heap, w_applies, trivial, trivial, w_case⟩
end start1
theorem witness_1 : WitnessClaimed_1 := ⟨start1.p0, start1.e0, start1.about1, start1.theMethod, start1.args0, start1.below0, start1.atStart⟩
end Jvm.Pilot.@@N@@
