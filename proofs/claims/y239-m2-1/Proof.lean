import JvmDerived
import JvmDerived.Pilot.@@N@@Statement
import JvmDerived.Pilot.@@N@@Code
set_option linter.unusedVariables false
set_option linter.unusedSimpArgs false
namespace Jvm.RoadKit
open Sem ClassFile Op Lib Jvm.Stand Jvm.Free Jvm.LawKit
abbrev Go (tb : Tables) (e : Env) (below : List Frame) (A B : State) : Prop := ∀ t, Steps tb e below B t → Steps tb e below A t
theorem goT {tb : Tables} {e : Env} {below : List Frame} {A B C : State} (f : Go tb e below A B) (g : Go tb e below B C) : Go tb e below A C := fun t h => f t (g t h)
section New
variable {p : Program} {l : Launch} {e : Env} {R : Room} {s : State} {m : MethodId} {args : Array Value} {below : List Frame} {meth : Method} {c : Code} {T : State} {locs : List Loc} {cells slots : Nat}
theorem retI (X : Stand p l e R s m args below meth c T locs cells slots) (hx : p.tables.exec = Jvm.exec) {pc : Nat} {Ls : Array Slot} {z : Int32} {rest : List Value} (hret : meth.sig.returnType = some .int) (hd : decode c.code pc = .ok (.ireturn, 1)) {fs : List Frame}
    (hl : ∀ (f : JFrame) (acts : List Action), f.method = m → f.locked = none → f.entered = [] → (doReturn e (T.setTop f) acts (some (.int z))).1 = T.setFrames fs) : Steps p.tables e below (T.setTop (mkF m pc Ls (.int z :: rest))) (T.setFrames fs) := by
  have hm' : T.vm.method? m = some meth := X.method'
  have hn : narrow .int (.int z) = .int z := rfl
  show Steps p.tables e below (T.setTop { method := m, pc := pc, locals := Ls, stack := _ :: rest, locked := none }) _
  jvm_step X.here [X.here.top, hx, hd, hm', hret, hn]
  first | (intro acts; rw [hl _ acts rfl rfl rfl]) | rw [hl _ _ rfl rfl rfl]
  exact Steps.refl _
theorem retJ (X : Stand p l e R s m args below meth c T locs cells slots) (hx : p.tables.exec = Jvm.exec) {pc : Nat} {Ls : Array Slot} {z : Int64} {rest : List Value} (hret : meth.sig.returnType = some .long) (hd : decode c.code pc = .ok (.lreturn, 1)) {fs : List Frame}
    (hl : ∀ (f : JFrame) (acts : List Action), f.method = m → f.locked = none → f.entered = [] → (doReturn e (T.setTop f) acts (some (.long z))).1 = T.setFrames fs) : Steps p.tables e below (T.setTop (mkF m pc Ls (.long z :: rest))) (T.setFrames fs) := by
  have hm' : T.vm.method? m = some meth := X.method'
  have hn : narrow .long (.long z) = .long z := rfl
  show Steps p.tables e below (T.setTop { method := m, pc := pc, locals := Ls, stack := _ :: rest, locked := none }) _
  jvm_step X.here [X.here.top, hx, hd, hm', hret, hn]
  first | (intro acts; rw [hl _ acts rfl rfl rfl]) | rw [hl _ _ rfl rfl rfl]
  exact Steps.refl _
theorem retR (X : Stand p l e R s m args below meth c T locs cells slots) (hx : p.tables.exec = Jvm.exec) {pc : Nat} {Ls : Array Slot} {z : Addr} {rest : List Value} {C : String} (hret : meth.sig.returnType = some (.object C)) (hd : decode c.code pc = .ok (.areturn, 1)) {fs : List Frame}
    (hl : ∀ (f : JFrame) (acts : List Action), f.method = m → f.locked = none → f.entered = [] → (doReturn e (T.setTop f) acts (some (.ref z))).1 = T.setFrames fs) : Steps p.tables e below (T.setTop (mkF m pc Ls (.ref z :: rest))) (T.setFrames fs) := by
  have hm' : T.vm.method? m = some meth := X.method'
  show Steps p.tables e below (T.setTop { method := m, pc := pc, locals := Ls, stack := _ :: rest, locked := none }) _
  jvm_step X.here [X.here.top, hx, hd, hm', hret, Value.isRef, FieldType.isReference]
  first | (intro acts; rw [hl _ acts rfl rfl rfl]) | rw [hl _ _ rfl rfl rfl]
  exact Steps.refl _
end New
theorem own_sta_keep {Z : State} {h h' : Heap} {b : Addr} {C n d K : String} {v : Value} (F : Sta Z h C n d v) (E : Exa Z h b K) (Kp : Keep h h' [b]) : Sta Z h' C n d v := by
  obtain ⟨cf, i, k, f, st, cell, h1, h2, h3, h4, h5, h6, h7⟩ := F
  obtain ⟨c2, _, g1, -, -, g4, -⟩ := E
  have ne : st ∉ [b] := fun q => by
    cases List.mem_singleton.mp q
    cases h5.symm.trans g1
    rw [g4] at h6; cases h6
  exact ⟨cf, i, k, f, st, cell, h1, h2, h3, h4, Kp.2.1 st cell h5 ne, h6, h7⟩
theorem own_mvM {Z s : State} {a0 args : Array Value} {own host : String} {index : Nat} {y : MethodName} (hZ : Z.Warmed39 s.vm) (w : (Cond.methodLinkNest own index y host).before a0 Z = true) : (Cond.methodLinkNest own index y host).before args s = true := (Cond.methodLinkNest_wide hZ w :)
theorem own_fld_ne {Z : State} {h : Heap} {a : Addr} {C n d : String} {v w : Value} (F : Fld Z h a C n d v) (G : Fld Z h a C n d w) (ne : v ≠ w) : False := by
  obtain ⟨cell, cf, k, i, f, h1, h2, -, -, -, -, h7⟩ := F
  obtain ⟨cell', cf', k', i', f', g1, g2, -, -, -, -, g7⟩ := G
  cases h1.symm.trans g1
  cases h2.symm.trans g2
  cases h7.symm.trans g7
  exact ne rfl
theorem own_eq_i {args : Array Value} {first s : State} {o : Option Outcome} {idx : List Nat} {a : Term} {z : Int32} (h : (Cond.eq a (.int z)).value args first o s idx = some true) : a.eval args first o idx s = some (.int z) := by
  cases ha : a.eval args first o idx s with
  | none => simp [Cond.value, Term.eval, ha] at h
  | some x => cases x <;> simp [Cond.value, Term.eval, ha] at h ⊢; exact h
theorem own_eq_l {args : Array Value} {first s : State} {o : Option Outcome} {idx : List Nat} {a : Term} {z : Int64} (h : (Cond.eq a (.long z)).value args first o s idx = some true) : a.eval args first o idx s = some (.long z) := by
  cases ha : a.eval args first o idx s with
  | none => simp [Cond.value, Term.eval, ha] at h
  | some x => cases x <;> simp [Cond.value, Term.eval, ha] at h ⊢; exact h
theorem own_ltL {x y : Int64} (h : x < y) : lcmpW x y < 0 := (lw_lt x y).mpr h
theorem own_nltL {x y : Int64} (h : ¬ x < y) : ¬ lcmpW x y < 0 := fun q => h ((lw_lt x y).mp q)
theorem own_gtL {x y : Int64} (h : y < x) : 0 < lcmpW x y := (lw_gt x y).mpr h
theorem own_ngtL {x y : Int64} (h : ¬ y < x) : ¬ 0 < lcmpW x y := fun q => h ((lw_gt x y).mp q)
theorem own_eqL {x y : Int64} (h : x = y) : lcmpW x y = 0 := (lw_eq x y).mpr h
theorem own_neqL {x y : Int64} (h : ¬ x = y) : ¬ lcmpW x y = 0 := fun q => h ((lw_eq x y).mp q)
end Jvm.RoadKit
namespace Jvm.Pilot.@@N@@
open Jvm Jvm.ClassFile Sem Op Lib Jvm.Free Jvm.Stand Jvm.LawKit Jvm.RoadKit Bundle Jvm.Pilot.@@N@@.Jvm.D
theorem own_and (x m : Int32) (k : Nat) (hk : k < 32) (hm : m.toBitVec.toNat = 2 ^ k - 1) : x &&& m = Int32.ofNat (x.toBitVec.toNat % 2 ^ k) := by
  apply Int32.toBitVec_inj.mp
  apply BitVec.eq_of_toNat_eq
  show (x.toBitVec &&& m.toBitVec).toNat = (x.toBitVec.toNat % 2 ^ k) % 2 ^ 32
  have hp : 2 ^ k ≤ 2 ^ 32 := Nat.pow_le_pow_right (by decide) (by omega)
  have hq : x.toBitVec.toNat % 2 ^ k < 2 ^ k := Nat.mod_lt _ (Nat.two_pow_pos k)
  rw [BitVec.toNat_and, hm, Nat.and_two_pow_sub_one_eq_mod, Nat.mod_eq_of_lt (Nat.lt_of_lt_of_le hq hp)]
theorem own_ofNat {n : Nat} (h : n < 2 ^ 31) : (Int32.ofNat n).toInt = n := Int32.toInt_ofNat_of_lt h
theorem own_rem {n k : Nat} (h : n < 2 ^ 31) (hk : 0 < k) (hk2 : k < 2 ^ 31) : Int32.ofNat n % Int32.ofNat k = Int32.ofNat (n % k) := by
  apply Int32.toInt_inj.mp
  have : n % k < k := Nat.mod_lt _ hk
  rw [Int32.toInt_mod, own_ofNat h, own_ofNat hk2, own_ofNat (by omega), Int.tmod_eq_emod_of_nonneg (by omega)]
  rfl
theorem own_bmod {n : Int} (h1 : -2 ^ 31 ≤ n) (h2 : n < 2 ^ 31) : n.bmod (2 ^ 32) = n := by
  rw [Int.bmod_def]; omega
theorem own_remE {n k : Nat} (h : n < 2 ^ 31) (hk : 0 < k) (hk2 : k < 2 ^ 31) : Int32.ofNat n - ((Int32.ofNat n / Int32.ofNat k) * Int32.ofNat k) = Int32.ofNat (n % k) := by
  apply Int32.toInt_inj.mp
  have h3 : n % k < k := Nat.mod_lt _ hk
  have h4 : n / k ≤ n := Nat.div_le_self _ _
  have h5 : (n / k) * k + n % k = n := Nat.div_add_mod' n k
  have e0 : (n : Int).tdiv (k : Int) = ((n / k : Nat) : Int) := rfl
  generalize n / k = d at *
  generalize n % k = r at *
  have e1 : (Int32.ofNat n / Int32.ofNat k).toInt = (d : Int) := by
    rw [Int32.toInt_div, own_ofNat h, own_ofNat hk2, e0]
    exact own_bmod (by omega) (by omega)
  have e2 : ((Int32.ofNat n / Int32.ofNat k) * Int32.ofNat k).toInt = ((d * k : Nat) : Int) := by
    rw [Int32.toInt_mul, e1, own_ofNat hk2, ← Int.natCast_mul]
    exact own_bmod (by omega) (by omega)
  rw [Int32.toInt_sub, e2, own_ofNat h, own_ofNat (by omega), own_bmod (by omega) (by omega)]
  omega
theorem d_pick_0 : decode method_2_code 0 = .ok (.iload_n 2, 1) := by decide +kernel
theorem d_pick_1 : decode method_2_code 1 = .ok (.iconst 3, 1) := by decide +kernel
theorem d_pick_2 : decode method_2_code 2 = .ok (.iand, 1) := by decide +kernel
theorem d_pick_3 : decode method_2_code 3 = .ok (.istore_n 3, 1) := by decide +kernel
theorem d_pick_4 : decode method_2_code 4 = .ok (.iload_n 3, 1) := by decide +kernel
theorem d_pick_5 : decode method_2_code 5 = .ok (.ifCond .ne 5, 3) := by decide +kernel
theorem d_pick_8 : decode method_2_code 8 = .ok (.lload_n 0, 1) := by decide +kernel
theorem d_pick_9 : decode method_2_code 9 = .ok (.lreturn, 1) := by decide +kernel
theorem d_pick_10 : decode method_2_code 10 = .ok (.iload_n 3, 1) := by decide +kernel
theorem d_pick_11 : decode method_2_code 11 = .ok (.iconst 1, 1) := by decide +kernel
theorem d_pick_12 : decode method_2_code 12 = .ok (.if_icmp .ne 7, 3) := by decide +kernel
theorem d_pick_15 : decode method_2_code 15 = .ok (.ldc2_w 9, 3) := by decide +kernel
theorem d_pick_18 : decode method_2_code 18 = .ok (.lreturn, 1) := by decide +kernel
theorem d_pick_19 : decode method_2_code 19 = .ok (.iload_n 3, 1) := by decide +kernel
theorem d_pick_20 : decode method_2_code 20 = .ok (.iconst 2, 1) := by decide +kernel
theorem d_pick_21 : decode method_2_code 21 = .ok (.if_icmp .ne 7, 3) := by decide +kernel
theorem d_pick_24 : decode method_2_code 24 = .ok (.ldc2_w 11, 3) := by decide +kernel
theorem d_pick_27 : decode method_2_code 27 = .ok (.lreturn, 1) := by decide +kernel
theorem d_pick_28 : decode method_2_code 28 = .ok (.ldc2_w 13, 3) := by decide +kernel
theorem d_pick_31 : decode method_2_code 31 = .ok (.lreturn, 1) := by decide +kernel
theorem pn_0 : plainName "com/example/auspex/auspex/manager/PrecedenceWaitingPinLaw" = true := by first | (simp [plainName, overriddenIn]; done) | decide +kernel
theorem ef_pick (m : MethodId) (x0 : Int64) (x1 : Int32) : entryFrame m #[(.long x0), (.int x1)] 4 = mkF m 0 #[.val (.long x0), .second, .val (.int x1), .unset] [] := by first | (simp [entryFrame, mkF, argsToLocals, Value.category]; done) | rfl
def f_pick (q0 : Int64) (p1 : Int32) : Int64 := (if (p1 &&& (3 : Int32)) = (0 : Int32) then q0 else (if (p1 &&& (3 : Int32)) = (1 : Int32) then (9223372036854775807 : Int64) else (if (p1 &&& (3 : Int32)) = (2 : Int32) then (9223372036854775806 : Int64) else (-9223372036854775808 : Int64))))
def Q_pick (Z : State) (q0 : Int64) (p1 : Int32) (h0 : Heap) (n0 : Nat) (v : Option Value) (h : Heap) (L : List Loc) : Prop := v = some (.long (f_pick q0 p1)) ∧ Fr n0 L ∧ h = h0
set_option maxRecDepth 65536 in
set_option maxHeartbeats 40000000 in
theorem rm_pick (l : Launch) (Z : State) (a0 : Array Value) (hw : ∀ d ∈ tables_1, d.before a0 Z = true) (ws : List Jvm.Cond) (q0 : Int64) (p1 : Int32) (h0 : Heap) (n0 : Nat) (Z0 : n0 ≤ h0.size) :
    MetFree l (⟨"com/example/auspex/auspex/manager/PrecedenceWaitingPinLaw", "pick", "(JI)J"⟩ : MethodName) (head1 (Jvm.Cond.code (⟨"com/example/auspex/auspex/manager/PrecedenceWaitingPinLaw", "pick", "(JI)J"⟩ : MethodName) method_2_code 4 (some .long) :: ws) ({ frames := 0, cells := 0, slots := 0, locals := 0 } : Room)) (fun a U => a = #[(.long q0), (.int p1)] ∧ Z.Warmed39 U.vm ∧ U.heap = h0) (fun _ _ _ _ _ => True) (fun _ U o U' => ∃ v L, o = .returned v ∧ Q_pick Z q0 p1 h0 n0 v U'.heap L ∧ FrameEnd U o U' L ({ frames := 0, cells := 0, slots := 0, locals := 0 } : Room).cells ({ frames := 0, cells := 0, slots := 0, locals := 0 } : Room).slots) := by
  refine MetFree.of_bodySF (plainFor_of_name pn_0) hisR ?_
  intro p e s m args below meth c s₁ Bd hml0 hP hK
  obtain ⟨rfl, hZ, hh⟩ := hP
  have hx := Bd.exec
  have hby := Bd.bytes
  have hml : c.maxLocals = 4 := hml0
  have hown : s.vm.findClass "com/example/auspex/auspex/manager/PrecedenceWaitingPinLaw" = some m.cls := findClass_of_methodNamed Bd.named
  have hnm := (name_of_methodNamed Bd.named Bd.method).1
  have X0 : Stand p l e ({ frames := 0, cells := 0, slots := 0, locals := 0 } : Room) s m #[(.long q0), (.int p1)] below meth c s₁ [] 0 0 := Stand.of_body Bd
  have e0 : s₁.heap = h0 := by rw [← hh, Bd.state]; rfl
  have N0 := Fr.nil n0
  have pre0 : ∀ t, Steps p.tables e below (s₁.setTop (mkF m 0 #[.val (.long q0), .second, .val (.int p1), .unset] [])) t → Steps p.tables e below (s₁.setTop (entryFrame m #[(.long q0), (.int p1)] 4)) t := fun t k => castTop (ef_pick m q0 p1) k
  have k1 : Go p.tables e below (s₁.setTop (mkF m 0 #[.val (.long q0), .second, .val (.int p1), .unset] [])) (s₁.setTop (mkF m 5 #[.val (.long q0), .second, .val (.int p1), .val (.int (p1 &&& (3 : Int32)))] [(.int (p1 &&& (3 : Int32)))])) := by
    intro t ht
    refine XS.iloadN X0.here hx rfl (hb hby d_pick_0) rfl ?_
    show Steps p.tables e below (s₁.setTop (mkF m 1 #[.val (.long q0), .second, .val (.int p1), .unset] [(.int p1)])) _
    refine XS.iconst X0.here hx rfl (hb hby d_pick_1) ?_
    show Steps p.tables e below (s₁.setTop (mkF m 2 #[.val (.long q0), .second, .val (.int p1), .unset] [(.int (3 : Int32)), (.int p1)])) _
    refine XS.iand X0.here hx rfl (hb hby d_pick_2) rfl ?_
    show Steps p.tables e below (s₁.setTop (mkF m 3 #[.val (.long q0), .second, .val (.int p1), .unset] [(.int (p1 &&& (3 : Int32)))])) _
    refine XS.istoreN X0.here hx rfl (hb hby d_pick_3) rfl (l' := #[.val (.long q0), .second, .val (.int p1), .val (.int (p1 &&& (3 : Int32)))]) rfl ?_
    show Steps p.tables e below (s₁.setTop (mkF m 4 #[.val (.long q0), .second, .val (.int p1), .val (.int (p1 &&& (3 : Int32)))] [])) _
    refine XS.iloadN X0.here hx rfl (hb hby d_pick_4) rfl ?_
    exact ht
  by_cases hc2 : (p1 &&& (3 : Int32)) = (0 : Int32)
  · have k3 : Go p.tables e below (s₁.setTop (mkF m 5 #[.val (.long q0), .second, .val (.int p1), .val (.int (p1 &&& (3 : Int32)))] [(.int (p1 &&& (3 : Int32)))])) (s₁.setTop (mkF m 9 #[.val (.long q0), .second, .val (.int p1), .val (.int (p1 &&& (3 : Int32)))] [(.long q0)])) := by
      intro t ht
      refine XS.ifNo X0.here hx rfl (hb hby d_pick_5) rfl ((if0 _ _).trans (teq hc2).2) ?_
      show Steps p.tables e below (s₁.setTop (mkF m 8 #[.val (.long q0), .second, .val (.int p1), .val (.int (p1 &&& (3 : Int32)))] [])) _
      refine XS.lloadN X0.here hx rfl (hb hby d_pick_8) rfl ?_
      exact ht
    obtain ⟨fs, hr, hrun, hended, hW, hsame⟩ := X0.leave (v := some (.long q0)) (fun h => by rw [Bd.returns] at h; cases h)
    refine ⟨_, _, pre0 _ ((goT k1 k3) _ (retJ X0 hx Bd.returns (hb hby d_pick_9) hr)), hrun, hended, _, _, rfl, ?_, ⟨_, rfl⟩, hW, hsame.mono (by decide) (by decide)⟩
    show Q_pick Z q0 p1 h0 n0 _ s₁.heap _
    rw [e0]
    exact ⟨by simp only [f_pick, if_pos hc2], N0, rfl⟩
  · have k4 : Go p.tables e below (s₁.setTop (mkF m 5 #[.val (.long q0), .second, .val (.int p1), .val (.int (p1 &&& (3 : Int32)))] [(.int (p1 &&& (3 : Int32)))])) (s₁.setTop (mkF m 12 #[.val (.long q0), .second, .val (.int p1), .val (.int (p1 &&& (3 : Int32)))] [(.int (1 : Int32)), (.int (p1 &&& (3 : Int32)))])) := by
      intro t ht
      refine XS.ifYes X0.here hx rfl (pc0 := 5) (pc' := 10) rfl (hb hby d_pick_5) rfl ((if0 _ _).trans (feq hc2).2) (by decide) (by decide) ?_
      show Steps p.tables e below (s₁.setTop (mkF m 10 #[.val (.long q0), .second, .val (.int p1), .val (.int (p1 &&& (3 : Int32)))] [])) _
      refine XS.iloadN X0.here hx rfl (hb hby d_pick_10) rfl ?_
      show Steps p.tables e below (s₁.setTop (mkF m 11 #[.val (.long q0), .second, .val (.int p1), .val (.int (p1 &&& (3 : Int32)))] [(.int (p1 &&& (3 : Int32)))])) _
      refine XS.iconst X0.here hx rfl (hb hby d_pick_11) ?_
      exact ht
    by_cases hc5 : (p1 &&& (3 : Int32)) = (1 : Int32)
    · have k6 : Go p.tables e below (s₁.setTop (mkF m 12 #[.val (.long q0), .second, .val (.int p1), .val (.int (p1 &&& (3 : Int32)))] [(.int (1 : Int32)), (.int (p1 &&& (3 : Int32)))])) (s₁.setTop (mkF m 18 #[.val (.long q0), .second, .val (.int p1), .val (.int (p1 &&& (3 : Int32)))] [(.long (9223372036854775807 : Int64))])) := by
        intro t ht
        refine XS.icmpNo X0.here hx rfl (hb hby d_pick_12) rfl (teq hc5).2 ?_
        show Steps p.tables e below (s₁.setTop (mkF m 15 #[.val (.long q0), .second, .val (.int p1), .val (.int (p1 &&& (3 : Int32)))] [])) _
        refine X0.ldc2Long hx hown (mvT hZ (hw _ (List.mem_of_getElem? (i := 25) rfl))) (g := (mkF m 15 #[.val (.long q0), .second, .val (.int p1), .val (.int (p1 &&& (3 : Int32)))] [])) rfl (hb hby d_pick_15) _ ?_
        exact ht
      obtain ⟨fs, hr, hrun, hended, hW, hsame⟩ := X0.leave (v := some (.long (9223372036854775807 : Int64))) (fun h => by rw [Bd.returns] at h; cases h)
      refine ⟨_, _, pre0 _ ((goT k1 (goT k4 k6)) _ (retJ X0 hx Bd.returns (hb hby d_pick_18) hr)), hrun, hended, _, _, rfl, ?_, ⟨_, rfl⟩, hW, hsame.mono (by decide) (by decide)⟩
      show Q_pick Z q0 p1 h0 n0 _ s₁.heap _
      rw [e0]
      exact ⟨by simp only [f_pick, if_neg hc2, if_pos hc5], N0, rfl⟩
    · have k7 : Go p.tables e below (s₁.setTop (mkF m 12 #[.val (.long q0), .second, .val (.int p1), .val (.int (p1 &&& (3 : Int32)))] [(.int (1 : Int32)), (.int (p1 &&& (3 : Int32)))])) (s₁.setTop (mkF m 21 #[.val (.long q0), .second, .val (.int p1), .val (.int (p1 &&& (3 : Int32)))] [(.int (2 : Int32)), (.int (p1 &&& (3 : Int32)))])) := by
        intro t ht
        refine XS.icmpYes X0.here hx rfl (pc0 := 12) (pc' := 19) rfl (hb hby d_pick_12) rfl (feq hc5).2 (by decide) (by decide) ?_
        show Steps p.tables e below (s₁.setTop (mkF m 19 #[.val (.long q0), .second, .val (.int p1), .val (.int (p1 &&& (3 : Int32)))] [])) _
        refine XS.iloadN X0.here hx rfl (hb hby d_pick_19) rfl ?_
        show Steps p.tables e below (s₁.setTop (mkF m 20 #[.val (.long q0), .second, .val (.int p1), .val (.int (p1 &&& (3 : Int32)))] [(.int (p1 &&& (3 : Int32)))])) _
        refine XS.iconst X0.here hx rfl (hb hby d_pick_20) ?_
        exact ht
      by_cases hc8 : (p1 &&& (3 : Int32)) = (2 : Int32)
      · have k9 : Go p.tables e below (s₁.setTop (mkF m 21 #[.val (.long q0), .second, .val (.int p1), .val (.int (p1 &&& (3 : Int32)))] [(.int (2 : Int32)), (.int (p1 &&& (3 : Int32)))])) (s₁.setTop (mkF m 27 #[.val (.long q0), .second, .val (.int p1), .val (.int (p1 &&& (3 : Int32)))] [(.long (9223372036854775806 : Int64))])) := by
          intro t ht
          refine XS.icmpNo X0.here hx rfl (hb hby d_pick_21) rfl (teq hc8).2 ?_
          show Steps p.tables e below (s₁.setTop (mkF m 24 #[.val (.long q0), .second, .val (.int p1), .val (.int (p1 &&& (3 : Int32)))] [])) _
          refine X0.ldc2Long hx hown (mvT hZ (hw _ (List.mem_of_getElem? (i := 4) rfl))) (g := (mkF m 24 #[.val (.long q0), .second, .val (.int p1), .val (.int (p1 &&& (3 : Int32)))] [])) rfl (hb hby d_pick_24) _ ?_
          exact ht
        obtain ⟨fs, hr, hrun, hended, hW, hsame⟩ := X0.leave (v := some (.long (9223372036854775806 : Int64))) (fun h => by rw [Bd.returns] at h; cases h)
        refine ⟨_, _, pre0 _ ((goT k1 (goT k4 (goT k7 k9))) _ (retJ X0 hx Bd.returns (hb hby d_pick_27) hr)), hrun, hended, _, _, rfl, ?_, ⟨_, rfl⟩, hW, hsame.mono (by decide) (by decide)⟩
        show Q_pick Z q0 p1 h0 n0 _ s₁.heap _
        rw [e0]
        exact ⟨by simp only [f_pick, if_neg hc2, if_neg hc5, if_pos hc8], N0, rfl⟩
      · have k10 : Go p.tables e below (s₁.setTop (mkF m 21 #[.val (.long q0), .second, .val (.int p1), .val (.int (p1 &&& (3 : Int32)))] [(.int (2 : Int32)), (.int (p1 &&& (3 : Int32)))])) (s₁.setTop (mkF m 31 #[.val (.long q0), .second, .val (.int p1), .val (.int (p1 &&& (3 : Int32)))] [(.long (-9223372036854775808 : Int64))])) := by
          intro t ht
          refine XS.icmpYes X0.here hx rfl (pc0 := 21) (pc' := 28) rfl (hb hby d_pick_21) rfl (feq hc8).2 (by decide) (by decide) ?_
          show Steps p.tables e below (s₁.setTop (mkF m 28 #[.val (.long q0), .second, .val (.int p1), .val (.int (p1 &&& (3 : Int32)))] [])) _
          refine X0.ldc2Long hx hown (mvT hZ (hw _ (List.mem_of_getElem? (i := 34) rfl))) (g := (mkF m 28 #[.val (.long q0), .second, .val (.int p1), .val (.int (p1 &&& (3 : Int32)))] [])) rfl (hb hby d_pick_28) _ ?_
          exact ht
        obtain ⟨fs, hr, hrun, hended, hW, hsame⟩ := X0.leave (v := some (.long (-9223372036854775808 : Int64))) (fun h => by rw [Bd.returns] at h; cases h)
        refine ⟨_, _, pre0 _ ((goT k1 (goT k4 (goT k7 k10))) _ (retJ X0 hx Bd.returns (hb hby d_pick_31) hr)), hrun, hended, _, _, rfl, ?_, ⟨_, rfl⟩, hW, hsame.mono (by decide) (by decide)⟩
        show Q_pick Z q0 p1 h0 n0 _ s₁.heap _
        rw [e0]
        exact ⟨by simp only [f_pick, if_neg hc2, if_neg hc5, if_neg hc8], N0, rfl⟩
theorem d_recordInit_0 : decode jdk_30_method_1_code 0 = .ok (.aload_n 0, 1) := by decide +kernel
theorem d_recordInit_1 : decode jdk_30_method_1_code 1 = .ok (.invokespecial 1, 3) := by decide +kernel
theorem d_recordInit_4 : decode jdk_30_method_1_code 4 = .ok (.return_, 1) := by decide +kernel
theorem pn_1 : plainName "java/lang/Record" = true := by first | (simp [plainName, overriddenIn]; done) | decide +kernel
theorem ef_recordInit (m : MethodId) (x0 : Addr) : entryFrame m #[(.ref x0)] 1 = mkF m 0 #[.val (.ref x0)] [] := by first | (simp [entryFrame, mkF, argsToLocals, Value.category]; done) | rfl
def Q_recordInit (Z : State) (r0 : Addr) (h0 : Heap) (n0 : Nat) (v : Option Value) (h : Heap) (L : List Loc) : Prop := v = none ∧ Fr n0 L ∧ h = h0
set_option maxRecDepth 65536 in
set_option maxHeartbeats 40000000 in
theorem rm_recordInit (l : Launch) (Z : State) (a0 : Array Value) (hw : ∀ d ∈ tables_1, d.before a0 Z = true) (ws : List Jvm.Cond) (r0 : Addr) (h0 : Heap) (n0 : Nat) (Z0 : n0 ≤ h0.size) :
    MetFree l (⟨"java/lang/Record", "<init>", "()V"⟩ : MethodName) (head1 (Jvm.Cond.code (⟨"java/lang/Record", "<init>", "()V"⟩ : MethodName) jdk_30_method_1_code 1 none :: ws) ({ frames := 1, cells := 0, slots := 0, locals := 12 } : Room)) (fun a U => a = #[(.ref r0)] ∧ Z.Warmed39 U.vm ∧ U.heap = h0) (fun _ _ _ _ _ => True) (fun _ U o U' => ∃ v L, o = .returned v ∧ Q_recordInit Z r0 h0 n0 v U'.heap L ∧ FrameEnd U o U' L ({ frames := 1, cells := 0, slots := 0, locals := 12 } : Room).cells ({ frames := 1, cells := 0, slots := 0, locals := 12 } : Room).slots) := by
  refine MetFree.of_bodySF (plainFor_of_name pn_1) hisR ?_
  intro p e s m args below meth c s₁ Bd hml0 hP hK
  obtain ⟨rfl, hZ, hh⟩ := hP
  have hx := Bd.exec
  have hby := Bd.bytes
  have hml : c.maxLocals = 1 := hml0
  have hown : s.vm.findClass "java/lang/Record" = some m.cls := findClass_of_methodNamed Bd.named
  have hnm := (name_of_methodNamed Bd.named Bd.method).1
  have X0 : Stand p l e ({ frames := 1, cells := 0, slots := 0, locals := 12 } : Room) s m #[(.ref r0)] below meth c s₁ [] 0 0 := Stand.of_body Bd
  have e0 : s₁.heap = h0 := by rw [← hh, Bd.state]; rfl
  have N0 := Fr.nil n0
  have pre0 : ∀ t, Steps p.tables e below (s₁.setTop (mkF m 0 #[.val (.ref r0)] [])) t → Steps p.tables e below (s₁.setTop (entryFrame m #[(.ref r0)] 1)) t := fun t k => castTop (ef_recordInit m r0) k
  have k1 : Go p.tables e below (s₁.setTop (mkF m 0 #[.val (.ref r0)] [])) (s₁.setTop (mkF m 1 #[.val (.ref r0)] [(.ref r0)])) := by
    intro t ht
    refine XS.aloadN X0.here hx rfl (hb hby d_recordInit_0) rfl rfl ?_
    exact ht
  obtain ⟨T2, X2, e2, st2⟩ := initO X0 hx hZ hown (hw _ (List.mem_of_getElem? (i := 16) rfl)) (hw _ (List.mem_of_getElem? (i := 17) rfl)) (hw _ (List.mem_of_getElem? (i := 18) rfl)) e0 (g := (mkF m 1 #[.val (.ref r0)] [(.ref r0)])) rfl (by rw [hml]; rfl) rfl (hb hby d_recordInit_1) (by decide) (W := 0) (by show 2 * 0 + _ ≤ _; exact Nat.le_of_eq rfl) (by decide)
  have k2 : Go p.tables e below (s₁.setTop (mkF m 1 #[.val (.ref r0)] [(.ref r0)])) (T2.setTop (mkF m 4 #[.val (.ref r0)] [])) := st2
  obtain ⟨fs, hr, hrun, hended, hW, hsame⟩ := X2.leave (v := none) (fun _ => rfl)
  refine ⟨_, _, pre0 _ ((goT k1 k2) _ (X2.returnOut hx Bd.returns (hb hby d_recordInit_4) hr)), hrun, hended, _, _, rfl, ?_, ⟨_, rfl⟩, hW, hsame.mono (by decide) (by decide)⟩
  show Q_recordInit Z r0 h0 n0 _ T2.heap _
  rw [e2]
  exact ⟨rfl, N0, rfl⟩
theorem pd_0 : parseMethodDescriptor "()V" = some ⟨[], none⟩ := by decide +kernel
theorem d_init_0 : decode prog_38_method_1_code 0 = .ok (.aload_n 0, 1) := by decide +kernel
theorem d_init_1 : decode prog_38_method_1_code 1 = .ok (.invokespecial 1, 3) := by decide +kernel
theorem d_init_4 : decode prog_38_method_1_code 4 = .ok (.aload_n 0, 1) := by decide +kernel
theorem d_init_5 : decode prog_38_method_1_code 5 = .ok (.lload_n 1, 1) := by decide +kernel
theorem d_init_6 : decode prog_38_method_1_code 6 = .ok (.putfield 7, 3) := by decide +kernel
theorem d_init_9 : decode prog_38_method_1_code 9 = .ok (.aload_n 0, 1) := by decide +kernel
theorem d_init_10 : decode prog_38_method_1_code 10 = .ok (.lload_n 3, 1) := by decide +kernel
theorem d_init_11 : decode prog_38_method_1_code 11 = .ok (.putfield 13, 3) := by decide +kernel
theorem d_init_14 : decode prog_38_method_1_code 14 = .ok (.aload_n 0, 1) := by decide +kernel
theorem d_init_15 : decode prog_38_method_1_code 15 = .ok (.lload 5, 2) := by decide +kernel
theorem d_init_17 : decode prog_38_method_1_code 17 = .ok (.putfield 16, 3) := by decide +kernel
theorem d_init_20 : decode prog_38_method_1_code 20 = .ok (.return_, 1) := by decide +kernel
theorem pn_2 : plainName "com/example/auspex/auspex/manager/Precedence" = true := by first | (simp [plainName, overriddenIn]; done) | decide +kernel
theorem ef_init (m : MethodId) (x0 : Addr) (x1 : Int64) (x2 : Int64) (x3 : Int64) : entryFrame m #[(.ref x0), (.long x1), (.long x2), (.long x3)] 7 = mkF m 0 #[.val (.ref x0), .val (.long x1), .second, .val (.long x2), .second, .val (.long x3), .second] [] := by first | (simp [entryFrame, mkF, argsToLocals, Value.category]; done) | rfl
def Q_init (Z : State) (r0 : Addr) (q1 : Int64) (q2 : Int64) (q3 : Int64) (h0 : Heap) (n0 : Nat) (v : Option Value) (h : Heap) (L : List Loc) : Prop := v = none ∧ Fr n0 L ∧ Keep h0 h [r0] ∧ Exa Z h r0 "com/example/auspex/auspex/manager/Precedence" ∧ Fld Z h r0 "com/example/auspex/auspex/manager/Precedence" "client" "J" (.long q1) ∧ Fld Z h r0 "com/example/auspex/auspex/manager/Precedence" "waitingSince" "J" (.long q2) ∧ Fld Z h r0 "com/example/auspex/auspex/manager/Precedence" "attemptNanos" "J" (.long q3)
set_option maxRecDepth 65536 in
set_option maxHeartbeats 40000000 in
theorem rm_init (l : Launch) (Z : State) (a0 : Array Value) (hw : ∀ d ∈ tables_1, d.before a0 Z = true) (ws : List Jvm.Cond) (r0 : Addr) (q1 : Int64) (q2 : Int64) (q3 : Int64) (h0 : Heap) (n0 : Nat) (Z0 : n0 ≤ h0.size) (F_client : Fld Z h0 r0 "com/example/auspex/auspex/manager/Precedence" "client" "J" (.long (0 : Int64))) (F_waitingSince : Fld Z h0 r0 "com/example/auspex/auspex/manager/Precedence" "waitingSince" "J" (.long (0 : Int64))) (F_attemptNanos : Fld Z h0 r0 "com/example/auspex/auspex/manager/Precedence" "attemptNanos" "J" (.long (0 : Int64))) (E_r0 : Exa Z h0 r0 "com/example/auspex/auspex/manager/Precedence") (g_r0 : n0 ≤ r0) :
    MetFree l (⟨"com/example/auspex/auspex/manager/Precedence", "<init>", "(JJJ)V"⟩ : MethodName) (head1 (Jvm.Cond.code (⟨"com/example/auspex/auspex/manager/Precedence", "<init>", "(JJJ)V"⟩ : MethodName) prog_38_method_1_code 7 none :: ws) ({ frames := 2, cells := 0, slots := 0, locals := 24 } : Room)) (fun a U => a = #[(.ref r0), (.long q1), (.long q2), (.long q3)] ∧ Z.Warmed39 U.vm ∧ U.heap = h0) (fun _ _ _ _ _ => True) (fun _ U o U' => ∃ v L, o = .returned v ∧ Q_init Z r0 q1 q2 q3 h0 n0 v U'.heap L ∧ FrameEnd U o U' L ({ frames := 2, cells := 0, slots := 0, locals := 24 } : Room).cells ({ frames := 2, cells := 0, slots := 0, locals := 24 } : Room).slots) := by
  refine MetFree.of_bodySF (plainFor_of_name pn_2) hisR ?_
  intro p e s m args below meth c s₁ Bd hml0 hP hK
  obtain ⟨rfl, hZ, hh⟩ := hP
  have hx := Bd.exec
  have hby := Bd.bytes
  have hml : c.maxLocals = 7 := hml0
  have hown : s.vm.findClass "com/example/auspex/auspex/manager/Precedence" = some m.cls := findClass_of_methodNamed Bd.named
  have hnm := (name_of_methodNamed Bd.named Bd.method).1
  have X0 : Stand p l e ({ frames := 2, cells := 0, slots := 0, locals := 24 } : Room) s m #[(.ref r0), (.long q1), (.long q2), (.long q3)] below meth c s₁ [] 0 0 := Stand.of_body Bd
  have e0 : s₁.heap = h0 := by rw [← hh, Bd.state]; rfl
  have N0 := Fr.nil n0
  have pre0 : ∀ t, Steps p.tables e below (s₁.setTop (mkF m 0 #[.val (.ref r0), .val (.long q1), .second, .val (.long q2), .second, .val (.long q3), .second] [])) t → Steps p.tables e below (s₁.setTop (entryFrame m #[(.ref r0), (.long q1), (.long q2), (.long q3)] 7)) t := fun t k => castTop (ef_init m r0 q1 q2 q3) k
  have k1 : Go p.tables e below (s₁.setTop (mkF m 0 #[.val (.ref r0), .val (.long q1), .second, .val (.long q2), .second, .val (.long q3), .second] [])) (s₁.setTop (mkF m 1 #[.val (.ref r0), .val (.long q1), .second, .val (.long q2), .second, .val (.long q3), .second] [(.ref r0)])) := by
    intro t ht
    refine XS.aloadN X0.here hx rfl (hb hby d_init_0) rfl rfl ?_
    exact ht
  obtain ⟨_, _, ⟨T2, L2, kq2, n2⟩, -, X2, ⟨Lc2, hQ2, l2, y2, z2⟩, st2⟩ := X0.specialBack hx (y := (⟨"java/lang/Record", "<init>", "()V"⟩ : MethodName)) rfl hown (mvT hZ (hw _ (List.mem_of_getElem? (i := 11) rfl))) (mvT hZ (hw _ (List.mem_of_getElem? (i := 12) rfl))) (mvT hZ (hw _ (List.mem_of_getElem? (i := 15) rfl))) (by decide) (backOf (W := 0) (rm_recordInit l Z a0 hw [] r0 h0 n0 Z0 ) hZ (hw _ (List.mem_of_getElem? (i := 15) rfl)) (hw _ (List.mem_of_getElem? (i := 14) rfl)) (by decide) (by decide)) (g := (mkF m 1 #[.val (.ref r0), .val (.long q1), .second, .val (.long q2), .second, .val (.long q3), .second] [(.ref r0)])) rfl (by rw [hml]; rfl) (Steps.refl _) (a := r0) (argsL := []) (rest := []) (lenOf pd_0 rfl) rfl (by show 2 * 0 + _ ≤ _; exact Nat.le_of_eq rfl) (hb hby d_init_1) (fun _ _ => ⟨rfl, e0, (by decide : 0 + 0 ≤ _), (by decide : 0 + 0 ≤ _)⟩)
  dsimp only [Pt.U, Pt.locs, Pt.cells, Pt.slots] at X2 l2 y2 z2 st2 hQ2
  subst l2 y2 z2
  obtain ⟨rfl, N2q, eq2⟩ := hQ2
  have N2 := Fr.app N0 N2q
  have k2 : Go p.tables e below (s₁.setTop (mkF m 1 #[.val (.ref r0), .val (.long q1), .second, .val (.long q2), .second, .val (.long q3), .second] [(.ref r0)])) (T2.setTop (mkF m 4 #[.val (.ref r0), .val (.long q1), .second, .val (.long q2), .second, .val (.long q3), .second] [])) := fun _ ht => st2.trans ht
  have k3 : Go p.tables e below (T2.setTop (mkF m 4 #[.val (.ref r0), .val (.long q1), .second, .val (.long q2), .second, .val (.long q3), .second] [])) (T2.setTop (mkF m 6 #[.val (.ref r0), .val (.long q1), .second, .val (.long q2), .second, .val (.long q3), .second] [(.long q1), (.ref r0)])) := by
    intro t ht
    refine XS.aloadN X2.here hx rfl (hb hby d_init_4) rfl rfl ?_
    show Steps p.tables e below (T2.setTop (mkF m 5 #[.val (.ref r0), .val (.long q1), .second, .val (.long q2), .second, .val (.long q3), .second] [(.ref r0)])) _
    refine XS.lloadN X2.here hx rfl (hb hby d_init_5) rfl ?_
    exact ht
  obtain ⟨T4, h4, X4, e4, W4, st4⟩ := putF X2 hx hZ hown (host := "") (Or.inl (hw _ (List.mem_of_getElem? (i := 19) rfl))) Via.refl eq2 F_client E_r0 (Or.inr ⟨(hw _ (List.mem_of_getElem? (i := 20) rfl)), rfl, hnm⟩) (hw _ (List.mem_of_getElem? (i := 6) rfl)) (ty := .long) (by decide) rfl rfl (g := (mkF m 6 #[.val (.ref r0), .val (.long q1), .second, .val (.long q2), .second, .val (.long q3), .second] [(.long q1), (.ref r0)])) rfl rfl (hb hby d_init_6)
  have Kp4 : Keep h0 h4 [r0] := (Keep.refl h0 [r0]).wr W4 (Or.inl (by simp))
  have Z4 : n0 ≤ h4.size := Nat.le_trans Z0 (Keep.of_wr W4).1
  have F_c_4 := F_client.same W4
  have F_waitingSince_c_4 := F_waitingSince.other W4 (Or.inr (slot_ne (Or.inr (hw _ (List.mem_of_getElem? (i := 22) rfl))) (Or.inr (hw _ (List.mem_of_getElem? (i := 20) rfl))) (by decide) (t := .long) (t' := .long) (by decide) (by decide)))
  have F_attemptNanos_c_4 := F_attemptNanos.other W4 (Or.inr (slot_ne (Or.inr (hw _ (List.mem_of_getElem? (i := 24) rfl))) (Or.inr (hw _ (List.mem_of_getElem? (i := 20) rfl))) (by decide) (t := .long) (t' := .long) (by decide) (by decide)))
  have E_r0_c_4 := E_r0.wr W4
  have k4 : Go p.tables e below (T2.setTop (mkF m 6 #[.val (.ref r0), .val (.long q1), .second, .val (.long q2), .second, .val (.long q3), .second] [(.long q1), (.ref r0)])) (T4.setTop (mkF m 9 #[.val (.ref r0), .val (.long q1), .second, .val (.long q2), .second, .val (.long q3), .second] [])) := st4
  have N4 := Fr.snoc X4 N2 g_r0
  have k5 : Go p.tables e below (T4.setTop (mkF m 9 #[.val (.ref r0), .val (.long q1), .second, .val (.long q2), .second, .val (.long q3), .second] [])) (T4.setTop (mkF m 11 #[.val (.ref r0), .val (.long q1), .second, .val (.long q2), .second, .val (.long q3), .second] [(.long q2), (.ref r0)])) := by
    intro t ht
    refine XS.aloadN X4.here hx rfl (hb hby d_init_9) rfl rfl ?_
    show Steps p.tables e below (T4.setTop (mkF m 10 #[.val (.ref r0), .val (.long q1), .second, .val (.long q2), .second, .val (.long q3), .second] [(.ref r0)])) _
    refine XS.lloadN X4.here hx rfl (hb hby d_init_10) rfl ?_
    exact ht
  obtain ⟨T6, h6, X6, e6, W6, st6⟩ := putF X4 hx hZ hown (host := "") (Or.inl (hw _ (List.mem_of_getElem? (i := 21) rfl))) Via.refl e4 F_waitingSince_c_4 E_r0_c_4 (Or.inr ⟨(hw _ (List.mem_of_getElem? (i := 22) rfl)), rfl, hnm⟩) (hw _ (List.mem_of_getElem? (i := 6) rfl)) (ty := .long) (by decide) rfl rfl (g := (mkF m 11 #[.val (.ref r0), .val (.long q1), .second, .val (.long q2), .second, .val (.long q3), .second] [(.long q2), (.ref r0)])) rfl rfl (hb hby d_init_11)
  have Kp6 : Keep h0 h6 [r0] := Kp4.wr W6 (Or.inl (by simp))
  have Z6 : n0 ≤ h6.size := Nat.le_trans Z4 (Keep.of_wr W6).1
  have F_c_6 := F_c_4.other W6 (Or.inr (slot_ne (Or.inr (hw _ (List.mem_of_getElem? (i := 20) rfl))) (Or.inr (hw _ (List.mem_of_getElem? (i := 22) rfl))) (by decide) (t := .long) (t' := .long) (by decide) (by decide)))
  have F_waitingSince_c_6 := F_waitingSince_c_4.same W6
  have F_attemptNanos_c_6 := F_attemptNanos_c_4.other W6 (Or.inr (slot_ne (Or.inr (hw _ (List.mem_of_getElem? (i := 24) rfl))) (Or.inr (hw _ (List.mem_of_getElem? (i := 22) rfl))) (by decide) (t := .long) (t' := .long) (by decide) (by decide)))
  have E_r0_c_6 := E_r0_c_4.wr W6
  have k6 : Go p.tables e below (T4.setTop (mkF m 11 #[.val (.ref r0), .val (.long q1), .second, .val (.long q2), .second, .val (.long q3), .second] [(.long q2), (.ref r0)])) (T6.setTop (mkF m 14 #[.val (.ref r0), .val (.long q1), .second, .val (.long q2), .second, .val (.long q3), .second] [])) := st6
  have N6 := Fr.snoc X6 N4 g_r0
  have k7 : Go p.tables e below (T6.setTop (mkF m 14 #[.val (.ref r0), .val (.long q1), .second, .val (.long q2), .second, .val (.long q3), .second] [])) (T6.setTop (mkF m 17 #[.val (.ref r0), .val (.long q1), .second, .val (.long q2), .second, .val (.long q3), .second] [(.long q3), (.ref r0)])) := by
    intro t ht
    refine XS.aloadN X6.here hx rfl (hb hby d_init_14) rfl rfl ?_
    show Steps p.tables e below (T6.setTop (mkF m 15 #[.val (.ref r0), .val (.long q1), .second, .val (.long q2), .second, .val (.long q3), .second] [(.ref r0)])) _
    refine XS.lload X6.here hx rfl (hb hby d_init_15) rfl ?_
    exact ht
  obtain ⟨T8, h8, X8, e8, W8, st8⟩ := putF X6 hx hZ hown (host := "") (Or.inl (hw _ (List.mem_of_getElem? (i := 23) rfl))) Via.refl e6 F_attemptNanos_c_6 E_r0_c_6 (Or.inr ⟨(hw _ (List.mem_of_getElem? (i := 24) rfl)), rfl, hnm⟩) (hw _ (List.mem_of_getElem? (i := 6) rfl)) (ty := .long) (by decide) rfl rfl (g := (mkF m 17 #[.val (.ref r0), .val (.long q1), .second, .val (.long q2), .second, .val (.long q3), .second] [(.long q3), (.ref r0)])) rfl rfl (hb hby d_init_17)
  have Kp8 : Keep h0 h8 [r0] := Kp6.wr W8 (Or.inl (by simp))
  have Z8 : n0 ≤ h8.size := Nat.le_trans Z6 (Keep.of_wr W8).1
  have F_c_8 := F_c_6.other W8 (Or.inr (slot_ne (Or.inr (hw _ (List.mem_of_getElem? (i := 20) rfl))) (Or.inr (hw _ (List.mem_of_getElem? (i := 24) rfl))) (by decide) (t := .long) (t' := .long) (by decide) (by decide)))
  have F_waitingSince_c_8 := F_waitingSince_c_6.other W8 (Or.inr (slot_ne (Or.inr (hw _ (List.mem_of_getElem? (i := 22) rfl))) (Or.inr (hw _ (List.mem_of_getElem? (i := 24) rfl))) (by decide) (t := .long) (t' := .long) (by decide) (by decide)))
  have F_attemptNanos_c_8 := F_attemptNanos_c_6.same W8
  have E_r0_c_8 := E_r0_c_6.wr W8
  have k8 : Go p.tables e below (T6.setTop (mkF m 17 #[.val (.ref r0), .val (.long q1), .second, .val (.long q2), .second, .val (.long q3), .second] [(.long q3), (.ref r0)])) (T8.setTop (mkF m 20 #[.val (.ref r0), .val (.long q1), .second, .val (.long q2), .second, .val (.long q3), .second] [])) := st8
  have N8 := Fr.snoc X8 N6 g_r0
  obtain ⟨fs, hr, hrun, hended, hW, hsame⟩ := X8.leave (v := none) (fun _ => rfl)
  refine ⟨_, _, pre0 _ ((goT k1 (goT k2 (goT k3 (goT k4 (goT k5 (goT k6 (goT k7 k8))))))) _ (X8.returnOut hx Bd.returns (hb hby d_init_20) hr)), hrun, hended, _, _, rfl, ?_, ⟨_, rfl⟩, hW, hsame.mono (by decide) (by decide)⟩
  show Q_init Z r0 q1 q2 q3 h0 n0 _ T8.heap _
  rw [e8]
  exact ⟨rfl, N8, Kp8, E_r0_c_8, F_c_8, F_waitingSince_c_8, F_attemptNanos_c_8⟩
theorem d_waiting_0 : decode prog_38_method_2_code 0 = .ok (.aload_n 0, 1) := by decide +kernel
theorem d_waiting_1 : decode prog_38_method_2_code 1 = .ok (.getfield 13, 3) := by decide +kernel
theorem d_waiting_4 : decode prog_38_method_2_code 4 = .ok (.ldc2_w 21, 3) := by decide +kernel
theorem d_waiting_7 : decode prog_38_method_2_code 7 = .ok (.lcmp, 1) := by decide +kernel
theorem d_waiting_8 : decode prog_38_method_2_code 8 = .ok (.ifCond .eq 7, 3) := by decide +kernel
theorem d_waiting_11 : decode prog_38_method_2_code 11 = .ok (.iconst 1, 1) := by decide +kernel
theorem d_waiting_12 : decode prog_38_method_2_code 12 = .ok (.goto 4, 3) := by decide +kernel
theorem d_waiting_15 : decode prog_38_method_2_code 15 = .ok (.iconst 0, 1) := by decide +kernel
theorem d_waiting_16 : decode prog_38_method_2_code 16 = .ok (.ireturn, 1) := by decide +kernel
theorem ef_waiting (m : MethodId) (x0 : Addr) : entryFrame m #[(.ref x0)] 1 = mkF m 0 #[.val (.ref x0)] [] := by first | (simp [entryFrame, mkF, argsToLocals, Value.category]; done) | rfl
def f_waiting (q : Int64) : Int32 := (if q = (9223372036854775807 : Int64) then (0 : Int32) else (1 : Int32))
def Q_waiting (Z : State) (r0 : Addr) (q : Int64) (h0 : Heap) (n0 : Nat) (v : Option Value) (h : Heap) (L : List Loc) : Prop := v = some (.int (f_waiting q)) ∧ Fr n0 L ∧ h = h0
set_option maxRecDepth 65536 in
set_option maxHeartbeats 40000000 in
theorem rm_waiting (l : Launch) (Z : State) (a0 : Array Value) (hw : ∀ d ∈ tables_1, d.before a0 Z = true) (ws : List Jvm.Cond) (r0 : Addr) (q : Int64) (h0 : Heap) (n0 : Nat) (Z0 : n0 ≤ h0.size) (F_w : Fld Z h0 r0 "com/example/auspex/auspex/manager/Precedence" "waitingSince" "J" (.long q)) :
    MetFree l (⟨"com/example/auspex/auspex/manager/Precedence", "waiting", "()Z"⟩ : MethodName) (head1 (Jvm.Cond.code (⟨"com/example/auspex/auspex/manager/Precedence", "waiting", "()Z"⟩ : MethodName) prog_38_method_2_code 1 (some .boolean) :: ws) ({ frames := 0, cells := 0, slots := 0, locals := 0 } : Room)) (fun a U => a = #[(.ref r0)] ∧ Z.Warmed39 U.vm ∧ U.heap = h0) (fun _ _ _ _ _ => True) (fun _ U o U' => ∃ v L, o = .returned v ∧ Q_waiting Z r0 q h0 n0 v U'.heap L ∧ FrameEnd U o U' L ({ frames := 0, cells := 0, slots := 0, locals := 0 } : Room).cells ({ frames := 0, cells := 0, slots := 0, locals := 0 } : Room).slots) := by
  refine MetFree.of_bodySF (plainFor_of_name pn_2) hisR ?_
  intro p e s m args below meth c s₁ Bd hml0 hP hK
  obtain ⟨rfl, hZ, hh⟩ := hP
  have hx := Bd.exec
  have hby := Bd.bytes
  have hml : c.maxLocals = 1 := hml0
  have hown : s.vm.findClass "com/example/auspex/auspex/manager/Precedence" = some m.cls := findClass_of_methodNamed Bd.named
  have hnm := (name_of_methodNamed Bd.named Bd.method).1
  have X0 : Stand p l e ({ frames := 0, cells := 0, slots := 0, locals := 0 } : Room) s m #[(.ref r0)] below meth c s₁ [] 0 0 := Stand.of_body Bd
  have e0 : s₁.heap = h0 := by rw [← hh, Bd.state]; rfl
  have N0 := Fr.nil n0
  have pre0 : ∀ t, Steps p.tables e below (s₁.setTop (mkF m 0 #[.val (.ref r0)] [])) t → Steps p.tables e below (s₁.setTop (entryFrame m #[(.ref r0)] 1)) t := fun t k => castTop (ef_waiting m r0) k
  have k1 : Go p.tables e below (s₁.setTop (mkF m 0 #[.val (.ref r0)] [])) (s₁.setTop (mkF m 1 #[.val (.ref r0)] [(.ref r0)])) := by
    intro t ht
    refine XS.aloadN X0.here hx rfl (hb hby d_waiting_0) rfl rfl ?_
    exact ht
  obtain ⟨T2, X2, e2, st2⟩ := getF X0 hx hZ hown (host := "") (Or.inl (hw _ (List.mem_of_getElem? (i := 21) rfl))) Via.refl e0 F_w (g := (mkF m 1 #[.val (.ref r0)] [(.ref r0)])) rfl rfl (hb hby d_waiting_1)
  have k2 : Go p.tables e below (s₁.setTop (mkF m 1 #[.val (.ref r0)] [(.ref r0)])) (T2.setTop (mkF m 4 #[.val (.ref r0)] [(.long q)])) := st2
  have k3 : Go p.tables e below (T2.setTop (mkF m 4 #[.val (.ref r0)] [(.long q)])) (T2.setTop (mkF m 8 #[.val (.ref r0)] [(.int (lcmpW q (9223372036854775807 : Int64)))])) := by
    intro t ht
    refine X2.ldc2Long hx hown (mvT hZ (hw _ (List.mem_of_getElem? (i := 31) rfl))) (g := (mkF m 4 #[.val (.ref r0)] [(.long q)])) rfl (hb hby d_waiting_4) _ ?_
    show Steps p.tables e below (T2.setTop (mkF m 7 #[.val (.ref r0)] [(.long (9223372036854775807 : Int64)), (.long q)])) _
    refine XS.lcmp X2.here hx rfl (hb hby d_waiting_7) rfl ?_
    exact ht
  by_cases hc4 : q = (9223372036854775807 : Int64)
  · have k5 : Go p.tables e below (T2.setTop (mkF m 8 #[.val (.ref r0)] [(.int (lcmpW q (9223372036854775807 : Int64)))])) (T2.setTop (mkF m 16 #[.val (.ref r0)] [(.int (0 : Int32))])) := by
      intro t ht
      refine XS.ifYes X2.here hx rfl (pc0 := 8) (pc' := 15) rfl (hb hby d_waiting_8) rfl ((if0 _ _).trans (teq (own_eqL hc4)).1) (by decide) (by decide) ?_
      show Steps p.tables e below (T2.setTop (mkF m 15 #[.val (.ref r0)] [])) _
      refine XS.iconst X2.here hx rfl (hb hby d_waiting_15) ?_
      exact ht
    obtain ⟨fs, hr, hrun, hended, hW, hsame⟩ := X2.leave (v := some (.int (0 : Int32))) (fun h => by rw [Bd.returns] at h; cases h)
    refine ⟨_, _, pre0 _ ((goT k1 (goT k2 (goT k3 k5))) _ (retN X2 hx (t := .boolean) Bd.returns (by simp) (hb hby d_waiting_16) hr)), hrun, hended, _, _, rfl, ?_, ⟨_, rfl⟩, hW, hsame.mono (by decide) (by decide)⟩
    show Q_waiting Z r0 q h0 n0 _ T2.heap _
    rw [e2]
    exact ⟨by simp only [f_waiting, if_pos hc4], N0, rfl⟩
  · have k6 : Go p.tables e below (T2.setTop (mkF m 8 #[.val (.ref r0)] [(.int (lcmpW q (9223372036854775807 : Int64)))])) (T2.setTop (mkF m 16 #[.val (.ref r0)] [(.int (1 : Int32))])) := by
      intro t ht
      refine XS.ifNo X2.here hx rfl (hb hby d_waiting_8) rfl ((if0 _ _).trans (feq (own_neqL hc4)).1) ?_
      show Steps p.tables e below (T2.setTop (mkF m 11 #[.val (.ref r0)] [])) _
      refine XS.iconst X2.here hx rfl (hb hby d_waiting_11) ?_
      show Steps p.tables e below (T2.setTop (mkF m 12 #[.val (.ref r0)] [(.int (1 : Int32))])) _
      refine XS.goto X2.here hx rfl (pc0 := 12) (pc' := 16) rfl (hb hby d_waiting_12) (by decide) (by decide) ?_
      exact ht
    obtain ⟨fs, hr, hrun, hended, hW, hsame⟩ := X2.leave (v := some (.int (1 : Int32))) (fun h => by rw [Bd.returns] at h; cases h)
    refine ⟨_, _, pre0 _ ((goT k1 (goT k2 (goT k3 k6))) _ (retN X2 hx (t := .boolean) Bd.returns (by simp) (hb hby d_waiting_16) hr)), hrun, hended, _, _, rfl, ?_, ⟨_, rfl⟩, hW, hsame.mono (by decide) (by decide)⟩
    show Q_waiting Z r0 q h0 n0 _ T2.heap _
    rw [e2]
    exact ⟨by simp only [f_waiting, if_neg hc4], N0, rfl⟩
theorem pd_1 : parseMethodDescriptor "(JI)J" = some ⟨[.long, .int], some .long⟩ := by decide +kernel
theorem pd_2 : parseMethodDescriptor "(JJJ)V" = some ⟨[.long, .long, .long], none⟩ := by decide +kernel
theorem pd_3 : parseMethodDescriptor "()Z" = some ⟨[], some .boolean⟩ := by decide +kernel
theorem ef_law (m : MethodId) (x0 : Int64) (x1 : Int64) (x2 : Int64) (x3 : Int32) : entryFrame m #[(.long x0), (.long x1), (.long x2), (.int x3)] maxLocals = mkF m 0 #[.val (.long x0), .second, .val (.long x1), .second, .val (.long x2), .second, .val (.int x3), .unset, .unset, .unset, .unset, .unset, .unset] [] := by first | (simp [entryFrame, mkF, argsToLocals, Value.category, maxLocals]; done) | rfl
def Q_law (Z : State) (q0 : Int64) (q1 : Int64) (q2 : Int64) (p3 : Int32) (wN : Addr) (h0 : Heap) (n0 : Nat) (v : Option Value) (h : Heap) (L : List Loc) : Prop := v = some (.int (1 : Int32)) ∧ Fr n0 L
set_option maxRecDepth 65536 in
set_option maxHeartbeats 40000000 in
theorem rm_law (l : Launch) (Z : State) (a0 : Array Value) (hw : ∀ d ∈ tables_1, d.before a0 Z = true) (ws : List Jvm.Cond) (q0 : Int64) (q1 : Int64) (q2 : Int64) (p3 : Int32) (wN : Addr) (h0 : Heap) (n0 : Nat) (Z0 : n0 ≤ h0.size) (S_N : Sta Z h0 "com/example/auspex/auspex/manager/Precedence" "NONE" "Lcom/example/auspex/auspex/manager/Precedence;" (.ref wN)) (E_N : Exa Z h0 wN "com/example/auspex/auspex/manager/Precedence") (F_N : Fld Z h0 wN "com/example/auspex/auspex/manager/Precedence" "waitingSince" "J" (.long (9223372036854775807 : Int64))) :
    MetFree l x (head1 (Jvm.Cond.code x code maxLocals ret :: ws) room_1) (fun a U => a = #[(.long q0), (.long q1), (.long q2), (.int p3)] ∧ Z.Warmed39 U.vm ∧ U.heap = h0) (fun _ _ _ _ _ => True) (fun _ U o U' => ∃ v L, o = .returned v ∧ Q_law Z q0 q1 q2 p3 wN h0 n0 v U'.heap L ∧ FrameEnd U o U' L room_1.cells room_1.slots) := by
  refine MetFree.of_bodySF (plainFor_of_name pn_0) hisR ?_
  intro p e s m args below meth c s₁ Bd hml0 hP hK
  obtain ⟨rfl, hZ, hh⟩ := hP
  have hx := Bd.exec
  have hby := Bd.bytes
  have hml : c.maxLocals = 13 := hml0
  have hown : s.vm.findClass "com/example/auspex/auspex/manager/PrecedenceWaitingPinLaw" = some m.cls := findClass_of_methodNamed Bd.named
  have hnm := (name_of_methodNamed Bd.named Bd.method).1
  have X0 : Stand p l e room_1 s m #[(.long q0), (.long q1), (.long q2), (.int p3)] below meth c s₁ [] 0 0 := Stand.of_body Bd
  have e0 : s₁.heap = h0 := by rw [← hh, Bd.state]; rfl
  have N0 := Fr.nil n0
  have pre0 : ∀ t, Steps p.tables e below (s₁.setTop (mkF m 0 #[.val (.long q0), .second, .val (.long q1), .second, .val (.long q2), .second, .val (.int p3), .unset, .unset, .unset, .unset, .unset, .unset] [])) t → Steps p.tables e below (s₁.setTop (entryFrame m #[(.long q0), (.long q1), (.long q2), (.int p3)] maxLocals)) t := fun t k => castTop (ef_law m q0 q1 q2 p3) k
  have k1 : Go p.tables e below (s₁.setTop (mkF m 0 #[.val (.long q0), .second, .val (.long q1), .second, .val (.long q2), .second, .val (.int p3), .unset, .unset, .unset, .unset, .unset, .unset] [])) (s₁.setTop (mkF m 3 #[.val (.long q0), .second, .val (.long q1), .second, .val (.long q2), .second, .val (.int p3), .unset, .unset, .unset, .unset, .unset, .unset] [(.int p3), (.long q1)])) := by
    intro t ht
    refine XS.lloadN X0.here hx rfl (hb hby at_0) rfl ?_
    show Steps p.tables e below (s₁.setTop (mkF m 1 #[.val (.long q0), .second, .val (.long q1), .second, .val (.long q2), .second, .val (.int p3), .unset, .unset, .unset, .unset, .unset, .unset] [(.long q1)])) _
    refine XS.iload X0.here hx rfl (hb hby at_1) rfl ?_
    exact ht
  obtain ⟨_, _, ⟨T2, L2, kq2, n2⟩, -, X2, ⟨Lc2, hQ2, l2, y2, z2⟩, st2⟩ := Jvm.LawKit.callS X0 hx (y := (⟨"com/example/auspex/auspex/manager/PrecedenceWaitingPinLaw", "pick", "(JI)J"⟩ : MethodName)) hown (mvT hZ (hw _ (List.mem_of_getElem? (i := 0) rfl))) (mvT hZ (hw _ (List.mem_of_getElem? (i := 1) rfl))) (mvT hZ (hw _ (List.mem_of_getElem? (i := 2) rfl))) (mvT hZ (hw _ (List.mem_of_getElem? (i := 3) rfl))) (by decide) (backOf (W := 0) (rm_pick l Z a0 hw [] q1 p3 h0 n0 Z0 ) hZ (hw _ (List.mem_of_getElem? (i := 3) rfl)) (hw _ (List.mem_of_getElem? (i := 2) rfl)) (by decide) (by decide)) (g := (mkF m 3 #[.val (.long q0), .second, .val (.long q1), .second, .val (.long q2), .second, .val (.int p3), .unset, .unset, .unset, .unset, .unset, .unset] [(.int p3), (.long q1)])) rfl (by rw [hml]; rfl) (argsL := [(.long q1), (.int p3)]) (rest := []) (lenOf pd_1 rfl) rfl (by show 2 * 0 + _ ≤ _; exact Nat.le_of_eq rfl) (hb hby at_3) (fun _ _ => ⟨rfl, e0, (by decide : 0 + 0 ≤ _), (by decide : 0 + 0 ≤ _)⟩)
  dsimp only [Pt.U, Pt.locs, Pt.cells, Pt.slots] at X2 l2 y2 z2 st2 hQ2
  subst l2 y2 z2
  obtain ⟨rfl, N2q, eq2⟩ := hQ2
  have N2 := Fr.app N0 N2q
  have k2 : Go p.tables e below (s₁.setTop (mkF m 3 #[.val (.long q0), .second, .val (.long q1), .second, .val (.long q2), .second, .val (.int p3), .unset, .unset, .unset, .unset, .unset, .unset] [(.int p3), (.long q1)])) (T2.setTop (mkF m 6 #[.val (.long q0), .second, .val (.long q1), .second, .val (.long q2), .second, .val (.int p3), .unset, .unset, .unset, .unset, .unset, .unset] [(.long (f_pick q1 p3))])) := st2
  have k3 : Go p.tables e below (T2.setTop (mkF m 6 #[.val (.long q0), .second, .val (.long q1), .second, .val (.long q2), .second, .val (.int p3), .unset, .unset, .unset, .unset, .unset, .unset] [(.long (f_pick q1 p3))])) (T2.setTop (mkF m 8 #[.val (.long q0), .second, .val (.long q1), .second, .val (.long q2), .second, .val (.int p3), .val (.long (f_pick q1 p3)), .second, .unset, .unset, .unset, .unset] [])) := by
    intro t ht
    refine XS.lstore X2.here hx rfl (hb hby at_6) rfl (l' := #[.val (.long q0), .second, .val (.long q1), .second, .val (.long q2), .second, .val (.int p3), .val (.long (f_pick q1 p3)), .second, .unset, .unset, .unset, .unset]) rfl ?_
    exact ht
  obtain ⟨T4, h4, X4, e4, E4, A4, D4, -, st4⟩ := newO X2 hx hZ hown (hw _ (List.mem_of_getElem? (i := 5) rfl)) (hw _ (List.mem_of_getElem? (i := 6) rfl)) (hw _ (List.mem_of_getElem? (i := 7) rfl)) eq2 (g := (mkF m 8 #[.val (.long q0), .second, .val (.long q1), .second, .val (.long q2), .second, .val (.int p3), .val (.long (f_pick q1 p3)), .second, .unset, .unset, .unset, .unset] [])) rfl (hb hby at_8) (by decide) (by decide)
  obtain ⟨b4, g4⟩ : ∃ z, z = h0.size := ⟨_, rfl⟩
  rw [← g4] at A4 D4 st4
  have g_b4 : n0 ≤ b4 := Nat.le_trans Z0 (Nat.le_of_eq g4.symm)
  have sz_b4 : h0.size ≤ b4 := Nat.le_trans (Keep.refl h0 []).1 (Nat.le_of_eq g4.symm)
  have ne_wN_b4 : wN ≠ b4 := Nat.ne_of_lt (Nat.lt_of_lt_of_le E_N.lt (Nat.le_of_eq g4.symm))
  have Kp4 : Keep h0 h4 [] := (Keep.refl h0 []).ext E4
  have Z4 : n0 ≤ h4.size := Nat.le_trans Z0 E4.1
  have S_N_c_4 := S_N.ext E4
  have E_N_c_4 := E_N.ext E4
  have F_N_c_4 := F_N.ext E4
  have F_client_b4 : Fld Z h4 b4 "com/example/auspex/auspex/manager/Precedence" "client" "J" (.long (0 : Int64)) := D4 (Or.inr (hw _ (List.mem_of_getElem? (i := 20) rfl))) (ty := .long) (by decide)
  have F_waitingSince_b4 : Fld Z h4 b4 "com/example/auspex/auspex/manager/Precedence" "waitingSince" "J" (.long (0 : Int64)) := D4 (Or.inr (hw _ (List.mem_of_getElem? (i := 22) rfl))) (ty := .long) (by decide)
  have F_attemptNanos_b4 : Fld Z h4 b4 "com/example/auspex/auspex/manager/Precedence" "attemptNanos" "J" (.long (0 : Int64)) := D4 (Or.inr (hw _ (List.mem_of_getElem? (i := 24) rfl))) (ty := .long) (by decide)
  have k4 : Go p.tables e below (T2.setTop (mkF m 8 #[.val (.long q0), .second, .val (.long q1), .second, .val (.long q2), .second, .val (.int p3), .val (.long (f_pick q1 p3)), .second, .unset, .unset, .unset, .unset] [])) (T4.setTop (mkF m 11 #[.val (.long q0), .second, .val (.long q1), .second, .val (.long q2), .second, .val (.int p3), .val (.long (f_pick q1 p3)), .second, .unset, .unset, .unset, .unset] [(.ref b4)])) := st4
  have k5 : Go p.tables e below (T4.setTop (mkF m 11 #[.val (.long q0), .second, .val (.long q1), .second, .val (.long q2), .second, .val (.int p3), .val (.long (f_pick q1 p3)), .second, .unset, .unset, .unset, .unset] [(.ref b4)])) (T4.setTop (mkF m 17 #[.val (.long q0), .second, .val (.long q1), .second, .val (.long q2), .second, .val (.int p3), .val (.long (f_pick q1 p3)), .second, .unset, .unset, .unset, .unset] [(.long q2), (.long (f_pick q1 p3)), (.long q0), (.ref b4), (.ref b4)])) := by
    intro t ht
    refine XS.dup X4.here hx rfl (hb hby at_11) rfl rfl ?_
    show Steps p.tables e below (T4.setTop (mkF m 12 #[.val (.long q0), .second, .val (.long q1), .second, .val (.long q2), .second, .val (.int p3), .val (.long (f_pick q1 p3)), .second, .unset, .unset, .unset, .unset] [(.ref b4), (.ref b4)])) _
    refine XS.lloadN X4.here hx rfl (hb hby at_12) rfl ?_
    show Steps p.tables e below (T4.setTop (mkF m 13 #[.val (.long q0), .second, .val (.long q1), .second, .val (.long q2), .second, .val (.int p3), .val (.long (f_pick q1 p3)), .second, .unset, .unset, .unset, .unset] [(.long q0), (.ref b4), (.ref b4)])) _
    refine XS.lload X4.here hx rfl (hb hby at_13) rfl ?_
    show Steps p.tables e below (T4.setTop (mkF m 15 #[.val (.long q0), .second, .val (.long q1), .second, .val (.long q2), .second, .val (.int p3), .val (.long (f_pick q1 p3)), .second, .unset, .unset, .unset, .unset] [(.long (f_pick q1 p3)), (.long q0), (.ref b4), (.ref b4)])) _
    refine XS.lload X4.here hx rfl (hb hby at_15) rfl ?_
    exact ht
  obtain ⟨_, _, ⟨T6, L6, kq6, n6⟩, -, X6, ⟨Lc6, hQ6, l6, y6, z6⟩, st6⟩ := X4.specialBack hx (y := (⟨"com/example/auspex/auspex/manager/Precedence", "<init>", "(JJJ)V"⟩ : MethodName)) rfl hown (mvT hZ (hw _ (List.mem_of_getElem? (i := 8) rfl))) (mvT hZ (hw _ (List.mem_of_getElem? (i := 9) rfl))) (mvT hZ (hw _ (List.mem_of_getElem? (i := 10) rfl))) (by decide) (backOf (W := 1) (rm_init l Z a0 hw [] b4 q0 (f_pick q1 p3) q2 h4 n0 Z4 F_client_b4 F_waitingSince_b4 F_attemptNanos_b4 A4 g_b4) hZ (hw _ (List.mem_of_getElem? (i := 10) rfl)) (hw _ (List.mem_of_getElem? (i := 7) rfl)) (by decide) (by decide)) (g := (mkF m 17 #[.val (.long q0), .second, .val (.long q1), .second, .val (.long q2), .second, .val (.int p3), .val (.long (f_pick q1 p3)), .second, .unset, .unset, .unset, .unset] [(.long q2), (.long (f_pick q1 p3)), (.long q0), (.ref b4), (.ref b4)])) rfl (by rw [hml]; rfl) (Steps.refl _) (a := b4) (argsL := [(.long q0), (.long (f_pick q1 p3)), (.long q2)]) (rest := [(.ref b4)]) (lenOf pd_2 rfl) rfl (by show 2 * 0 + _ ≤ _; exact Nat.le_of_eq rfl) (hb hby at_17) (fun _ _ => ⟨rfl, e4, (by decide : 1 + 0 ≤ _), (by decide : 3 + 0 ≤ _)⟩)
  dsimp only [Pt.U, Pt.locs, Pt.cells, Pt.slots] at X6 l6 y6 z6 st6 hQ6
  subst l6 y6 z6
  obtain ⟨rfl, N6q, K6, Fq6_0, Fq6_1, Fq6_2, Fq6_3⟩ := hQ6
  have N6 := Fr.app N2 N6q
  have k6 : Go p.tables e below (T4.setTop (mkF m 17 #[.val (.long q0), .second, .val (.long q1), .second, .val (.long q2), .second, .val (.int p3), .val (.long (f_pick q1 p3)), .second, .unset, .unset, .unset, .unset] [(.long q2), (.long (f_pick q1 p3)), (.long q0), (.ref b4), (.ref b4)])) (T6.setTop (mkF m 20 #[.val (.long q0), .second, .val (.long q1), .second, .val (.long q2), .second, .val (.int p3), .val (.long (f_pick q1 p3)), .second, .unset, .unset, .unset, .unset] [(.ref b4)])) := fun _ ht => st6.trans ht
  have Kp6 : Keep h0 T6.heap [] := Kp4.trans K6 (allS (Or.inr sz_b4) all0)
  have Z6 : n0 ≤ T6.heap.size := Nat.le_trans Z4 K6.1
  have S_N_c_6 := own_sta_keep S_N_c_4 A4 K6
  have E_N_c_6 := E_N_c_4.keep K6
  have F_N_c_6 := F_N_c_4.keep K6 (ninS ne_wN_b4 nin0)
  have A4_c_6 := A4.keep K6
  have k7 : Go p.tables e below (T6.setTop (mkF m 20 #[.val (.long q0), .second, .val (.long q1), .second, .val (.long q2), .second, .val (.int p3), .val (.long (f_pick q1 p3)), .second, .unset, .unset, .unset, .unset] [(.ref b4)])) (T6.setTop (mkF m 28 #[.val (.long q0), .second, .val (.long q1), .second, .val (.long q2), .second, .val (.int p3), .val (.long (f_pick q1 p3)), .second, .val (.ref b4), .unset, .unset, .unset] [(.int (lcmpW (f_pick q1 p3) (9223372036854775807 : Int64)))])) := by
    intro t ht
    refine XS.astore X6.here hx rfl (hb hby at_20) rfl rfl (l' := #[.val (.long q0), .second, .val (.long q1), .second, .val (.long q2), .second, .val (.int p3), .val (.long (f_pick q1 p3)), .second, .val (.ref b4), .unset, .unset, .unset]) rfl ?_
    show Steps p.tables e below (T6.setTop (mkF m 22 #[.val (.long q0), .second, .val (.long q1), .second, .val (.long q2), .second, .val (.int p3), .val (.long (f_pick q1 p3)), .second, .val (.ref b4), .unset, .unset, .unset] [])) _
    refine XS.lload X6.here hx rfl (hb hby at_22) rfl ?_
    show Steps p.tables e below (T6.setTop (mkF m 24 #[.val (.long q0), .second, .val (.long q1), .second, .val (.long q2), .second, .val (.int p3), .val (.long (f_pick q1 p3)), .second, .val (.ref b4), .unset, .unset, .unset] [(.long (f_pick q1 p3))])) _
    refine X6.ldc2Long hx hown (mvT hZ (hw _ (List.mem_of_getElem? (i := 25) rfl))) (g := (mkF m 24 #[.val (.long q0), .second, .val (.long q1), .second, .val (.long q2), .second, .val (.int p3), .val (.long (f_pick q1 p3)), .second, .val (.ref b4), .unset, .unset, .unset] [(.long (f_pick q1 p3))])) rfl (hb hby at_24) _ ?_
    show Steps p.tables e below (T6.setTop (mkF m 27 #[.val (.long q0), .second, .val (.long q1), .second, .val (.long q2), .second, .val (.int p3), .val (.long (f_pick q1 p3)), .second, .val (.ref b4), .unset, .unset, .unset] [(.long (9223372036854775807 : Int64)), (.long (f_pick q1 p3))])) _
    refine XS.lcmp X6.here hx rfl (hb hby at_27) rfl ?_
    exact ht
  have k8 : Go p.tables e below (T6.setTop (mkF m 28 #[.val (.long q0), .second, .val (.long q1), .second, .val (.long q2), .second, .val (.int p3), .val (.long (f_pick q1 p3)), .second, .val (.ref b4), .unset, .unset, .unset] [(.int (lcmpW (f_pick q1 p3) (9223372036854775807 : Int64)))])) (T6.setTop (mkF m 36 #[.val (.long q0), .second, .val (.long q1), .second, .val (.long q2), .second, .val (.int p3), .val (.long (f_pick q1 p3)), .second, .val (.ref b4), .unset, .unset, .unset] [(.int (if (f_pick q1 p3) = (9223372036854775807 : Int64) then (0 : Int32) else (1 : Int32)))])) := by
    by_cases hc9 : (f_pick q1 p3) = (9223372036854775807 : Int64)
    · have k10 : Go p.tables e below (T6.setTop (mkF m 28 #[.val (.long q0), .second, .val (.long q1), .second, .val (.long q2), .second, .val (.int p3), .val (.long (f_pick q1 p3)), .second, .val (.ref b4), .unset, .unset, .unset] [(.int (lcmpW (f_pick q1 p3) (9223372036854775807 : Int64)))])) (T6.setTop (mkF m 36 #[.val (.long q0), .second, .val (.long q1), .second, .val (.long q2), .second, .val (.int p3), .val (.long (f_pick q1 p3)), .second, .val (.ref b4), .unset, .unset, .unset] [(.int (0 : Int32))])) := by
        intro t ht
        refine XS.ifYes X6.here hx rfl (pc0 := 28) (pc' := 35) rfl (hb hby at_28) rfl ((if0 _ _).trans (teq (own_eqL hc9)).1) (by decide) (by decide) ?_
        show Steps p.tables e below (T6.setTop (mkF m 35 #[.val (.long q0), .second, .val (.long q1), .second, .val (.long q2), .second, .val (.int p3), .val (.long (f_pick q1 p3)), .second, .val (.ref b4), .unset, .unset, .unset] [])) _
        refine XS.iconst X6.here hx rfl (hb hby at_35) ?_
        exact ht
      have kk := k10
      simpa only [if_pos hc9] using kk
    · have k11 : Go p.tables e below (T6.setTop (mkF m 28 #[.val (.long q0), .second, .val (.long q1), .second, .val (.long q2), .second, .val (.int p3), .val (.long (f_pick q1 p3)), .second, .val (.ref b4), .unset, .unset, .unset] [(.int (lcmpW (f_pick q1 p3) (9223372036854775807 : Int64)))])) (T6.setTop (mkF m 36 #[.val (.long q0), .second, .val (.long q1), .second, .val (.long q2), .second, .val (.int p3), .val (.long (f_pick q1 p3)), .second, .val (.ref b4), .unset, .unset, .unset] [(.int (1 : Int32))])) := by
        intro t ht
        refine XS.ifNo X6.here hx rfl (hb hby at_28) rfl ((if0 _ _).trans (feq (own_neqL hc9)).1) ?_
        show Steps p.tables e below (T6.setTop (mkF m 31 #[.val (.long q0), .second, .val (.long q1), .second, .val (.long q2), .second, .val (.int p3), .val (.long (f_pick q1 p3)), .second, .val (.ref b4), .unset, .unset, .unset] [])) _
        refine XS.iconst X6.here hx rfl (hb hby at_31) ?_
        show Steps p.tables e below (T6.setTop (mkF m 32 #[.val (.long q0), .second, .val (.long q1), .second, .val (.long q2), .second, .val (.int p3), .val (.long (f_pick q1 p3)), .second, .val (.ref b4), .unset, .unset, .unset] [(.int (1 : Int32))])) _
        refine XS.goto X6.here hx rfl (pc0 := 32) (pc' := 36) rfl (hb hby at_32) (by decide) (by decide) ?_
        exact ht
      have kk := k11
      simpa only [if_neg hc9] using kk
  have k12 : Go p.tables e below (T6.setTop (mkF m 36 #[.val (.long q0), .second, .val (.long q1), .second, .val (.long q2), .second, .val (.int p3), .val (.long (f_pick q1 p3)), .second, .val (.ref b4), .unset, .unset, .unset] [(.int (if (f_pick q1 p3) = (9223372036854775807 : Int64) then (0 : Int32) else (1 : Int32)))])) (T6.setTop (mkF m 40 #[.val (.long q0), .second, .val (.long q1), .second, .val (.long q2), .second, .val (.int p3), .val (.long (f_pick q1 p3)), .second, .val (.ref b4), .val (.int (if (f_pick q1 p3) = (9223372036854775807 : Int64) then (0 : Int32) else (1 : Int32))), .unset, .unset] [(.ref b4)])) := by
    intro t ht
    refine XS.istore X6.here hx rfl (hb hby at_36) rfl (l' := #[.val (.long q0), .second, .val (.long q1), .second, .val (.long q2), .second, .val (.int p3), .val (.long (f_pick q1 p3)), .second, .val (.ref b4), .val (.int (if (f_pick q1 p3) = (9223372036854775807 : Int64) then (0 : Int32) else (1 : Int32))), .unset, .unset]) rfl ?_
    show Steps p.tables e below (T6.setTop (mkF m 38 #[.val (.long q0), .second, .val (.long q1), .second, .val (.long q2), .second, .val (.int p3), .val (.long (f_pick q1 p3)), .second, .val (.ref b4), .val (.int (if (f_pick q1 p3) = (9223372036854775807 : Int64) then (0 : Int32) else (1 : Int32))), .unset, .unset] [])) _
    refine XS.aload X6.here hx rfl (hb hby at_38) rfl rfl ?_
    exact ht
  obtain ⟨cq13, kq13, q13a, q13b, q13c⟩ := isOf hZ rfl Fq6_0
  obtain ⟨_, _, ⟨T13, L13, kq13, n13⟩, -, X13, ⟨Lc13, hQ13, l13, y13, z13⟩, st13⟩ := X6.virtualBack hx (y := (⟨"com/example/auspex/auspex/manager/Precedence", "waiting", "()Z"⟩ : MethodName)) (z := (⟨"com/example/auspex/auspex/manager/Precedence", "waiting", "()Z"⟩ : MethodName)) hown (mvT hZ (hw _ (List.mem_of_getElem? (i := 26) rfl))) (mvT hZ (hw _ (List.mem_of_getElem? (i := 27) rfl))) (notFace_of_selects (args := #[]) (mvT hZ (hw _ (List.mem_of_getElem? (i := 29) rfl)))) (mvT hZ (hw _ (List.mem_of_getElem? (i := 29) rfl))) (mvT hZ (hw _ (List.mem_of_getElem? (i := 28) rfl))) (by decide) (backOf (W := 0) (rm_waiting l Z a0 hw [] b4 (f_pick q1 p3) T6.heap n0 Z6 Fq6_2) hZ (hw _ (List.mem_of_getElem? (i := 30) rfl)) (hw _ (List.mem_of_getElem? (i := 7) rfl)) (by decide) (by decide)) q13a q13c (g := (mkF m 40 #[.val (.long q0), .second, .val (.long q1), .second, .val (.long q2), .second, .val (.int p3), .val (.long (f_pick q1 p3)), .second, .val (.ref b4), .val (.int (if (f_pick q1 p3) = (9223372036854775807 : Int64) then (0 : Int32) else (1 : Int32))), .unset, .unset] [(.ref b4)])) rfl (by rw [hml]; rfl) (Steps.refl _) (argsL := []) (rest := []) (lenOf pd_3 rfl) rfl (by show 2 * 0 + _ ≤ _; exact Nat.le_of_eq rfl) (hb hby at_40) (fun _ _ => ⟨rfl, rfl, (by decide : 1 + 0 ≤ _), (by decide : 3 + 0 ≤ _)⟩)
  dsimp only [Pt.U, Pt.locs, Pt.cells, Pt.slots] at X13 l13 y13 z13 st13 hQ13
  subst l13 y13 z13
  obtain ⟨rfl, N13q, eq13⟩ := hQ13
  have N13 := Fr.app N6 N13q
  have k13 : Go p.tables e below (T6.setTop (mkF m 40 #[.val (.long q0), .second, .val (.long q1), .second, .val (.long q2), .second, .val (.int p3), .val (.long (f_pick q1 p3)), .second, .val (.ref b4), .val (.int (if (f_pick q1 p3) = (9223372036854775807 : Int64) then (0 : Int32) else (1 : Int32))), .unset, .unset] [(.ref b4)])) (T13.setTop (mkF m 43 #[.val (.long q0), .second, .val (.long q1), .second, .val (.long q2), .second, .val (.int p3), .val (.long (f_pick q1 p3)), .second, .val (.ref b4), .val (.int (if (f_pick q1 p3) = (9223372036854775807 : Int64) then (0 : Int32) else (1 : Int32))), .unset, .unset] [(.int (f_waiting (f_pick q1 p3)))])) := fun _ ht => st13.trans ht
  have k14 : Go p.tables e below (T13.setTop (mkF m 43 #[.val (.long q0), .second, .val (.long q1), .second, .val (.long q2), .second, .val (.int p3), .val (.long (f_pick q1 p3)), .second, .val (.ref b4), .val (.int (if (f_pick q1 p3) = (9223372036854775807 : Int64) then (0 : Int32) else (1 : Int32))), .unset, .unset] [(.int (f_waiting (f_pick q1 p3)))])) (T13.setTop (mkF m 45 #[.val (.long q0), .second, .val (.long q1), .second, .val (.long q2), .second, .val (.int p3), .val (.long (f_pick q1 p3)), .second, .val (.ref b4), .val (.int (if (f_pick q1 p3) = (9223372036854775807 : Int64) then (0 : Int32) else (1 : Int32))), .unset, .unset] [(.int (if (f_pick q1 p3) = (9223372036854775807 : Int64) then (0 : Int32) else (1 : Int32))), (.int (f_waiting (f_pick q1 p3)))])) := by
    intro t ht
    refine XS.iload X13.here hx rfl (hb hby at_43) rfl ?_
    exact ht
  have k15 : Go p.tables e below (T13.setTop (mkF m 45 #[.val (.long q0), .second, .val (.long q1), .second, .val (.long q2), .second, .val (.int p3), .val (.long (f_pick q1 p3)), .second, .val (.ref b4), .val (.int (if (f_pick q1 p3) = (9223372036854775807 : Int64) then (0 : Int32) else (1 : Int32))), .unset, .unset] [(.int (if (f_pick q1 p3) = (9223372036854775807 : Int64) then (0 : Int32) else (1 : Int32))), (.int (f_waiting (f_pick q1 p3)))])) (T13.setTop (mkF m 53 #[.val (.long q0), .second, .val (.long q1), .second, .val (.long q2), .second, .val (.int p3), .val (.long (f_pick q1 p3)), .second, .val (.ref b4), .val (.int (if (f_pick q1 p3) = (9223372036854775807 : Int64) then (0 : Int32) else (1 : Int32))), .unset, .unset] [(.int (1 : Int32))])) := by
    by_cases hc16 : (f_pick q1 p3) = (9223372036854775807 : Int64)
    · have k17 : Go p.tables e below (T13.setTop (mkF m 45 #[.val (.long q0), .second, .val (.long q1), .second, .val (.long q2), .second, .val (.int p3), .val (.long (f_pick q1 p3)), .second, .val (.ref b4), .val (.int (if (f_pick q1 p3) = (9223372036854775807 : Int64) then (0 : Int32) else (1 : Int32))), .unset, .unset] [(.int (if (f_pick q1 p3) = (9223372036854775807 : Int64) then (0 : Int32) else (1 : Int32))), (.int (f_waiting (f_pick q1 p3)))])) (T13.setTop (mkF m 45 #[.val (.long q0), .second, .val (.long q1), .second, .val (.long q2), .second, .val (.int p3), .val (.long (f_pick q1 p3)), .second, .val (.ref b4), .val (.int (0 : Int32)), .unset, .unset] [(.int (0 : Int32)), (.int (0 : Int32))])) := by
        simp only [if_pos hc16, f_waiting]; exact fun _ h => h
      have k18 : Go p.tables e below (T13.setTop (mkF m 45 #[.val (.long q0), .second, .val (.long q1), .second, .val (.long q2), .second, .val (.int p3), .val (.long (f_pick q1 p3)), .second, .val (.ref b4), .val (.int (0 : Int32)), .unset, .unset] [(.int (0 : Int32)), (.int (0 : Int32))])) (T13.setTop (mkF m 53 #[.val (.long q0), .second, .val (.long q1), .second, .val (.long q2), .second, .val (.int p3), .val (.long (f_pick q1 p3)), .second, .val (.ref b4), .val (.int (0 : Int32)), .unset, .unset] [(.int (1 : Int32))])) := by
        intro t ht
        refine XS.icmpNo X13.here hx rfl (hb hby at_45) rfl (teq (by decide : (0 : Int32) = (0 : Int32))).2 ?_
        show Steps p.tables e below (T13.setTop (mkF m 48 #[.val (.long q0), .second, .val (.long q1), .second, .val (.long q2), .second, .val (.int p3), .val (.long (f_pick q1 p3)), .second, .val (.ref b4), .val (.int (0 : Int32)), .unset, .unset] [])) _
        refine XS.iconst X13.here hx rfl (hb hby at_48) ?_
        show Steps p.tables e below (T13.setTop (mkF m 49 #[.val (.long q0), .second, .val (.long q1), .second, .val (.long q2), .second, .val (.int p3), .val (.long (f_pick q1 p3)), .second, .val (.ref b4), .val (.int (0 : Int32)), .unset, .unset] [(.int (1 : Int32))])) _
        refine XS.goto X13.here hx rfl (pc0 := 49) (pc' := 53) rfl (hb hby at_49) (by decide) (by decide) ?_
        exact ht
      have kk := (goT k17 k18)
      simpa only [if_pos hc16] using kk
    · have k19 : Go p.tables e below (T13.setTop (mkF m 45 #[.val (.long q0), .second, .val (.long q1), .second, .val (.long q2), .second, .val (.int p3), .val (.long (f_pick q1 p3)), .second, .val (.ref b4), .val (.int (if (f_pick q1 p3) = (9223372036854775807 : Int64) then (0 : Int32) else (1 : Int32))), .unset, .unset] [(.int (if (f_pick q1 p3) = (9223372036854775807 : Int64) then (0 : Int32) else (1 : Int32))), (.int (f_waiting (f_pick q1 p3)))])) (T13.setTop (mkF m 45 #[.val (.long q0), .second, .val (.long q1), .second, .val (.long q2), .second, .val (.int p3), .val (.long (f_pick q1 p3)), .second, .val (.ref b4), .val (.int (1 : Int32)), .unset, .unset] [(.int (1 : Int32)), (.int (1 : Int32))])) := by
        simp only [if_neg hc16, f_waiting]; exact fun _ h => h
      have k20 : Go p.tables e below (T13.setTop (mkF m 45 #[.val (.long q0), .second, .val (.long q1), .second, .val (.long q2), .second, .val (.int p3), .val (.long (f_pick q1 p3)), .second, .val (.ref b4), .val (.int (1 : Int32)), .unset, .unset] [(.int (1 : Int32)), (.int (1 : Int32))])) (T13.setTop (mkF m 53 #[.val (.long q0), .second, .val (.long q1), .second, .val (.long q2), .second, .val (.int p3), .val (.long (f_pick q1 p3)), .second, .val (.ref b4), .val (.int (1 : Int32)), .unset, .unset] [(.int (1 : Int32))])) := by
        intro t ht
        refine XS.icmpNo X13.here hx rfl (hb hby at_45) rfl (teq (by decide : (1 : Int32) = (1 : Int32))).2 ?_
        show Steps p.tables e below (T13.setTop (mkF m 48 #[.val (.long q0), .second, .val (.long q1), .second, .val (.long q2), .second, .val (.int p3), .val (.long (f_pick q1 p3)), .second, .val (.ref b4), .val (.int (1 : Int32)), .unset, .unset] [])) _
        refine XS.iconst X13.here hx rfl (hb hby at_48) ?_
        show Steps p.tables e below (T13.setTop (mkF m 49 #[.val (.long q0), .second, .val (.long q1), .second, .val (.long q2), .second, .val (.int p3), .val (.long (f_pick q1 p3)), .second, .val (.ref b4), .val (.int (1 : Int32)), .unset, .unset] [(.int (1 : Int32))])) _
        refine XS.goto X13.here hx rfl (pc0 := 49) (pc' := 53) rfl (hb hby at_49) (by decide) (by decide) ?_
        exact ht
      have kk := (goT k19 k20)
      simpa only [if_neg hc16] using kk
  have k21 : Go p.tables e below (T13.setTop (mkF m 53 #[.val (.long q0), .second, .val (.long q1), .second, .val (.long q2), .second, .val (.int p3), .val (.long (f_pick q1 p3)), .second, .val (.ref b4), .val (.int (if (f_pick q1 p3) = (9223372036854775807 : Int64) then (0 : Int32) else (1 : Int32))), .unset, .unset] [(.int (1 : Int32))])) (T13.setTop (mkF m 55 #[.val (.long q0), .second, .val (.long q1), .second, .val (.long q2), .second, .val (.int p3), .val (.long (f_pick q1 p3)), .second, .val (.ref b4), .val (.int (if (f_pick q1 p3) = (9223372036854775807 : Int64) then (0 : Int32) else (1 : Int32))), .val (.int (1 : Int32)), .unset] [])) := by
    intro t ht
    refine XS.istore X13.here hx rfl (hb hby at_53) rfl (l' := #[.val (.long q0), .second, .val (.long q1), .second, .val (.long q2), .second, .val (.int p3), .val (.long (f_pick q1 p3)), .second, .val (.ref b4), .val (.int (if (f_pick q1 p3) = (9223372036854775807 : Int64) then (0 : Int32) else (1 : Int32))), .val (.int (1 : Int32)), .unset]) rfl ?_
    exact ht
  obtain ⟨T22, X22, e22, st22⟩ := getS2 X13 hx hZ hown (host := "") (Or.inl (hw _ (List.mem_of_getElem? (i := 32) rfl))) Via.refl eq13 S_N_c_6 (g := (mkF m 55 #[.val (.long q0), .second, .val (.long q1), .second, .val (.long q2), .second, .val (.int p3), .val (.long (f_pick q1 p3)), .second, .val (.ref b4), .val (.int (if (f_pick q1 p3) = (9223372036854775807 : Int64) then (0 : Int32) else (1 : Int32))), .val (.int (1 : Int32)), .unset] [])) rfl (hb hby at_55)
  have k22 : Go p.tables e below (T13.setTop (mkF m 55 #[.val (.long q0), .second, .val (.long q1), .second, .val (.long q2), .second, .val (.int p3), .val (.long (f_pick q1 p3)), .second, .val (.ref b4), .val (.int (if (f_pick q1 p3) = (9223372036854775807 : Int64) then (0 : Int32) else (1 : Int32))), .val (.int (1 : Int32)), .unset] [])) (T22.setTop (mkF m 58 #[.val (.long q0), .second, .val (.long q1), .second, .val (.long q2), .second, .val (.int p3), .val (.long (f_pick q1 p3)), .second, .val (.ref b4), .val (.int (if (f_pick q1 p3) = (9223372036854775807 : Int64) then (0 : Int32) else (1 : Int32))), .val (.int (1 : Int32)), .unset] [(.ref wN)])) := st22
  obtain ⟨cq23, kq23, q23a, q23b, q23c⟩ := isOf hZ e22 E_N_c_6
  obtain ⟨_, _, ⟨T23, L23, kq23, n23⟩, -, X23, ⟨Lc23, hQ23, l23, y23, z23⟩, st23⟩ := X22.virtualBack hx (y := (⟨"com/example/auspex/auspex/manager/Precedence", "waiting", "()Z"⟩ : MethodName)) (z := (⟨"com/example/auspex/auspex/manager/Precedence", "waiting", "()Z"⟩ : MethodName)) hown (mvT hZ (hw _ (List.mem_of_getElem? (i := 26) rfl))) (mvT hZ (hw _ (List.mem_of_getElem? (i := 27) rfl))) (notFace_of_selects (args := #[]) (mvT hZ (hw _ (List.mem_of_getElem? (i := 29) rfl)))) (mvT hZ (hw _ (List.mem_of_getElem? (i := 29) rfl))) (mvT hZ (hw _ (List.mem_of_getElem? (i := 28) rfl))) (by decide) (backOf (W := 0) (rm_waiting l Z a0 hw [] wN (9223372036854775807 : Int64) T6.heap n0 Z6 F_N_c_6) hZ (hw _ (List.mem_of_getElem? (i := 30) rfl)) (hw _ (List.mem_of_getElem? (i := 7) rfl)) (by decide) (by decide)) q23a q23c (g := (mkF m 58 #[.val (.long q0), .second, .val (.long q1), .second, .val (.long q2), .second, .val (.int p3), .val (.long (f_pick q1 p3)), .second, .val (.ref b4), .val (.int (if (f_pick q1 p3) = (9223372036854775807 : Int64) then (0 : Int32) else (1 : Int32))), .val (.int (1 : Int32)), .unset] [(.ref wN)])) rfl (by rw [hml]; rfl) (Steps.refl _) (argsL := []) (rest := []) (lenOf pd_3 rfl) rfl (by show 2 * 0 + _ ≤ _; exact Nat.le_of_eq rfl) (hb hby at_58) (fun _ _ => ⟨rfl, e22, (by decide : 1 + 0 ≤ _), (by decide : 3 + 0 ≤ _)⟩)
  dsimp only [Pt.U, Pt.locs, Pt.cells, Pt.slots] at X23 l23 y23 z23 st23 hQ23
  subst l23 y23 z23
  obtain ⟨rfl, N23q, eq23⟩ := hQ23
  have N23 := Fr.app N13 N23q
  have k23 : Go p.tables e below (T22.setTop (mkF m 58 #[.val (.long q0), .second, .val (.long q1), .second, .val (.long q2), .second, .val (.int p3), .val (.long (f_pick q1 p3)), .second, .val (.ref b4), .val (.int (if (f_pick q1 p3) = (9223372036854775807 : Int64) then (0 : Int32) else (1 : Int32))), .val (.int (1 : Int32)), .unset] [(.ref wN)])) (T23.setTop (mkF m 61 #[.val (.long q0), .second, .val (.long q1), .second, .val (.long q2), .second, .val (.int p3), .val (.long (f_pick q1 p3)), .second, .val (.ref b4), .val (.int (if (f_pick q1 p3) = (9223372036854775807 : Int64) then (0 : Int32) else (1 : Int32))), .val (.int (1 : Int32)), .unset] [(.int (f_waiting (9223372036854775807 : Int64)))])) := fun _ ht => st23.trans ht
  have k24 : Go p.tables e below (T23.setTop (mkF m 61 #[.val (.long q0), .second, .val (.long q1), .second, .val (.long q2), .second, .val (.int p3), .val (.long (f_pick q1 p3)), .second, .val (.ref b4), .val (.int (if (f_pick q1 p3) = (9223372036854775807 : Int64) then (0 : Int32) else (1 : Int32))), .val (.int (1 : Int32)), .unset] [(.int (f_waiting (9223372036854775807 : Int64)))])) (T23.setTop (mkF m 61 #[.val (.long q0), .second, .val (.long q1), .second, .val (.long q2), .second, .val (.int p3), .val (.long (f_pick q1 p3)), .second, .val (.ref b4), .val (.int (if (f_pick q1 p3) = (9223372036854775807 : Int64) then (0 : Int32) else (1 : Int32))), .val (.int (1 : Int32)), .unset] [(.int (0 : Int32))])) := by
    simp only [f_waiting, if_pos (rfl : (9223372036854775807 : Int64) = (9223372036854775807 : Int64))]; exact fun _ h => h
  have k25 : Go p.tables e below (T23.setTop (mkF m 61 #[.val (.long q0), .second, .val (.long q1), .second, .val (.long q2), .second, .val (.int p3), .val (.long (f_pick q1 p3)), .second, .val (.ref b4), .val (.int (if (f_pick q1 p3) = (9223372036854775807 : Int64) then (0 : Int32) else (1 : Int32))), .val (.int (1 : Int32)), .unset] [(.int (0 : Int32))])) (T23.setTop (mkF m 86 #[.val (.long q0), .second, .val (.long q1), .second, .val (.long q2), .second, .val (.int p3), .val (.long (f_pick q1 p3)), .second, .val (.ref b4), .val (.int (if (f_pick q1 p3) = (9223372036854775807 : Int64) then (0 : Int32) else (1 : Int32))), .val (.int (1 : Int32)), .val (.int (1 : Int32))] [(.int (1 : Int32))])) := by
    intro t ht
    refine XS.ifNo X23.here hx rfl (hb hby at_61) rfl ((if0 _ _).trans (teq (by decide : (0 : Int32) = (0 : Int32))).2) ?_
    show Steps p.tables e below (T23.setTop (mkF m 64 #[.val (.long q0), .second, .val (.long q1), .second, .val (.long q2), .second, .val (.int p3), .val (.long (f_pick q1 p3)), .second, .val (.ref b4), .val (.int (if (f_pick q1 p3) = (9223372036854775807 : Int64) then (0 : Int32) else (1 : Int32))), .val (.int (1 : Int32)), .unset] [])) _
    refine XS.iconst X23.here hx rfl (hb hby at_64) ?_
    show Steps p.tables e below (T23.setTop (mkF m 65 #[.val (.long q0), .second, .val (.long q1), .second, .val (.long q2), .second, .val (.int p3), .val (.long (f_pick q1 p3)), .second, .val (.ref b4), .val (.int (if (f_pick q1 p3) = (9223372036854775807 : Int64) then (0 : Int32) else (1 : Int32))), .val (.int (1 : Int32)), .unset] [(.int (1 : Int32))])) _
    refine XS.goto X23.here hx rfl (pc0 := 65) (pc' := 69) rfl (hb hby at_65) (by decide) (by decide) ?_
    show Steps p.tables e below (T23.setTop (mkF m 69 #[.val (.long q0), .second, .val (.long q1), .second, .val (.long q2), .second, .val (.int p3), .val (.long (f_pick q1 p3)), .second, .val (.ref b4), .val (.int (if (f_pick q1 p3) = (9223372036854775807 : Int64) then (0 : Int32) else (1 : Int32))), .val (.int (1 : Int32)), .unset] [(.int (1 : Int32))])) _
    refine XS.istore X23.here hx rfl (hb hby at_69) rfl (l' := #[.val (.long q0), .second, .val (.long q1), .second, .val (.long q2), .second, .val (.int p3), .val (.long (f_pick q1 p3)), .second, .val (.ref b4), .val (.int (if (f_pick q1 p3) = (9223372036854775807 : Int64) then (0 : Int32) else (1 : Int32))), .val (.int (1 : Int32)), .val (.int (1 : Int32))]) rfl ?_
    show Steps p.tables e below (T23.setTop (mkF m 71 #[.val (.long q0), .second, .val (.long q1), .second, .val (.long q2), .second, .val (.int p3), .val (.long (f_pick q1 p3)), .second, .val (.ref b4), .val (.int (if (f_pick q1 p3) = (9223372036854775807 : Int64) then (0 : Int32) else (1 : Int32))), .val (.int (1 : Int32)), .val (.int (1 : Int32))] [])) _
    refine XS.iload X23.here hx rfl (hb hby at_71) rfl ?_
    show Steps p.tables e below (T23.setTop (mkF m 73 #[.val (.long q0), .second, .val (.long q1), .second, .val (.long q2), .second, .val (.int p3), .val (.long (f_pick q1 p3)), .second, .val (.ref b4), .val (.int (if (f_pick q1 p3) = (9223372036854775807 : Int64) then (0 : Int32) else (1 : Int32))), .val (.int (1 : Int32)), .val (.int (1 : Int32))] [(.int (1 : Int32))])) _
    refine XS.ifNo X23.here hx rfl (hb hby at_73) rfl ((if0 _ _).trans (feq (by decide : ¬ ((1 : Int32) = (0 : Int32)))).1) ?_
    show Steps p.tables e below (T23.setTop (mkF m 76 #[.val (.long q0), .second, .val (.long q1), .second, .val (.long q2), .second, .val (.int p3), .val (.long (f_pick q1 p3)), .second, .val (.ref b4), .val (.int (if (f_pick q1 p3) = (9223372036854775807 : Int64) then (0 : Int32) else (1 : Int32))), .val (.int (1 : Int32)), .val (.int (1 : Int32))] [])) _
    refine XS.iload X23.here hx rfl (hb hby at_76) rfl ?_
    show Steps p.tables e below (T23.setTop (mkF m 78 #[.val (.long q0), .second, .val (.long q1), .second, .val (.long q2), .second, .val (.int p3), .val (.long (f_pick q1 p3)), .second, .val (.ref b4), .val (.int (if (f_pick q1 p3) = (9223372036854775807 : Int64) then (0 : Int32) else (1 : Int32))), .val (.int (1 : Int32)), .val (.int (1 : Int32))] [(.int (1 : Int32))])) _
    refine XS.ifNo X23.here hx rfl (hb hby at_78) rfl ((if0 _ _).trans (feq (by decide : ¬ ((1 : Int32) = (0 : Int32)))).1) ?_
    show Steps p.tables e below (T23.setTop (mkF m 81 #[.val (.long q0), .second, .val (.long q1), .second, .val (.long q2), .second, .val (.int p3), .val (.long (f_pick q1 p3)), .second, .val (.ref b4), .val (.int (if (f_pick q1 p3) = (9223372036854775807 : Int64) then (0 : Int32) else (1 : Int32))), .val (.int (1 : Int32)), .val (.int (1 : Int32))] [])) _
    refine XS.iconst X23.here hx rfl (hb hby at_81) ?_
    show Steps p.tables e below (T23.setTop (mkF m 82 #[.val (.long q0), .second, .val (.long q1), .second, .val (.long q2), .second, .val (.int p3), .val (.long (f_pick q1 p3)), .second, .val (.ref b4), .val (.int (if (f_pick q1 p3) = (9223372036854775807 : Int64) then (0 : Int32) else (1 : Int32))), .val (.int (1 : Int32)), .val (.int (1 : Int32))] [(.int (1 : Int32))])) _
    refine XS.goto X23.here hx rfl (pc0 := 82) (pc' := 86) rfl (hb hby at_82) (by decide) (by decide) ?_
    exact ht
  obtain ⟨fs, hr, hrun, hended, hW, hsame⟩ := X23.leave (v := some (.int (1 : Int32))) (fun h => by rw [Bd.returns] at h; cases h)
  refine ⟨_, _, pre0 _ ((goT k1 (goT k2 (goT k3 (goT k4 (goT k5 (goT k6 (goT k7 (goT k8 (goT k12 (goT k13 (goT k14 (goT k15 (goT k21 (goT k22 (goT k23 (goT k24 k25)))))))))))))))) _ (retN X23 hx (t := .boolean) Bd.returns (by simp) (hb hby at_86) hr)), hrun, hended, _, _, rfl, ?_, ⟨_, rfl⟩, hW, hsame.mono (by decide) (by decide)⟩
  show Q_law Z q0 q1 q2 p3 wN h0 n0 _ T23.heap _
  rw [eq23]
  exact ⟨rfl, N23⟩
set_option maxRecDepth 65536 in
set_option maxHeartbeats 40000000 in
theorem comes_1 {Post : Tables → Env → Array Value → State → Outcome → State → Prop} (hpost : ∀ tb e args s v u, (limb_1_1.after args s (.returned v) u = true ∧ limb_1_2.after args s (.returned v) u = true ∧ True) → FrameEnd s (.returned v) u (Jvm.fieldLocs frame_1_writes args s ++ Jvm.arrayLocs frame_1_arrays args s ++ Jvm.staticLocs frame_1_statics s) 16 128 → Post tb e args s (.returned v) u) :
    ArmFor flags0 classFile x code maxLocals ret World_1 tables_1 room_1 Calls_1 rest_1 Pre_1 Post := by
  intro l hfl _ _ p e ha hc hk s m args below hf hA hF happ hP
  obtain ⟨hcalls, hrest, hpre⟩ := hP
  obtain ⟨-, -, -, hnamed, -, -, -, hat⟩ := (Spec.applies_iff hf).mp happ
  obtain ⟨hg, hn⟩ := and_e (Cond.before_iff.mp (show (Jvm.Cond.and given_1 narrow_1).before args s = true from hpre))
  obtain ⟨hcnt, hg⟩ := and_e hg
  obtain ⟨ha0, hg⟩ := and_e hg
  obtain ⟨ha1, hg⟩ := and_e hg
  obtain ⟨ha2, hg⟩ := and_e hg
  have ha3 := hg
  obtain ⟨w0, w1, w2, w3, rfl⟩ : ∃ w0 w1 w2 w3 : Value, args = #[w0, w1, w2, w3] := by
    have hs : args.size = 4 := by simpa [Cond.value, given_1] using hcnt
    obtain ⟨L⟩ := args
    match L, hs with
    | [w0, w1, w2, w3], _ => exact ⟨w0, w1, w2, w3, rfl⟩
  have hw := fun d (hd : d ∈ tables_1) => atoms_spec (ws := Jvm.Cond.code x code maxLocals ret :: tables_1) hat d (List.mem_cons_of_mem _ hd)
  have hfit : Fit s := fun {y c} hc i hi => by
    obtain ⟨ha, rfl⟩ := Array.getElem?_eq_some_iff.mp hc
    have q := List.all_eq_true.mp ((Array.all_eq_true_iff_forall_mem.mp hF) _ (Array.getElem_mem ha)) i (List.mem_range.mpr hi)
    simpa [Array.getElem?_eq_getElem hi] using q
  obtain ⟨i0, ei0⟩ := isL_v ha0
  obtain rfl : w0 = (.long i0) := Option.some.inj ei0
  obtain ⟨i1, ei1⟩ := isL_v ha1
  obtain rfl : w1 = (.long i1) := Option.some.inj ei1
  obtain ⟨i2, ei2⟩ := isL_v ha2
  obtain rfl : w2 = (.long i2) := Option.some.inj ei2
  obtain ⟨i3, ei3⟩ := is_v ha3
  obtain rfl : w3 = (.int i3) := Option.some.inj ei3
  obtain ⟨hn0, hn⟩ := and_e hn
  have hn1 := hn
  obtain ⟨w_Precedence_NONE, ev_w_Precedence_NONE⟩ := exa_v hn0
  have S_w_Precedence_NONE := Sta.start ev_w_Precedence_NONE (Or.inr ⟨(hw _ (List.mem_of_getElem? (i := 7) rfl)), (hw _ (List.mem_of_getElem? (i := 33) rfl))⟩)
  have E_w_Precedence_NONE := Exa.start ev_w_Precedence_NONE hn0
  have F_waitingSince_w_Precedence_NONE : Fld s s.heap w_Precedence_NONE "com/example/auspex/auspex/manager/Precedence" "waitingSince" "J" (.long (9223372036854775807 : Int64)) := Fld.start ((fld_at ev_w_Precedence_NONE).symm.trans (own_eq_l hn1))
  obtain ⟨n, o, h1, h2, h3, _, L, rfl, ⟨rfl, N⟩, hq⟩ := rm_law l s _ hw tables_1 i0 i1 i2 i3 w_Precedence_NONE s.heap s.heap.size (Nat.le_refl _) S_w_Precedence_NONE E_w_Precedence_NONE F_waitingSince_w_Precedence_NONE p e ha hc hk s m _ below hf ((Spec.applies_iff_loose hf).mp happ).1 ⟨rfl, State.Warmed39.refl s, rfl⟩ trivial
  refine ⟨n, _, h1, h2, h3, hpost _ _ _ _ _ _ ⟨Cond.after_iff.mpr rfl, Cond.after_iff.mpr (eq_i res_at (Term.int_eval (1)) rfl), trivial⟩ ⟨hq.1, hq.2.1, (hq.2.2.sift fun y hy => Or.inr (N y hy)).mono (by decide) (by decide)⟩⟩
theorem main_1_1 : Claimed_1_1 := comes_1 fun _ _ _ _ _ _ h hF => ⟨h.1, hF⟩
theorem main_1_2 : Claimed_1_2 := comes_1 fun _ _ _ _ _ _ h hF => ⟨h.2.1, hF⟩
end Jvm.Pilot.@@N@@
namespace Jvm.Pilot.@@N@@
open Jvm Jvm.ClassFile Sem Op Lib Jvm.Free Jvm.Stand Jvm.Pilot.@@N@@.Jvm.D
/-! MADE BY PROGRAM (witnessworld.py) out of the Statement's table words and the real class files: 10 classes; the members and pool entries that the words name. The judged class is class 1, her method 2. -/
namespace start1
open Jvm.ClassFile
def u (s : String) : CpInfo := .utf8 (stringToUtf16 s)
/-- a pool by its gaps: so many unusable entries, then the entry; so many at the end -/
def gap : Nat → List CpInfo → List CpInfo
  | 0, r => r
  | n + 1, r => .unusable :: gap n r
def poolList (es : List (Nat × CpInfo)) (last : Nat) : List CpInfo := es.foldr (fun e r => gap e.1 (e.2 :: r)) (gap last [])
def pool (es : List (Nat × CpInfo)) (last : Nat) : Array CpInfo := ⟨poolList es last⟩
def fileOf (pool : Array CpInfo) (this : Nat) (attrs : Array Attribute := #[]) (ms : Array MethodInfo := #[]) (fl : Nat := 33) (sup : Nat := 0) (ifs : Array Nat := #[]) (fds : Array FieldInfo := #[]) : ClassFile where
  minorVersion := 0
  majorVersion := 65
  constantPool := pool
  accessFlags := fl
  thisClass := this
  superClass := sup
  interfaces := ifs
  fields := fds
  methods := ms
  attributes := attrs
def plain (name : String) (sup : Option ClassId) : Class where
  name := name
  kind := .ordinary
  loader := none
  accessFlags := 33
  super := sup
  interfaces := #[]
  cf := none
  fields := #[]
  methods := #[]
  instanceTypes := #[]
  staticTypes := #[]
  resolved := #[]
  callSites := []
  init := .initialized
  statics := none
  mirror := none

def pool0 : Array CpInfo := pool [(5, u "<init>"), (0, u "()V"), (1, .class_ 10), (1, u "java/lang/Object")] 113

def k0c0 : Code := { maxStack := 0, maxLocals := 1, code := object_method_1_code, exceptionTable := #[], attributes := #[] }
def k0m0 : Method := { name := "<init>", desc := "()V", sig := { parameters := [], returnType := none }, accessFlags := 1, code := some k0c0 }
/-- java/lang/Object -/
def k0 : Class := { plain "java/lang/Object" none with
  accessFlags := 33
  interfaces := #[]
  cf := some (fileOf pool0 8 #[] #[{ accessFlags := 1, nameIndex := 5, descriptorIndex := 6, attributes := #[] }] 33 0 #[] #[])
  fields := #[]
  methods := #[k0m0]
  instanceTypes := #[]
  staticTypes := #[]
  resolved := Array.replicate 124 none
  statics := none }

def pool1 : Array CpInfo := pool [(2, .class_ 4), (1, u "java/lang/Object"), (0, u "<init>"), (0, u "()V"), (2, .long 9223372036854775807), (1, .long 9223372036854775806), (1, .long 9223372036854775808), (1, .methodref 16 17), (0, .class_ 18), (0, .nameAndType 19 20), (0, u "com/example/auspex/auspex/manager/PrecedenceWaitingPinLaw"), (0, u "pick"), (0, u "(JI)J"), (0, .class_ 22), (0, u "com/example/auspex/auspex/manager/Precedence"), (0, .methodref 21 24), (0, .nameAndType 5 25), (0, u "(JJJ)V"), (0, .methodref 21 27), (0, .nameAndType 28 29), (0, u "waiting"), (0, u "()Z"), (0, .fieldref 21 31), (0, .nameAndType 32 33), (0, u "NONE"), (0, u "Lcom/example/auspex/auspex/manager/Precedence;"), (3, u "law"), (0, u "(JJJI)Z")] 2

def k1m0 : Method := { name := "<init>", desc := "()V", sig := { parameters := [], returnType := none }, accessFlags := 1, code := none }
def k1c1 : Code := { maxStack := 2, maxLocals := 4, code := method_2_code, exceptionTable := #[], attributes := #[] }
def k1m1 : Method := { name := "pick", desc := "(JI)J", sig := { parameters := [.long, .int], returnType := some .long }, accessFlags := 10, code := some k1c1 }
def k1c2 : Code := { maxStack := 8, maxLocals := 13, code := code, exceptionTable := #[], attributes := #[] }
def k1m2 : Method := { name := "law", desc := "(JJJI)Z", sig := { parameters := [.long, .long, .long, .int], returnType := some .boolean }, accessFlags := 9, code := some k1c2 }
/-- com/example/auspex/auspex/manager/PrecedenceWaitingPinLaw -/
def k1 : Class := { plain "com/example/auspex/auspex/manager/PrecedenceWaitingPinLaw" (some 0) with
  accessFlags := 49
  interfaces := #[]
  cf := some (fileOf pool1 16 #[] #[{ accessFlags := 1, nameIndex := 5, descriptorIndex := 6, attributes := #[] }, { accessFlags := 10, nameIndex := 19, descriptorIndex := 20, attributes := #[] }, { accessFlags := 9, nameIndex := 37, descriptorIndex := 38, attributes := #[] }] 49 2 #[] #[])
  fields := #[]
  methods := #[k1m0, k1m1, k1m2]
  instanceTypes := #[]
  staticTypes := #[]
  resolved := Array.replicate 41 none
  statics := none }

def pool2 : Array CpInfo := pool [(1, .methodref 2 3), (0, .class_ 4), (0, .nameAndType 5 6), (0, u "java/lang/Object"), (0, u "<init>"), (0, u "()V"), (0, .class_ 8), (0, u "java/lang/Record")] 13

def k2c0 : Code := { maxStack := 1, maxLocals := 1, code := jdk_30_method_1_code, exceptionTable := #[], attributes := #[] }
def k2m0 : Method := { name := "<init>", desc := "()V", sig := { parameters := [], returnType := none }, accessFlags := 4, code := some k2c0 }
/-- java/lang/Record -/
def k2 : Class := { plain "java/lang/Record" (some 0) with
  accessFlags := 1057
  interfaces := #[]
  cf := some (fileOf pool2 7 #[] #[{ accessFlags := 4, nameIndex := 5, descriptorIndex := 6, attributes := #[] }] 1057 2 #[] #[])
  fields := #[]
  methods := #[k2m0]
  instanceTypes := #[]
  staticTypes := #[]
  resolved := Array.replicate 22 none
  statics := none }

def pool3 : Array CpInfo := pool [(1, .methodref 2 3), (0, .class_ 4), (0, .nameAndType 5 6), (0, u "java/lang/Record"), (0, u "<init>"), (0, u "()V"), (0, .fieldref 8 9), (0, .class_ 10), (0, .nameAndType 11 12), (0, u "com/example/auspex/auspex/manager/Precedence"), (0, u "client"), (0, u "J"), (0, .fieldref 8 14), (0, .nameAndType 15 12), (0, u "waitingSince"), (0, .fieldref 8 17), (0, .nameAndType 18 12), (0, u "attemptNanos"), (2, .long 9223372036854775807), (15, u "(JJJ)V"), (2, u "NONE"), (0, u "Lcom/example/auspex/auspex/manager/Precedence;"), (3, u "waiting"), (0, u "()Z")] 28

def k3c0 : Code := { maxStack := 3, maxLocals := 7, code := prog_38_method_1_code, exceptionTable := #[], attributes := #[] }
def k3m0 : Method := { name := "<init>", desc := "(JJJ)V", sig := { parameters := [.long, .long, .long], returnType := none }, accessFlags := 1, code := some k3c0 }
def k3c1 : Code := { maxStack := 4, maxLocals := 1, code := prog_38_method_2_code, exceptionTable := #[], attributes := #[] }
def k3m1 : Method := { name := "waiting", desc := "()Z", sig := { parameters := [], returnType := some .boolean }, accessFlags := 1, code := some k3c1 }
/-- com/example/auspex/auspex/manager/Precedence -/
def k3 : Class := { plain "com/example/auspex/auspex/manager/Precedence" (some 2) with
  accessFlags := 49
  interfaces := #[]
  cf := some (fileOf pool3 8 #[] #[{ accessFlags := 1, nameIndex := 5, descriptorIndex := 37, attributes := #[] }, { accessFlags := 1, nameIndex := 45, descriptorIndex := 46, attributes := #[] }] 49 2 #[] #[{ accessFlags := 18, nameIndex := 11, descriptorIndex := 12, attributes := #[] }, { accessFlags := 18, nameIndex := 15, descriptorIndex := 12, attributes := #[] }, { accessFlags := 18, nameIndex := 18, descriptorIndex := 12, attributes := #[] }, { accessFlags := 25, nameIndex := 40, descriptorIndex := 41, attributes := #[] }])
  fields := #[{ name := "client", type := .long, accessFlags := 18, slot := 0, constantValue := 0 }, { name := "waitingSince", type := .long, accessFlags := 18, slot := 1, constantValue := 0 }, { name := "attemptNanos", type := .long, accessFlags := 18, slot := 2, constantValue := 0 }, { name := "NONE", type := (.object "com/example/auspex/auspex/manager/Precedence"), accessFlags := 25, slot := 0, constantValue := 0 }]
  methods := #[k3m0, k3m1]
  instanceTypes := #[.long, .long, .long]
  staticTypes := #[(.object "com/example/auspex/auspex/manager/Precedence")]
  resolved := Array.replicate 75 none
  statics := some 0 }

def pool4 : Array CpInfo := pool [(1, u "java/lang/Cloneable"), (0, .class_ 1), (0, u "java/lang/Object"), (0, .class_ 3)] 3

/-- java/lang/Cloneable -/
def k4 : Class := { plain "java/lang/Cloneable" (some 0) with
  accessFlags := 1537
  interfaces := #[]
  cf := some (fileOf pool4 2 #[] #[] 1537 4 #[] #[])
  fields := #[]
  methods := #[]
  instanceTypes := #[]
  staticTypes := #[]
  resolved := Array.replicate 8 none
  statics := none }

def pool5 : Array CpInfo := pool [(1, u "java/io/Serializable"), (0, .class_ 1), (0, u "java/lang/Object"), (0, .class_ 3)] 3

/-- java/io/Serializable -/
def k5 : Class := { plain "java/io/Serializable" (some 0) with
  accessFlags := 1537
  interfaces := #[]
  cf := some (fileOf pool5 2 #[] #[] 1537 4 #[] #[])
  fields := #[]
  methods := #[]
  instanceTypes := #[]
  staticTypes := #[]
  resolved := Array.replicate 8 none
  statics := none }

/-- the primitive byte -/
def k6 : Class := { plain "byte" none with kind := .primitive 'B', accessFlags := 0x411 }
/-- [B -/
def k7 : Class := { plain "[B" (some 0) with kind := .array 6 .byte, interfaces := #[4, 5], accessFlags := 1041 }

/-- the primitive int -/
def k8 : Class := { plain "int" none with kind := .primitive 'I', accessFlags := 0x411 }
/-- [I -/
def k9 : Class := { plain "[I" (some 0) with kind := .array 8 .int, interfaces := #[4, 5], accessFlags := 1041 }

def heap : Heap := #[{ cls := 3, slots := #[.ref 1], vm := .statics 3 },
  { cls := 3, slots := #[.long 0, .long 9223372036854775807, .long 0], vm := .none }]
def classes : Array Class := #[k0, k1, k2, k3, k4, k5, k6, k7, k8, k9]
def interned : List (Array UInt16 × Addr) := []
def slotsUsed : Nat := 4
def theMethod : MethodId := ⟨1, 2⟩
def args0 : Array Value := #[.long 5, .long 6, .long 7, .int 1]
def aboutOver (below : List Frame) : State where
  vm := { classes := classes, interned := interned.toArray }
  heap := heap
  slotsUsed := slotsUsed
  threads := #[{ frames := .invoking theMethod args0 :: below }]
def below0 : List Frame := [.native { method := ⟨0, 0⟩, args := #[] }]
def about1 : State := aboutOver below0
def p0 : Program := .bare "" "" ""
def e0 : Env := launch0.env 0 0 0
theorem w_frames : about1.frames = Frame.invoking theMethod args0 :: below0 := rfl
set_option maxRecDepth 65536 in
theorem w_args : argsFit about1.vm theMethod args0 = true := by decide +kernel
set_option maxRecDepth 65536 in
theorem w_heap : heapFits about1 = true := by decide +kernel
set_option maxRecDepth 65536 in
theorem w_runnable : about1.curStatus? = some .runnable := by decide +kernel
set_option maxRecDepth 65536 in
theorem w_alone : about1.alone = true := by decide +kernel
set_option maxRecDepth 65536 in
theorem w_named : about1.methodNamed? x = some theMethod := by decide +kernel
set_option maxRecDepth 65536 in
theorem w_hears : about1.hears theMethod below0 = true := by decide +kernel
set_option maxRecDepth 65536 in
theorem w_ripe : about1.ripe theMethod args0 below0 = true := by decide +kernel
theorem w_running : about1.status = .running := rfl
set_option maxRecDepth 65536 in
theorem w_room : about1.hasRoom e0.platform room_1 = true :=
  launch0.hasRoom_least _ room_1 (by decide +kernel) (by decide +kernel) (by decide +kernel) (by decide +kernel) (by decide +kernel) (by decide +kernel)
theorem allAtoms_all (ts : List Jvm.Cond) (a : Array Jvm.Value) (st : Jvm.State) : (allAtoms ts).before a st = ts.all (fun c => c.before a st) := by
  induction ts with
  | nil => rfl
  | cons c t ih =>
    show (Jvm.Cond.and c (allAtoms t)).before a st = _
    rw [Jvm.Cond.before_and, ih, List.all_cons]
def words1 : List Jvm.Cond := Jvm.Cond.code x code maxLocals ret :: tables_1
/-- a 'code' word, met by the world's own term for the bytes: nothing is compared byte by byte -/
theorem code_word {y : MethodName} {bytes : ByteArray} {mx : Nat} {rt : Option FieldType} {a : Array Value} {s : State} {m : MethodId} {meth : Method} {c : Code} (h1 : s.methodNamed? y = some m) (h2 : s.vm.method? m = some meth) (h3 : meth.code = some c) (h4 : c.code = bytes)
    (h5 : (c.maxLocals == mx && c.exceptionTable.isEmpty && decide (c.maxStack ≤ mostOperands) && decide (meth.sig.returnType = rt) && !meth.locks && decide (parseMethodDescriptor y.desc = some meth.sig)) = true) : (Jvm.Cond.code y bytes mx rt).before a s = true := by
  simp only [Bool.and_eq_true, beq_iff_eq, Bool.not_eq_true', decide_eq_true_eq] at h5
  obtain ⟨⟨⟨⟨⟨g1, g2⟩, g3⟩, g4⟩, g5⟩, g6⟩ := h5
  simp [Cond.before, Cond.holds, Cond.value, h1, h2, h3, h4, g1, g2, g3, g4, g5, g6]
def isCode : Jvm.Cond → Bool
  | .code _ _ _ _ => true
  | _ => false
theorem all_split {L : List Jvm.Cond} {P : Jvm.Cond → Bool} (h1 : L.all (fun c => isCode c || P c) = true) (h2 : ∀ c ∈ L.filter isCode, P c = true) : L.all P = true := by
  refine List.all_eq_true.mpr fun c hc => ?_
  have h := List.all_eq_true.mp h1 c hc
  rcases Bool.eq_false_or_eq_true (isCode c) with hi | hi
  · exact h2 c (List.mem_filter.mpr ⟨hc, hi⟩)
  · simpa [hi] using h
set_option maxRecDepth 65536 in
theorem w_c0 : (Jvm.Cond.code x code maxLocals ret).before args0 about1 = true := code_word (m := ⟨1, 2⟩) (meth := k1m2) (c := k1c2) (by decide +kernel) rfl rfl rfl (by decide +kernel)
set_option maxRecDepth 65536 in
theorem w_c1 : (Jvm.Cond.code ({ cls := "com/example/auspex/auspex/manager/PrecedenceWaitingPinLaw", name := "pick", desc := "(JI)J" } : Jvm.MethodName) method_2_code (4 : Nat) (Option.some Jvm.ClassFile.FieldType.long)).before args0 about1 = true := code_word (m := ⟨1, 1⟩) (meth := k1m1) (c := k1c1) (by decide +kernel) rfl rfl rfl (by decide +kernel)
set_option maxRecDepth 65536 in
theorem w_c2 : (Jvm.Cond.code ({ cls := "com/example/auspex/auspex/manager/Precedence", name := "<init>", desc := "(JJJ)V" } : Jvm.MethodName) prog_38_method_1_code (7 : Nat) (Option.none : Option Jvm.ClassFile.FieldType)).before args0 about1 = true := code_word (m := ⟨3, 0⟩) (meth := k3m0) (c := k3c0) (by decide +kernel) rfl rfl rfl (by decide +kernel)
set_option maxRecDepth 65536 in
theorem w_c3 : (Jvm.Cond.code ({ cls := "java/lang/Record", name := "<init>", desc := "()V" } : Jvm.MethodName) jdk_30_method_1_code (1 : Nat) (Option.none : Option Jvm.ClassFile.FieldType)).before args0 about1 = true := code_word (m := ⟨2, 0⟩) (meth := k2m0) (c := k2c0) (by decide +kernel) rfl rfl rfl (by decide +kernel)
set_option maxRecDepth 65536 in
theorem w_c4 : (Jvm.Cond.code ({ cls := "java/lang/Object", name := "<init>", desc := "()V" } : Jvm.MethodName) object_method_1_code (1 : Nat) (Option.none : Option Jvm.ClassFile.FieldType)).before args0 about1 = true := code_word (m := ⟨0, 0⟩) (meth := k0m0) (c := k0c0) (by decide +kernel) rfl rfl rfl (by decide +kernel)
set_option maxRecDepth 65536 in
theorem w_c5 : (Jvm.Cond.code ({ cls := "com/example/auspex/auspex/manager/Precedence", name := "waiting", desc := "()Z" } : Jvm.MethodName) prog_38_method_2_code (1 : Nat) (Option.some Jvm.ClassFile.FieldType.boolean)).before args0 about1 = true := code_word (m := ⟨3, 1⟩) (meth := k3m1) (c := k3c1) (by decide +kernel) rfl rfl rfl (by decide +kernel)
def codes1 : List Jvm.Cond := [Jvm.Cond.code x code maxLocals ret, Jvm.Cond.code ({ cls := "com/example/auspex/auspex/manager/PrecedenceWaitingPinLaw", name := "pick", desc := "(JI)J" } : Jvm.MethodName) method_2_code (4 : Nat) (Option.some Jvm.ClassFile.FieldType.long), Jvm.Cond.code ({ cls := "com/example/auspex/auspex/manager/Precedence", name := "<init>", desc := "(JJJ)V" } : Jvm.MethodName) prog_38_method_1_code (7 : Nat) (Option.none : Option Jvm.ClassFile.FieldType), Jvm.Cond.code ({ cls := "java/lang/Record", name := "<init>", desc := "()V" } : Jvm.MethodName) jdk_30_method_1_code (1 : Nat) (Option.none : Option Jvm.ClassFile.FieldType), Jvm.Cond.code ({ cls := "java/lang/Object", name := "<init>", desc := "()V" } : Jvm.MethodName) object_method_1_code (1 : Nat) (Option.none : Option Jvm.ClassFile.FieldType), Jvm.Cond.code ({ cls := "com/example/auspex/auspex/manager/Precedence", name := "waiting", desc := "()Z" } : Jvm.MethodName) prog_38_method_2_code (1 : Nat) (Option.some Jvm.ClassFile.FieldType.boolean)]
set_option maxRecDepth 65536 in
theorem codes_eq : words1.filter isCode = codes1 := rfl
theorem w_codes : ∀ c ∈ words1.filter isCode, c.before args0 about1 = true := by
  rw [codes_eq]
  intro c hc
  simp only [codes1, List.mem_cons, List.not_mem_nil, or_false] at hc
  rcases hc with rfl | rfl | rfl | rfl | rfl | rfl
  · exact w_c0
  · exact w_c1
  · exact w_c2
  · exact w_c3
  · exact w_c4
  · exact w_c5
set_option maxRecDepth 65536 in
theorem w_t1 : (words1.take 24).all (fun c => isCode c || c.before args0 about1) = true := by decide +kernel
set_option maxRecDepth 65536 in
theorem w_t2 : (words1.drop 24).all (fun c => isCode c || c.before args0 about1) = true := by decide +kernel
theorem w_tables : (allAtoms (Jvm.Cond.code x code maxLocals ret :: tables_1)).before args0 about1 = true := by
  rw [allAtoms_all]
  show words1.all (fun c => c.before args0 about1) = true
  refine all_split ?_ w_codes
  rw [← List.take_append_drop 24 words1, List.all_append, w_t1, w_t2]
  rfl
set_option maxRecDepth 65536 in
theorem w_case : (Jvm.Cond.and given_1 narrow_1).before args0 about1 = true := by decide +kernel
theorem w_applies : (headSpec (Jvm.Cond.code x code maxLocals ret :: tables_1) room_1).applies x e0.platform about1 = true :=
  (Spec.applies_iff w_frames).mpr ⟨w_running, w_runnable, w_alone, w_named, w_hears, w_ripe, w_room, w_tables⟩
theorem atStart : AtStart classFile x code maxLocals ret World_1 tables_1 room_1 Calls_1 rest_1 Pre_1 launch0 p0 e0 about1 theMethod args0 below0 :=
  ⟨lists_1, trivial, launch0.admits_env _ _ _, launch0.least_env, fairChoices_fair.cas, fairChoices_fair.clock, w_frames, w_args, w_heap, w_applies, trivial, trivial, w_case⟩
end start1
theorem witness_1 : WitnessClaimed_1 := ⟨start1.p0, start1.e0, start1.about1, start1.theMethod, start1.args0, start1.below0, start1.atStart⟩
end Jvm.Pilot.@@N@@
