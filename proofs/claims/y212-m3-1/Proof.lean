import JvmDerived
import JvmDerived.Pilot.@@N@@Statement
import JvmDerived.Pilot.@@N@@Code
set_option linter.unusedVariables false
set_option linter.unusedSimpArgs false
namespace Jvm.RoadKit
open Sem ClassFile Op Lib Jvm.Stand Jvm.Free Jvm.LawKit
abbrev Go (tb : Tables) (e : Env) (below : List Frame) (A B : State) : Prop := ∀ t, Steps tb e below B t → Steps tb e below A t
theorem goT {tb : Tables} {e : Env} {below : List Frame} {A B C : State} (f : Go tb e below A B) (g : Go tb e below B C) : Go tb e below A C := fun t h => f t (g t h)
section New
variable {p : Program} {l : Launch} {e : Env} {R : Room} {s : State} {m : MethodId} {args : Array Value} {below : List Frame} {meth : Method} {c : Code} {T : State} {locs : List Loc} {cells slots : Nat}
theorem retI (X : Stand p l e R s m args below meth c T locs cells slots) (hx : p.tables.exec = Jvm.exec) {pc : Nat} {Ls : Array Slot} {z : Int32} {rest : List Value} (hret : meth.sig.returnType = some .int) (hd : decode c.code pc = .ok (.ireturn, 1)) {fs : List Frame}
    (hl : ∀ (f : JFrame) (acts : List Action), f.method = m → f.locked = none → f.entered = [] → (doReturn e (T.setTop f) acts (some (.int z))).1 = T.setFrames fs) : Steps p.tables e below (T.setTop (mkF m pc Ls (.int z :: rest))) (T.setFrames fs) := by
  have hm' : T.vm.method? m = some meth := X.method'
  have hn : narrow .int (.int z) = .int z := rfl
  show Steps p.tables e below (T.setTop { method := m, pc := pc, locals := Ls, stack := _ :: rest, locked := none }) _
  jvm_step X.here [X.here.top, hx, hd, hm', hret, hn]
  first | (intro acts; rw [hl _ acts rfl rfl rfl]) | rw [hl _ _ rfl rfl rfl]
  exact Steps.refl _
theorem retJ (X : Stand p l e R s m args below meth c T locs cells slots) (hx : p.tables.exec = Jvm.exec) {pc : Nat} {Ls : Array Slot} {z : Int64} {rest : List Value} (hret : meth.sig.returnType = some .long) (hd : decode c.code pc = .ok (.lreturn, 1)) {fs : List Frame}
    (hl : ∀ (f : JFrame) (acts : List Action), f.method = m → f.locked = none → f.entered = [] → (doReturn e (T.setTop f) acts (some (.long z))).1 = T.setFrames fs) : Steps p.tables e below (T.setTop (mkF m pc Ls (.long z :: rest))) (T.setFrames fs) := by
  have hm' : T.vm.method? m = some meth := X.method'
  have hn : narrow .long (.long z) = .long z := rfl
  show Steps p.tables e below (T.setTop { method := m, pc := pc, locals := Ls, stack := _ :: rest, locked := none }) _
  jvm_step X.here [X.here.top, hx, hd, hm', hret, hn]
  first | (intro acts; rw [hl _ acts rfl rfl rfl]) | rw [hl _ _ rfl rfl rfl]
  exact Steps.refl _
theorem retR (X : Stand p l e R s m args below meth c T locs cells slots) (hx : p.tables.exec = Jvm.exec) {pc : Nat} {Ls : Array Slot} {z : Addr} {rest : List Value} {C : String} (hret : meth.sig.returnType = some (.object C)) (hd : decode c.code pc = .ok (.areturn, 1)) {fs : List Frame}
    (hl : ∀ (f : JFrame) (acts : List Action), f.method = m → f.locked = none → f.entered = [] → (doReturn e (T.setTop f) acts (some (.ref z))).1 = T.setFrames fs) : Steps p.tables e below (T.setTop (mkF m pc Ls (.ref z :: rest))) (T.setFrames fs) := by
  have hm' : T.vm.method? m = some meth := X.method'
  show Steps p.tables e below (T.setTop { method := m, pc := pc, locals := Ls, stack := _ :: rest, locked := none }) _
  jvm_step X.here [X.here.top, hx, hd, hm', hret, Value.isRef, FieldType.isReference]
  first | (intro acts; rw [hl _ acts rfl rfl rfl]) | rw [hl _ _ rfl rfl rfl]
  exact Steps.refl _
end New
theorem own_sta_keep {Z : State} {h h' : Heap} {b : Addr} {C n d K : String} {v : Value} (F : Sta Z h C n d v) (E : Exa Z h b K) (Kp : Keep h h' [b]) : Sta Z h' C n d v := by
  obtain ⟨cf, i, k, f, st, cell, h1, h2, h3, h4, h5, h6, h7⟩ := F
  obtain ⟨c2, _, g1, -, -, g4, -⟩ := E
  have ne : st ∉ [b] := fun q => by
    cases List.mem_singleton.mp q
    cases h5.symm.trans g1
    rw [g4] at h6; cases h6
  exact ⟨cf, i, k, f, st, cell, h1, h2, h3, h4, Kp.2.1 st cell h5 ne, h6, h7⟩
theorem own_mvM {Z s : State} {a0 args : Array Value} {own host : String} {index : Nat} {y : MethodName} (hZ : Z.Warmed39 s.vm) (w : (Cond.methodLinkNest own index y host).before a0 Z = true) : (Cond.methodLinkNest own index y host).before args s = true := (Cond.methodLinkNest_wide hZ w :)
theorem own_fld_ne {Z : State} {h : Heap} {a : Addr} {C n d : String} {v w : Value} (F : Fld Z h a C n d v) (G : Fld Z h a C n d w) (ne : v ≠ w) : False := by
  obtain ⟨cell, cf, k, i, f, h1, h2, -, -, -, -, h7⟩ := F
  obtain ⟨cell', cf', k', i', f', g1, g2, -, -, -, -, g7⟩ := G
  cases h1.symm.trans g1
  cases h2.symm.trans g2
  cases h7.symm.trans g7
  exact ne rfl
theorem own_eq_i {args : Array Value} {first s : State} {o : Option Outcome} {idx : List Nat} {a : Term} {z : Int32} (h : (Cond.eq a (.int z)).value args first o s idx = some true) : a.eval args first o idx s = some (.int z) := by
  cases ha : a.eval args first o idx s with
  | none => simp [Cond.value, Term.eval, ha] at h
  | some x => cases x <;> simp [Cond.value, Term.eval, ha] at h ⊢; exact h
theorem own_eq_l {args : Array Value} {first s : State} {o : Option Outcome} {idx : List Nat} {a : Term} {z : Int64} (h : (Cond.eq a (.long z)).value args first o s idx = some true) : a.eval args first o idx s = some (.long z) := by
  cases ha : a.eval args first o idx s with
  | none => simp [Cond.value, Term.eval, ha] at h
  | some x => cases x <;> simp [Cond.value, Term.eval, ha] at h ⊢; exact h
theorem own_ltL {x y : Int64} (h : x < y) : lcmpW x y < 0 := (lw_lt x y).mpr h
theorem own_nltL {x y : Int64} (h : ¬ x < y) : ¬ lcmpW x y < 0 := fun q => h ((lw_lt x y).mp q)
theorem own_gtL {x y : Int64} (h : y < x) : 0 < lcmpW x y := (lw_gt x y).mpr h
theorem own_ngtL {x y : Int64} (h : ¬ y < x) : ¬ 0 < lcmpW x y := fun q => h ((lw_gt x y).mp q)
theorem own_eqL {x y : Int64} (h : x = y) : lcmpW x y = 0 := (lw_eq x y).mpr h
theorem own_neqL {x y : Int64} (h : ¬ x = y) : ¬ lcmpW x y = 0 := fun q => h ((lw_eq x y).mp q)
end Jvm.RoadKit
namespace Jvm.Pilot.@@N@@
open Jvm Jvm.ClassFile Sem Op Lib Jvm.Free Jvm.Stand Jvm.LawKit Jvm.RoadKit Bundle Jvm.Pilot.@@N@@.Jvm.D
theorem own_and (x m : Int32) (k : Nat) (hk : k < 32) (hm : m.toBitVec.toNat = 2 ^ k - 1) : x &&& m = Int32.ofNat (x.toBitVec.toNat % 2 ^ k) := by
  apply Int32.toBitVec_inj.mp
  apply BitVec.eq_of_toNat_eq
  show (x.toBitVec &&& m.toBitVec).toNat = (x.toBitVec.toNat % 2 ^ k) % 2 ^ 32
  have hp : 2 ^ k ≤ 2 ^ 32 := Nat.pow_le_pow_right (by decide) (by omega)
  have hq : x.toBitVec.toNat % 2 ^ k < 2 ^ k := Nat.mod_lt _ (Nat.two_pow_pos k)
  rw [BitVec.toNat_and, hm, Nat.and_two_pow_sub_one_eq_mod, Nat.mod_eq_of_lt (Nat.lt_of_lt_of_le hq hp)]
theorem own_ofNat {n : Nat} (h : n < 2 ^ 31) : (Int32.ofNat n).toInt = n := Int32.toInt_ofNat_of_lt h
theorem own_rem {n k : Nat} (h : n < 2 ^ 31) (hk : 0 < k) (hk2 : k < 2 ^ 31) : Int32.ofNat n % Int32.ofNat k = Int32.ofNat (n % k) := by
  apply Int32.toInt_inj.mp
  have : n % k < k := Nat.mod_lt _ hk
  rw [Int32.toInt_mod, own_ofNat h, own_ofNat hk2, own_ofNat (by omega), Int.tmod_eq_emod_of_nonneg (by omega)]
  rfl
theorem own_bmod {n : Int} (h1 : -2 ^ 31 ≤ n) (h2 : n < 2 ^ 31) : n.bmod (2 ^ 32) = n := by
  rw [Int.bmod_def]; omega
theorem own_remE {n k : Nat} (h : n < 2 ^ 31) (hk : 0 < k) (hk2 : k < 2 ^ 31) : Int32.ofNat n - ((Int32.ofNat n / Int32.ofNat k) * Int32.ofNat k) = Int32.ofNat (n % k) := by
  apply Int32.toInt_inj.mp
  have h3 : n % k < k := Nat.mod_lt _ hk
  have h4 : n / k ≤ n := Nat.div_le_self _ _
  have h5 : (n / k) * k + n % k = n := Nat.div_add_mod' n k
  have e0 : (n : Int).tdiv (k : Int) = ((n / k : Nat) : Int) := rfl
  generalize n / k = d at *
  generalize n % k = r at *
  have e1 : (Int32.ofNat n / Int32.ofNat k).toInt = (d : Int) := by
    rw [Int32.toInt_div, own_ofNat h, own_ofNat hk2, e0]
    exact own_bmod (by omega) (by omega)
  have e2 : ((Int32.ofNat n / Int32.ofNat k) * Int32.ofNat k).toInt = ((d * k : Nat) : Int) := by
    rw [Int32.toInt_mul, e1, own_ofNat hk2, ← Int.natCast_mul]
    exact own_bmod (by omega) (by omega)
  rw [Int32.toInt_sub, e2, own_ofNat h, own_ofNat (by omega), own_bmod (by omega) (by omega)]
  omega
theorem d_pick_0 : decode method_2_code 0 = .ok (.iload_n 0, 1) := by decide +kernel
theorem d_pick_1 : decode method_2_code 1 = .ok (.ifCond .ne 7, 3) := by decide +kernel
theorem d_pick_4 : decode method_2_code 4 = .ok (.getstatic 7, 3) := by decide +kernel
theorem d_pick_7 : decode method_2_code 7 = .ok (.areturn, 1) := by decide +kernel
theorem d_pick_8 : decode method_2_code 8 = .ok (.iload_n 0, 1) := by decide +kernel
theorem d_pick_9 : decode method_2_code 9 = .ok (.iconst 1, 1) := by decide +kernel
theorem d_pick_10 : decode method_2_code 10 = .ok (.if_icmp .ne 7, 3) := by decide +kernel
theorem d_pick_13 : decode method_2_code 13 = .ok (.getstatic 13, 3) := by decide +kernel
theorem d_pick_16 : decode method_2_code 16 = .ok (.areturn, 1) := by decide +kernel
theorem d_pick_17 : decode method_2_code 17 = .ok (.iload_n 0, 1) := by decide +kernel
theorem d_pick_18 : decode method_2_code 18 = .ok (.iconst 2, 1) := by decide +kernel
theorem d_pick_19 : decode method_2_code 19 = .ok (.if_icmp .ne 7, 3) := by decide +kernel
theorem d_pick_22 : decode method_2_code 22 = .ok (.getstatic 16, 3) := by decide +kernel
theorem d_pick_25 : decode method_2_code 25 = .ok (.areturn, 1) := by decide +kernel
theorem d_pick_26 : decode method_2_code 26 = .ok (.iload_n 0, 1) := by decide +kernel
theorem d_pick_27 : decode method_2_code 27 = .ok (.iconst 3, 1) := by decide +kernel
theorem d_pick_28 : decode method_2_code 28 = .ok (.if_icmp .ne 7, 3) := by decide +kernel
theorem d_pick_31 : decode method_2_code 31 = .ok (.getstatic 19, 3) := by decide +kernel
theorem d_pick_34 : decode method_2_code 34 = .ok (.areturn, 1) := by decide +kernel
theorem d_pick_35 : decode method_2_code 35 = .ok (.getstatic 22, 3) := by decide +kernel
theorem d_pick_38 : decode method_2_code 38 = .ok (.areturn, 1) := by decide +kernel
theorem pn_0 : plainName "com/example/role_conflict_finder/roleconflictfinder/ConstraintTypeTakesLimitPinLaw" = true := by first | (simp [plainName, overriddenIn]; done) | decide +kernel
theorem ef_pick (m : MethodId) (x0 : Int32) : entryFrame m #[(.int x0)] 1 = mkF m 0 #[.val (.int x0)] [] := by first | (simp [entryFrame, mkF, argsToLocals, Value.category]; done) | rfl
def f_pick (p0 : Int32) (w0 : Addr) (w1 : Addr) (w2 : Addr) (w3 : Addr) (w4 : Addr) : Addr := (if p0 = (0 : Int32) then w0 else (if p0 = (1 : Int32) then w1 else (if p0 = (2 : Int32) then w2 else (if p0 = (3 : Int32) then w3 else w4))))
def Q_pick (Z : State) (p0 : Int32) (w0 : Addr) (w1 : Addr) (w2 : Addr) (w3 : Addr) (w4 : Addr) (h0 : Heap) (n0 : Nat) (v : Option Value) (h : Heap) (L : List Loc) : Prop := v = some (.ref (f_pick p0 w0 w1 w2 w3 w4)) ∧ Fr n0 L ∧ h = h0
set_option maxRecDepth 65536 in
set_option maxHeartbeats 40000000 in
theorem rm_pick (l : Launch) (Z : State) (a0 : Array Value) (hw : ∀ d ∈ tables_1, d.before a0 Z = true) (ws : List Jvm.Cond) (p0 : Int32) (w0 : Addr) (w1 : Addr) (w2 : Addr) (w3 : Addr) (w4 : Addr) (h0 : Heap) (n0 : Nat) (Z0 : n0 ≤ h0.size) (S_0 : Sta Z h0 "com/example/role_conflict_finder/roleconflictfinder/ConstraintType" "ROLE_EXCLUSION" "Lcom/example/role_conflict_finder/roleconflictfinder/ConstraintType;" (.ref w0)) (S_1 : Sta Z h0 "com/example/role_conflict_finder/roleconflictfinder/ConstraintType" "PERMISSION_EXCLUSION" "Lcom/example/role_conflict_finder/roleconflictfinder/ConstraintType;" (.ref w1)) (S_2 : Sta Z h0 "com/example/role_conflict_finder/roleconflictfinder/ConstraintType" "USER_EXCLUSION" "Lcom/example/role_conflict_finder/roleconflictfinder/ConstraintType;" (.ref w2)) (S_3 : Sta Z h0 "com/example/role_conflict_finder/roleconflictfinder/ConstraintType" "ROLE_CARDINALITY" "Lcom/example/role_conflict_finder/roleconflictfinder/ConstraintType;" (.ref w3)) (S_4 : Sta Z h0 "com/example/role_conflict_finder/roleconflictfinder/ConstraintType" "PERMISSION_CARDINALITY" "Lcom/example/role_conflict_finder/roleconflictfinder/ConstraintType;" (.ref w4)) :
    MetFree l (⟨"com/example/role_conflict_finder/roleconflictfinder/ConstraintTypeTakesLimitPinLaw", "pick", "(I)Lcom/example/role_conflict_finder/roleconflictfinder/ConstraintType;"⟩ : MethodName) (head1 (Jvm.Cond.code (⟨"com/example/role_conflict_finder/roleconflictfinder/ConstraintTypeTakesLimitPinLaw", "pick", "(I)Lcom/example/role_conflict_finder/roleconflictfinder/ConstraintType;"⟩ : MethodName) method_2_code 1 (some (.object "com/example/role_conflict_finder/roleconflictfinder/ConstraintType")) :: ws) ({ frames := 0, cells := 0, slots := 0, locals := 0 } : Room)) (fun a U => a = #[(.int p0)] ∧ Z.Warmed39 U.vm ∧ U.heap = h0) (fun _ _ _ _ _ => True) (fun _ U o U' => ∃ v L, o = .returned v ∧ Q_pick Z p0 w0 w1 w2 w3 w4 h0 n0 v U'.heap L ∧ FrameEnd U o U' L ({ frames := 0, cells := 0, slots := 0, locals := 0 } : Room).cells ({ frames := 0, cells := 0, slots := 0, locals := 0 } : Room).slots) := by
  refine MetFree.of_bodySF (plainFor_of_name pn_0) hisR ?_
  intro p e s m args below meth c s₁ Bd hml0 hP hK
  obtain ⟨rfl, hZ, hh⟩ := hP
  have hx := Bd.exec
  have hby := Bd.bytes
  have hml : c.maxLocals = 1 := hml0
  have hown : s.vm.findClass "com/example/role_conflict_finder/roleconflictfinder/ConstraintTypeTakesLimitPinLaw" = some m.cls := findClass_of_methodNamed Bd.named
  have hnm := (name_of_methodNamed Bd.named Bd.method).1
  have X0 : Stand p l e ({ frames := 0, cells := 0, slots := 0, locals := 0 } : Room) s m #[(.int p0)] below meth c s₁ [] 0 0 := Stand.of_body Bd
  have e0 : s₁.heap = h0 := by rw [← hh, Bd.state]; rfl
  have N0 := Fr.nil n0
  have pre0 : ∀ t, Steps p.tables e below (s₁.setTop (mkF m 0 #[.val (.int p0)] [])) t → Steps p.tables e below (s₁.setTop (entryFrame m #[(.int p0)] 1)) t := fun t k => castTop (ef_pick m p0) k
  have k1 : Go p.tables e below (s₁.setTop (mkF m 0 #[.val (.int p0)] [])) (s₁.setTop (mkF m 1 #[.val (.int p0)] [(.int p0)])) := by
    intro t ht
    refine XS.iloadN X0.here hx rfl (hb hby d_pick_0) rfl ?_
    exact ht
  by_cases hc2 : p0 = (0 : Int32)
  · have k3 : Go p.tables e below (s₁.setTop (mkF m 1 #[.val (.int p0)] [(.int p0)])) (s₁.setTop (mkF m 4 #[.val (.int p0)] [])) := by
      intro t ht
      refine XS.ifNo X0.here hx rfl (hb hby d_pick_1) rfl ((if0 _ _).trans (teq hc2).2) ?_
      exact ht
    obtain ⟨T4, X4, e4, st4⟩ := getS2 X0 hx hZ hown (host := "") (Or.inl (hw _ (List.mem_of_getElem? (i := 5) rfl))) Via.refl e0 S_0 (g := (mkF m 4 #[.val (.int p0)] [])) rfl (hb hby d_pick_4)
    have k4 : Go p.tables e below (s₁.setTop (mkF m 4 #[.val (.int p0)] [])) (T4.setTop (mkF m 7 #[.val (.int p0)] [(.ref w0)])) := st4
    obtain ⟨fs, hr, hrun, hended, hW, hsame⟩ := X4.leave (v := some (.ref w0)) (fun h => by rw [Bd.returns] at h; cases h)
    refine ⟨_, _, pre0 _ ((goT k1 (goT k3 k4)) _ (retR X4 hx Bd.returns (hb hby d_pick_7) hr)), hrun, hended, _, _, rfl, ?_, ⟨_, rfl⟩, hW, hsame.mono (by decide) (by decide)⟩
    show Q_pick Z p0 w0 w1 w2 w3 w4 h0 n0 _ T4.heap _
    rw [e4]
    exact ⟨by simp only [f_pick, if_pos hc2], N0, rfl⟩
  · have k5 : Go p.tables e below (s₁.setTop (mkF m 1 #[.val (.int p0)] [(.int p0)])) (s₁.setTop (mkF m 10 #[.val (.int p0)] [(.int (1 : Int32)), (.int p0)])) := by
      intro t ht
      refine XS.ifYes X0.here hx rfl (pc0 := 1) (pc' := 8) rfl (hb hby d_pick_1) rfl ((if0 _ _).trans (feq hc2).2) (by decide) (by decide) ?_
      show Steps p.tables e below (s₁.setTop (mkF m 8 #[.val (.int p0)] [])) _
      refine XS.iloadN X0.here hx rfl (hb hby d_pick_8) rfl ?_
      show Steps p.tables e below (s₁.setTop (mkF m 9 #[.val (.int p0)] [(.int p0)])) _
      refine XS.iconst X0.here hx rfl (hb hby d_pick_9) ?_
      exact ht
    by_cases hc6 : p0 = (1 : Int32)
    · have k7 : Go p.tables e below (s₁.setTop (mkF m 10 #[.val (.int p0)] [(.int (1 : Int32)), (.int p0)])) (s₁.setTop (mkF m 13 #[.val (.int p0)] [])) := by
        intro t ht
        refine XS.icmpNo X0.here hx rfl (hb hby d_pick_10) rfl (teq hc6).2 ?_
        exact ht
      obtain ⟨T8, X8, e8, st8⟩ := getS2 X0 hx hZ hown (host := "") (Or.inl (hw _ (List.mem_of_getElem? (i := 17) rfl))) Via.refl e0 S_1 (g := (mkF m 13 #[.val (.int p0)] [])) rfl (hb hby d_pick_13)
      have k8 : Go p.tables e below (s₁.setTop (mkF m 13 #[.val (.int p0)] [])) (T8.setTop (mkF m 16 #[.val (.int p0)] [(.ref w1)])) := st8
      obtain ⟨fs, hr, hrun, hended, hW, hsame⟩ := X8.leave (v := some (.ref w1)) (fun h => by rw [Bd.returns] at h; cases h)
      refine ⟨_, _, pre0 _ ((goT k1 (goT k5 (goT k7 k8))) _ (retR X8 hx Bd.returns (hb hby d_pick_16) hr)), hrun, hended, _, _, rfl, ?_, ⟨_, rfl⟩, hW, hsame.mono (by decide) (by decide)⟩
      show Q_pick Z p0 w0 w1 w2 w3 w4 h0 n0 _ T8.heap _
      rw [e8]
      exact ⟨by simp only [f_pick, if_neg hc2, if_pos hc6], N0, rfl⟩
    · have k9 : Go p.tables e below (s₁.setTop (mkF m 10 #[.val (.int p0)] [(.int (1 : Int32)), (.int p0)])) (s₁.setTop (mkF m 19 #[.val (.int p0)] [(.int (2 : Int32)), (.int p0)])) := by
        intro t ht
        refine XS.icmpYes X0.here hx rfl (pc0 := 10) (pc' := 17) rfl (hb hby d_pick_10) rfl (feq hc6).2 (by decide) (by decide) ?_
        show Steps p.tables e below (s₁.setTop (mkF m 17 #[.val (.int p0)] [])) _
        refine XS.iloadN X0.here hx rfl (hb hby d_pick_17) rfl ?_
        show Steps p.tables e below (s₁.setTop (mkF m 18 #[.val (.int p0)] [(.int p0)])) _
        refine XS.iconst X0.here hx rfl (hb hby d_pick_18) ?_
        exact ht
      by_cases hc10 : p0 = (2 : Int32)
      · have k11 : Go p.tables e below (s₁.setTop (mkF m 19 #[.val (.int p0)] [(.int (2 : Int32)), (.int p0)])) (s₁.setTop (mkF m 22 #[.val (.int p0)] [])) := by
          intro t ht
          refine XS.icmpNo X0.here hx rfl (hb hby d_pick_19) rfl (teq hc10).2 ?_
          exact ht
        obtain ⟨T12, X12, e12, st12⟩ := getS2 X0 hx hZ hown (host := "") (Or.inl (hw _ (List.mem_of_getElem? (i := 21) rfl))) Via.refl e0 S_2 (g := (mkF m 22 #[.val (.int p0)] [])) rfl (hb hby d_pick_22)
        have k12 : Go p.tables e below (s₁.setTop (mkF m 22 #[.val (.int p0)] [])) (T12.setTop (mkF m 25 #[.val (.int p0)] [(.ref w2)])) := st12
        obtain ⟨fs, hr, hrun, hended, hW, hsame⟩ := X12.leave (v := some (.ref w2)) (fun h => by rw [Bd.returns] at h; cases h)
        refine ⟨_, _, pre0 _ ((goT k1 (goT k5 (goT k9 (goT k11 k12)))) _ (retR X12 hx Bd.returns (hb hby d_pick_25) hr)), hrun, hended, _, _, rfl, ?_, ⟨_, rfl⟩, hW, hsame.mono (by decide) (by decide)⟩
        show Q_pick Z p0 w0 w1 w2 w3 w4 h0 n0 _ T12.heap _
        rw [e12]
        exact ⟨by simp only [f_pick, if_neg hc2, if_neg hc6, if_pos hc10], N0, rfl⟩
      · have k13 : Go p.tables e below (s₁.setTop (mkF m 19 #[.val (.int p0)] [(.int (2 : Int32)), (.int p0)])) (s₁.setTop (mkF m 28 #[.val (.int p0)] [(.int (3 : Int32)), (.int p0)])) := by
          intro t ht
          refine XS.icmpYes X0.here hx rfl (pc0 := 19) (pc' := 26) rfl (hb hby d_pick_19) rfl (feq hc10).2 (by decide) (by decide) ?_
          show Steps p.tables e below (s₁.setTop (mkF m 26 #[.val (.int p0)] [])) _
          refine XS.iloadN X0.here hx rfl (hb hby d_pick_26) rfl ?_
          show Steps p.tables e below (s₁.setTop (mkF m 27 #[.val (.int p0)] [(.int p0)])) _
          refine XS.iconst X0.here hx rfl (hb hby d_pick_27) ?_
          exact ht
        by_cases hc14 : p0 = (3 : Int32)
        · have k15 : Go p.tables e below (s₁.setTop (mkF m 28 #[.val (.int p0)] [(.int (3 : Int32)), (.int p0)])) (s₁.setTop (mkF m 31 #[.val (.int p0)] [])) := by
            intro t ht
            refine XS.icmpNo X0.here hx rfl (hb hby d_pick_28) rfl (teq hc14).2 ?_
            exact ht
          obtain ⟨T16, X16, e16, st16⟩ := getS2 X0 hx hZ hown (host := "") (Or.inl (hw _ (List.mem_of_getElem? (i := 15) rfl))) Via.refl e0 S_3 (g := (mkF m 31 #[.val (.int p0)] [])) rfl (hb hby d_pick_31)
          have k16 : Go p.tables e below (s₁.setTop (mkF m 31 #[.val (.int p0)] [])) (T16.setTop (mkF m 34 #[.val (.int p0)] [(.ref w3)])) := st16
          obtain ⟨fs, hr, hrun, hended, hW, hsame⟩ := X16.leave (v := some (.ref w3)) (fun h => by rw [Bd.returns] at h; cases h)
          refine ⟨_, _, pre0 _ ((goT k1 (goT k5 (goT k9 (goT k13 (goT k15 k16))))) _ (retR X16 hx Bd.returns (hb hby d_pick_34) hr)), hrun, hended, _, _, rfl, ?_, ⟨_, rfl⟩, hW, hsame.mono (by decide) (by decide)⟩
          show Q_pick Z p0 w0 w1 w2 w3 w4 h0 n0 _ T16.heap _
          rw [e16]
          exact ⟨by simp only [f_pick, if_neg hc2, if_neg hc6, if_neg hc10, if_pos hc14], N0, rfl⟩
        · have k17 : Go p.tables e below (s₁.setTop (mkF m 28 #[.val (.int p0)] [(.int (3 : Int32)), (.int p0)])) (s₁.setTop (mkF m 35 #[.val (.int p0)] [])) := by
            intro t ht
            refine XS.icmpYes X0.here hx rfl (pc0 := 28) (pc' := 35) rfl (hb hby d_pick_28) rfl (feq hc14).2 (by decide) (by decide) ?_
            exact ht
          obtain ⟨T18, X18, e18, st18⟩ := getS2 X0 hx hZ hown (host := "") (Or.inl (hw _ (List.mem_of_getElem? (i := 19) rfl))) Via.refl e0 S_4 (g := (mkF m 35 #[.val (.int p0)] [])) rfl (hb hby d_pick_35)
          have k18 : Go p.tables e below (s₁.setTop (mkF m 35 #[.val (.int p0)] [])) (T18.setTop (mkF m 38 #[.val (.int p0)] [(.ref w4)])) := st18
          obtain ⟨fs, hr, hrun, hended, hW, hsame⟩ := X18.leave (v := some (.ref w4)) (fun h => by rw [Bd.returns] at h; cases h)
          refine ⟨_, _, pre0 _ ((goT k1 (goT k5 (goT k9 (goT k13 (goT k17 k18))))) _ (retR X18 hx Bd.returns (hb hby d_pick_38) hr)), hrun, hended, _, _, rfl, ?_, ⟨_, rfl⟩, hW, hsame.mono (by decide) (by decide)⟩
          show Q_pick Z p0 w0 w1 w2 w3 w4 h0 n0 _ T18.heap _
          rw [e18]
          exact ⟨by simp only [f_pick, if_neg hc2, if_neg hc6, if_neg hc10, if_neg hc14], N0, rfl⟩
theorem d_takes_0 : decode prog_5_method_9_code 0 = .ok (.aload_n 0, 1) := by decide +kernel
theorem d_takes_1 : decode prog_5_method_9_code 1 = .ok (.getfield 69, 3) := by decide +kernel
theorem d_takes_4 : decode prog_5_method_9_code 4 = .ok (.ifCond .eq 7, 3) := by decide +kernel
theorem d_takes_7 : decode prog_5_method_9_code 7 = .ok (.iconst 1, 1) := by decide +kernel
theorem d_takes_8 : decode prog_5_method_9_code 8 = .ok (.goto 4, 3) := by decide +kernel
theorem d_takes_11 : decode prog_5_method_9_code 11 = .ok (.iconst 0, 1) := by decide +kernel
theorem d_takes_12 : decode prog_5_method_9_code 12 = .ok (.ireturn, 1) := by decide +kernel
theorem pn_1 : plainName "com/example/role_conflict_finder/roleconflictfinder/ConstraintType" = true := by first | (simp [plainName, overriddenIn]; done) | decide +kernel
theorem ef_takes (m : MethodId) (x0 : Addr) : entryFrame m #[(.ref x0)] 1 = mkF m 0 #[.val (.ref x0)] [] := by first | (simp [entryFrame, mkF, argsToLocals, Value.category]; done) | rfl
def f_takes (pF : Int32) : Int32 := (if pF = (0 : Int32) then (0 : Int32) else (1 : Int32))
def Q_takes (Z : State) (r0 : Addr) (pF : Int32) (h0 : Heap) (n0 : Nat) (v : Option Value) (h : Heap) (L : List Loc) : Prop := v = some (.int (f_takes pF)) ∧ Fr n0 L ∧ h = h0
set_option maxRecDepth 65536 in
set_option maxHeartbeats 40000000 in
theorem rm_takes (l : Launch) (Z : State) (a0 : Array Value) (hw : ∀ d ∈ tables_1, d.before a0 Z = true) (ws : List Jvm.Cond) (r0 : Addr) (pF : Int32) (h0 : Heap) (n0 : Nat) (Z0 : n0 ≤ h0.size) (F_min : Fld Z h0 r0 "com/example/role_conflict_finder/roleconflictfinder/ConstraintType" "minimumLimit" "I" (.int pF)) :
    MetFree l (⟨"com/example/role_conflict_finder/roleconflictfinder/ConstraintType", "takesLimit", "()Z"⟩ : MethodName) (head1 (Jvm.Cond.code (⟨"com/example/role_conflict_finder/roleconflictfinder/ConstraintType", "takesLimit", "()Z"⟩ : MethodName) prog_5_method_9_code 1 (some .boolean) :: ws) ({ frames := 0, cells := 0, slots := 0, locals := 0 } : Room)) (fun a U => a = #[(.ref r0)] ∧ Z.Warmed39 U.vm ∧ U.heap = h0) (fun _ _ _ _ _ => True) (fun _ U o U' => ∃ v L, o = .returned v ∧ Q_takes Z r0 pF h0 n0 v U'.heap L ∧ FrameEnd U o U' L ({ frames := 0, cells := 0, slots := 0, locals := 0 } : Room).cells ({ frames := 0, cells := 0, slots := 0, locals := 0 } : Room).slots) := by
  refine MetFree.of_bodySF (plainFor_of_name pn_1) hisR ?_
  intro p e s m args below meth c s₁ Bd hml0 hP hK
  obtain ⟨rfl, hZ, hh⟩ := hP
  have hx := Bd.exec
  have hby := Bd.bytes
  have hml : c.maxLocals = 1 := hml0
  have hown : s.vm.findClass "com/example/role_conflict_finder/roleconflictfinder/ConstraintType" = some m.cls := findClass_of_methodNamed Bd.named
  have hnm := (name_of_methodNamed Bd.named Bd.method).1
  have X0 : Stand p l e ({ frames := 0, cells := 0, slots := 0, locals := 0 } : Room) s m #[(.ref r0)] below meth c s₁ [] 0 0 := Stand.of_body Bd
  have e0 : s₁.heap = h0 := by rw [← hh, Bd.state]; rfl
  have N0 := Fr.nil n0
  have pre0 : ∀ t, Steps p.tables e below (s₁.setTop (mkF m 0 #[.val (.ref r0)] [])) t → Steps p.tables e below (s₁.setTop (entryFrame m #[(.ref r0)] 1)) t := fun t k => castTop (ef_takes m r0) k
  have k1 : Go p.tables e below (s₁.setTop (mkF m 0 #[.val (.ref r0)] [])) (s₁.setTop (mkF m 1 #[.val (.ref r0)] [(.ref r0)])) := by
    intro t ht
    refine XS.aloadN X0.here hx rfl (hb hby d_takes_0) rfl rfl ?_
    exact ht
  obtain ⟨T2, X2, e2, st2⟩ := getF X0 hx hZ hown (host := "") (Or.inl (hw _ (List.mem_of_getElem? (i := 13) rfl))) Via.refl e0 F_min (g := (mkF m 1 #[.val (.ref r0)] [(.ref r0)])) rfl rfl (hb hby d_takes_1)
  have k2 : Go p.tables e below (s₁.setTop (mkF m 1 #[.val (.ref r0)] [(.ref r0)])) (T2.setTop (mkF m 4 #[.val (.ref r0)] [(.int pF)])) := st2
  by_cases hc3 : pF = (0 : Int32)
  · have k4 : Go p.tables e below (T2.setTop (mkF m 4 #[.val (.ref r0)] [(.int pF)])) (T2.setTop (mkF m 12 #[.val (.ref r0)] [(.int (0 : Int32))])) := by
      intro t ht
      refine XS.ifYes X2.here hx rfl (pc0 := 4) (pc' := 11) rfl (hb hby d_takes_4) rfl ((if0 _ _).trans (teq hc3).1) (by decide) (by decide) ?_
      show Steps p.tables e below (T2.setTop (mkF m 11 #[.val (.ref r0)] [])) _
      refine XS.iconst X2.here hx rfl (hb hby d_takes_11) ?_
      exact ht
    obtain ⟨fs, hr, hrun, hended, hW, hsame⟩ := X2.leave (v := some (.int (0 : Int32))) (fun h => by rw [Bd.returns] at h; cases h)
    refine ⟨_, _, pre0 _ ((goT k1 (goT k2 k4)) _ (retN X2 hx (t := .boolean) Bd.returns (by simp) (hb hby d_takes_12) hr)), hrun, hended, _, _, rfl, ?_, ⟨_, rfl⟩, hW, hsame.mono (by decide) (by decide)⟩
    show Q_takes Z r0 pF h0 n0 _ T2.heap _
    rw [e2]
    exact ⟨by simp only [f_takes, if_pos hc3], N0, rfl⟩
  · have k5 : Go p.tables e below (T2.setTop (mkF m 4 #[.val (.ref r0)] [(.int pF)])) (T2.setTop (mkF m 12 #[.val (.ref r0)] [(.int (1 : Int32))])) := by
      intro t ht
      refine XS.ifNo X2.here hx rfl (hb hby d_takes_4) rfl ((if0 _ _).trans (feq hc3).1) ?_
      show Steps p.tables e below (T2.setTop (mkF m 7 #[.val (.ref r0)] [])) _
      refine XS.iconst X2.here hx rfl (hb hby d_takes_7) ?_
      show Steps p.tables e below (T2.setTop (mkF m 8 #[.val (.ref r0)] [(.int (1 : Int32))])) _
      refine XS.goto X2.here hx rfl (pc0 := 8) (pc' := 12) rfl (hb hby d_takes_8) (by decide) (by decide) ?_
      exact ht
    obtain ⟨fs, hr, hrun, hended, hW, hsame⟩ := X2.leave (v := some (.int (1 : Int32))) (fun h => by rw [Bd.returns] at h; cases h)
    refine ⟨_, _, pre0 _ ((goT k1 (goT k2 k5)) _ (retN X2 hx (t := .boolean) Bd.returns (by simp) (hb hby d_takes_12) hr)), hrun, hended, _, _, rfl, ?_, ⟨_, rfl⟩, hW, hsame.mono (by decide) (by decide)⟩
    show Q_takes Z r0 pF h0 n0 _ T2.heap _
    rw [e2]
    exact ⟨by simp only [f_takes, if_neg hc3], N0, rfl⟩
theorem pd_0 : parseMethodDescriptor "(I)Lcom/example/role_conflict_finder/roleconflictfinder/ConstraintType;" = some ⟨[.int], some (.object "com/example/role_conflict_finder/roleconflictfinder/ConstraintType")⟩ := by decide +kernel
theorem pd_1 : parseMethodDescriptor "()Z" = some ⟨[], some .boolean⟩ := by decide +kernel
theorem ef_law (m : MethodId) (x0 : Int32) : entryFrame m #[(.int x0)] maxLocals = mkF m 0 #[.val (.int x0), .unset, .unset, .unset] [] := by first | (simp [entryFrame, mkF, argsToLocals, Value.category, maxLocals]; done) | rfl
def Q_law (Z : State) (p0 : Int32) (w0 : Addr) (w1 : Addr) (w2 : Addr) (w3 : Addr) (w4 : Addr) (h0 : Heap) (n0 : Nat) (v : Option Value) (h : Heap) (L : List Loc) : Prop := v = some (.int (1 : Int32)) ∧ Fr n0 L
set_option maxRecDepth 65536 in
set_option maxHeartbeats 40000000 in
theorem rm_law (l : Launch) (Z : State) (a0 : Array Value) (hw : ∀ d ∈ tables_1, d.before a0 Z = true) (ws : List Jvm.Cond) (p0 : Int32) (w0 : Addr) (w1 : Addr) (w2 : Addr) (w3 : Addr) (w4 : Addr) (h0 : Heap) (n0 : Nat) (Z0 : n0 ≤ h0.size) (S_0 : Sta Z h0 "com/example/role_conflict_finder/roleconflictfinder/ConstraintType" "ROLE_EXCLUSION" "Lcom/example/role_conflict_finder/roleconflictfinder/ConstraintType;" (.ref w0)) (S_1 : Sta Z h0 "com/example/role_conflict_finder/roleconflictfinder/ConstraintType" "PERMISSION_EXCLUSION" "Lcom/example/role_conflict_finder/roleconflictfinder/ConstraintType;" (.ref w1)) (S_2 : Sta Z h0 "com/example/role_conflict_finder/roleconflictfinder/ConstraintType" "USER_EXCLUSION" "Lcom/example/role_conflict_finder/roleconflictfinder/ConstraintType;" (.ref w2)) (S_3 : Sta Z h0 "com/example/role_conflict_finder/roleconflictfinder/ConstraintType" "ROLE_CARDINALITY" "Lcom/example/role_conflict_finder/roleconflictfinder/ConstraintType;" (.ref w3)) (S_4 : Sta Z h0 "com/example/role_conflict_finder/roleconflictfinder/ConstraintType" "PERMISSION_CARDINALITY" "Lcom/example/role_conflict_finder/roleconflictfinder/ConstraintType;" (.ref w4)) (E_0 : Exa Z h0 w0 "com/example/role_conflict_finder/roleconflictfinder/ConstraintType") (E_1 : Exa Z h0 w1 "com/example/role_conflict_finder/roleconflictfinder/ConstraintType") (E_2 : Exa Z h0 w2 "com/example/role_conflict_finder/roleconflictfinder/ConstraintType") (E_3 : Exa Z h0 w3 "com/example/role_conflict_finder/roleconflictfinder/ConstraintType") (E_4 : Exa Z h0 w4 "com/example/role_conflict_finder/roleconflictfinder/ConstraintType") (F_0 : Fld Z h0 w0 "com/example/role_conflict_finder/roleconflictfinder/ConstraintType" "minimumLimit" "I" (.int (2 : Int32))) (F_1 : Fld Z h0 w1 "com/example/role_conflict_finder/roleconflictfinder/ConstraintType" "minimumLimit" "I" (.int (2 : Int32))) (F_2 : Fld Z h0 w2 "com/example/role_conflict_finder/roleconflictfinder/ConstraintType" "minimumLimit" "I" (.int (0 : Int32))) (F_3 : Fld Z h0 w3 "com/example/role_conflict_finder/roleconflictfinder/ConstraintType" "minimumLimit" "I" (.int (1 : Int32))) (F_4 : Fld Z h0 w4 "com/example/role_conflict_finder/roleconflictfinder/ConstraintType" "minimumLimit" "I" (.int (1 : Int32))) :
    MetFree l x (head1 (Jvm.Cond.code x code maxLocals ret :: ws) room_1) (fun a U => a = #[(.int p0)] ∧ Z.Warmed39 U.vm ∧ U.heap = h0) (fun _ _ _ _ _ => True) (fun _ U o U' => ∃ v L, o = .returned v ∧ Q_law Z p0 w0 w1 w2 w3 w4 h0 n0 v U'.heap L ∧ FrameEnd U o U' L room_1.cells room_1.slots) := by
  refine MetFree.of_bodySF (plainFor_of_name pn_0) hisR ?_
  intro p e s m args below meth c s₁ Bd hml0 hP hK
  obtain ⟨rfl, hZ, hh⟩ := hP
  have hx := Bd.exec
  have hby := Bd.bytes
  have hml : c.maxLocals = 4 := hml0
  have hown : s.vm.findClass "com/example/role_conflict_finder/roleconflictfinder/ConstraintTypeTakesLimitPinLaw" = some m.cls := findClass_of_methodNamed Bd.named
  have hnm := (name_of_methodNamed Bd.named Bd.method).1
  have X0 : Stand p l e room_1 s m #[(.int p0)] below meth c s₁ [] 0 0 := Stand.of_body Bd
  have e0 : s₁.heap = h0 := by rw [← hh, Bd.state]; rfl
  have N0 := Fr.nil n0
  have pre0 : ∀ t, Steps p.tables e below (s₁.setTop (mkF m 0 #[.val (.int p0), .unset, .unset, .unset] [])) t → Steps p.tables e below (s₁.setTop (entryFrame m #[(.int p0)] maxLocals)) t := fun t k => castTop (ef_law m p0) k
  have k1 : Go p.tables e below (s₁.setTop (mkF m 0 #[.val (.int p0), .unset, .unset, .unset] [])) (s₁.setTop (mkF m 8 #[.val (.int p0), .val (.int ((p0 &&& (2147483647 : Int32)) - (((p0 &&& (2147483647 : Int32)) / (5 : Int32)) * (5 : Int32)))), .unset, .unset] [(.int ((p0 &&& (2147483647 : Int32)) - (((p0 &&& (2147483647 : Int32)) / (5 : Int32)) * (5 : Int32))))])) := by
    intro t ht
    refine XS.iloadN X0.here hx rfl (hb hby at_0) rfl ?_
    show Steps p.tables e below (s₁.setTop (mkF m 1 #[.val (.int p0), .unset, .unset, .unset] [(.int p0)])) _
    refine X0.ldcInt hx hown (mvT hZ (hw _ (List.mem_of_getElem? (i := 0) rfl))) (g := (mkF m 1 #[.val (.int p0), .unset, .unset, .unset] [(.int p0)])) rfl (hb hby at_1) _ ?_
    show Steps p.tables e below (s₁.setTop (mkF m 3 #[.val (.int p0), .unset, .unset, .unset] [(.int (2147483647 : Int32)), (.int p0)])) _
    refine XS.iand X0.here hx rfl (hb hby at_3) rfl ?_
    show Steps p.tables e below (s₁.setTop (mkF m 4 #[.val (.int p0), .unset, .unset, .unset] [(.int (p0 &&& (2147483647 : Int32)))])) _
    refine XS.iconst X0.here hx rfl (hb hby at_4) ?_
    show Steps p.tables e below (s₁.setTop (mkF m 5 #[.val (.int p0), .unset, .unset, .unset] [(.int (5 : Int32)), (.int (p0 &&& (2147483647 : Int32)))])) _
    refine XS.irem X0.here hx rfl (hb hby at_5) rfl (by decide : ¬ ((5 : Int32) = 0)) ?_
    show Steps p.tables e below (s₁.setTop (mkF m 6 #[.val (.int p0), .unset, .unset, .unset] [(.int ((p0 &&& (2147483647 : Int32)) - (((p0 &&& (2147483647 : Int32)) / (5 : Int32)) * (5 : Int32))))])) _
    refine XS.istoreN X0.here hx rfl (hb hby at_6) rfl (l' := #[.val (.int p0), .val (.int ((p0 &&& (2147483647 : Int32)) - (((p0 &&& (2147483647 : Int32)) / (5 : Int32)) * (5 : Int32)))), .unset, .unset]) rfl ?_
    show Steps p.tables e below (s₁.setTop (mkF m 7 #[.val (.int p0), .val (.int ((p0 &&& (2147483647 : Int32)) - (((p0 &&& (2147483647 : Int32)) / (5 : Int32)) * (5 : Int32)))), .unset, .unset] [])) _
    refine XS.iloadN X0.here hx rfl (hb hby at_7) rfl ?_
    exact ht
  obtain ⟨_, _, ⟨T2, L2, kq2, n2⟩, -, X2, ⟨Lc2, hQ2, l2, y2, z2⟩, st2⟩ := Jvm.LawKit.callS X0 hx (y := (⟨"com/example/role_conflict_finder/roleconflictfinder/ConstraintTypeTakesLimitPinLaw", "pick", "(I)Lcom/example/role_conflict_finder/roleconflictfinder/ConstraintType;"⟩ : MethodName)) hown (mvT hZ (hw _ (List.mem_of_getElem? (i := 1) rfl))) (mvT hZ (hw _ (List.mem_of_getElem? (i := 2) rfl))) (mvT hZ (hw _ (List.mem_of_getElem? (i := 3) rfl))) (mvT hZ (hw _ (List.mem_of_getElem? (i := 4) rfl))) (by decide) (backOf (W := 0) (rm_pick l Z a0 hw [] ((p0 &&& (2147483647 : Int32)) - (((p0 &&& (2147483647 : Int32)) / (5 : Int32)) * (5 : Int32))) w0 w1 w2 w3 w4 h0 n0 Z0 S_0 S_1 S_2 S_3 S_4) hZ (hw _ (List.mem_of_getElem? (i := 4) rfl)) (hw _ (List.mem_of_getElem? (i := 3) rfl)) (by decide) (by decide)) (g := (mkF m 8 #[.val (.int p0), .val (.int ((p0 &&& (2147483647 : Int32)) - (((p0 &&& (2147483647 : Int32)) / (5 : Int32)) * (5 : Int32)))), .unset, .unset] [(.int ((p0 &&& (2147483647 : Int32)) - (((p0 &&& (2147483647 : Int32)) / (5 : Int32)) * (5 : Int32))))])) rfl (by rw [hml]; rfl) (argsL := [(.int ((p0 &&& (2147483647 : Int32)) - (((p0 &&& (2147483647 : Int32)) / (5 : Int32)) * (5 : Int32))))]) (rest := []) (lenOf pd_0 rfl) rfl (by show 2 * 0 + _ ≤ _; exact Nat.le_of_eq rfl) (hb hby at_8) (fun _ _ => ⟨rfl, e0, (by decide : 0 + 0 ≤ _), (by decide : 0 + 0 ≤ _)⟩)
  dsimp only [Pt.U, Pt.locs, Pt.cells, Pt.slots] at X2 l2 y2 z2 st2 hQ2
  subst l2 y2 z2
  obtain ⟨rfl, N2q, eq2⟩ := hQ2
  have N2 := Fr.app N0 N2q
  have k2 : Go p.tables e below (s₁.setTop (mkF m 8 #[.val (.int p0), .val (.int ((p0 &&& (2147483647 : Int32)) - (((p0 &&& (2147483647 : Int32)) / (5 : Int32)) * (5 : Int32)))), .unset, .unset] [(.int ((p0 &&& (2147483647 : Int32)) - (((p0 &&& (2147483647 : Int32)) / (5 : Int32)) * (5 : Int32))))])) (T2.setTop (mkF m 11 #[.val (.int p0), .val (.int ((p0 &&& (2147483647 : Int32)) - (((p0 &&& (2147483647 : Int32)) / (5 : Int32)) * (5 : Int32)))), .unset, .unset] [(.ref (f_pick ((p0 &&& (2147483647 : Int32)) - (((p0 &&& (2147483647 : Int32)) / (5 : Int32)) * (5 : Int32))) w0 w1 w2 w3 w4))])) := st2
  have k3 : Go p.tables e below (T2.setTop (mkF m 11 #[.val (.int p0), .val (.int ((p0 &&& (2147483647 : Int32)) - (((p0 &&& (2147483647 : Int32)) / (5 : Int32)) * (5 : Int32)))), .unset, .unset] [(.ref (f_pick ((p0 &&& (2147483647 : Int32)) - (((p0 &&& (2147483647 : Int32)) / (5 : Int32)) * (5 : Int32))) w0 w1 w2 w3 w4))])) (T2.setTop (mkF m 14 #[.val (.int p0), .val (.int ((p0 &&& (2147483647 : Int32)) - (((p0 &&& (2147483647 : Int32)) / (5 : Int32)) * (5 : Int32)))), .val (.ref (f_pick ((p0 &&& (2147483647 : Int32)) - (((p0 &&& (2147483647 : Int32)) / (5 : Int32)) * (5 : Int32))) w0 w1 w2 w3 w4)), .unset] [(.int (2 : Int32)), (.int ((p0 &&& (2147483647 : Int32)) - (((p0 &&& (2147483647 : Int32)) / (5 : Int32)) * (5 : Int32))))])) := by
    intro t ht
    refine XS.astoreN X2.here hx rfl (hb hby at_11) rfl rfl (l' := #[.val (.int p0), .val (.int ((p0 &&& (2147483647 : Int32)) - (((p0 &&& (2147483647 : Int32)) / (5 : Int32)) * (5 : Int32)))), .val (.ref (f_pick ((p0 &&& (2147483647 : Int32)) - (((p0 &&& (2147483647 : Int32)) / (5 : Int32)) * (5 : Int32))) w0 w1 w2 w3 w4)), .unset]) rfl ?_
    show Steps p.tables e below (T2.setTop (mkF m 12 #[.val (.int p0), .val (.int ((p0 &&& (2147483647 : Int32)) - (((p0 &&& (2147483647 : Int32)) / (5 : Int32)) * (5 : Int32)))), .val (.ref (f_pick ((p0 &&& (2147483647 : Int32)) - (((p0 &&& (2147483647 : Int32)) / (5 : Int32)) * (5 : Int32))) w0 w1 w2 w3 w4)), .unset] [])) _
    refine XS.iloadN X2.here hx rfl (hb hby at_12) rfl ?_
    show Steps p.tables e below (T2.setTop (mkF m 13 #[.val (.int p0), .val (.int ((p0 &&& (2147483647 : Int32)) - (((p0 &&& (2147483647 : Int32)) / (5 : Int32)) * (5 : Int32)))), .val (.ref (f_pick ((p0 &&& (2147483647 : Int32)) - (((p0 &&& (2147483647 : Int32)) / (5 : Int32)) * (5 : Int32))) w0 w1 w2 w3 w4)), .unset] [(.int ((p0 &&& (2147483647 : Int32)) - (((p0 &&& (2147483647 : Int32)) / (5 : Int32)) * (5 : Int32))))])) _
    refine XS.iconst X2.here hx rfl (hb hby at_13) ?_
    exact ht
  have k4 : Go p.tables e below (T2.setTop (mkF m 14 #[.val (.int p0), .val (.int ((p0 &&& (2147483647 : Int32)) - (((p0 &&& (2147483647 : Int32)) / (5 : Int32)) * (5 : Int32)))), .val (.ref (f_pick ((p0 &&& (2147483647 : Int32)) - (((p0 &&& (2147483647 : Int32)) / (5 : Int32)) * (5 : Int32))) w0 w1 w2 w3 w4)), .unset] [(.int (2 : Int32)), (.int ((p0 &&& (2147483647 : Int32)) - (((p0 &&& (2147483647 : Int32)) / (5 : Int32)) * (5 : Int32))))])) (T2.setTop (mkF m 22 #[.val (.int p0), .val (.int ((p0 &&& (2147483647 : Int32)) - (((p0 &&& (2147483647 : Int32)) / (5 : Int32)) * (5 : Int32)))), .val (.ref (if ((p0 &&& (2147483647 : Int32)) - (((p0 &&& (2147483647 : Int32)) / (5 : Int32)) * (5 : Int32))) = (2 : Int32) then w2 else (f_pick ((p0 &&& (2147483647 : Int32)) - (((p0 &&& (2147483647 : Int32)) / (5 : Int32)) * (5 : Int32))) w0 w1 w2 w3 w4))), .unset] [(.int (if ((p0 &&& (2147483647 : Int32)) - (((p0 &&& (2147483647 : Int32)) / (5 : Int32)) * (5 : Int32))) = (2 : Int32) then (0 : Int32) else (1 : Int32)))])) := by
    by_cases hc5 : ((p0 &&& (2147483647 : Int32)) - (((p0 &&& (2147483647 : Int32)) / (5 : Int32)) * (5 : Int32))) = (2 : Int32)
    · have k6 : Go p.tables e below (T2.setTop (mkF m 14 #[.val (.int p0), .val (.int ((p0 &&& (2147483647 : Int32)) - (((p0 &&& (2147483647 : Int32)) / (5 : Int32)) * (5 : Int32)))), .val (.ref (f_pick ((p0 &&& (2147483647 : Int32)) - (((p0 &&& (2147483647 : Int32)) / (5 : Int32)) * (5 : Int32))) w0 w1 w2 w3 w4)), .unset] [(.int (2 : Int32)), (.int ((p0 &&& (2147483647 : Int32)) - (((p0 &&& (2147483647 : Int32)) / (5 : Int32)) * (5 : Int32))))])) (T2.setTop (mkF m 14 #[.val (.int p0), .val (.int ((p0 &&& (2147483647 : Int32)) - (((p0 &&& (2147483647 : Int32)) / (5 : Int32)) * (5 : Int32)))), .val (.ref w2), .unset] [(.int (2 : Int32)), (.int ((p0 &&& (2147483647 : Int32)) - (((p0 &&& (2147483647 : Int32)) / (5 : Int32)) * (5 : Int32))))])) := by
        simp only [f_pick, if_neg (by rw [hc5]; decide : ¬ (((p0 &&& (2147483647 : Int32)) - (((p0 &&& (2147483647 : Int32)) / (5 : Int32)) * (5 : Int32))) = (0 : Int32))), if_neg (by rw [hc5]; decide : ¬ (((p0 &&& (2147483647 : Int32)) - (((p0 &&& (2147483647 : Int32)) / (5 : Int32)) * (5 : Int32))) = (1 : Int32))), if_pos hc5]; exact fun _ h => h
      have k7 : Go p.tables e below (T2.setTop (mkF m 14 #[.val (.int p0), .val (.int ((p0 &&& (2147483647 : Int32)) - (((p0 &&& (2147483647 : Int32)) / (5 : Int32)) * (5 : Int32)))), .val (.ref w2), .unset] [(.int (2 : Int32)), (.int ((p0 &&& (2147483647 : Int32)) - (((p0 &&& (2147483647 : Int32)) / (5 : Int32)) * (5 : Int32))))])) (T2.setTop (mkF m 22 #[.val (.int p0), .val (.int ((p0 &&& (2147483647 : Int32)) - (((p0 &&& (2147483647 : Int32)) / (5 : Int32)) * (5 : Int32)))), .val (.ref w2), .unset] [(.int (0 : Int32))])) := by
        intro t ht
        refine XS.icmpYes X2.here hx rfl (pc0 := 14) (pc' := 21) rfl (hb hby at_14) rfl (teq hc5).1 (by decide) (by decide) ?_
        show Steps p.tables e below (T2.setTop (mkF m 21 #[.val (.int p0), .val (.int ((p0 &&& (2147483647 : Int32)) - (((p0 &&& (2147483647 : Int32)) / (5 : Int32)) * (5 : Int32)))), .val (.ref w2), .unset] [])) _
        refine XS.iconst X2.here hx rfl (hb hby at_21) ?_
        exact ht
      have kk := (goT k6 k7)
      simpa only [if_pos hc5] using kk
    · have k8 : Go p.tables e below (T2.setTop (mkF m 14 #[.val (.int p0), .val (.int ((p0 &&& (2147483647 : Int32)) - (((p0 &&& (2147483647 : Int32)) / (5 : Int32)) * (5 : Int32)))), .val (.ref (f_pick ((p0 &&& (2147483647 : Int32)) - (((p0 &&& (2147483647 : Int32)) / (5 : Int32)) * (5 : Int32))) w0 w1 w2 w3 w4)), .unset] [(.int (2 : Int32)), (.int ((p0 &&& (2147483647 : Int32)) - (((p0 &&& (2147483647 : Int32)) / (5 : Int32)) * (5 : Int32))))])) (T2.setTop (mkF m 22 #[.val (.int p0), .val (.int ((p0 &&& (2147483647 : Int32)) - (((p0 &&& (2147483647 : Int32)) / (5 : Int32)) * (5 : Int32)))), .val (.ref (f_pick ((p0 &&& (2147483647 : Int32)) - (((p0 &&& (2147483647 : Int32)) / (5 : Int32)) * (5 : Int32))) w0 w1 w2 w3 w4)), .unset] [(.int (1 : Int32))])) := by
        intro t ht
        refine XS.icmpNo X2.here hx rfl (hb hby at_14) rfl (feq hc5).1 ?_
        show Steps p.tables e below (T2.setTop (mkF m 17 #[.val (.int p0), .val (.int ((p0 &&& (2147483647 : Int32)) - (((p0 &&& (2147483647 : Int32)) / (5 : Int32)) * (5 : Int32)))), .val (.ref (f_pick ((p0 &&& (2147483647 : Int32)) - (((p0 &&& (2147483647 : Int32)) / (5 : Int32)) * (5 : Int32))) w0 w1 w2 w3 w4)), .unset] [])) _
        refine XS.iconst X2.here hx rfl (hb hby at_17) ?_
        show Steps p.tables e below (T2.setTop (mkF m 18 #[.val (.int p0), .val (.int ((p0 &&& (2147483647 : Int32)) - (((p0 &&& (2147483647 : Int32)) / (5 : Int32)) * (5 : Int32)))), .val (.ref (f_pick ((p0 &&& (2147483647 : Int32)) - (((p0 &&& (2147483647 : Int32)) / (5 : Int32)) * (5 : Int32))) w0 w1 w2 w3 w4)), .unset] [(.int (1 : Int32))])) _
        refine XS.goto X2.here hx rfl (pc0 := 18) (pc' := 22) rfl (hb hby at_18) (by decide) (by decide) ?_
        exact ht
      have kk := k8
      simpa only [if_neg hc5] using kk
  have k9 : Go p.tables e below (T2.setTop (mkF m 22 #[.val (.int p0), .val (.int ((p0 &&& (2147483647 : Int32)) - (((p0 &&& (2147483647 : Int32)) / (5 : Int32)) * (5 : Int32)))), .val (.ref (if ((p0 &&& (2147483647 : Int32)) - (((p0 &&& (2147483647 : Int32)) / (5 : Int32)) * (5 : Int32))) = (2 : Int32) then w2 else (f_pick ((p0 &&& (2147483647 : Int32)) - (((p0 &&& (2147483647 : Int32)) / (5 : Int32)) * (5 : Int32))) w0 w1 w2 w3 w4))), .unset] [(.int (if ((p0 &&& (2147483647 : Int32)) - (((p0 &&& (2147483647 : Int32)) / (5 : Int32)) * (5 : Int32))) = (2 : Int32) then (0 : Int32) else (1 : Int32)))])) (T2.setTop (mkF m 24 #[.val (.int p0), .val (.int ((p0 &&& (2147483647 : Int32)) - (((p0 &&& (2147483647 : Int32)) / (5 : Int32)) * (5 : Int32)))), .val (.ref (if ((p0 &&& (2147483647 : Int32)) - (((p0 &&& (2147483647 : Int32)) / (5 : Int32)) * (5 : Int32))) = (2 : Int32) then w2 else (f_pick ((p0 &&& (2147483647 : Int32)) - (((p0 &&& (2147483647 : Int32)) / (5 : Int32)) * (5 : Int32))) w0 w1 w2 w3 w4))), .val (.int (if ((p0 &&& (2147483647 : Int32)) - (((p0 &&& (2147483647 : Int32)) / (5 : Int32)) * (5 : Int32))) = (2 : Int32) then (0 : Int32) else (1 : Int32)))] [(.ref (if ((p0 &&& (2147483647 : Int32)) - (((p0 &&& (2147483647 : Int32)) / (5 : Int32)) * (5 : Int32))) = (2 : Int32) then w2 else (f_pick ((p0 &&& (2147483647 : Int32)) - (((p0 &&& (2147483647 : Int32)) / (5 : Int32)) * (5 : Int32))) w0 w1 w2 w3 w4)))])) := by
    intro t ht
    refine XS.istoreN X2.here hx rfl (hb hby at_22) rfl (l' := #[.val (.int p0), .val (.int ((p0 &&& (2147483647 : Int32)) - (((p0 &&& (2147483647 : Int32)) / (5 : Int32)) * (5 : Int32)))), .val (.ref (if ((p0 &&& (2147483647 : Int32)) - (((p0 &&& (2147483647 : Int32)) / (5 : Int32)) * (5 : Int32))) = (2 : Int32) then w2 else (f_pick ((p0 &&& (2147483647 : Int32)) - (((p0 &&& (2147483647 : Int32)) / (5 : Int32)) * (5 : Int32))) w0 w1 w2 w3 w4))), .val (.int (if ((p0 &&& (2147483647 : Int32)) - (((p0 &&& (2147483647 : Int32)) / (5 : Int32)) * (5 : Int32))) = (2 : Int32) then (0 : Int32) else (1 : Int32)))]) rfl ?_
    show Steps p.tables e below (T2.setTop (mkF m 23 #[.val (.int p0), .val (.int ((p0 &&& (2147483647 : Int32)) - (((p0 &&& (2147483647 : Int32)) / (5 : Int32)) * (5 : Int32)))), .val (.ref (if ((p0 &&& (2147483647 : Int32)) - (((p0 &&& (2147483647 : Int32)) / (5 : Int32)) * (5 : Int32))) = (2 : Int32) then w2 else (f_pick ((p0 &&& (2147483647 : Int32)) - (((p0 &&& (2147483647 : Int32)) / (5 : Int32)) * (5 : Int32))) w0 w1 w2 w3 w4))), .val (.int (if ((p0 &&& (2147483647 : Int32)) - (((p0 &&& (2147483647 : Int32)) / (5 : Int32)) * (5 : Int32))) = (2 : Int32) then (0 : Int32) else (1 : Int32)))] [])) _
    refine XS.aloadN X2.here hx rfl (hb hby at_23) rfl rfl ?_
    exact ht
  by_cases hc10 : ((p0 &&& (2147483647 : Int32)) - (((p0 &&& (2147483647 : Int32)) / (5 : Int32)) * (5 : Int32))) = (2 : Int32)
  · have k11 : Go p.tables e below (T2.setTop (mkF m 24 #[.val (.int p0), .val (.int ((p0 &&& (2147483647 : Int32)) - (((p0 &&& (2147483647 : Int32)) / (5 : Int32)) * (5 : Int32)))), .val (.ref (if ((p0 &&& (2147483647 : Int32)) - (((p0 &&& (2147483647 : Int32)) / (5 : Int32)) * (5 : Int32))) = (2 : Int32) then w2 else (f_pick ((p0 &&& (2147483647 : Int32)) - (((p0 &&& (2147483647 : Int32)) / (5 : Int32)) * (5 : Int32))) w0 w1 w2 w3 w4))), .val (.int (if ((p0 &&& (2147483647 : Int32)) - (((p0 &&& (2147483647 : Int32)) / (5 : Int32)) * (5 : Int32))) = (2 : Int32) then (0 : Int32) else (1 : Int32)))] [(.ref (if ((p0 &&& (2147483647 : Int32)) - (((p0 &&& (2147483647 : Int32)) / (5 : Int32)) * (5 : Int32))) = (2 : Int32) then w2 else (f_pick ((p0 &&& (2147483647 : Int32)) - (((p0 &&& (2147483647 : Int32)) / (5 : Int32)) * (5 : Int32))) w0 w1 w2 w3 w4)))])) (T2.setTop (mkF m 24 #[.val (.int p0), .val (.int ((p0 &&& (2147483647 : Int32)) - (((p0 &&& (2147483647 : Int32)) / (5 : Int32)) * (5 : Int32)))), .val (.ref w2), .val (.int (0 : Int32))] [(.ref w2)])) := by
      simp only [if_pos hc10]; exact fun _ h => h
    obtain ⟨cq12, kq12, q12a, q12b, q12c⟩ := isOf hZ eq2 E_2
    obtain ⟨_, _, ⟨T12, L12, kq12, n12⟩, -, X12, ⟨Lc12, hQ12, l12, y12, z12⟩, st12⟩ := X2.virtualBack hx (y := (⟨"com/example/role_conflict_finder/roleconflictfinder/ConstraintType", "takesLimit", "()Z"⟩ : MethodName)) (z := (⟨"com/example/role_conflict_finder/roleconflictfinder/ConstraintType", "takesLimit", "()Z"⟩ : MethodName)) hown (mvT hZ (hw _ (List.mem_of_getElem? (i := 8) rfl))) (mvT hZ (hw _ (List.mem_of_getElem? (i := 9) rfl))) (notFace_of_selects (args := #[]) (mvT hZ (hw _ (List.mem_of_getElem? (i := 11) rfl)))) (mvT hZ (hw _ (List.mem_of_getElem? (i := 11) rfl))) (mvT hZ (hw _ (List.mem_of_getElem? (i := 10) rfl))) (by decide) (backOf (W := 0) (rm_takes l Z a0 hw [] w2 (0 : Int32) h0 n0 Z0 F_2) hZ (hw _ (List.mem_of_getElem? (i := 12) rfl)) (hw _ (List.mem_of_getElem? (i := 6) rfl)) (by decide) (by decide)) q12a q12c (g := (mkF m 24 #[.val (.int p0), .val (.int ((p0 &&& (2147483647 : Int32)) - (((p0 &&& (2147483647 : Int32)) / (5 : Int32)) * (5 : Int32)))), .val (.ref w2), .val (.int (0 : Int32))] [(.ref w2)])) rfl (by rw [hml]; rfl) (Steps.refl _) (argsL := []) (rest := []) (lenOf pd_1 rfl) rfl (by show 2 * 0 + _ ≤ _; exact Nat.le_of_eq rfl) (hb hby at_24) (fun _ _ => ⟨rfl, eq2, (by decide : 0 + 0 ≤ _), (by decide : 0 + 0 ≤ _)⟩)
    dsimp only [Pt.U, Pt.locs, Pt.cells, Pt.slots] at X12 l12 y12 z12 st12 hQ12
    subst l12 y12 z12
    obtain ⟨rfl, N12q, eq12⟩ := hQ12
    have N12 := Fr.app N2 N12q
    have k12 : Go p.tables e below (T2.setTop (mkF m 24 #[.val (.int p0), .val (.int ((p0 &&& (2147483647 : Int32)) - (((p0 &&& (2147483647 : Int32)) / (5 : Int32)) * (5 : Int32)))), .val (.ref w2), .val (.int (0 : Int32))] [(.ref w2)])) (T12.setTop (mkF m 27 #[.val (.int p0), .val (.int ((p0 &&& (2147483647 : Int32)) - (((p0 &&& (2147483647 : Int32)) / (5 : Int32)) * (5 : Int32)))), .val (.ref w2), .val (.int (0 : Int32))] [(.int (f_takes (0 : Int32)))])) := fun _ ht => st12.trans ht
    have k13 : Go p.tables e below (T12.setTop (mkF m 27 #[.val (.int p0), .val (.int ((p0 &&& (2147483647 : Int32)) - (((p0 &&& (2147483647 : Int32)) / (5 : Int32)) * (5 : Int32)))), .val (.ref w2), .val (.int (0 : Int32))] [(.int (f_takes (0 : Int32)))])) (T12.setTop (mkF m 27 #[.val (.int p0), .val (.int ((p0 &&& (2147483647 : Int32)) - (((p0 &&& (2147483647 : Int32)) / (5 : Int32)) * (5 : Int32)))), .val (.ref w2), .val (.int (0 : Int32))] [(.int (0 : Int32))])) := by
      simp only [f_takes, if_pos (rfl : (0 : Int32) = (0 : Int32))]; exact fun _ h => h
    have k14 : Go p.tables e below (T12.setTop (mkF m 27 #[.val (.int p0), .val (.int ((p0 &&& (2147483647 : Int32)) - (((p0 &&& (2147483647 : Int32)) / (5 : Int32)) * (5 : Int32)))), .val (.ref w2), .val (.int (0 : Int32))] [(.int (0 : Int32))])) (T12.setTop (mkF m 36 #[.val (.int p0), .val (.int ((p0 &&& (2147483647 : Int32)) - (((p0 &&& (2147483647 : Int32)) / (5 : Int32)) * (5 : Int32)))), .val (.ref w2), .val (.int (0 : Int32))] [(.int (1 : Int32))])) := by
      intro t ht
      refine XS.iloadN X12.here hx rfl (hb hby at_27) rfl ?_
      show Steps p.tables e below (T12.setTop (mkF m 28 #[.val (.int p0), .val (.int ((p0 &&& (2147483647 : Int32)) - (((p0 &&& (2147483647 : Int32)) / (5 : Int32)) * (5 : Int32)))), .val (.ref w2), .val (.int (0 : Int32))] [(.int (0 : Int32)), (.int (0 : Int32))])) _
      refine XS.icmpNo X12.here hx rfl (hb hby at_28) rfl (teq (by decide : (0 : Int32) = (0 : Int32))).2 ?_
      show Steps p.tables e below (T12.setTop (mkF m 31 #[.val (.int p0), .val (.int ((p0 &&& (2147483647 : Int32)) - (((p0 &&& (2147483647 : Int32)) / (5 : Int32)) * (5 : Int32)))), .val (.ref w2), .val (.int (0 : Int32))] [])) _
      refine XS.iconst X12.here hx rfl (hb hby at_31) ?_
      show Steps p.tables e below (T12.setTop (mkF m 32 #[.val (.int p0), .val (.int ((p0 &&& (2147483647 : Int32)) - (((p0 &&& (2147483647 : Int32)) / (5 : Int32)) * (5 : Int32)))), .val (.ref w2), .val (.int (0 : Int32))] [(.int (1 : Int32))])) _
      refine XS.goto X12.here hx rfl (pc0 := 32) (pc' := 36) rfl (hb hby at_32) (by decide) (by decide) ?_
      exact ht
    obtain ⟨fs, hr, hrun, hended, hW, hsame⟩ := X12.leave (v := some (.int (1 : Int32))) (fun h => by rw [Bd.returns] at h; cases h)
    refine ⟨_, _, pre0 _ ((goT k1 (goT k2 (goT k3 (goT k4 (goT k9 (goT k11 (goT k12 (goT k13 k14)))))))) _ (retN X12 hx (t := .boolean) Bd.returns (by simp) (hb hby at_36) hr)), hrun, hended, _, _, rfl, ?_, ⟨_, rfl⟩, hW, hsame.mono (by decide) (by decide)⟩
    show Q_law Z p0 w0 w1 w2 w3 w4 h0 n0 _ T12.heap _
    rw [eq12]
    exact ⟨rfl, N12⟩
  · have k15 : Go p.tables e below (T2.setTop (mkF m 24 #[.val (.int p0), .val (.int ((p0 &&& (2147483647 : Int32)) - (((p0 &&& (2147483647 : Int32)) / (5 : Int32)) * (5 : Int32)))), .val (.ref (if ((p0 &&& (2147483647 : Int32)) - (((p0 &&& (2147483647 : Int32)) / (5 : Int32)) * (5 : Int32))) = (2 : Int32) then w2 else (f_pick ((p0 &&& (2147483647 : Int32)) - (((p0 &&& (2147483647 : Int32)) / (5 : Int32)) * (5 : Int32))) w0 w1 w2 w3 w4))), .val (.int (if ((p0 &&& (2147483647 : Int32)) - (((p0 &&& (2147483647 : Int32)) / (5 : Int32)) * (5 : Int32))) = (2 : Int32) then (0 : Int32) else (1 : Int32)))] [(.ref (if ((p0 &&& (2147483647 : Int32)) - (((p0 &&& (2147483647 : Int32)) / (5 : Int32)) * (5 : Int32))) = (2 : Int32) then w2 else (f_pick ((p0 &&& (2147483647 : Int32)) - (((p0 &&& (2147483647 : Int32)) / (5 : Int32)) * (5 : Int32))) w0 w1 w2 w3 w4)))])) (T2.setTop (mkF m 24 #[.val (.int p0), .val (.int ((p0 &&& (2147483647 : Int32)) - (((p0 &&& (2147483647 : Int32)) / (5 : Int32)) * (5 : Int32)))), .val (.ref (f_pick ((p0 &&& (2147483647 : Int32)) - (((p0 &&& (2147483647 : Int32)) / (5 : Int32)) * (5 : Int32))) w0 w1 w2 w3 w4)), .val (.int (1 : Int32))] [(.ref (f_pick ((p0 &&& (2147483647 : Int32)) - (((p0 &&& (2147483647 : Int32)) / (5 : Int32)) * (5 : Int32))) w0 w1 w2 w3 w4))])) := by
      simp only [if_neg hc10]; exact fun _ h => h
    by_cases hc16 : ((p0 &&& (2147483647 : Int32)) - (((p0 &&& (2147483647 : Int32)) / (5 : Int32)) * (5 : Int32))) = (0 : Int32)
    · have k17 : Go p.tables e below (T2.setTop (mkF m 24 #[.val (.int p0), .val (.int ((p0 &&& (2147483647 : Int32)) - (((p0 &&& (2147483647 : Int32)) / (5 : Int32)) * (5 : Int32)))), .val (.ref (f_pick ((p0 &&& (2147483647 : Int32)) - (((p0 &&& (2147483647 : Int32)) / (5 : Int32)) * (5 : Int32))) w0 w1 w2 w3 w4)), .val (.int (1 : Int32))] [(.ref (f_pick ((p0 &&& (2147483647 : Int32)) - (((p0 &&& (2147483647 : Int32)) / (5 : Int32)) * (5 : Int32))) w0 w1 w2 w3 w4))])) (T2.setTop (mkF m 24 #[.val (.int p0), .val (.int ((p0 &&& (2147483647 : Int32)) - (((p0 &&& (2147483647 : Int32)) / (5 : Int32)) * (5 : Int32)))), .val (.ref w0), .val (.int (1 : Int32))] [(.ref w0)])) := by
        simp only [f_pick, if_pos hc16]; exact fun _ h => h
      obtain ⟨cq18, kq18, q18a, q18b, q18c⟩ := isOf hZ eq2 E_0
      obtain ⟨_, _, ⟨T18, L18, kq18, n18⟩, -, X18, ⟨Lc18, hQ18, l18, y18, z18⟩, st18⟩ := X2.virtualBack hx (y := (⟨"com/example/role_conflict_finder/roleconflictfinder/ConstraintType", "takesLimit", "()Z"⟩ : MethodName)) (z := (⟨"com/example/role_conflict_finder/roleconflictfinder/ConstraintType", "takesLimit", "()Z"⟩ : MethodName)) hown (mvT hZ (hw _ (List.mem_of_getElem? (i := 8) rfl))) (mvT hZ (hw _ (List.mem_of_getElem? (i := 9) rfl))) (notFace_of_selects (args := #[]) (mvT hZ (hw _ (List.mem_of_getElem? (i := 11) rfl)))) (mvT hZ (hw _ (List.mem_of_getElem? (i := 11) rfl))) (mvT hZ (hw _ (List.mem_of_getElem? (i := 10) rfl))) (by decide) (backOf (W := 0) (rm_takes l Z a0 hw [] w0 (2 : Int32) h0 n0 Z0 F_0) hZ (hw _ (List.mem_of_getElem? (i := 12) rfl)) (hw _ (List.mem_of_getElem? (i := 6) rfl)) (by decide) (by decide)) q18a q18c (g := (mkF m 24 #[.val (.int p0), .val (.int ((p0 &&& (2147483647 : Int32)) - (((p0 &&& (2147483647 : Int32)) / (5 : Int32)) * (5 : Int32)))), .val (.ref w0), .val (.int (1 : Int32))] [(.ref w0)])) rfl (by rw [hml]; rfl) (Steps.refl _) (argsL := []) (rest := []) (lenOf pd_1 rfl) rfl (by show 2 * 0 + _ ≤ _; exact Nat.le_of_eq rfl) (hb hby at_24) (fun _ _ => ⟨rfl, eq2, (by decide : 0 + 0 ≤ _), (by decide : 0 + 0 ≤ _)⟩)
      dsimp only [Pt.U, Pt.locs, Pt.cells, Pt.slots] at X18 l18 y18 z18 st18 hQ18
      subst l18 y18 z18
      obtain ⟨rfl, N18q, eq18⟩ := hQ18
      have N18 := Fr.app N2 N18q
      have k18 : Go p.tables e below (T2.setTop (mkF m 24 #[.val (.int p0), .val (.int ((p0 &&& (2147483647 : Int32)) - (((p0 &&& (2147483647 : Int32)) / (5 : Int32)) * (5 : Int32)))), .val (.ref w0), .val (.int (1 : Int32))] [(.ref w0)])) (T18.setTop (mkF m 27 #[.val (.int p0), .val (.int ((p0 &&& (2147483647 : Int32)) - (((p0 &&& (2147483647 : Int32)) / (5 : Int32)) * (5 : Int32)))), .val (.ref w0), .val (.int (1 : Int32))] [(.int (f_takes (2 : Int32)))])) := fun _ ht => st18.trans ht
      have k19 : Go p.tables e below (T18.setTop (mkF m 27 #[.val (.int p0), .val (.int ((p0 &&& (2147483647 : Int32)) - (((p0 &&& (2147483647 : Int32)) / (5 : Int32)) * (5 : Int32)))), .val (.ref w0), .val (.int (1 : Int32))] [(.int (f_takes (2 : Int32)))])) (T18.setTop (mkF m 27 #[.val (.int p0), .val (.int ((p0 &&& (2147483647 : Int32)) - (((p0 &&& (2147483647 : Int32)) / (5 : Int32)) * (5 : Int32)))), .val (.ref w0), .val (.int (1 : Int32))] [(.int (1 : Int32))])) := by
        simp only [f_takes, if_neg (by decide : ¬ ((2 : Int32) = (0 : Int32)))]; exact fun _ h => h
      have k20 : Go p.tables e below (T18.setTop (mkF m 27 #[.val (.int p0), .val (.int ((p0 &&& (2147483647 : Int32)) - (((p0 &&& (2147483647 : Int32)) / (5 : Int32)) * (5 : Int32)))), .val (.ref w0), .val (.int (1 : Int32))] [(.int (1 : Int32))])) (T18.setTop (mkF m 36 #[.val (.int p0), .val (.int ((p0 &&& (2147483647 : Int32)) - (((p0 &&& (2147483647 : Int32)) / (5 : Int32)) * (5 : Int32)))), .val (.ref w0), .val (.int (1 : Int32))] [(.int (1 : Int32))])) := by
        intro t ht
        refine XS.iloadN X18.here hx rfl (hb hby at_27) rfl ?_
        show Steps p.tables e below (T18.setTop (mkF m 28 #[.val (.int p0), .val (.int ((p0 &&& (2147483647 : Int32)) - (((p0 &&& (2147483647 : Int32)) / (5 : Int32)) * (5 : Int32)))), .val (.ref w0), .val (.int (1 : Int32))] [(.int (1 : Int32)), (.int (1 : Int32))])) _
        refine XS.icmpNo X18.here hx rfl (hb hby at_28) rfl (teq (by decide : (1 : Int32) = (1 : Int32))).2 ?_
        show Steps p.tables e below (T18.setTop (mkF m 31 #[.val (.int p0), .val (.int ((p0 &&& (2147483647 : Int32)) - (((p0 &&& (2147483647 : Int32)) / (5 : Int32)) * (5 : Int32)))), .val (.ref w0), .val (.int (1 : Int32))] [])) _
        refine XS.iconst X18.here hx rfl (hb hby at_31) ?_
        show Steps p.tables e below (T18.setTop (mkF m 32 #[.val (.int p0), .val (.int ((p0 &&& (2147483647 : Int32)) - (((p0 &&& (2147483647 : Int32)) / (5 : Int32)) * (5 : Int32)))), .val (.ref w0), .val (.int (1 : Int32))] [(.int (1 : Int32))])) _
        refine XS.goto X18.here hx rfl (pc0 := 32) (pc' := 36) rfl (hb hby at_32) (by decide) (by decide) ?_
        exact ht
      obtain ⟨fs, hr, hrun, hended, hW, hsame⟩ := X18.leave (v := some (.int (1 : Int32))) (fun h => by rw [Bd.returns] at h; cases h)
      refine ⟨_, _, pre0 _ ((goT k1 (goT k2 (goT k3 (goT k4 (goT k9 (goT k15 (goT k17 (goT k18 (goT k19 k20))))))))) _ (retN X18 hx (t := .boolean) Bd.returns (by simp) (hb hby at_36) hr)), hrun, hended, _, _, rfl, ?_, ⟨_, rfl⟩, hW, hsame.mono (by decide) (by decide)⟩
      show Q_law Z p0 w0 w1 w2 w3 w4 h0 n0 _ T18.heap _
      rw [eq18]
      exact ⟨rfl, N18⟩
    · have k21 : Go p.tables e below (T2.setTop (mkF m 24 #[.val (.int p0), .val (.int ((p0 &&& (2147483647 : Int32)) - (((p0 &&& (2147483647 : Int32)) / (5 : Int32)) * (5 : Int32)))), .val (.ref (f_pick ((p0 &&& (2147483647 : Int32)) - (((p0 &&& (2147483647 : Int32)) / (5 : Int32)) * (5 : Int32))) w0 w1 w2 w3 w4)), .val (.int (1 : Int32))] [(.ref (f_pick ((p0 &&& (2147483647 : Int32)) - (((p0 &&& (2147483647 : Int32)) / (5 : Int32)) * (5 : Int32))) w0 w1 w2 w3 w4))])) (T2.setTop (mkF m 24 #[.val (.int p0), .val (.int ((p0 &&& (2147483647 : Int32)) - (((p0 &&& (2147483647 : Int32)) / (5 : Int32)) * (5 : Int32)))), .val (.ref (if ((p0 &&& (2147483647 : Int32)) - (((p0 &&& (2147483647 : Int32)) / (5 : Int32)) * (5 : Int32))) = (1 : Int32) then w1 else (if ((p0 &&& (2147483647 : Int32)) - (((p0 &&& (2147483647 : Int32)) / (5 : Int32)) * (5 : Int32))) = (2 : Int32) then w2 else (if ((p0 &&& (2147483647 : Int32)) - (((p0 &&& (2147483647 : Int32)) / (5 : Int32)) * (5 : Int32))) = (3 : Int32) then w3 else w4)))), .val (.int (1 : Int32))] [(.ref (if ((p0 &&& (2147483647 : Int32)) - (((p0 &&& (2147483647 : Int32)) / (5 : Int32)) * (5 : Int32))) = (1 : Int32) then w1 else (if ((p0 &&& (2147483647 : Int32)) - (((p0 &&& (2147483647 : Int32)) / (5 : Int32)) * (5 : Int32))) = (2 : Int32) then w2 else (if ((p0 &&& (2147483647 : Int32)) - (((p0 &&& (2147483647 : Int32)) / (5 : Int32)) * (5 : Int32))) = (3 : Int32) then w3 else w4))))])) := by
        simp only [f_pick, if_neg hc16]; exact fun _ h => h
      by_cases hc22 : ((p0 &&& (2147483647 : Int32)) - (((p0 &&& (2147483647 : Int32)) / (5 : Int32)) * (5 : Int32))) = (1 : Int32)
      · have k23 : Go p.tables e below (T2.setTop (mkF m 24 #[.val (.int p0), .val (.int ((p0 &&& (2147483647 : Int32)) - (((p0 &&& (2147483647 : Int32)) / (5 : Int32)) * (5 : Int32)))), .val (.ref (if ((p0 &&& (2147483647 : Int32)) - (((p0 &&& (2147483647 : Int32)) / (5 : Int32)) * (5 : Int32))) = (1 : Int32) then w1 else (if ((p0 &&& (2147483647 : Int32)) - (((p0 &&& (2147483647 : Int32)) / (5 : Int32)) * (5 : Int32))) = (2 : Int32) then w2 else (if ((p0 &&& (2147483647 : Int32)) - (((p0 &&& (2147483647 : Int32)) / (5 : Int32)) * (5 : Int32))) = (3 : Int32) then w3 else w4)))), .val (.int (1 : Int32))] [(.ref (if ((p0 &&& (2147483647 : Int32)) - (((p0 &&& (2147483647 : Int32)) / (5 : Int32)) * (5 : Int32))) = (1 : Int32) then w1 else (if ((p0 &&& (2147483647 : Int32)) - (((p0 &&& (2147483647 : Int32)) / (5 : Int32)) * (5 : Int32))) = (2 : Int32) then w2 else (if ((p0 &&& (2147483647 : Int32)) - (((p0 &&& (2147483647 : Int32)) / (5 : Int32)) * (5 : Int32))) = (3 : Int32) then w3 else w4))))])) (T2.setTop (mkF m 24 #[.val (.int p0), .val (.int ((p0 &&& (2147483647 : Int32)) - (((p0 &&& (2147483647 : Int32)) / (5 : Int32)) * (5 : Int32)))), .val (.ref w1), .val (.int (1 : Int32))] [(.ref w1)])) := by
          simp only [if_pos hc22]; exact fun _ h => h
        obtain ⟨cq24, kq24, q24a, q24b, q24c⟩ := isOf hZ eq2 E_1
        obtain ⟨_, _, ⟨T24, L24, kq24, n24⟩, -, X24, ⟨Lc24, hQ24, l24, y24, z24⟩, st24⟩ := X2.virtualBack hx (y := (⟨"com/example/role_conflict_finder/roleconflictfinder/ConstraintType", "takesLimit", "()Z"⟩ : MethodName)) (z := (⟨"com/example/role_conflict_finder/roleconflictfinder/ConstraintType", "takesLimit", "()Z"⟩ : MethodName)) hown (mvT hZ (hw _ (List.mem_of_getElem? (i := 8) rfl))) (mvT hZ (hw _ (List.mem_of_getElem? (i := 9) rfl))) (notFace_of_selects (args := #[]) (mvT hZ (hw _ (List.mem_of_getElem? (i := 11) rfl)))) (mvT hZ (hw _ (List.mem_of_getElem? (i := 11) rfl))) (mvT hZ (hw _ (List.mem_of_getElem? (i := 10) rfl))) (by decide) (backOf (W := 0) (rm_takes l Z a0 hw [] w1 (2 : Int32) h0 n0 Z0 F_1) hZ (hw _ (List.mem_of_getElem? (i := 12) rfl)) (hw _ (List.mem_of_getElem? (i := 6) rfl)) (by decide) (by decide)) q24a q24c (g := (mkF m 24 #[.val (.int p0), .val (.int ((p0 &&& (2147483647 : Int32)) - (((p0 &&& (2147483647 : Int32)) / (5 : Int32)) * (5 : Int32)))), .val (.ref w1), .val (.int (1 : Int32))] [(.ref w1)])) rfl (by rw [hml]; rfl) (Steps.refl _) (argsL := []) (rest := []) (lenOf pd_1 rfl) rfl (by show 2 * 0 + _ ≤ _; exact Nat.le_of_eq rfl) (hb hby at_24) (fun _ _ => ⟨rfl, eq2, (by decide : 0 + 0 ≤ _), (by decide : 0 + 0 ≤ _)⟩)
        dsimp only [Pt.U, Pt.locs, Pt.cells, Pt.slots] at X24 l24 y24 z24 st24 hQ24
        subst l24 y24 z24
        obtain ⟨rfl, N24q, eq24⟩ := hQ24
        have N24 := Fr.app N2 N24q
        have k24 : Go p.tables e below (T2.setTop (mkF m 24 #[.val (.int p0), .val (.int ((p0 &&& (2147483647 : Int32)) - (((p0 &&& (2147483647 : Int32)) / (5 : Int32)) * (5 : Int32)))), .val (.ref w1), .val (.int (1 : Int32))] [(.ref w1)])) (T24.setTop (mkF m 27 #[.val (.int p0), .val (.int ((p0 &&& (2147483647 : Int32)) - (((p0 &&& (2147483647 : Int32)) / (5 : Int32)) * (5 : Int32)))), .val (.ref w1), .val (.int (1 : Int32))] [(.int (f_takes (2 : Int32)))])) := fun _ ht => st24.trans ht
        have k25 : Go p.tables e below (T24.setTop (mkF m 27 #[.val (.int p0), .val (.int ((p0 &&& (2147483647 : Int32)) - (((p0 &&& (2147483647 : Int32)) / (5 : Int32)) * (5 : Int32)))), .val (.ref w1), .val (.int (1 : Int32))] [(.int (f_takes (2 : Int32)))])) (T24.setTop (mkF m 27 #[.val (.int p0), .val (.int ((p0 &&& (2147483647 : Int32)) - (((p0 &&& (2147483647 : Int32)) / (5 : Int32)) * (5 : Int32)))), .val (.ref w1), .val (.int (1 : Int32))] [(.int (1 : Int32))])) := by
          simp only [f_takes, if_neg (by decide : ¬ ((2 : Int32) = (0 : Int32)))]; exact fun _ h => h
        have k26 : Go p.tables e below (T24.setTop (mkF m 27 #[.val (.int p0), .val (.int ((p0 &&& (2147483647 : Int32)) - (((p0 &&& (2147483647 : Int32)) / (5 : Int32)) * (5 : Int32)))), .val (.ref w1), .val (.int (1 : Int32))] [(.int (1 : Int32))])) (T24.setTop (mkF m 36 #[.val (.int p0), .val (.int ((p0 &&& (2147483647 : Int32)) - (((p0 &&& (2147483647 : Int32)) / (5 : Int32)) * (5 : Int32)))), .val (.ref w1), .val (.int (1 : Int32))] [(.int (1 : Int32))])) := by
          intro t ht
          refine XS.iloadN X24.here hx rfl (hb hby at_27) rfl ?_
          show Steps p.tables e below (T24.setTop (mkF m 28 #[.val (.int p0), .val (.int ((p0 &&& (2147483647 : Int32)) - (((p0 &&& (2147483647 : Int32)) / (5 : Int32)) * (5 : Int32)))), .val (.ref w1), .val (.int (1 : Int32))] [(.int (1 : Int32)), (.int (1 : Int32))])) _
          refine XS.icmpNo X24.here hx rfl (hb hby at_28) rfl (teq (by decide : (1 : Int32) = (1 : Int32))).2 ?_
          show Steps p.tables e below (T24.setTop (mkF m 31 #[.val (.int p0), .val (.int ((p0 &&& (2147483647 : Int32)) - (((p0 &&& (2147483647 : Int32)) / (5 : Int32)) * (5 : Int32)))), .val (.ref w1), .val (.int (1 : Int32))] [])) _
          refine XS.iconst X24.here hx rfl (hb hby at_31) ?_
          show Steps p.tables e below (T24.setTop (mkF m 32 #[.val (.int p0), .val (.int ((p0 &&& (2147483647 : Int32)) - (((p0 &&& (2147483647 : Int32)) / (5 : Int32)) * (5 : Int32)))), .val (.ref w1), .val (.int (1 : Int32))] [(.int (1 : Int32))])) _
          refine XS.goto X24.here hx rfl (pc0 := 32) (pc' := 36) rfl (hb hby at_32) (by decide) (by decide) ?_
          exact ht
        obtain ⟨fs, hr, hrun, hended, hW, hsame⟩ := X24.leave (v := some (.int (1 : Int32))) (fun h => by rw [Bd.returns] at h; cases h)
        refine ⟨_, _, pre0 _ ((goT k1 (goT k2 (goT k3 (goT k4 (goT k9 (goT k15 (goT k21 (goT k23 (goT k24 (goT k25 k26)))))))))) _ (retN X24 hx (t := .boolean) Bd.returns (by simp) (hb hby at_36) hr)), hrun, hended, _, _, rfl, ?_, ⟨_, rfl⟩, hW, hsame.mono (by decide) (by decide)⟩
        show Q_law Z p0 w0 w1 w2 w3 w4 h0 n0 _ T24.heap _
        rw [eq24]
        exact ⟨rfl, N24⟩
      · have k27 : Go p.tables e below (T2.setTop (mkF m 24 #[.val (.int p0), .val (.int ((p0 &&& (2147483647 : Int32)) - (((p0 &&& (2147483647 : Int32)) / (5 : Int32)) * (5 : Int32)))), .val (.ref (if ((p0 &&& (2147483647 : Int32)) - (((p0 &&& (2147483647 : Int32)) / (5 : Int32)) * (5 : Int32))) = (1 : Int32) then w1 else (if ((p0 &&& (2147483647 : Int32)) - (((p0 &&& (2147483647 : Int32)) / (5 : Int32)) * (5 : Int32))) = (2 : Int32) then w2 else (if ((p0 &&& (2147483647 : Int32)) - (((p0 &&& (2147483647 : Int32)) / (5 : Int32)) * (5 : Int32))) = (3 : Int32) then w3 else w4)))), .val (.int (1 : Int32))] [(.ref (if ((p0 &&& (2147483647 : Int32)) - (((p0 &&& (2147483647 : Int32)) / (5 : Int32)) * (5 : Int32))) = (1 : Int32) then w1 else (if ((p0 &&& (2147483647 : Int32)) - (((p0 &&& (2147483647 : Int32)) / (5 : Int32)) * (5 : Int32))) = (2 : Int32) then w2 else (if ((p0 &&& (2147483647 : Int32)) - (((p0 &&& (2147483647 : Int32)) / (5 : Int32)) * (5 : Int32))) = (3 : Int32) then w3 else w4))))])) (T2.setTop (mkF m 24 #[.val (.int p0), .val (.int ((p0 &&& (2147483647 : Int32)) - (((p0 &&& (2147483647 : Int32)) / (5 : Int32)) * (5 : Int32)))), .val (.ref (if ((p0 &&& (2147483647 : Int32)) - (((p0 &&& (2147483647 : Int32)) / (5 : Int32)) * (5 : Int32))) = (3 : Int32) then w3 else w4)), .val (.int (1 : Int32))] [(.ref (if ((p0 &&& (2147483647 : Int32)) - (((p0 &&& (2147483647 : Int32)) / (5 : Int32)) * (5 : Int32))) = (3 : Int32) then w3 else w4))])) := by
          simp only [if_neg hc22, if_neg hc10]; exact fun _ h => h
        by_cases hc28 : ((p0 &&& (2147483647 : Int32)) - (((p0 &&& (2147483647 : Int32)) / (5 : Int32)) * (5 : Int32))) = (3 : Int32)
        · have k29 : Go p.tables e below (T2.setTop (mkF m 24 #[.val (.int p0), .val (.int ((p0 &&& (2147483647 : Int32)) - (((p0 &&& (2147483647 : Int32)) / (5 : Int32)) * (5 : Int32)))), .val (.ref (if ((p0 &&& (2147483647 : Int32)) - (((p0 &&& (2147483647 : Int32)) / (5 : Int32)) * (5 : Int32))) = (3 : Int32) then w3 else w4)), .val (.int (1 : Int32))] [(.ref (if ((p0 &&& (2147483647 : Int32)) - (((p0 &&& (2147483647 : Int32)) / (5 : Int32)) * (5 : Int32))) = (3 : Int32) then w3 else w4))])) (T2.setTop (mkF m 24 #[.val (.int p0), .val (.int ((p0 &&& (2147483647 : Int32)) - (((p0 &&& (2147483647 : Int32)) / (5 : Int32)) * (5 : Int32)))), .val (.ref w3), .val (.int (1 : Int32))] [(.ref w3)])) := by
            simp only [if_pos hc28]; exact fun _ h => h
          obtain ⟨cq30, kq30, q30a, q30b, q30c⟩ := isOf hZ eq2 E_3
          obtain ⟨_, _, ⟨T30, L30, kq30, n30⟩, -, X30, ⟨Lc30, hQ30, l30, y30, z30⟩, st30⟩ := X2.virtualBack hx (y := (⟨"com/example/role_conflict_finder/roleconflictfinder/ConstraintType", "takesLimit", "()Z"⟩ : MethodName)) (z := (⟨"com/example/role_conflict_finder/roleconflictfinder/ConstraintType", "takesLimit", "()Z"⟩ : MethodName)) hown (mvT hZ (hw _ (List.mem_of_getElem? (i := 8) rfl))) (mvT hZ (hw _ (List.mem_of_getElem? (i := 9) rfl))) (notFace_of_selects (args := #[]) (mvT hZ (hw _ (List.mem_of_getElem? (i := 11) rfl)))) (mvT hZ (hw _ (List.mem_of_getElem? (i := 11) rfl))) (mvT hZ (hw _ (List.mem_of_getElem? (i := 10) rfl))) (by decide) (backOf (W := 0) (rm_takes l Z a0 hw [] w3 (1 : Int32) h0 n0 Z0 F_3) hZ (hw _ (List.mem_of_getElem? (i := 12) rfl)) (hw _ (List.mem_of_getElem? (i := 6) rfl)) (by decide) (by decide)) q30a q30c (g := (mkF m 24 #[.val (.int p0), .val (.int ((p0 &&& (2147483647 : Int32)) - (((p0 &&& (2147483647 : Int32)) / (5 : Int32)) * (5 : Int32)))), .val (.ref w3), .val (.int (1 : Int32))] [(.ref w3)])) rfl (by rw [hml]; rfl) (Steps.refl _) (argsL := []) (rest := []) (lenOf pd_1 rfl) rfl (by show 2 * 0 + _ ≤ _; exact Nat.le_of_eq rfl) (hb hby at_24) (fun _ _ => ⟨rfl, eq2, (by decide : 0 + 0 ≤ _), (by decide : 0 + 0 ≤ _)⟩)
          dsimp only [Pt.U, Pt.locs, Pt.cells, Pt.slots] at X30 l30 y30 z30 st30 hQ30
          subst l30 y30 z30
          obtain ⟨rfl, N30q, eq30⟩ := hQ30
          have N30 := Fr.app N2 N30q
          have k30 : Go p.tables e below (T2.setTop (mkF m 24 #[.val (.int p0), .val (.int ((p0 &&& (2147483647 : Int32)) - (((p0 &&& (2147483647 : Int32)) / (5 : Int32)) * (5 : Int32)))), .val (.ref w3), .val (.int (1 : Int32))] [(.ref w3)])) (T30.setTop (mkF m 27 #[.val (.int p0), .val (.int ((p0 &&& (2147483647 : Int32)) - (((p0 &&& (2147483647 : Int32)) / (5 : Int32)) * (5 : Int32)))), .val (.ref w3), .val (.int (1 : Int32))] [(.int (f_takes (1 : Int32)))])) := fun _ ht => st30.trans ht
          have k31 : Go p.tables e below (T30.setTop (mkF m 27 #[.val (.int p0), .val (.int ((p0 &&& (2147483647 : Int32)) - (((p0 &&& (2147483647 : Int32)) / (5 : Int32)) * (5 : Int32)))), .val (.ref w3), .val (.int (1 : Int32))] [(.int (f_takes (1 : Int32)))])) (T30.setTop (mkF m 27 #[.val (.int p0), .val (.int ((p0 &&& (2147483647 : Int32)) - (((p0 &&& (2147483647 : Int32)) / (5 : Int32)) * (5 : Int32)))), .val (.ref w3), .val (.int (1 : Int32))] [(.int (1 : Int32))])) := by
            simp only [f_takes, if_neg (by decide : ¬ ((1 : Int32) = (0 : Int32)))]; exact fun _ h => h
          have k32 : Go p.tables e below (T30.setTop (mkF m 27 #[.val (.int p0), .val (.int ((p0 &&& (2147483647 : Int32)) - (((p0 &&& (2147483647 : Int32)) / (5 : Int32)) * (5 : Int32)))), .val (.ref w3), .val (.int (1 : Int32))] [(.int (1 : Int32))])) (T30.setTop (mkF m 36 #[.val (.int p0), .val (.int ((p0 &&& (2147483647 : Int32)) - (((p0 &&& (2147483647 : Int32)) / (5 : Int32)) * (5 : Int32)))), .val (.ref w3), .val (.int (1 : Int32))] [(.int (1 : Int32))])) := by
            intro t ht
            refine XS.iloadN X30.here hx rfl (hb hby at_27) rfl ?_
            show Steps p.tables e below (T30.setTop (mkF m 28 #[.val (.int p0), .val (.int ((p0 &&& (2147483647 : Int32)) - (((p0 &&& (2147483647 : Int32)) / (5 : Int32)) * (5 : Int32)))), .val (.ref w3), .val (.int (1 : Int32))] [(.int (1 : Int32)), (.int (1 : Int32))])) _
            refine XS.icmpNo X30.here hx rfl (hb hby at_28) rfl (teq (by decide : (1 : Int32) = (1 : Int32))).2 ?_
            show Steps p.tables e below (T30.setTop (mkF m 31 #[.val (.int p0), .val (.int ((p0 &&& (2147483647 : Int32)) - (((p0 &&& (2147483647 : Int32)) / (5 : Int32)) * (5 : Int32)))), .val (.ref w3), .val (.int (1 : Int32))] [])) _
            refine XS.iconst X30.here hx rfl (hb hby at_31) ?_
            show Steps p.tables e below (T30.setTop (mkF m 32 #[.val (.int p0), .val (.int ((p0 &&& (2147483647 : Int32)) - (((p0 &&& (2147483647 : Int32)) / (5 : Int32)) * (5 : Int32)))), .val (.ref w3), .val (.int (1 : Int32))] [(.int (1 : Int32))])) _
            refine XS.goto X30.here hx rfl (pc0 := 32) (pc' := 36) rfl (hb hby at_32) (by decide) (by decide) ?_
            exact ht
          obtain ⟨fs, hr, hrun, hended, hW, hsame⟩ := X30.leave (v := some (.int (1 : Int32))) (fun h => by rw [Bd.returns] at h; cases h)
          refine ⟨_, _, pre0 _ ((goT k1 (goT k2 (goT k3 (goT k4 (goT k9 (goT k15 (goT k21 (goT k27 (goT k29 (goT k30 (goT k31 k32))))))))))) _ (retN X30 hx (t := .boolean) Bd.returns (by simp) (hb hby at_36) hr)), hrun, hended, _, _, rfl, ?_, ⟨_, rfl⟩, hW, hsame.mono (by decide) (by decide)⟩
          show Q_law Z p0 w0 w1 w2 w3 w4 h0 n0 _ T30.heap _
          rw [eq30]
          exact ⟨rfl, N30⟩
        · have k33 : Go p.tables e below (T2.setTop (mkF m 24 #[.val (.int p0), .val (.int ((p0 &&& (2147483647 : Int32)) - (((p0 &&& (2147483647 : Int32)) / (5 : Int32)) * (5 : Int32)))), .val (.ref (if ((p0 &&& (2147483647 : Int32)) - (((p0 &&& (2147483647 : Int32)) / (5 : Int32)) * (5 : Int32))) = (3 : Int32) then w3 else w4)), .val (.int (1 : Int32))] [(.ref (if ((p0 &&& (2147483647 : Int32)) - (((p0 &&& (2147483647 : Int32)) / (5 : Int32)) * (5 : Int32))) = (3 : Int32) then w3 else w4))])) (T2.setTop (mkF m 24 #[.val (.int p0), .val (.int ((p0 &&& (2147483647 : Int32)) - (((p0 &&& (2147483647 : Int32)) / (5 : Int32)) * (5 : Int32)))), .val (.ref w4), .val (.int (1 : Int32))] [(.ref w4)])) := by
            simp only [if_neg hc28]; exact fun _ h => h
          obtain ⟨cq34, kq34, q34a, q34b, q34c⟩ := isOf hZ eq2 E_4
          obtain ⟨_, _, ⟨T34, L34, kq34, n34⟩, -, X34, ⟨Lc34, hQ34, l34, y34, z34⟩, st34⟩ := X2.virtualBack hx (y := (⟨"com/example/role_conflict_finder/roleconflictfinder/ConstraintType", "takesLimit", "()Z"⟩ : MethodName)) (z := (⟨"com/example/role_conflict_finder/roleconflictfinder/ConstraintType", "takesLimit", "()Z"⟩ : MethodName)) hown (mvT hZ (hw _ (List.mem_of_getElem? (i := 8) rfl))) (mvT hZ (hw _ (List.mem_of_getElem? (i := 9) rfl))) (notFace_of_selects (args := #[]) (mvT hZ (hw _ (List.mem_of_getElem? (i := 11) rfl)))) (mvT hZ (hw _ (List.mem_of_getElem? (i := 11) rfl))) (mvT hZ (hw _ (List.mem_of_getElem? (i := 10) rfl))) (by decide) (backOf (W := 0) (rm_takes l Z a0 hw [] w4 (1 : Int32) h0 n0 Z0 F_4) hZ (hw _ (List.mem_of_getElem? (i := 12) rfl)) (hw _ (List.mem_of_getElem? (i := 6) rfl)) (by decide) (by decide)) q34a q34c (g := (mkF m 24 #[.val (.int p0), .val (.int ((p0 &&& (2147483647 : Int32)) - (((p0 &&& (2147483647 : Int32)) / (5 : Int32)) * (5 : Int32)))), .val (.ref w4), .val (.int (1 : Int32))] [(.ref w4)])) rfl (by rw [hml]; rfl) (Steps.refl _) (argsL := []) (rest := []) (lenOf pd_1 rfl) rfl (by show 2 * 0 + _ ≤ _; exact Nat.le_of_eq rfl) (hb hby at_24) (fun _ _ => ⟨rfl, eq2, (by decide : 0 + 0 ≤ _), (by decide : 0 + 0 ≤ _)⟩)
          dsimp only [Pt.U, Pt.locs, Pt.cells, Pt.slots] at X34 l34 y34 z34 st34 hQ34
          subst l34 y34 z34
          obtain ⟨rfl, N34q, eq34⟩ := hQ34
          have N34 := Fr.app N2 N34q
          have k34 : Go p.tables e below (T2.setTop (mkF m 24 #[.val (.int p0), .val (.int ((p0 &&& (2147483647 : Int32)) - (((p0 &&& (2147483647 : Int32)) / (5 : Int32)) * (5 : Int32)))), .val (.ref w4), .val (.int (1 : Int32))] [(.ref w4)])) (T34.setTop (mkF m 27 #[.val (.int p0), .val (.int ((p0 &&& (2147483647 : Int32)) - (((p0 &&& (2147483647 : Int32)) / (5 : Int32)) * (5 : Int32)))), .val (.ref w4), .val (.int (1 : Int32))] [(.int (f_takes (1 : Int32)))])) := fun _ ht => st34.trans ht
          have k35 : Go p.tables e below (T34.setTop (mkF m 27 #[.val (.int p0), .val (.int ((p0 &&& (2147483647 : Int32)) - (((p0 &&& (2147483647 : Int32)) / (5 : Int32)) * (5 : Int32)))), .val (.ref w4), .val (.int (1 : Int32))] [(.int (f_takes (1 : Int32)))])) (T34.setTop (mkF m 27 #[.val (.int p0), .val (.int ((p0 &&& (2147483647 : Int32)) - (((p0 &&& (2147483647 : Int32)) / (5 : Int32)) * (5 : Int32)))), .val (.ref w4), .val (.int (1 : Int32))] [(.int (1 : Int32))])) := by
            simp only [f_takes, if_neg (by decide : ¬ ((1 : Int32) = (0 : Int32)))]; exact fun _ h => h
          have k36 : Go p.tables e below (T34.setTop (mkF m 27 #[.val (.int p0), .val (.int ((p0 &&& (2147483647 : Int32)) - (((p0 &&& (2147483647 : Int32)) / (5 : Int32)) * (5 : Int32)))), .val (.ref w4), .val (.int (1 : Int32))] [(.int (1 : Int32))])) (T34.setTop (mkF m 36 #[.val (.int p0), .val (.int ((p0 &&& (2147483647 : Int32)) - (((p0 &&& (2147483647 : Int32)) / (5 : Int32)) * (5 : Int32)))), .val (.ref w4), .val (.int (1 : Int32))] [(.int (1 : Int32))])) := by
            intro t ht
            refine XS.iloadN X34.here hx rfl (hb hby at_27) rfl ?_
            show Steps p.tables e below (T34.setTop (mkF m 28 #[.val (.int p0), .val (.int ((p0 &&& (2147483647 : Int32)) - (((p0 &&& (2147483647 : Int32)) / (5 : Int32)) * (5 : Int32)))), .val (.ref w4), .val (.int (1 : Int32))] [(.int (1 : Int32)), (.int (1 : Int32))])) _
            refine XS.icmpNo X34.here hx rfl (hb hby at_28) rfl (teq (by decide : (1 : Int32) = (1 : Int32))).2 ?_
            show Steps p.tables e below (T34.setTop (mkF m 31 #[.val (.int p0), .val (.int ((p0 &&& (2147483647 : Int32)) - (((p0 &&& (2147483647 : Int32)) / (5 : Int32)) * (5 : Int32)))), .val (.ref w4), .val (.int (1 : Int32))] [])) _
            refine XS.iconst X34.here hx rfl (hb hby at_31) ?_
            show Steps p.tables e below (T34.setTop (mkF m 32 #[.val (.int p0), .val (.int ((p0 &&& (2147483647 : Int32)) - (((p0 &&& (2147483647 : Int32)) / (5 : Int32)) * (5 : Int32)))), .val (.ref w4), .val (.int (1 : Int32))] [(.int (1 : Int32))])) _
            refine XS.goto X34.here hx rfl (pc0 := 32) (pc' := 36) rfl (hb hby at_32) (by decide) (by decide) ?_
            exact ht
          obtain ⟨fs, hr, hrun, hended, hW, hsame⟩ := X34.leave (v := some (.int (1 : Int32))) (fun h => by rw [Bd.returns] at h; cases h)
          refine ⟨_, _, pre0 _ ((goT k1 (goT k2 (goT k3 (goT k4 (goT k9 (goT k15 (goT k21 (goT k27 (goT k33 (goT k34 (goT k35 k36))))))))))) _ (retN X34 hx (t := .boolean) Bd.returns (by simp) (hb hby at_36) hr)), hrun, hended, _, _, rfl, ?_, ⟨_, rfl⟩, hW, hsame.mono (by decide) (by decide)⟩
          show Q_law Z p0 w0 w1 w2 w3 w4 h0 n0 _ T34.heap _
          rw [eq34]
          exact ⟨rfl, N34⟩
set_option maxRecDepth 65536 in
set_option maxHeartbeats 40000000 in
theorem comes_1 {Post : Tables → Env → Array Value → State → Outcome → State → Prop} (hpost : ∀ tb e args s v u, (limb_1_1.after args s (.returned v) u = true ∧ limb_1_2.after args s (.returned v) u = true ∧ True) → FrameEnd s (.returned v) u (Jvm.fieldLocs frame_1_writes args s ++ Jvm.arrayLocs frame_1_arrays args s ++ Jvm.staticLocs frame_1_statics s) 0 0 → Post tb e args s (.returned v) u) :
    ArmFor flags0 classFile x code maxLocals ret World_1 tables_1 room_1 Calls_1 rest_1 Pre_1 Post := by
  intro l hfl _ _ p e ha hc hk s m args below hf hA hF happ hP
  obtain ⟨hcalls, hrest, hpre⟩ := hP
  obtain ⟨-, -, -, hnamed, -, -, -, hat⟩ := (Spec.applies_iff hf).mp happ
  obtain ⟨hg, hn⟩ := and_e (Cond.before_iff.mp (show (Jvm.Cond.and given_1 narrow_1).before args s = true from hpre))
  obtain ⟨hcnt, hg⟩ := and_e hg
  have ha0 := hg
  obtain ⟨w0, rfl⟩ : ∃ w0 : Value, args = #[w0] := by
    have hs : args.size = 1 := by simpa [Cond.value, given_1] using hcnt
    obtain ⟨L⟩ := args
    match L, hs with
    | [w0], _ => exact ⟨w0, rfl⟩
  have hw := fun d (hd : d ∈ tables_1) => atoms_spec (ws := Jvm.Cond.code x code maxLocals ret :: tables_1) hat d (List.mem_cons_of_mem _ hd)
  have hfit : Fit s := fun {y c} hc i hi => by
    obtain ⟨ha, rfl⟩ := Array.getElem?_eq_some_iff.mp hc
    have q := List.all_eq_true.mp ((Array.all_eq_true_iff_forall_mem.mp hF) _ (Array.getElem_mem ha)) i (List.mem_range.mpr hi)
    simpa [Array.getElem?_eq_getElem hi] using q
  obtain ⟨i0, ei0⟩ := is_v ha0
  obtain rfl : w0 = (.int i0) := Option.some.inj ei0
  obtain ⟨hn0, hn⟩ := and_e hn
  obtain ⟨hn1, hn⟩ := and_e hn
  obtain ⟨hn2, hn⟩ := and_e hn
  obtain ⟨hn3, hn⟩ := and_e hn
  obtain ⟨hn4, hn⟩ := and_e hn
  obtain ⟨hn5, hn⟩ := and_e hn
  obtain ⟨hn6, hn⟩ := and_e hn
  obtain ⟨hn7, hn⟩ := and_e hn
  obtain ⟨hn8, hn⟩ := and_e hn
  have hn9 := hn
  obtain ⟨w_ConstraintType_ROLE_EXCLUSION, ev_w_ConstraintType_ROLE_EXCLUSION⟩ := exa_v hn0
  have S_w_ConstraintType_ROLE_EXCLUSION := Sta.start ev_w_ConstraintType_ROLE_EXCLUSION (Or.inr ⟨(hw _ (List.mem_of_getElem? (i := 6) rfl)), (hw _ (List.mem_of_getElem? (i := 7) rfl))⟩)
  have E_w_ConstraintType_ROLE_EXCLUSION := Exa.start ev_w_ConstraintType_ROLE_EXCLUSION hn0
  obtain ⟨w_ConstraintType_ROLE_CARDINALITY, ev_w_ConstraintType_ROLE_CARDINALITY⟩ := exa_v hn2
  have S_w_ConstraintType_ROLE_CARDINALITY := Sta.start ev_w_ConstraintType_ROLE_CARDINALITY (Or.inr ⟨(hw _ (List.mem_of_getElem? (i := 6) rfl)), (hw _ (List.mem_of_getElem? (i := 16) rfl))⟩)
  have E_w_ConstraintType_ROLE_CARDINALITY := Exa.start ev_w_ConstraintType_ROLE_CARDINALITY hn2
  obtain ⟨w_ConstraintType_PERMISSION_EXCLUSION, ev_w_ConstraintType_PERMISSION_EXCLUSION⟩ := exa_v hn4
  have S_w_ConstraintType_PERMISSION_EXCLUSION := Sta.start ev_w_ConstraintType_PERMISSION_EXCLUSION (Or.inr ⟨(hw _ (List.mem_of_getElem? (i := 6) rfl)), (hw _ (List.mem_of_getElem? (i := 18) rfl))⟩)
  have E_w_ConstraintType_PERMISSION_EXCLUSION := Exa.start ev_w_ConstraintType_PERMISSION_EXCLUSION hn4
  obtain ⟨w_ConstraintType_PERMISSION_CARDINALITY, ev_w_ConstraintType_PERMISSION_CARDINALITY⟩ := exa_v hn6
  have S_w_ConstraintType_PERMISSION_CARDINALITY := Sta.start ev_w_ConstraintType_PERMISSION_CARDINALITY (Or.inr ⟨(hw _ (List.mem_of_getElem? (i := 6) rfl)), (hw _ (List.mem_of_getElem? (i := 20) rfl))⟩)
  have E_w_ConstraintType_PERMISSION_CARDINALITY := Exa.start ev_w_ConstraintType_PERMISSION_CARDINALITY hn6
  obtain ⟨w_ConstraintType_USER_EXCLUSION, ev_w_ConstraintType_USER_EXCLUSION⟩ := exa_v hn8
  have S_w_ConstraintType_USER_EXCLUSION := Sta.start ev_w_ConstraintType_USER_EXCLUSION (Or.inr ⟨(hw _ (List.mem_of_getElem? (i := 6) rfl)), (hw _ (List.mem_of_getElem? (i := 22) rfl))⟩)
  have E_w_ConstraintType_USER_EXCLUSION := Exa.start ev_w_ConstraintType_USER_EXCLUSION hn8
  have F_minimumLimit_w_ConstraintType_ROLE_EXCLUSION : Fld s s.heap w_ConstraintType_ROLE_EXCLUSION "com/example/role_conflict_finder/roleconflictfinder/ConstraintType" "minimumLimit" "I" (.int (2 : Int32)) := Fld.start ((fld_at ev_w_ConstraintType_ROLE_EXCLUSION).symm.trans (own_eq_i hn1))
  have F_minimumLimit_w_ConstraintType_ROLE_CARDINALITY : Fld s s.heap w_ConstraintType_ROLE_CARDINALITY "com/example/role_conflict_finder/roleconflictfinder/ConstraintType" "minimumLimit" "I" (.int (1 : Int32)) := Fld.start ((fld_at ev_w_ConstraintType_ROLE_CARDINALITY).symm.trans (own_eq_i hn3))
  have F_minimumLimit_w_ConstraintType_PERMISSION_EXCLUSION : Fld s s.heap w_ConstraintType_PERMISSION_EXCLUSION "com/example/role_conflict_finder/roleconflictfinder/ConstraintType" "minimumLimit" "I" (.int (2 : Int32)) := Fld.start ((fld_at ev_w_ConstraintType_PERMISSION_EXCLUSION).symm.trans (own_eq_i hn5))
  have F_minimumLimit_w_ConstraintType_PERMISSION_CARDINALITY : Fld s s.heap w_ConstraintType_PERMISSION_CARDINALITY "com/example/role_conflict_finder/roleconflictfinder/ConstraintType" "minimumLimit" "I" (.int (1 : Int32)) := Fld.start ((fld_at ev_w_ConstraintType_PERMISSION_CARDINALITY).symm.trans (own_eq_i hn7))
  have F_minimumLimit_w_ConstraintType_USER_EXCLUSION : Fld s s.heap w_ConstraintType_USER_EXCLUSION "com/example/role_conflict_finder/roleconflictfinder/ConstraintType" "minimumLimit" "I" (.int (0 : Int32)) := Fld.start ((fld_at ev_w_ConstraintType_USER_EXCLUSION).symm.trans (own_eq_i hn9))
  obtain ⟨n, o, h1, h2, h3, _, L, rfl, ⟨rfl, N⟩, hq⟩ := rm_law l s _ hw tables_1 i0 w_ConstraintType_ROLE_EXCLUSION w_ConstraintType_PERMISSION_EXCLUSION w_ConstraintType_USER_EXCLUSION w_ConstraintType_ROLE_CARDINALITY w_ConstraintType_PERMISSION_CARDINALITY s.heap s.heap.size (Nat.le_refl _) S_w_ConstraintType_ROLE_EXCLUSION S_w_ConstraintType_PERMISSION_EXCLUSION S_w_ConstraintType_USER_EXCLUSION S_w_ConstraintType_ROLE_CARDINALITY S_w_ConstraintType_PERMISSION_CARDINALITY E_w_ConstraintType_ROLE_EXCLUSION E_w_ConstraintType_PERMISSION_EXCLUSION E_w_ConstraintType_USER_EXCLUSION E_w_ConstraintType_ROLE_CARDINALITY E_w_ConstraintType_PERMISSION_CARDINALITY F_minimumLimit_w_ConstraintType_ROLE_EXCLUSION F_minimumLimit_w_ConstraintType_PERMISSION_EXCLUSION F_minimumLimit_w_ConstraintType_USER_EXCLUSION F_minimumLimit_w_ConstraintType_ROLE_CARDINALITY F_minimumLimit_w_ConstraintType_PERMISSION_CARDINALITY p e ha hc hk s m _ below hf ((Spec.applies_iff_loose hf).mp happ).1 ⟨rfl, State.Warmed39.refl s, rfl⟩ trivial
  refine ⟨n, _, h1, h2, h3, hpost _ _ _ _ _ _ ⟨Cond.after_iff.mpr rfl, Cond.after_iff.mpr (eq_i res_at (Term.int_eval (1)) rfl), trivial⟩ ⟨hq.1, hq.2.1, (hq.2.2.sift fun y hy => Or.inr (N y hy)).mono (by decide) (by decide)⟩⟩
theorem main_1_1 : Claimed_1_1 := comes_1 fun _ _ _ _ _ _ h hF => ⟨h.1, hF⟩
theorem main_1_2 : Claimed_1_2 := comes_1 fun _ _ _ _ _ _ h hF => ⟨h.2.1, hF⟩
end Jvm.Pilot.@@N@@
namespace Jvm.Pilot.@@N@@
open Jvm Jvm.ClassFile Sem Op Lib Jvm.Free Jvm.Stand Jvm.Pilot.@@N@@.Jvm.D
/-! MADE BY PROGRAM (witnessworld.py) out of the Statement's table words and the real class files: 12 classes; the members and pool entries that the words name. The judged class is class 1, her method 2. -/
namespace start1
open Jvm.ClassFile
def u (s : String) : CpInfo := .utf8 (stringToUtf16 s)
/-- a pool by its gaps: so many unusable entries, then the entry; so many at the end -/
def gap : Nat → List CpInfo → List CpInfo
  | 0, r => r
  | n + 1, r => .unusable :: gap n r
def poolList (es : List (Nat × CpInfo)) (last : Nat) : List CpInfo := es.foldr (fun e r => gap e.1 (e.2 :: r)) (gap last [])
def pool (es : List (Nat × CpInfo)) (last : Nat) : Array CpInfo := ⟨poolList es last⟩
def fileOf (pool : Array CpInfo) (this : Nat) (attrs : Array Attribute := #[]) (ms : Array MethodInfo := #[]) (fl : Nat := 33) (sup : Nat := 0) (ifs : Array Nat := #[]) (fds : Array FieldInfo := #[]) : ClassFile where
  minorVersion := 0
  majorVersion := 65
  constantPool := pool
  accessFlags := fl
  thisClass := this
  superClass := sup
  interfaces := ifs
  fields := fds
  methods := ms
  attributes := attrs
def plain (name : String) (sup : Option ClassId) : Class where
  name := name
  kind := .ordinary
  loader := none
  accessFlags := 33
  super := sup
  interfaces := #[]
  cf := none
  fields := #[]
  methods := #[]
  instanceTypes := #[]
  staticTypes := #[]
  resolved := #[]
  callSites := []
  init := .initialized
  statics := none
  mirror := none

def pool0 : Array CpInfo := pool [(5, u "<init>"), (0, u "()V"), (1, .class_ 10), (1, u "java/lang/Object")] 113

def k0m0 : Method := { name := "<init>", desc := "()V", sig := { parameters := [], returnType := none }, accessFlags := 1, code := none }
/-- java/lang/Object -/
def k0 : Class := { plain "java/lang/Object" none with
  accessFlags := 33
  interfaces := #[]
  cf := some (fileOf pool0 8 #[] #[{ accessFlags := 1, nameIndex := 5, descriptorIndex := 6, attributes := #[] }] 33 0 #[] #[])
  fields := #[]
  methods := #[k0m0]
  instanceTypes := #[]
  staticTypes := #[]
  resolved := Array.replicate 124 none
  statics := none }

def pool1 : Array CpInfo := pool [(2, .class_ 4), (1, u "java/lang/Object"), (0, u "<init>"), (0, u "()V"), (0, .fieldref 8 9), (0, .class_ 10), (0, .nameAndType 11 12), (0, u "com/example/role_conflict_finder/roleconflictfinder/ConstraintType"), (0, u "ROLE_EXCLUSION"), (0, u "Lcom/example/role_conflict_finder/roleconflictfinder/ConstraintType;"), (0, .fieldref 8 14), (0, .nameAndType 15 12), (0, u "PERMISSION_EXCLUSION"), (0, .fieldref 8 17), (0, .nameAndType 18 12), (0, u "USER_EXCLUSION"), (0, .fieldref 8 20), (0, .nameAndType 21 12), (0, u "ROLE_CARDINALITY"), (0, .fieldref 8 23), (0, .nameAndType 24 12), (0, u "PERMISSION_CARDINALITY"), (0, .integer 2147483647), (0, .methodref 27 28), (0, .class_ 29), (0, .nameAndType 30 31), (0, u "com/example/role_conflict_finder/roleconflictfinder/ConstraintTypeTakesLimitPinLaw"), (0, u "pick"), (0, u "(I)Lcom/example/role_conflict_finder/roleconflictfinder/ConstraintType;"), (0, .methodref 8 33), (0, .nameAndType 34 35), (0, u "takesLimit"), (0, u "()Z"), (3, u "law"), (0, u "(I)Z")] 2

def k1m0 : Method := { name := "<init>", desc := "()V", sig := { parameters := [], returnType := none }, accessFlags := 2, code := none }
def k1c1 : Code := { maxStack := 2, maxLocals := 1, code := method_2_code, exceptionTable := #[], attributes := #[] }
def k1m1 : Method := { name := "pick", desc := "(I)Lcom/example/role_conflict_finder/roleconflictfinder/ConstraintType;", sig := { parameters := [.int], returnType := some (.object "com/example/role_conflict_finder/roleconflictfinder/ConstraintType") }, accessFlags := 10, code := some k1c1 }
def k1c2 : Code := { maxStack := 2, maxLocals := 4, code := code, exceptionTable := #[], attributes := #[] }
def k1m2 : Method := { name := "law", desc := "(I)Z", sig := { parameters := [.int], returnType := some .boolean }, accessFlags := 9, code := some k1c2 }
/-- com/example/role_conflict_finder/roleconflictfinder/ConstraintTypeTakesLimitPinLaw -/
def k1 : Class := { plain "com/example/role_conflict_finder/roleconflictfinder/ConstraintTypeTakesLimitPinLaw" (some 0) with
  accessFlags := 49
  interfaces := #[]
  cf := some (fileOf pool1 27 #[] #[{ accessFlags := 2, nameIndex := 5, descriptorIndex := 6, attributes := #[] }, { accessFlags := 10, nameIndex := 30, descriptorIndex := 31, attributes := #[] }, { accessFlags := 9, nameIndex := 39, descriptorIndex := 40, attributes := #[] }] 49 2 #[] #[])
  fields := #[]
  methods := #[k1m0, k1m1, k1m2]
  instanceTypes := #[]
  staticTypes := #[]
  resolved := Array.replicate 43 none
  statics := none }

def pool2 : Array CpInfo := pool [(1, .class_ 2), (0, u "java/lang/constant/Constable"), (0, .class_ 4), (0, u "java/lang/Object")] 6

/-- java/lang/constant/Constable -/
def k2 : Class := { plain "java/lang/constant/Constable" (some 0) with
  accessFlags := 1537
  interfaces := #[]
  cf := some (fileOf pool2 1 #[] #[] 1537 3 #[] #[])
  fields := #[]
  methods := #[]
  instanceTypes := #[]
  staticTypes := #[]
  resolved := Array.replicate 11 none
  statics := none }

def pool3 : Array CpInfo := pool [(1, .class_ 2), (0, u "java/lang/Comparable"), (0, .class_ 4), (0, u "java/lang/Object")] 7

/-- java/lang/Comparable -/
def k3 : Class := { plain "java/lang/Comparable" (some 0) with
  accessFlags := 1537
  interfaces := #[]
  cf := some (fileOf pool3 1 #[] #[] 1537 3 #[] #[])
  fields := #[]
  methods := #[]
  instanceTypes := #[]
  staticTypes := #[]
  resolved := Array.replicate 12 none
  statics := none }

def pool4 : Array CpInfo := pool [(1, .class_ 2), (0, u "java/io/Serializable"), (0, .class_ 4), (0, u "java/lang/Object")] 2

/-- java/io/Serializable -/
def k4 : Class := { plain "java/io/Serializable" (some 0) with
  accessFlags := 1537
  interfaces := #[]
  cf := some (fileOf pool4 1 #[] #[] 1537 3 #[] #[])
  fields := #[]
  methods := #[]
  instanceTypes := #[]
  staticTypes := #[]
  resolved := Array.replicate 7 none
  statics := none }

def pool5 : Array CpInfo := pool [(2, .class_ 4), (1, u "java/lang/Enum"), (0, u "name"), (0, u "Ljava/lang/String;"), (2, u "ordinal"), (0, u "I"), (1, .class_ 14), (1, u "java/lang/Object"), (4, u "hash"), (86, .class_ 108), (1, u "java/lang/Enum$EnumDesc"), (2, .class_ 112), (0, u "java/lang/constant/Constable"), (0, .class_ 114), (0, u "java/lang/Comparable"), (0, .class_ 116), (0, u "java/io/Serializable")] 87

/-- java/lang/Enum -/
def k5 : Class := { plain "java/lang/Enum" (some 0) with
  accessFlags := 1057
  interfaces := #[2, 3, 4]
  cf := some (fileOf pool5 2 #[.nestMembers #[106]] #[] 1057 12 #[111, 113, 115] #[{ accessFlags := 18, nameIndex := 5, descriptorIndex := 6, attributes := #[] }, { accessFlags := 18, nameIndex := 9, descriptorIndex := 10, attributes := #[] }, { accessFlags := 2, nameIndex := 19, descriptorIndex := 10, attributes := #[] }])
  fields := #[{ name := "name", type := (.object "java/lang/String"), accessFlags := 18, slot := 0, constantValue := 0 }, { name := "ordinal", type := .int, accessFlags := 18, slot := 1, constantValue := 0 }, { name := "hash", type := .int, accessFlags := 2, slot := 2, constantValue := 0 }]
  methods := #[]
  instanceTypes := #[(.object "java/lang/String"), .int, .int]
  staticTypes := #[]
  resolved := Array.replicate 204 none
  statics := none }

def pool6 : Array CpInfo := pool [(1, .class_ 2), (0, u "com/example/role_conflict_finder/roleconflictfinder/ConstraintType"), (2, u "ROLE_EXCLUSION"), (0, u "Lcom/example/role_conflict_finder/roleconflictfinder/ConstraintType;"), (2, u "PERMISSION_EXCLUSION"), (2, u "USER_EXCLUSION"), (2, u "ROLE_CARDINALITY"), (2, u "PERMISSION_CARDINALITY"), (2, u "$VALUES"), (0, u "[Lcom/example/role_conflict_finder/roleconflictfinder/ConstraintType;"), (6, .class_ 31), (1, u "java/lang/Enum"), (28, u "word"), (0, u "Ljava/lang/String;"), (2, u "listKind"), (0, u "Lcom/example/role_conflict_finder/roleconflictfinder/NameKind;"), (2, u "targetKind"), (0, .fieldref 1 70), (0, .nameAndType 71 72), (0, u "minimumLimit"), (0, u "I"), (30, u "NO_LIMIT"), (12, u "takesLimit"), (0, u "()Z")] 5

def k6c0 : Code := { maxStack := 1, maxLocals := 1, code := prog_5_method_9_code, exceptionTable := #[], attributes := #[] }
def k6m0 : Method := { name := "takesLimit", desc := "()Z", sig := { parameters := [], returnType := some .boolean }, accessFlags := 1, code := some k6c0 }
/-- com/example/role_conflict_finder/roleconflictfinder/ConstraintType -/
def k6 : Class := { plain "com/example/role_conflict_finder/roleconflictfinder/ConstraintType" (some 5) with
  accessFlags := 16433
  interfaces := #[]
  cf := some (fileOf pool6 1 #[] #[{ accessFlags := 1, nameIndex := 116, descriptorIndex := 117, attributes := #[] }] 16433 29 #[] #[{ accessFlags := 16409, nameIndex := 5, descriptorIndex := 6, attributes := #[] }, { accessFlags := 16409, nameIndex := 9, descriptorIndex := 6, attributes := #[] }, { accessFlags := 16409, nameIndex := 12, descriptorIndex := 6, attributes := #[] }, { accessFlags := 16409, nameIndex := 15, descriptorIndex := 6, attributes := #[] }, { accessFlags := 16409, nameIndex := 18, descriptorIndex := 6, attributes := #[] }, { accessFlags := 25, nameIndex := 103, descriptorIndex := 72, attributes := #[] }, { accessFlags := 18, nameIndex := 60, descriptorIndex := 61, attributes := #[] }, { accessFlags := 18, nameIndex := 64, descriptorIndex := 65, attributes := #[] }, { accessFlags := 18, nameIndex := 68, descriptorIndex := 65, attributes := #[] }, { accessFlags := 18, nameIndex := 71, descriptorIndex := 72, attributes := #[] }, { accessFlags := 4122, nameIndex := 21, descriptorIndex := 22, attributes := #[] }])
  fields := #[{ name := "ROLE_EXCLUSION", type := (.object "com/example/role_conflict_finder/roleconflictfinder/ConstraintType"), accessFlags := 16409, slot := 0, constantValue := 0 }, { name := "PERMISSION_EXCLUSION", type := (.object "com/example/role_conflict_finder/roleconflictfinder/ConstraintType"), accessFlags := 16409, slot := 1, constantValue := 0 }, { name := "USER_EXCLUSION", type := (.object "com/example/role_conflict_finder/roleconflictfinder/ConstraintType"), accessFlags := 16409, slot := 2, constantValue := 0 }, { name := "ROLE_CARDINALITY", type := (.object "com/example/role_conflict_finder/roleconflictfinder/ConstraintType"), accessFlags := 16409, slot := 3, constantValue := 0 }, { name := "PERMISSION_CARDINALITY", type := (.object "com/example/role_conflict_finder/roleconflictfinder/ConstraintType"), accessFlags := 16409, slot := 4, constantValue := 0 }, { name := "NO_LIMIT", type := .int, accessFlags := 25, slot := 5, constantValue := 0 }, { name := "word", type := (.object "java/lang/String"), accessFlags := 18, slot := 3, constantValue := 0 }, { name := "listKind", type := (.object "com/example/role_conflict_finder/roleconflictfinder/NameKind"), accessFlags := 18, slot := 4, constantValue := 0 }, { name := "targetKind", type := (.object "com/example/role_conflict_finder/roleconflictfinder/NameKind"), accessFlags := 18, slot := 5, constantValue := 0 }, { name := "minimumLimit", type := .int, accessFlags := 18, slot := 6, constantValue := 0 }, { name := "$VALUES", type := (.array (.object "com/example/role_conflict_finder/roleconflictfinder/ConstraintType")), accessFlags := 4122, slot := 6, constantValue := 0 }]
  methods := #[k6m0]
  instanceTypes := #[(.object "java/lang/String"), .int, .int, (.object "java/lang/String"), (.object "com/example/role_conflict_finder/roleconflictfinder/NameKind"), (.object "com/example/role_conflict_finder/roleconflictfinder/NameKind"), .int]
  staticTypes := #[(.object "com/example/role_conflict_finder/roleconflictfinder/ConstraintType"), (.object "com/example/role_conflict_finder/roleconflictfinder/ConstraintType"), (.object "com/example/role_conflict_finder/roleconflictfinder/ConstraintType"), (.object "com/example/role_conflict_finder/roleconflictfinder/ConstraintType"), (.object "com/example/role_conflict_finder/roleconflictfinder/ConstraintType"), .int, (.array (.object "com/example/role_conflict_finder/roleconflictfinder/ConstraintType"))]
  resolved := Array.replicate 123 none
  statics := some 0 }

def pool7 : Array CpInfo := pool [(1, u "java/lang/Cloneable"), (0, .class_ 1), (0, u "java/lang/Object"), (0, .class_ 3)] 3

/-- java/lang/Cloneable -/
def k7 : Class := { plain "java/lang/Cloneable" (some 0) with
  accessFlags := 1537
  interfaces := #[]
  cf := some (fileOf pool7 2 #[] #[] 1537 4 #[] #[])
  fields := #[]
  methods := #[]
  instanceTypes := #[]
  staticTypes := #[]
  resolved := Array.replicate 8 none
  statics := none }

/-- the primitive byte -/
def k8 : Class := { plain "byte" none with kind := .primitive 'B', accessFlags := 0x411 }
/-- [B -/
def k9 : Class := { plain "[B" (some 0) with kind := .array 8 .byte, interfaces := #[7, 4], accessFlags := 1041 }

/-- the primitive int -/
def k10 : Class := { plain "int" none with kind := .primitive 'I', accessFlags := 0x411 }
/-- [I -/
def k11 : Class := { plain "[I" (some 0) with kind := .array 10 .int, interfaces := #[7, 4], accessFlags := 1041 }

def heap : Heap := #[{ cls := 6, slots := #[.ref 1, .ref 1, .ref 3, .ref 2, .ref 2, .int 0, .null], vm := .statics 6 },
  { cls := 6, slots := #[.null, .int 0, .int 0, .null, .null, .null, .int 2], vm := .none },
  { cls := 6, slots := #[.null, .int 0, .int 0, .null, .null, .null, .int 1], vm := .none },
  { cls := 6, slots := #[.null, .int 0, .int 0, .null, .null, .null, .int 0], vm := .none }]
def classes : Array Class := #[k0, k1, k2, k3, k4, k5, k6, k7, k8, k9, k10, k11]
def interned : List (Array UInt16 × Addr) := []
def slotsUsed : Nat := 28
def theMethod : MethodId := ⟨1, 2⟩
def args0 : Array Value := #[.int 7]
def aboutOver (below : List Frame) : State where
  vm := { classes := classes, interned := interned.toArray }
  heap := heap
  slotsUsed := slotsUsed
  threads := #[{ frames := .invoking theMethod args0 :: below }]
def below0 : List Frame := [.native { method := ⟨0, 0⟩, args := #[] }]
def about1 : State := aboutOver below0
def p0 : Program := .bare "" "" ""
def e0 : Env := launch0.env 0 0 0
theorem w_frames : about1.frames = Frame.invoking theMethod args0 :: below0 := rfl
set_option maxRecDepth 65536 in
theorem w_args : argsFit about1.vm theMethod args0 = true := by decide +kernel
set_option maxRecDepth 65536 in
theorem w_heap : heapFits about1 = true := by decide +kernel
set_option maxRecDepth 65536 in
theorem w_runnable : about1.curStatus? = some .runnable := by decide +kernel
set_option maxRecDepth 65536 in
theorem w_alone : about1.alone = true := by decide +kernel
set_option maxRecDepth 65536 in
theorem w_named : about1.methodNamed? x = some theMethod := by decide +kernel
set_option maxRecDepth 65536 in
theorem w_hears : about1.hears theMethod below0 = true := by decide +kernel
set_option maxRecDepth 65536 in
theorem w_ripe : about1.ripe theMethod args0 below0 = true := by decide +kernel
theorem w_running : about1.status = .running := rfl
set_option maxRecDepth 65536 in
theorem w_room : about1.hasRoom e0.platform room_1 = true :=
  launch0.hasRoom_least _ room_1 (by decide +kernel) (by decide +kernel) (by decide +kernel) (by decide +kernel) (by decide +kernel) (by decide +kernel)
theorem allAtoms_all (ts : List Jvm.Cond) (a : Array Jvm.Value) (st : Jvm.State) : (allAtoms ts).before a st = ts.all (fun c => c.before a st) := by
  induction ts with
  | nil => rfl
  | cons c t ih =>
    show (Jvm.Cond.and c (allAtoms t)).before a st = _
    rw [Jvm.Cond.before_and, ih, List.all_cons]
def words1 : List Jvm.Cond := Jvm.Cond.code x code maxLocals ret :: tables_1
/-- a 'code' word, met by the world's own term for the bytes: nothing is compared byte by byte -/
theorem code_word {y : MethodName} {bytes : ByteArray} {mx : Nat} {rt : Option FieldType} {a : Array Value} {s : State} {m : MethodId} {meth : Method} {c : Code} (h1 : s.methodNamed? y = some m) (h2 : s.vm.method? m = some meth) (h3 : meth.code = some c) (h4 : c.code = bytes)
    (h5 : (c.maxLocals == mx && c.exceptionTable.isEmpty && decide (c.maxStack ≤ mostOperands) && decide (meth.sig.returnType = rt) && !meth.locks && decide (parseMethodDescriptor y.desc = some meth.sig)) = true) : (Jvm.Cond.code y bytes mx rt).before a s = true := by
  simp only [Bool.and_eq_true, beq_iff_eq, Bool.not_eq_true', decide_eq_true_eq] at h5
  obtain ⟨⟨⟨⟨⟨g1, g2⟩, g3⟩, g4⟩, g5⟩, g6⟩ := h5
  simp [Cond.before, Cond.holds, Cond.value, h1, h2, h3, h4, g1, g2, g3, g4, g5, g6]
def isCode : Jvm.Cond → Bool
  | .code _ _ _ _ => true
  | _ => false
theorem all_split {L : List Jvm.Cond} {P : Jvm.Cond → Bool} (h1 : L.all (fun c => isCode c || P c) = true) (h2 : ∀ c ∈ L.filter isCode, P c = true) : L.all P = true := by
  refine List.all_eq_true.mpr fun c hc => ?_
  have h := List.all_eq_true.mp h1 c hc
  rcases Bool.eq_false_or_eq_true (isCode c) with hi | hi
  · exact h2 c (List.mem_filter.mpr ⟨hc, hi⟩)
  · simpa [hi] using h
set_option maxRecDepth 65536 in
theorem w_c0 : (Jvm.Cond.code x code maxLocals ret).before args0 about1 = true := code_word (m := ⟨1, 2⟩) (meth := k1m2) (c := k1c2) (by decide +kernel) rfl rfl rfl (by decide +kernel)
set_option maxRecDepth 65536 in
theorem w_c1 : (Jvm.Cond.code ({ cls := "com/example/role_conflict_finder/roleconflictfinder/ConstraintTypeTakesLimitPinLaw", name := "pick", desc := "(I)Lcom/example/role_conflict_finder/roleconflictfinder/ConstraintType;" } : Jvm.MethodName) method_2_code (1 : Nat) (Option.some (Jvm.ClassFile.FieldType.object "com/example/role_conflict_finder/roleconflictfinder/ConstraintType"))).before args0 about1 = true := code_word (m := ⟨1, 1⟩) (meth := k1m1) (c := k1c1) (by decide +kernel) rfl rfl rfl (by decide +kernel)
set_option maxRecDepth 65536 in
theorem w_c2 : (Jvm.Cond.code ({ cls := "com/example/role_conflict_finder/roleconflictfinder/ConstraintType", name := "takesLimit", desc := "()Z" } : Jvm.MethodName) prog_5_method_9_code (1 : Nat) (Option.some Jvm.ClassFile.FieldType.boolean)).before args0 about1 = true := code_word (m := ⟨6, 0⟩) (meth := k6m0) (c := k6c0) (by decide +kernel) rfl rfl rfl (by decide +kernel)
def codes1 : List Jvm.Cond := [Jvm.Cond.code x code maxLocals ret, Jvm.Cond.code ({ cls := "com/example/role_conflict_finder/roleconflictfinder/ConstraintTypeTakesLimitPinLaw", name := "pick", desc := "(I)Lcom/example/role_conflict_finder/roleconflictfinder/ConstraintType;" } : Jvm.MethodName) method_2_code (1 : Nat) (Option.some (Jvm.ClassFile.FieldType.object "com/example/role_conflict_finder/roleconflictfinder/ConstraintType")), Jvm.Cond.code ({ cls := "com/example/role_conflict_finder/roleconflictfinder/ConstraintType", name := "takesLimit", desc := "()Z" } : Jvm.MethodName) prog_5_method_9_code (1 : Nat) (Option.some Jvm.ClassFile.FieldType.boolean)]
set_option maxRecDepth 65536 in
theorem codes_eq : words1.filter isCode = codes1 := rfl
theorem w_codes : ∀ c ∈ words1.filter isCode, c.before args0 about1 = true := by
  rw [codes_eq]
  intro c hc
  simp only [codes1, List.mem_cons, List.not_mem_nil, or_false] at hc
  rcases hc with rfl | rfl | rfl
  · exact w_c0
  · exact w_c1
  · exact w_c2
set_option maxRecDepth 65536 in
theorem w_t1 : words1.all (fun c => isCode c || c.before args0 about1) = true := by decide +kernel
theorem w_tables : (allAtoms (Jvm.Cond.code x code maxLocals ret :: tables_1)).before args0 about1 = true := by
  rw [allAtoms_all]
  show words1.all (fun c => c.before args0 about1) = true
  refine all_split ?_ w_codes
  rw [w_t1]
set_option maxRecDepth 65536 in
theorem w_case : (Jvm.Cond.and given_1 narrow_1).before args0 about1 = true := by decide +kernel
theorem w_applies : (headSpec (Jvm.Cond.code x code maxLocals ret :: tables_1) room_1).applies x e0.platform about1 = true :=
  (Spec.applies_iff w_frames).mpr ⟨w_running, w_runnable, w_alone, w_named, w_hears, w_ripe, w_room, w_tables⟩
theorem atStart : AtStart classFile x code maxLocals ret World_1 tables_1 room_1 Calls_1 rest_1 Pre_1 launch0 p0 e0 about1 theMethod args0 below0 :=
  ⟨lists_1, trivial, launch0.admits_env _ _ _, launch0.least_env, fairChoices_fair.cas, fairChoices_fair.clock, w_frames, w_args, w_heap, w_applies, trivial, trivial, w_case⟩
end start1
theorem witness_1 : WitnessClaimed_1 := ⟨start1.p0, start1.e0, start1.about1, start1.theMethod, start1.args0, start1.below0, start1.atStart⟩
end Jvm.Pilot.@@N@@
