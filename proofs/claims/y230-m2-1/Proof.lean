import JvmDerived
import JvmDerived.Pilot.@@N@@Statement
import JvmDerived.Pilot.@@N@@Code
set_option linter.unusedVariables false
set_option linter.unusedSimpArgs false
namespace Jvm.RoadKit
open Sem ClassFile Op Lib Jvm.Stand Jvm.Free Jvm.LawKit
abbrev Go (tb : Tables) (e : Env) (below : List Frame) (A B : State) : Prop := ∀ t, Steps tb e below B t → Steps tb e below A t
theorem goT {tb : Tables} {e : Env} {below : List Frame} {A B C : State} (f : Go tb e below A B) (g : Go tb e below B C) : Go tb e below A C := fun t h => f t (g t h)
section New
variable {p : Program} {l : Launch} {e : Env} {R : Room} {s : State} {m : MethodId} {args : Array Value} {below : List Frame} {meth : Method} {c : Code} {T : State} {locs : List Loc} {cells slots : Nat}
theorem retI (X : Stand p l e R s m args below meth c T locs cells slots) (hx : p.tables.exec = Jvm.exec) {pc : Nat} {Ls : Array Slot} {z : Int32} {rest : List Value} (hret : meth.sig.returnType = some .int) (hd : decode c.code pc = .ok (.ireturn, 1)) {fs : List Frame}
    (hl : ∀ (f : JFrame) (acts : List Action), f.method = m → f.locked = none → f.entered = [] → (doReturn e (T.setTop f) acts (some (.int z))).1 = T.setFrames fs) : Steps p.tables e below (T.setTop (mkF m pc Ls (.int z :: rest))) (T.setFrames fs) := by
  have hm' : T.vm.method? m = some meth := X.method'
  have hn : narrow .int (.int z) = .int z := rfl
  show Steps p.tables e below (T.setTop { method := m, pc := pc, locals := Ls, stack := _ :: rest, locked := none }) _
  jvm_step X.here [X.here.top, hx, hd, hm', hret, hn]
  first | (intro acts; rw [hl _ acts rfl rfl rfl]) | rw [hl _ _ rfl rfl rfl]
  exact Steps.refl _
theorem retJ (X : Stand p l e R s m args below meth c T locs cells slots) (hx : p.tables.exec = Jvm.exec) {pc : Nat} {Ls : Array Slot} {z : Int64} {rest : List Value} (hret : meth.sig.returnType = some .long) (hd : decode c.code pc = .ok (.lreturn, 1)) {fs : List Frame}
    (hl : ∀ (f : JFrame) (acts : List Action), f.method = m → f.locked = none → f.entered = [] → (doReturn e (T.setTop f) acts (some (.long z))).1 = T.setFrames fs) : Steps p.tables e below (T.setTop (mkF m pc Ls (.long z :: rest))) (T.setFrames fs) := by
  have hm' : T.vm.method? m = some meth := X.method'
  have hn : narrow .long (.long z) = .long z := rfl
  show Steps p.tables e below (T.setTop { method := m, pc := pc, locals := Ls, stack := _ :: rest, locked := none }) _
  jvm_step X.here [X.here.top, hx, hd, hm', hret, hn]
  first | (intro acts; rw [hl _ acts rfl rfl rfl]) | rw [hl _ _ rfl rfl rfl]
  exact Steps.refl _
theorem retR (X : Stand p l e R s m args below meth c T locs cells slots) (hx : p.tables.exec = Jvm.exec) {pc : Nat} {Ls : Array Slot} {z : Addr} {rest : List Value} {C : String} (hret : meth.sig.returnType = some (.object C)) (hd : decode c.code pc = .ok (.areturn, 1)) {fs : List Frame}
    (hl : ∀ (f : JFrame) (acts : List Action), f.method = m → f.locked = none → f.entered = [] → (doReturn e (T.setTop f) acts (some (.ref z))).1 = T.setFrames fs) : Steps p.tables e below (T.setTop (mkF m pc Ls (.ref z :: rest))) (T.setFrames fs) := by
  have hm' : T.vm.method? m = some meth := X.method'
  show Steps p.tables e below (T.setTop { method := m, pc := pc, locals := Ls, stack := _ :: rest, locked := none }) _
  jvm_step X.here [X.here.top, hx, hd, hm', hret, Value.isRef, FieldType.isReference]
  first | (intro acts; rw [hl _ acts rfl rfl rfl]) | rw [hl _ _ rfl rfl rfl]
  exact Steps.refl _
end New
theorem own_sta_keep {Z : State} {h h' : Heap} {b : Addr} {C n d K : String} {v : Value} (F : Sta Z h C n d v) (E : Exa Z h b K) (Kp : Keep h h' [b]) : Sta Z h' C n d v := by
  obtain ⟨cf, i, k, f, st, cell, h1, h2, h3, h4, h5, h6, h7⟩ := F
  obtain ⟨c2, _, g1, -, -, g4, -⟩ := E
  have ne : st ∉ [b] := fun q => by
    cases List.mem_singleton.mp q
    cases h5.symm.trans g1
    rw [g4] at h6; cases h6
  exact ⟨cf, i, k, f, st, cell, h1, h2, h3, h4, Kp.2.1 st cell h5 ne, h6, h7⟩
theorem own_mvM {Z s : State} {a0 args : Array Value} {own host : String} {index : Nat} {y : MethodName} (hZ : Z.Warmed39 s.vm) (w : (Cond.methodLinkNest own index y host).before a0 Z = true) : (Cond.methodLinkNest own index y host).before args s = true := (Cond.methodLinkNest_wide hZ w :)
theorem own_fld_ne {Z : State} {h : Heap} {a : Addr} {C n d : String} {v w : Value} (F : Fld Z h a C n d v) (G : Fld Z h a C n d w) (ne : v ≠ w) : False := by
  obtain ⟨cell, cf, k, i, f, h1, h2, -, -, -, -, h7⟩ := F
  obtain ⟨cell', cf', k', i', f', g1, g2, -, -, -, -, g7⟩ := G
  cases h1.symm.trans g1
  cases h2.symm.trans g2
  cases h7.symm.trans g7
  exact ne rfl
theorem own_eq_i {args : Array Value} {first s : State} {o : Option Outcome} {idx : List Nat} {a : Term} {z : Int32} (h : (Cond.eq a (.int z)).value args first o s idx = some true) : a.eval args first o idx s = some (.int z) := by
  cases ha : a.eval args first o idx s with
  | none => simp [Cond.value, Term.eval, ha] at h
  | some x => cases x <;> simp [Cond.value, Term.eval, ha] at h ⊢; exact h
theorem own_eq_l {args : Array Value} {first s : State} {o : Option Outcome} {idx : List Nat} {a : Term} {z : Int64} (h : (Cond.eq a (.long z)).value args first o s idx = some true) : a.eval args first o idx s = some (.long z) := by
  cases ha : a.eval args first o idx s with
  | none => simp [Cond.value, Term.eval, ha] at h
  | some x => cases x <;> simp [Cond.value, Term.eval, ha] at h ⊢; exact h
theorem own_ltL {x y : Int64} (h : x < y) : lcmpW x y < 0 := (lw_lt x y).mpr h
theorem own_nltL {x y : Int64} (h : ¬ x < y) : ¬ lcmpW x y < 0 := fun q => h ((lw_lt x y).mp q)
theorem own_gtL {x y : Int64} (h : y < x) : 0 < lcmpW x y := (lw_gt x y).mpr h
theorem own_ngtL {x y : Int64} (h : ¬ y < x) : ¬ 0 < lcmpW x y := fun q => h ((lw_gt x y).mp q)
theorem own_eqL {x y : Int64} (h : x = y) : lcmpW x y = 0 := (lw_eq x y).mpr h
theorem own_neqL {x y : Int64} (h : ¬ x = y) : ¬ lcmpW x y = 0 := fun q => h ((lw_eq x y).mp q)
end Jvm.RoadKit
namespace Jvm.Pilot.@@N@@
open Jvm Jvm.ClassFile Sem Op Lib Jvm.Free Jvm.Stand Jvm.LawKit Jvm.RoadKit Bundle Jvm.Pilot.@@N@@.Jvm.D
theorem own_and (x m : Int32) (k : Nat) (hk : k < 32) (hm : m.toBitVec.toNat = 2 ^ k - 1) : x &&& m = Int32.ofNat (x.toBitVec.toNat % 2 ^ k) := by
  apply Int32.toBitVec_inj.mp
  apply BitVec.eq_of_toNat_eq
  show (x.toBitVec &&& m.toBitVec).toNat = (x.toBitVec.toNat % 2 ^ k) % 2 ^ 32
  have hp : 2 ^ k ≤ 2 ^ 32 := Nat.pow_le_pow_right (by decide) (by omega)
  have hq : x.toBitVec.toNat % 2 ^ k < 2 ^ k := Nat.mod_lt _ (Nat.two_pow_pos k)
  rw [BitVec.toNat_and, hm, Nat.and_two_pow_sub_one_eq_mod, Nat.mod_eq_of_lt (Nat.lt_of_lt_of_le hq hp)]
theorem own_ofNat {n : Nat} (h : n < 2 ^ 31) : (Int32.ofNat n).toInt = n := Int32.toInt_ofNat_of_lt h
theorem own_rem {n k : Nat} (h : n < 2 ^ 31) (hk : 0 < k) (hk2 : k < 2 ^ 31) : Int32.ofNat n % Int32.ofNat k = Int32.ofNat (n % k) := by
  apply Int32.toInt_inj.mp
  have : n % k < k := Nat.mod_lt _ hk
  rw [Int32.toInt_mod, own_ofNat h, own_ofNat hk2, own_ofNat (by omega), Int.tmod_eq_emod_of_nonneg (by omega)]
  rfl
theorem own_bmod {n : Int} (h1 : -2 ^ 31 ≤ n) (h2 : n < 2 ^ 31) : n.bmod (2 ^ 32) = n := by
  rw [Int.bmod_def]; omega
theorem own_remE {n k : Nat} (h : n < 2 ^ 31) (hk : 0 < k) (hk2 : k < 2 ^ 31) : Int32.ofNat n - ((Int32.ofNat n / Int32.ofNat k) * Int32.ofNat k) = Int32.ofNat (n % k) := by
  apply Int32.toInt_inj.mp
  have h3 : n % k < k := Nat.mod_lt _ hk
  have h4 : n / k ≤ n := Nat.div_le_self _ _
  have h5 : (n / k) * k + n % k = n := Nat.div_add_mod' n k
  have e0 : (n : Int).tdiv (k : Int) = ((n / k : Nat) : Int) := rfl
  generalize n / k = d at *
  generalize n % k = r at *
  have e1 : (Int32.ofNat n / Int32.ofNat k).toInt = (d : Int) := by
    rw [Int32.toInt_div, own_ofNat h, own_ofNat hk2, e0]
    exact own_bmod (by omega) (by omega)
  have e2 : ((Int32.ofNat n / Int32.ofNat k) * Int32.ofNat k).toInt = ((d * k : Nat) : Int) := by
    rw [Int32.toInt_mul, e1, own_ofNat hk2, ← Int.natCast_mul]
    exact own_bmod (by omega) (by omega)
  rw [Int32.toInt_sub, e2, own_ofNat h, own_ofNat (by omega), own_bmod (by omega) (by omega)]
  omega
theorem d_of_0 : decode prog_9_method_4_code 0 = .ok (.iload_n 0, 1) := by decide +kernel
theorem d_of_1 : decode prog_9_method_4_code 1 = .ok (.iload_n 1, 1) := by decide +kernel
theorem d_of_2 : decode prog_9_method_4_code 2 = .ok (.if_icmp .le 7, 3) := by decide +kernel
theorem d_of_5 : decode prog_9_method_4_code 5 = .ok (.getstatic 3, 3) := by decide +kernel
theorem d_of_8 : decode prog_9_method_4_code 8 = .ok (.areturn, 1) := by decide +kernel
theorem d_of_9 : decode prog_9_method_4_code 9 = .ok (.iload_n 1, 1) := by decide +kernel
theorem d_of_10 : decode prog_9_method_4_code 10 = .ok (.iload_n 0, 1) := by decide +kernel
theorem d_of_11 : decode prog_9_method_4_code 11 = .ok (.if_icmp .le 9, 3) := by decide +kernel
theorem d_of_14 : decode prog_9_method_4_code 14 = .ok (.getstatic 7, 3) := by decide +kernel
theorem d_of_17 : decode prog_9_method_4_code 17 = .ok (.goto 6, 3) := by decide +kernel
theorem d_of_20 : decode prog_9_method_4_code 20 = .ok (.getstatic 10, 3) := by decide +kernel
theorem d_of_23 : decode prog_9_method_4_code 23 = .ok (.areturn, 1) := by decide +kernel
theorem pn_0 : plainName "ninepoint/Outcome" = true := by first | (simp [plainName, overriddenIn]; done) | decide +kernel
theorem ef_of (m : MethodId) (x0 : Int32) (x1 : Int32) : entryFrame m #[(.int x0), (.int x1)] 2 = mkF m 0 #[.val (.int x0), .val (.int x1)] [] := by first | (simp [entryFrame, mkF, argsToLocals, Value.category]; done) | rfl
def f_of (p0 : Int32) (p1 : Int32) (wP : Addr) (wB : Addr) (wT : Addr) : Addr := (if p1 < p0 then wP else (if p0 < p1 then wB else wT))
def Q_of (Z : State) (p0 : Int32) (p1 : Int32) (wP : Addr) (wB : Addr) (wT : Addr) (h0 : Heap) (n0 : Nat) (v : Option Value) (h : Heap) (L : List Loc) : Prop := v = some (.ref (f_of p0 p1 wP wB wT)) ∧ Fr n0 L ∧ h = h0
set_option maxRecDepth 65536 in
set_option maxHeartbeats 40000000 in
theorem rm_of (l : Launch) (Z : State) (a0 : Array Value) (hw : ∀ d ∈ tables_1, d.before a0 Z = true) (ws : List Jvm.Cond) (p0 : Int32) (p1 : Int32) (wP : Addr) (wB : Addr) (wT : Addr) (h0 : Heap) (n0 : Nat) (Z0 : n0 ≤ h0.size) (S_PLAYER : Sta Z h0 "ninepoint/Outcome" "PLAYER" "Lninepoint/Outcome;" (.ref wP)) (S_BANKER : Sta Z h0 "ninepoint/Outcome" "BANKER" "Lninepoint/Outcome;" (.ref wB)) (S_TIE : Sta Z h0 "ninepoint/Outcome" "TIE" "Lninepoint/Outcome;" (.ref wT)) :
    MetFree l (⟨"ninepoint/Outcome", "of", "(II)Lninepoint/Outcome;"⟩ : MethodName) (head1 (Jvm.Cond.code (⟨"ninepoint/Outcome", "of", "(II)Lninepoint/Outcome;"⟩ : MethodName) prog_9_method_4_code 2 (some (.object "ninepoint/Outcome")) :: ws) ({ frames := 0, cells := 0, slots := 0, locals := 0 } : Room)) (fun a U => a = #[(.int p0), (.int p1)] ∧ Z.Warmed39 U.vm ∧ U.heap = h0) (fun _ _ _ _ _ => True) (fun _ U o U' => ∃ v L, o = .returned v ∧ Q_of Z p0 p1 wP wB wT h0 n0 v U'.heap L ∧ FrameEnd U o U' L ({ frames := 0, cells := 0, slots := 0, locals := 0 } : Room).cells ({ frames := 0, cells := 0, slots := 0, locals := 0 } : Room).slots) := by
  refine MetFree.of_bodySF (plainFor_of_name pn_0) hisR ?_
  intro p e s m args below meth c s₁ Bd hml0 hP hK
  obtain ⟨rfl, hZ, hh⟩ := hP
  have hx := Bd.exec
  have hby := Bd.bytes
  have hml : c.maxLocals = 2 := hml0
  have hown : s.vm.findClass "ninepoint/Outcome" = some m.cls := findClass_of_methodNamed Bd.named
  have hnm := (name_of_methodNamed Bd.named Bd.method).1
  have X0 : Stand p l e ({ frames := 0, cells := 0, slots := 0, locals := 0 } : Room) s m #[(.int p0), (.int p1)] below meth c s₁ [] 0 0 := Stand.of_body Bd
  have e0 : s₁.heap = h0 := by rw [← hh, Bd.state]; rfl
  have N0 := Fr.nil n0
  have pre0 : ∀ t, Steps p.tables e below (s₁.setTop (mkF m 0 #[.val (.int p0), .val (.int p1)] [])) t → Steps p.tables e below (s₁.setTop (entryFrame m #[(.int p0), (.int p1)] 2)) t := fun t k => castTop (ef_of m p0 p1) k
  have k1 : Go p.tables e below (s₁.setTop (mkF m 0 #[.val (.int p0), .val (.int p1)] [])) (s₁.setTop (mkF m 2 #[.val (.int p0), .val (.int p1)] [(.int p1), (.int p0)])) := by
    intro t ht
    refine XS.iloadN X0.here hx rfl (hb hby d_of_0) rfl ?_
    show Steps p.tables e below (s₁.setTop (mkF m 1 #[.val (.int p0), .val (.int p1)] [(.int p0)])) _
    refine XS.iloadN X0.here hx rfl (hb hby d_of_1) rfl ?_
    exact ht
  by_cases hc2 : p1 < p0
  · have k3 : Go p.tables e below (s₁.setTop (mkF m 2 #[.val (.int p0), .val (.int p1)] [(.int p1), (.int p0)])) (s₁.setTop (mkF m 5 #[.val (.int p0), .val (.int p1)] [])) := by
      intro t ht
      refine XS.icmpNo X0.here hx rfl (hb hby d_of_2) rfl (tlt hc2).2.2.2 ?_
      exact ht
    obtain ⟨T4, X4, e4, st4⟩ := getS2 X0 hx hZ hown (host := "") (Or.inl (hw _ (List.mem_of_getElem? (i := 6) rfl))) Via.refl e0 S_PLAYER (g := (mkF m 5 #[.val (.int p0), .val (.int p1)] [])) rfl (hb hby d_of_5)
    have k4 : Go p.tables e below (s₁.setTop (mkF m 5 #[.val (.int p0), .val (.int p1)] [])) (T4.setTop (mkF m 8 #[.val (.int p0), .val (.int p1)] [(.ref wP)])) := st4
    obtain ⟨fs, hr, hrun, hended, hW, hsame⟩ := X4.leave (v := some (.ref wP)) (fun h => by rw [Bd.returns] at h; cases h)
    refine ⟨_, _, pre0 _ ((goT k1 (goT k3 k4)) _ (retR X4 hx Bd.returns (hb hby d_of_8) hr)), hrun, hended, _, _, rfl, ?_, ⟨_, rfl⟩, hW, hsame.mono (by decide) (by decide)⟩
    show Q_of Z p0 p1 wP wB wT h0 n0 _ T4.heap _
    rw [e4]
    exact ⟨by simp only [f_of, if_pos hc2], N0, rfl⟩
  · have k5 : Go p.tables e below (s₁.setTop (mkF m 2 #[.val (.int p0), .val (.int p1)] [(.int p1), (.int p0)])) (s₁.setTop (mkF m 11 #[.val (.int p0), .val (.int p1)] [(.int p0), (.int p1)])) := by
      intro t ht
      refine XS.icmpYes X0.here hx rfl (pc0 := 2) (pc' := 9) rfl (hb hby d_of_2) rfl (flt hc2).2.2.2 (by decide) (by decide) ?_
      show Steps p.tables e below (s₁.setTop (mkF m 9 #[.val (.int p0), .val (.int p1)] [])) _
      refine XS.iloadN X0.here hx rfl (hb hby d_of_9) rfl ?_
      show Steps p.tables e below (s₁.setTop (mkF m 10 #[.val (.int p0), .val (.int p1)] [(.int p1)])) _
      refine XS.iloadN X0.here hx rfl (hb hby d_of_10) rfl ?_
      exact ht
    by_cases hc6 : p0 < p1
    · have k7 : Go p.tables e below (s₁.setTop (mkF m 11 #[.val (.int p0), .val (.int p1)] [(.int p0), (.int p1)])) (s₁.setTop (mkF m 14 #[.val (.int p0), .val (.int p1)] [])) := by
        intro t ht
        refine XS.icmpNo X0.here hx rfl (hb hby d_of_11) rfl (tlt hc6).2.2.2 ?_
        exact ht
      obtain ⟨T8, X8, e8, st8⟩ := getS2 X0 hx hZ hown (host := "") (Or.inl (hw _ (List.mem_of_getElem? (i := 4) rfl))) Via.refl e0 S_BANKER (g := (mkF m 14 #[.val (.int p0), .val (.int p1)] [])) rfl (hb hby d_of_14)
      have k8 : Go p.tables e below (s₁.setTop (mkF m 14 #[.val (.int p0), .val (.int p1)] [])) (T8.setTop (mkF m 17 #[.val (.int p0), .val (.int p1)] [(.ref wB)])) := st8
      have k9 : Go p.tables e below (T8.setTop (mkF m 17 #[.val (.int p0), .val (.int p1)] [(.ref wB)])) (T8.setTop (mkF m 23 #[.val (.int p0), .val (.int p1)] [(.ref wB)])) := by
        intro t ht
        refine XS.goto X8.here hx rfl (pc0 := 17) (pc' := 23) rfl (hb hby d_of_17) (by decide) (by decide) ?_
        exact ht
      obtain ⟨fs, hr, hrun, hended, hW, hsame⟩ := X8.leave (v := some (.ref wB)) (fun h => by rw [Bd.returns] at h; cases h)
      refine ⟨_, _, pre0 _ ((goT k1 (goT k5 (goT k7 (goT k8 k9)))) _ (retR X8 hx Bd.returns (hb hby d_of_23) hr)), hrun, hended, _, _, rfl, ?_, ⟨_, rfl⟩, hW, hsame.mono (by decide) (by decide)⟩
      show Q_of Z p0 p1 wP wB wT h0 n0 _ T8.heap _
      rw [e8]
      exact ⟨by simp only [f_of, if_neg hc2, if_pos hc6], N0, rfl⟩
    · have k10 : Go p.tables e below (s₁.setTop (mkF m 11 #[.val (.int p0), .val (.int p1)] [(.int p0), (.int p1)])) (s₁.setTop (mkF m 20 #[.val (.int p0), .val (.int p1)] [])) := by
        intro t ht
        refine XS.icmpYes X0.here hx rfl (pc0 := 11) (pc' := 20) rfl (hb hby d_of_11) rfl (flt hc6).2.2.2 (by decide) (by decide) ?_
        exact ht
      obtain ⟨T11, X11, e11, st11⟩ := getS2 X0 hx hZ hown (host := "") (Or.inl (hw _ (List.mem_of_getElem? (i := 10) rfl))) Via.refl e0 S_TIE (g := (mkF m 20 #[.val (.int p0), .val (.int p1)] [])) rfl (hb hby d_of_20)
      have k11 : Go p.tables e below (s₁.setTop (mkF m 20 #[.val (.int p0), .val (.int p1)] [])) (T11.setTop (mkF m 23 #[.val (.int p0), .val (.int p1)] [(.ref wT)])) := st11
      obtain ⟨fs, hr, hrun, hended, hW, hsame⟩ := X11.leave (v := some (.ref wT)) (fun h => by rw [Bd.returns] at h; cases h)
      refine ⟨_, _, pre0 _ ((goT k1 (goT k5 (goT k10 k11))) _ (retR X11 hx Bd.returns (hb hby d_of_23) hr)), hrun, hended, _, _, rfl, ?_, ⟨_, rfl⟩, hW, hsame.mono (by decide) (by decide)⟩
      show Q_of Z p0 p1 wP wB wT h0 n0 _ T11.heap _
      rw [e11]
      exact ⟨by simp only [f_of, if_neg hc2, if_neg hc6], N0, rfl⟩
theorem own_d (p b : Int32) : (p.toInt64 - b.toInt64).toInt = p.toInt - b.toInt := by
  have h1 := p.toInt_lt; have h2 := p.le_toInt; have h3 := b.toInt_lt; have h4 := b.le_toInt
  rw [Int64.toInt_sub, Int32.toInt_toInt64, Int32.toInt_toInt64, Int.bmod_eq_of_le] <;> omega
theorem own_gt {p b : Int32} {P B T : Addr} (h : (0 : Int64) < (p.toInt64 - b.toInt64)) : f_of p b P B T = P ∧ f_of b p P B T = B := by
  rw [Int64.lt_iff_toInt_lt, own_d] at h
  have c : (0 : Int64).toInt = 0 := rfl
  simp only [f_of, Int32.lt_iff_toInt_lt]
  rw [if_pos (by omega), if_neg (by omega), if_pos (by omega)]
  exact ⟨rfl, rfl⟩
theorem own_lt {p b : Int32} {P B T : Addr} (h : (p.toInt64 - b.toInt64) < (0 : Int64)) : f_of p b P B T = B ∧ f_of b p P B T = P := by
  rw [Int64.lt_iff_toInt_lt, own_d] at h
  have c : (0 : Int64).toInt = 0 := rfl
  simp only [f_of, Int32.lt_iff_toInt_lt]
  rw [if_neg (by omega), if_pos (by omega), if_pos (by omega)]
  exact ⟨rfl, rfl⟩
theorem own_eq {p b : Int32} {P B T : Addr} (h : ¬ (0 : Int64) < (p.toInt64 - b.toInt64)) (h2 : ¬ (p.toInt64 - b.toInt64) < (0 : Int64)) : f_of p b P B T = T ∧ f_of b p P B T = T := by
  rw [Int64.lt_iff_toInt_lt, own_d] at h h2
  have c : (0 : Int64).toInt = 0 := rfl
  simp only [f_of, Int32.lt_iff_toInt_lt]
  rw [if_neg (by omega), if_neg (by omega), if_neg (by omega), if_neg (by omega)]
  exact ⟨rfl, rfl⟩
theorem pd_0 : parseMethodDescriptor "(II)Lninepoint/Outcome;" = some ⟨[.int, .int], some (.object "ninepoint/Outcome")⟩ := by decide +kernel
theorem pn_1 : plainName "ninepoint/OutcomeOfPinLaw" = true := by first | (simp [plainName, overriddenIn]; done) | decide +kernel
theorem ef_law (m : MethodId) (x0 : Int32) (x1 : Int32) (x2 : Int32) : entryFrame m #[(.int x0), (.int x1), (.int x2)] maxLocals = mkF m 0 #[.val (.int x0), .val (.int x1), .val (.int x2), .unset, .unset, .unset, .unset, .unset, .unset, .unset] [] := by first | (simp [entryFrame, mkF, argsToLocals, Value.category, maxLocals]; done) | rfl
def Q_law (Z : State) (p0 : Int32) (p1 : Int32) (p2 : Int32) (wP : Addr) (wB : Addr) (wT : Addr) (h0 : Heap) (n0 : Nat) (v : Option Value) (h : Heap) (L : List Loc) : Prop := v = some (.int (1 : Int32)) ∧ Fr n0 L
set_option maxRecDepth 65536 in
set_option maxHeartbeats 40000000 in
theorem rm_law (l : Launch) (Z : State) (a0 : Array Value) (hw : ∀ d ∈ tables_1, d.before a0 Z = true) (ws : List Jvm.Cond) (p0 : Int32) (p1 : Int32) (p2 : Int32) (wP : Addr) (wB : Addr) (wT : Addr) (h0 : Heap) (n0 : Nat) (Z0 : n0 ≤ h0.size) (S_PLAYER : Sta Z h0 "ninepoint/Outcome" "PLAYER" "Lninepoint/Outcome;" (.ref wP)) (S_BANKER : Sta Z h0 "ninepoint/Outcome" "BANKER" "Lninepoint/Outcome;" (.ref wB)) (S_TIE : Sta Z h0 "ninepoint/Outcome" "TIE" "Lninepoint/Outcome;" (.ref wT)) :
    MetFree l x (head1 (Jvm.Cond.code x code maxLocals ret :: ws) room_1) (fun a U => a = #[(.int p0), (.int p1), (.int p2)] ∧ Z.Warmed39 U.vm ∧ U.heap = h0) (fun _ _ _ _ _ => True) (fun _ U o U' => ∃ v L, o = .returned v ∧ Q_law Z p0 p1 p2 wP wB wT h0 n0 v U'.heap L ∧ FrameEnd U o U' L room_1.cells room_1.slots) := by
  refine MetFree.of_bodySF (plainFor_of_name pn_1) hisR ?_
  intro p e s m args below meth c s₁ Bd hml0 hP hK
  obtain ⟨rfl, hZ, hh⟩ := hP
  have hx := Bd.exec
  have hby := Bd.bytes
  have hml : c.maxLocals = 10 := hml0
  have hown : s.vm.findClass "ninepoint/OutcomeOfPinLaw" = some m.cls := findClass_of_methodNamed Bd.named
  have hnm := (name_of_methodNamed Bd.named Bd.method).1
  have X0 : Stand p l e room_1 s m #[(.int p0), (.int p1), (.int p2)] below meth c s₁ [] 0 0 := Stand.of_body Bd
  have e0 : s₁.heap = h0 := by rw [← hh, Bd.state]; rfl
  have N0 := Fr.nil n0
  have pre0 : ∀ t, Steps p.tables e below (s₁.setTop (mkF m 0 #[.val (.int p0), .val (.int p1), .val (.int p2), .unset, .unset, .unset, .unset, .unset, .unset, .unset] [])) t → Steps p.tables e below (s₁.setTop (entryFrame m #[(.int p0), (.int p1), (.int p2)] maxLocals)) t := fun t k => castTop (ef_law m p0 p1 p2) k
  have k1 : Go p.tables e below (s₁.setTop (mkF m 0 #[.val (.int p0), .val (.int p1), .val (.int p2), .unset, .unset, .unset, .unset, .unset, .unset, .unset] [])) (s₁.setTop (mkF m 3 #[.val (.int p0), .val (.int p1), .val (.int p2), .unset, .unset, .unset, .unset, .unset, .unset, .unset] [(.int (p2 &&& (1 : Int32)))])) := by
    intro t ht
    refine XS.iloadN X0.here hx rfl (hb hby at_0) rfl ?_
    show Steps p.tables e below (s₁.setTop (mkF m 1 #[.val (.int p0), .val (.int p1), .val (.int p2), .unset, .unset, .unset, .unset, .unset, .unset, .unset] [(.int p2)])) _
    refine XS.iconst X0.here hx rfl (hb hby at_1) ?_
    show Steps p.tables e below (s₁.setTop (mkF m 2 #[.val (.int p0), .val (.int p1), .val (.int p2), .unset, .unset, .unset, .unset, .unset, .unset, .unset] [(.int (1 : Int32)), (.int p2)])) _
    refine XS.iand X0.here hx rfl (hb hby at_2) rfl ?_
    exact ht
  have k2 : Go p.tables e below (s₁.setTop (mkF m 3 #[.val (.int p0), .val (.int p1), .val (.int p2), .unset, .unset, .unset, .unset, .unset, .unset, .unset] [(.int (p2 &&& (1 : Int32)))])) (s₁.setTop (mkF m 11 #[.val (.int p0), .val (.int p1), .val (.int p2), .unset, .unset, .unset, .unset, .unset, .unset, .unset] [(.int (if (p2 &&& (1 : Int32)) = (0 : Int32) then p1 else p0))])) := by
    by_cases hc3 : (p2 &&& (1 : Int32)) = (0 : Int32)
    · have k4 : Go p.tables e below (s₁.setTop (mkF m 3 #[.val (.int p0), .val (.int p1), .val (.int p2), .unset, .unset, .unset, .unset, .unset, .unset, .unset] [(.int (p2 &&& (1 : Int32)))])) (s₁.setTop (mkF m 11 #[.val (.int p0), .val (.int p1), .val (.int p2), .unset, .unset, .unset, .unset, .unset, .unset, .unset] [(.int p1)])) := by
        intro t ht
        refine XS.ifYes X0.here hx rfl (pc0 := 3) (pc' := 10) rfl (hb hby at_3) rfl ((if0 _ _).trans (teq hc3).1) (by decide) (by decide) ?_
        show Steps p.tables e below (s₁.setTop (mkF m 10 #[.val (.int p0), .val (.int p1), .val (.int p2), .unset, .unset, .unset, .unset, .unset, .unset, .unset] [])) _
        refine XS.iloadN X0.here hx rfl (hb hby at_10) rfl ?_
        exact ht
      have kk := k4
      simpa only [if_pos hc3] using kk
    · have k5 : Go p.tables e below (s₁.setTop (mkF m 3 #[.val (.int p0), .val (.int p1), .val (.int p2), .unset, .unset, .unset, .unset, .unset, .unset, .unset] [(.int (p2 &&& (1 : Int32)))])) (s₁.setTop (mkF m 11 #[.val (.int p0), .val (.int p1), .val (.int p2), .unset, .unset, .unset, .unset, .unset, .unset, .unset] [(.int p0)])) := by
        intro t ht
        refine XS.ifNo X0.here hx rfl (hb hby at_3) rfl ((if0 _ _).trans (feq hc3).1) ?_
        show Steps p.tables e below (s₁.setTop (mkF m 6 #[.val (.int p0), .val (.int p1), .val (.int p2), .unset, .unset, .unset, .unset, .unset, .unset, .unset] [])) _
        refine XS.iloadN X0.here hx rfl (hb hby at_6) rfl ?_
        show Steps p.tables e below (s₁.setTop (mkF m 7 #[.val (.int p0), .val (.int p1), .val (.int p2), .unset, .unset, .unset, .unset, .unset, .unset, .unset] [(.int p0)])) _
        refine XS.goto X0.here hx rfl (pc0 := 7) (pc' := 11) rfl (hb hby at_7) (by decide) (by decide) ?_
        exact ht
      have kk := k5
      simpa only [if_neg hc3] using kk
  have k6 : Go p.tables e below (s₁.setTop (mkF m 11 #[.val (.int p0), .val (.int p1), .val (.int p2), .unset, .unset, .unset, .unset, .unset, .unset, .unset] [(.int (if (p2 &&& (1 : Int32)) = (0 : Int32) then p1 else p0))])) (s₁.setTop (mkF m 14 #[.val (.int p0), .val (.int p1), .val (.int p2), .val (.int (if (p2 &&& (1 : Int32)) = (0 : Int32) then p1 else p0)), .unset, .unset, .unset, .unset, .unset, .unset] [(.int (if (p2 &&& (1 : Int32)) = (0 : Int32) then p1 else p0)), (.int p0)])) := by
    intro t ht
    refine XS.istoreN X0.here hx rfl (hb hby at_11) rfl (l' := #[.val (.int p0), .val (.int p1), .val (.int p2), .val (.int (if (p2 &&& (1 : Int32)) = (0 : Int32) then p1 else p0)), .unset, .unset, .unset, .unset, .unset, .unset]) rfl ?_
    show Steps p.tables e below (s₁.setTop (mkF m 12 #[.val (.int p0), .val (.int p1), .val (.int p2), .val (.int (if (p2 &&& (1 : Int32)) = (0 : Int32) then p1 else p0)), .unset, .unset, .unset, .unset, .unset, .unset] [])) _
    refine XS.iloadN X0.here hx rfl (hb hby at_12) rfl ?_
    show Steps p.tables e below (s₁.setTop (mkF m 13 #[.val (.int p0), .val (.int p1), .val (.int p2), .val (.int (if (p2 &&& (1 : Int32)) = (0 : Int32) then p1 else p0)), .unset, .unset, .unset, .unset, .unset, .unset] [(.int p0)])) _
    refine XS.iloadN X0.here hx rfl (hb hby at_13) rfl ?_
    exact ht
  obtain ⟨_, _, ⟨T7, L7, kq7, n7⟩, -, X7, ⟨Lc7, hQ7, l7, y7, z7⟩, st7⟩ := Jvm.LawKit.callS X0 hx (y := (⟨"ninepoint/Outcome", "of", "(II)Lninepoint/Outcome;"⟩ : MethodName)) hown (mvT hZ (hw _ (List.mem_of_getElem? (i := 0) rfl))) (mvT hZ (hw _ (List.mem_of_getElem? (i := 1) rfl))) (mvT hZ (hw _ (List.mem_of_getElem? (i := 2) rfl))) (mvT hZ (hw _ (List.mem_of_getElem? (i := 3) rfl))) (by decide) (backOf (W := 0) (rm_of l Z a0 hw [] p0 (if (p2 &&& (1 : Int32)) = (0 : Int32) then p1 else p0) wP wB wT h0 n0 Z0 S_PLAYER S_BANKER S_TIE) hZ (hw _ (List.mem_of_getElem? (i := 3) rfl)) (hw _ (List.mem_of_getElem? (i := 2) rfl)) (by decide) (by decide)) (g := (mkF m 14 #[.val (.int p0), .val (.int p1), .val (.int p2), .val (.int (if (p2 &&& (1 : Int32)) = (0 : Int32) then p1 else p0)), .unset, .unset, .unset, .unset, .unset, .unset] [(.int (if (p2 &&& (1 : Int32)) = (0 : Int32) then p1 else p0)), (.int p0)])) rfl (by rw [hml]; rfl) (argsL := [(.int p0), (.int (if (p2 &&& (1 : Int32)) = (0 : Int32) then p1 else p0))]) (rest := []) (lenOf pd_0 rfl) rfl (by show 2 * 0 + _ ≤ _; exact Nat.le_of_eq rfl) (hb hby at_14) (fun _ _ => ⟨rfl, e0, (by decide : 0 + 0 ≤ _), (by decide : 0 + 0 ≤ _)⟩)
  dsimp only [Pt.U, Pt.locs, Pt.cells, Pt.slots] at X7 l7 y7 z7 st7 hQ7
  subst l7 y7 z7
  obtain ⟨rfl, N7q, eq7⟩ := hQ7
  have N7 := Fr.app N0 N7q
  have k7 : Go p.tables e below (s₁.setTop (mkF m 14 #[.val (.int p0), .val (.int p1), .val (.int p2), .val (.int (if (p2 &&& (1 : Int32)) = (0 : Int32) then p1 else p0)), .unset, .unset, .unset, .unset, .unset, .unset] [(.int (if (p2 &&& (1 : Int32)) = (0 : Int32) then p1 else p0)), (.int p0)])) (T7.setTop (mkF m 17 #[.val (.int p0), .val (.int p1), .val (.int p2), .val (.int (if (p2 &&& (1 : Int32)) = (0 : Int32) then p1 else p0)), .unset, .unset, .unset, .unset, .unset, .unset] [(.ref (f_of p0 (if (p2 &&& (1 : Int32)) = (0 : Int32) then p1 else p0) wP wB wT))])) := st7
  have k8 : Go p.tables e below (T7.setTop (mkF m 17 #[.val (.int p0), .val (.int p1), .val (.int p2), .val (.int (if (p2 &&& (1 : Int32)) = (0 : Int32) then p1 else p0)), .unset, .unset, .unset, .unset, .unset, .unset] [(.ref (f_of p0 (if (p2 &&& (1 : Int32)) = (0 : Int32) then p1 else p0) wP wB wT))])) (T7.setTop (mkF m 21 #[.val (.int p0), .val (.int p1), .val (.int p2), .val (.int (if (p2 &&& (1 : Int32)) = (0 : Int32) then p1 else p0)), .val (.ref (f_of p0 (if (p2 &&& (1 : Int32)) = (0 : Int32) then p1 else p0) wP wB wT)), .unset, .unset, .unset, .unset, .unset] [(.int p0), (.int (if (p2 &&& (1 : Int32)) = (0 : Int32) then p1 else p0))])) := by
    intro t ht
    refine XS.astore X7.here hx rfl (hb hby at_17) rfl rfl (l' := #[.val (.int p0), .val (.int p1), .val (.int p2), .val (.int (if (p2 &&& (1 : Int32)) = (0 : Int32) then p1 else p0)), .val (.ref (f_of p0 (if (p2 &&& (1 : Int32)) = (0 : Int32) then p1 else p0) wP wB wT)), .unset, .unset, .unset, .unset, .unset]) rfl ?_
    show Steps p.tables e below (T7.setTop (mkF m 19 #[.val (.int p0), .val (.int p1), .val (.int p2), .val (.int (if (p2 &&& (1 : Int32)) = (0 : Int32) then p1 else p0)), .val (.ref (f_of p0 (if (p2 &&& (1 : Int32)) = (0 : Int32) then p1 else p0) wP wB wT)), .unset, .unset, .unset, .unset, .unset] [])) _
    refine XS.iloadN X7.here hx rfl (hb hby at_19) rfl ?_
    show Steps p.tables e below (T7.setTop (mkF m 20 #[.val (.int p0), .val (.int p1), .val (.int p2), .val (.int (if (p2 &&& (1 : Int32)) = (0 : Int32) then p1 else p0)), .val (.ref (f_of p0 (if (p2 &&& (1 : Int32)) = (0 : Int32) then p1 else p0) wP wB wT)), .unset, .unset, .unset, .unset, .unset] [(.int (if (p2 &&& (1 : Int32)) = (0 : Int32) then p1 else p0))])) _
    refine XS.iloadN X7.here hx rfl (hb hby at_20) rfl ?_
    exact ht
  obtain ⟨_, _, ⟨T9, L9, kq9, n9⟩, -, X9, ⟨Lc9, hQ9, l9, y9, z9⟩, st9⟩ := Jvm.LawKit.callS X7 hx (y := (⟨"ninepoint/Outcome", "of", "(II)Lninepoint/Outcome;"⟩ : MethodName)) hown (mvT hZ (hw _ (List.mem_of_getElem? (i := 0) rfl))) (mvT hZ (hw _ (List.mem_of_getElem? (i := 1) rfl))) (mvT hZ (hw _ (List.mem_of_getElem? (i := 2) rfl))) (mvT hZ (hw _ (List.mem_of_getElem? (i := 3) rfl))) (by decide) (backOf (W := 0) (rm_of l Z a0 hw [] (if (p2 &&& (1 : Int32)) = (0 : Int32) then p1 else p0) p0 wP wB wT h0 n0 Z0 S_PLAYER S_BANKER S_TIE) hZ (hw _ (List.mem_of_getElem? (i := 3) rfl)) (hw _ (List.mem_of_getElem? (i := 2) rfl)) (by decide) (by decide)) (g := (mkF m 21 #[.val (.int p0), .val (.int p1), .val (.int p2), .val (.int (if (p2 &&& (1 : Int32)) = (0 : Int32) then p1 else p0)), .val (.ref (f_of p0 (if (p2 &&& (1 : Int32)) = (0 : Int32) then p1 else p0) wP wB wT)), .unset, .unset, .unset, .unset, .unset] [(.int p0), (.int (if (p2 &&& (1 : Int32)) = (0 : Int32) then p1 else p0))])) rfl (by rw [hml]; rfl) (argsL := [(.int (if (p2 &&& (1 : Int32)) = (0 : Int32) then p1 else p0)), (.int p0)]) (rest := []) (lenOf pd_0 rfl) rfl (by show 2 * 0 + _ ≤ _; exact Nat.le_of_eq rfl) (hb hby at_21) (fun _ _ => ⟨rfl, eq7, (by decide : 0 + 0 ≤ _), (by decide : 0 + 0 ≤ _)⟩)
  dsimp only [Pt.U, Pt.locs, Pt.cells, Pt.slots] at X9 l9 y9 z9 st9 hQ9
  subst l9 y9 z9
  obtain ⟨rfl, N9q, eq9⟩ := hQ9
  have N9 := Fr.app N7 N9q
  have k9 : Go p.tables e below (T7.setTop (mkF m 21 #[.val (.int p0), .val (.int p1), .val (.int p2), .val (.int (if (p2 &&& (1 : Int32)) = (0 : Int32) then p1 else p0)), .val (.ref (f_of p0 (if (p2 &&& (1 : Int32)) = (0 : Int32) then p1 else p0) wP wB wT)), .unset, .unset, .unset, .unset, .unset] [(.int p0), (.int (if (p2 &&& (1 : Int32)) = (0 : Int32) then p1 else p0))])) (T9.setTop (mkF m 24 #[.val (.int p0), .val (.int p1), .val (.int p2), .val (.int (if (p2 &&& (1 : Int32)) = (0 : Int32) then p1 else p0)), .val (.ref (f_of p0 (if (p2 &&& (1 : Int32)) = (0 : Int32) then p1 else p0) wP wB wT)), .unset, .unset, .unset, .unset, .unset] [(.ref (f_of (if (p2 &&& (1 : Int32)) = (0 : Int32) then p1 else p0) p0 wP wB wT))])) := st9
  have k10 : Go p.tables e below (T9.setTop (mkF m 24 #[.val (.int p0), .val (.int p1), .val (.int p2), .val (.int (if (p2 &&& (1 : Int32)) = (0 : Int32) then p1 else p0)), .val (.ref (f_of p0 (if (p2 &&& (1 : Int32)) = (0 : Int32) then p1 else p0) wP wB wT)), .unset, .unset, .unset, .unset, .unset] [(.ref (f_of (if (p2 &&& (1 : Int32)) = (0 : Int32) then p1 else p0) p0 wP wB wT))])) (T9.setTop (mkF m 37 #[.val (.int p0), .val (.int p1), .val (.int p2), .val (.int (if (p2 &&& (1 : Int32)) = (0 : Int32) then p1 else p0)), .val (.ref (f_of p0 (if (p2 &&& (1 : Int32)) = (0 : Int32) then p1 else p0) wP wB wT)), .val (.ref (f_of (if (p2 &&& (1 : Int32)) = (0 : Int32) then p1 else p0) p0 wP wB wT)), .val (.long ((p0.toInt64) - ((if (p2 &&& (1 : Int32)) = (0 : Int32) then p1 else p0).toInt64))), .second, .unset, .unset] [(.int (lcmpW ((p0.toInt64) - ((if (p2 &&& (1 : Int32)) = (0 : Int32) then p1 else p0).toInt64)) (0 : Int64)))])) := by
    intro t ht
    refine XS.astore X9.here hx rfl (hb hby at_24) rfl rfl (l' := #[.val (.int p0), .val (.int p1), .val (.int p2), .val (.int (if (p2 &&& (1 : Int32)) = (0 : Int32) then p1 else p0)), .val (.ref (f_of p0 (if (p2 &&& (1 : Int32)) = (0 : Int32) then p1 else p0) wP wB wT)), .val (.ref (f_of (if (p2 &&& (1 : Int32)) = (0 : Int32) then p1 else p0) p0 wP wB wT)), .unset, .unset, .unset, .unset]) rfl ?_
    show Steps p.tables e below (T9.setTop (mkF m 26 #[.val (.int p0), .val (.int p1), .val (.int p2), .val (.int (if (p2 &&& (1 : Int32)) = (0 : Int32) then p1 else p0)), .val (.ref (f_of p0 (if (p2 &&& (1 : Int32)) = (0 : Int32) then p1 else p0) wP wB wT)), .val (.ref (f_of (if (p2 &&& (1 : Int32)) = (0 : Int32) then p1 else p0) p0 wP wB wT)), .unset, .unset, .unset, .unset] [])) _
    refine XS.iloadN X9.here hx rfl (hb hby at_26) rfl ?_
    show Steps p.tables e below (T9.setTop (mkF m 27 #[.val (.int p0), .val (.int p1), .val (.int p2), .val (.int (if (p2 &&& (1 : Int32)) = (0 : Int32) then p1 else p0)), .val (.ref (f_of p0 (if (p2 &&& (1 : Int32)) = (0 : Int32) then p1 else p0) wP wB wT)), .val (.ref (f_of (if (p2 &&& (1 : Int32)) = (0 : Int32) then p1 else p0) p0 wP wB wT)), .unset, .unset, .unset, .unset] [(.int p0)])) _
    refine XS.i2l X9.here hx rfl (hb hby at_27) rfl ?_
    show Steps p.tables e below (T9.setTop (mkF m 28 #[.val (.int p0), .val (.int p1), .val (.int p2), .val (.int (if (p2 &&& (1 : Int32)) = (0 : Int32) then p1 else p0)), .val (.ref (f_of p0 (if (p2 &&& (1 : Int32)) = (0 : Int32) then p1 else p0) wP wB wT)), .val (.ref (f_of (if (p2 &&& (1 : Int32)) = (0 : Int32) then p1 else p0) p0 wP wB wT)), .unset, .unset, .unset, .unset] [(.long (p0.toInt64))])) _
    refine XS.iloadN X9.here hx rfl (hb hby at_28) rfl ?_
    show Steps p.tables e below (T9.setTop (mkF m 29 #[.val (.int p0), .val (.int p1), .val (.int p2), .val (.int (if (p2 &&& (1 : Int32)) = (0 : Int32) then p1 else p0)), .val (.ref (f_of p0 (if (p2 &&& (1 : Int32)) = (0 : Int32) then p1 else p0) wP wB wT)), .val (.ref (f_of (if (p2 &&& (1 : Int32)) = (0 : Int32) then p1 else p0) p0 wP wB wT)), .unset, .unset, .unset, .unset] [(.int (if (p2 &&& (1 : Int32)) = (0 : Int32) then p1 else p0)), (.long (p0.toInt64))])) _
    refine XS.i2l X9.here hx rfl (hb hby at_29) rfl ?_
    show Steps p.tables e below (T9.setTop (mkF m 30 #[.val (.int p0), .val (.int p1), .val (.int p2), .val (.int (if (p2 &&& (1 : Int32)) = (0 : Int32) then p1 else p0)), .val (.ref (f_of p0 (if (p2 &&& (1 : Int32)) = (0 : Int32) then p1 else p0) wP wB wT)), .val (.ref (f_of (if (p2 &&& (1 : Int32)) = (0 : Int32) then p1 else p0) p0 wP wB wT)), .unset, .unset, .unset, .unset] [(.long ((if (p2 &&& (1 : Int32)) = (0 : Int32) then p1 else p0).toInt64)), (.long (p0.toInt64))])) _
    refine XS.lsub X9.here hx rfl (hb hby at_30) rfl ?_
    show Steps p.tables e below (T9.setTop (mkF m 31 #[.val (.int p0), .val (.int p1), .val (.int p2), .val (.int (if (p2 &&& (1 : Int32)) = (0 : Int32) then p1 else p0)), .val (.ref (f_of p0 (if (p2 &&& (1 : Int32)) = (0 : Int32) then p1 else p0) wP wB wT)), .val (.ref (f_of (if (p2 &&& (1 : Int32)) = (0 : Int32) then p1 else p0) p0 wP wB wT)), .unset, .unset, .unset, .unset] [(.long ((p0.toInt64) - ((if (p2 &&& (1 : Int32)) = (0 : Int32) then p1 else p0).toInt64)))])) _
    refine XS.lstore X9.here hx rfl (hb hby at_31) rfl (l' := #[.val (.int p0), .val (.int p1), .val (.int p2), .val (.int (if (p2 &&& (1 : Int32)) = (0 : Int32) then p1 else p0)), .val (.ref (f_of p0 (if (p2 &&& (1 : Int32)) = (0 : Int32) then p1 else p0) wP wB wT)), .val (.ref (f_of (if (p2 &&& (1 : Int32)) = (0 : Int32) then p1 else p0) p0 wP wB wT)), .val (.long ((p0.toInt64) - ((if (p2 &&& (1 : Int32)) = (0 : Int32) then p1 else p0).toInt64))), .second, .unset, .unset]) rfl ?_
    show Steps p.tables e below (T9.setTop (mkF m 33 #[.val (.int p0), .val (.int p1), .val (.int p2), .val (.int (if (p2 &&& (1 : Int32)) = (0 : Int32) then p1 else p0)), .val (.ref (f_of p0 (if (p2 &&& (1 : Int32)) = (0 : Int32) then p1 else p0) wP wB wT)), .val (.ref (f_of (if (p2 &&& (1 : Int32)) = (0 : Int32) then p1 else p0) p0 wP wB wT)), .val (.long ((p0.toInt64) - ((if (p2 &&& (1 : Int32)) = (0 : Int32) then p1 else p0).toInt64))), .second, .unset, .unset] [])) _
    refine XS.lload X9.here hx rfl (hb hby at_33) rfl ?_
    show Steps p.tables e below (T9.setTop (mkF m 35 #[.val (.int p0), .val (.int p1), .val (.int p2), .val (.int (if (p2 &&& (1 : Int32)) = (0 : Int32) then p1 else p0)), .val (.ref (f_of p0 (if (p2 &&& (1 : Int32)) = (0 : Int32) then p1 else p0) wP wB wT)), .val (.ref (f_of (if (p2 &&& (1 : Int32)) = (0 : Int32) then p1 else p0) p0 wP wB wT)), .val (.long ((p0.toInt64) - ((if (p2 &&& (1 : Int32)) = (0 : Int32) then p1 else p0).toInt64))), .second, .unset, .unset] [(.long ((p0.toInt64) - ((if (p2 &&& (1 : Int32)) = (0 : Int32) then p1 else p0).toInt64)))])) _
    refine XS.lconst X9.here hx rfl (hb hby at_35) ?_
    show Steps p.tables e below (T9.setTop (mkF m 36 #[.val (.int p0), .val (.int p1), .val (.int p2), .val (.int (if (p2 &&& (1 : Int32)) = (0 : Int32) then p1 else p0)), .val (.ref (f_of p0 (if (p2 &&& (1 : Int32)) = (0 : Int32) then p1 else p0) wP wB wT)), .val (.ref (f_of (if (p2 &&& (1 : Int32)) = (0 : Int32) then p1 else p0) p0 wP wB wT)), .val (.long ((p0.toInt64) - ((if (p2 &&& (1 : Int32)) = (0 : Int32) then p1 else p0).toInt64))), .second, .unset, .unset] [(.long (0 : Int64)), (.long ((p0.toInt64) - ((if (p2 &&& (1 : Int32)) = (0 : Int32) then p1 else p0).toInt64)))])) _
    refine XS.lcmp X9.here hx rfl (hb hby at_36) rfl ?_
    exact ht
  by_cases hc11 : (0 : Int64) < ((p0.toInt64) - ((if (p2 &&& (1 : Int32)) = (0 : Int32) then p1 else p0).toInt64))
  · have k12 : Go p.tables e below (T9.setTop (mkF m 37 #[.val (.int p0), .val (.int p1), .val (.int p2), .val (.int (if (p2 &&& (1 : Int32)) = (0 : Int32) then p1 else p0)), .val (.ref (f_of p0 (if (p2 &&& (1 : Int32)) = (0 : Int32) then p1 else p0) wP wB wT)), .val (.ref (f_of (if (p2 &&& (1 : Int32)) = (0 : Int32) then p1 else p0) p0 wP wB wT)), .val (.long ((p0.toInt64) - ((if (p2 &&& (1 : Int32)) = (0 : Int32) then p1 else p0).toInt64))), .second, .unset, .unset] [(.int (lcmpW ((p0.toInt64) - ((if (p2 &&& (1 : Int32)) = (0 : Int32) then p1 else p0).toInt64)) (0 : Int64)))])) (T9.setTop (mkF m 40 #[.val (.int p0), .val (.int p1), .val (.int p2), .val (.int (if (p2 &&& (1 : Int32)) = (0 : Int32) then p1 else p0)), .val (.ref (f_of p0 (if (p2 &&& (1 : Int32)) = (0 : Int32) then p1 else p0) wP wB wT)), .val (.ref (f_of (if (p2 &&& (1 : Int32)) = (0 : Int32) then p1 else p0) p0 wP wB wT)), .val (.long ((p0.toInt64) - ((if (p2 &&& (1 : Int32)) = (0 : Int32) then p1 else p0).toInt64))), .second, .unset, .unset] [])) := by
      intro t ht
      refine XS.ifNo X9.here hx rfl (hb hby at_37) rfl ((if0 _ _).trans (tlt (own_gtL hc11)).2.2.2) ?_
      exact ht
    obtain ⟨T13, X13, e13, st13⟩ := getS2 X9 hx hZ hown (host := "") (Or.inl (hw _ (List.mem_of_getElem? (i := 9) rfl))) Via.refl eq9 S_PLAYER (g := (mkF m 40 #[.val (.int p0), .val (.int p1), .val (.int p2), .val (.int (if (p2 &&& (1 : Int32)) = (0 : Int32) then p1 else p0)), .val (.ref (f_of p0 (if (p2 &&& (1 : Int32)) = (0 : Int32) then p1 else p0) wP wB wT)), .val (.ref (f_of (if (p2 &&& (1 : Int32)) = (0 : Int32) then p1 else p0) p0 wP wB wT)), .val (.long ((p0.toInt64) - ((if (p2 &&& (1 : Int32)) = (0 : Int32) then p1 else p0).toInt64))), .second, .unset, .unset] [])) rfl (hb hby at_40)
    have k13 : Go p.tables e below (T9.setTop (mkF m 40 #[.val (.int p0), .val (.int p1), .val (.int p2), .val (.int (if (p2 &&& (1 : Int32)) = (0 : Int32) then p1 else p0)), .val (.ref (f_of p0 (if (p2 &&& (1 : Int32)) = (0 : Int32) then p1 else p0) wP wB wT)), .val (.ref (f_of (if (p2 &&& (1 : Int32)) = (0 : Int32) then p1 else p0) p0 wP wB wT)), .val (.long ((p0.toInt64) - ((if (p2 &&& (1 : Int32)) = (0 : Int32) then p1 else p0).toInt64))), .second, .unset, .unset] [])) (T13.setTop (mkF m 43 #[.val (.int p0), .val (.int p1), .val (.int p2), .val (.int (if (p2 &&& (1 : Int32)) = (0 : Int32) then p1 else p0)), .val (.ref (f_of p0 (if (p2 &&& (1 : Int32)) = (0 : Int32) then p1 else p0) wP wB wT)), .val (.ref (f_of (if (p2 &&& (1 : Int32)) = (0 : Int32) then p1 else p0) p0 wP wB wT)), .val (.long ((p0.toInt64) - ((if (p2 &&& (1 : Int32)) = (0 : Int32) then p1 else p0).toInt64))), .second, .unset, .unset] [(.ref wP)])) := st13
    have k14 : Go p.tables e below (T13.setTop (mkF m 43 #[.val (.int p0), .val (.int p1), .val (.int p2), .val (.int (if (p2 &&& (1 : Int32)) = (0 : Int32) then p1 else p0)), .val (.ref (f_of p0 (if (p2 &&& (1 : Int32)) = (0 : Int32) then p1 else p0) wP wB wT)), .val (.ref (f_of (if (p2 &&& (1 : Int32)) = (0 : Int32) then p1 else p0) p0 wP wB wT)), .val (.long ((p0.toInt64) - ((if (p2 &&& (1 : Int32)) = (0 : Int32) then p1 else p0).toInt64))), .second, .unset, .unset] [(.ref wP)])) (T13.setTop (mkF m 45 #[.val (.int p0), .val (.int p1), .val (.int p2), .val (.int (if (p2 &&& (1 : Int32)) = (0 : Int32) then p1 else p0)), .val (.ref (f_of p0 (if (p2 &&& (1 : Int32)) = (0 : Int32) then p1 else p0) wP wB wT)), .val (.ref (f_of (if (p2 &&& (1 : Int32)) = (0 : Int32) then p1 else p0) p0 wP wB wT)), .val (.long ((p0.toInt64) - ((if (p2 &&& (1 : Int32)) = (0 : Int32) then p1 else p0).toInt64))), .second, .val (.ref wP), .unset] [])) := by
      intro t ht
      refine XS.astore X13.here hx rfl (hb hby at_43) rfl rfl (l' := #[.val (.int p0), .val (.int p1), .val (.int p2), .val (.int (if (p2 &&& (1 : Int32)) = (0 : Int32) then p1 else p0)), .val (.ref (f_of p0 (if (p2 &&& (1 : Int32)) = (0 : Int32) then p1 else p0) wP wB wT)), .val (.ref (f_of (if (p2 &&& (1 : Int32)) = (0 : Int32) then p1 else p0) p0 wP wB wT)), .val (.long ((p0.toInt64) - ((if (p2 &&& (1 : Int32)) = (0 : Int32) then p1 else p0).toInt64))), .second, .val (.ref wP), .unset]) rfl ?_
      exact ht
    obtain ⟨T15, X15, e15, st15⟩ := getS2 X13 hx hZ hown (host := "") (Or.inl (hw _ (List.mem_of_getElem? (i := 8) rfl))) Via.refl e13 S_BANKER (g := (mkF m 45 #[.val (.int p0), .val (.int p1), .val (.int p2), .val (.int (if (p2 &&& (1 : Int32)) = (0 : Int32) then p1 else p0)), .val (.ref (f_of p0 (if (p2 &&& (1 : Int32)) = (0 : Int32) then p1 else p0) wP wB wT)), .val (.ref (f_of (if (p2 &&& (1 : Int32)) = (0 : Int32) then p1 else p0) p0 wP wB wT)), .val (.long ((p0.toInt64) - ((if (p2 &&& (1 : Int32)) = (0 : Int32) then p1 else p0).toInt64))), .second, .val (.ref wP), .unset] [])) rfl (hb hby at_45)
    have k15 : Go p.tables e below (T13.setTop (mkF m 45 #[.val (.int p0), .val (.int p1), .val (.int p2), .val (.int (if (p2 &&& (1 : Int32)) = (0 : Int32) then p1 else p0)), .val (.ref (f_of p0 (if (p2 &&& (1 : Int32)) = (0 : Int32) then p1 else p0) wP wB wT)), .val (.ref (f_of (if (p2 &&& (1 : Int32)) = (0 : Int32) then p1 else p0) p0 wP wB wT)), .val (.long ((p0.toInt64) - ((if (p2 &&& (1 : Int32)) = (0 : Int32) then p1 else p0).toInt64))), .second, .val (.ref wP), .unset] [])) (T15.setTop (mkF m 48 #[.val (.int p0), .val (.int p1), .val (.int p2), .val (.int (if (p2 &&& (1 : Int32)) = (0 : Int32) then p1 else p0)), .val (.ref (f_of p0 (if (p2 &&& (1 : Int32)) = (0 : Int32) then p1 else p0) wP wB wT)), .val (.ref (f_of (if (p2 &&& (1 : Int32)) = (0 : Int32) then p1 else p0) p0 wP wB wT)), .val (.long ((p0.toInt64) - ((if (p2 &&& (1 : Int32)) = (0 : Int32) then p1 else p0).toInt64))), .second, .val (.ref wP), .unset] [(.ref wB)])) := st15
    have k16 : Go p.tables e below (T15.setTop (mkF m 48 #[.val (.int p0), .val (.int p1), .val (.int p2), .val (.int (if (p2 &&& (1 : Int32)) = (0 : Int32) then p1 else p0)), .val (.ref (f_of p0 (if (p2 &&& (1 : Int32)) = (0 : Int32) then p1 else p0) wP wB wT)), .val (.ref (f_of (if (p2 &&& (1 : Int32)) = (0 : Int32) then p1 else p0) p0 wP wB wT)), .val (.long ((p0.toInt64) - ((if (p2 &&& (1 : Int32)) = (0 : Int32) then p1 else p0).toInt64))), .second, .val (.ref wP), .unset] [(.ref wB)])) (T15.setTop (mkF m 102 #[.val (.int p0), .val (.int p1), .val (.int p2), .val (.int (if (p2 &&& (1 : Int32)) = (0 : Int32) then p1 else p0)), .val (.ref (f_of p0 (if (p2 &&& (1 : Int32)) = (0 : Int32) then p1 else p0) wP wB wT)), .val (.ref (f_of (if (p2 &&& (1 : Int32)) = (0 : Int32) then p1 else p0) p0 wP wB wT)), .val (.long ((p0.toInt64) - ((if (p2 &&& (1 : Int32)) = (0 : Int32) then p1 else p0).toInt64))), .second, .val (.ref wP), .val (.ref wB)] [(.int (1 : Int32))])) := by
      intro t ht
      refine XS.astore X15.here hx rfl (hb hby at_48) rfl rfl (l' := #[.val (.int p0), .val (.int p1), .val (.int p2), .val (.int (if (p2 &&& (1 : Int32)) = (0 : Int32) then p1 else p0)), .val (.ref (f_of p0 (if (p2 &&& (1 : Int32)) = (0 : Int32) then p1 else p0) wP wB wT)), .val (.ref (f_of (if (p2 &&& (1 : Int32)) = (0 : Int32) then p1 else p0) p0 wP wB wT)), .val (.long ((p0.toInt64) - ((if (p2 &&& (1 : Int32)) = (0 : Int32) then p1 else p0).toInt64))), .second, .val (.ref wP), .val (.ref wB)]) rfl ?_
      show Steps p.tables e below (T15.setTop (mkF m 50 #[.val (.int p0), .val (.int p1), .val (.int p2), .val (.int (if (p2 &&& (1 : Int32)) = (0 : Int32) then p1 else p0)), .val (.ref (f_of p0 (if (p2 &&& (1 : Int32)) = (0 : Int32) then p1 else p0) wP wB wT)), .val (.ref (f_of (if (p2 &&& (1 : Int32)) = (0 : Int32) then p1 else p0) p0 wP wB wT)), .val (.long ((p0.toInt64) - ((if (p2 &&& (1 : Int32)) = (0 : Int32) then p1 else p0).toInt64))), .second, .val (.ref wP), .val (.ref wB)] [])) _
      refine XS.goto X15.here hx rfl (pc0 := 50) (pc' := 83) rfl (hb hby at_50) (by decide) (by decide) ?_
      show Steps p.tables e below (T15.setTop (mkF m 83 #[.val (.int p0), .val (.int p1), .val (.int p2), .val (.int (if (p2 &&& (1 : Int32)) = (0 : Int32) then p1 else p0)), .val (.ref (f_of p0 (if (p2 &&& (1 : Int32)) = (0 : Int32) then p1 else p0) wP wB wT)), .val (.ref (f_of (if (p2 &&& (1 : Int32)) = (0 : Int32) then p1 else p0) p0 wP wB wT)), .val (.long ((p0.toInt64) - ((if (p2 &&& (1 : Int32)) = (0 : Int32) then p1 else p0).toInt64))), .second, .val (.ref wP), .val (.ref wB)] [])) _
      refine XS.aload X15.here hx rfl (hb hby at_83) rfl rfl ?_
      show Steps p.tables e below (T15.setTop (mkF m 85 #[.val (.int p0), .val (.int p1), .val (.int p2), .val (.int (if (p2 &&& (1 : Int32)) = (0 : Int32) then p1 else p0)), .val (.ref (f_of p0 (if (p2 &&& (1 : Int32)) = (0 : Int32) then p1 else p0) wP wB wT)), .val (.ref (f_of (if (p2 &&& (1 : Int32)) = (0 : Int32) then p1 else p0) p0 wP wB wT)), .val (.long ((p0.toInt64) - ((if (p2 &&& (1 : Int32)) = (0 : Int32) then p1 else p0).toInt64))), .second, .val (.ref wP), .val (.ref wB)] [(.ref (f_of p0 (if (p2 &&& (1 : Int32)) = (0 : Int32) then p1 else p0) wP wB wT))])) _
      refine XS.aload X15.here hx rfl (hb hby at_85) rfl rfl ?_
      show Steps p.tables e below (T15.setTop (mkF m 87 #[.val (.int p0), .val (.int p1), .val (.int p2), .val (.int (if (p2 &&& (1 : Int32)) = (0 : Int32) then p1 else p0)), .val (.ref (f_of p0 (if (p2 &&& (1 : Int32)) = (0 : Int32) then p1 else p0) wP wB wT)), .val (.ref (f_of (if (p2 &&& (1 : Int32)) = (0 : Int32) then p1 else p0) p0 wP wB wT)), .val (.long ((p0.toInt64) - ((if (p2 &&& (1 : Int32)) = (0 : Int32) then p1 else p0).toInt64))), .second, .val (.ref wP), .val (.ref wB)] [(.ref wP), (.ref (f_of p0 (if (p2 &&& (1 : Int32)) = (0 : Int32) then p1 else p0) wP wB wT))])) _
      refine Jvm.RoadKit.acmp (g := (mkF m 87 #[.val (.int p0), .val (.int p1), .val (.int p2), .val (.int (if (p2 &&& (1 : Int32)) = (0 : Int32) then p1 else p0)), .val (.ref (f_of p0 (if (p2 &&& (1 : Int32)) = (0 : Int32) then p1 else p0) wP wB wT)), .val (.ref (f_of (if (p2 &&& (1 : Int32)) = (0 : Int32) then p1 else p0) p0 wP wB wT)), .val (.long ((p0.toInt64) - ((if (p2 &&& (1 : Int32)) = (0 : Int32) then p1 else p0).toInt64))), .second, .val (.ref wP), .val (.ref wB)] [(.ref wP), (.ref (f_of p0 (if (p2 &&& (1 : Int32)) = (0 : Int32) then p1 else p0) wP wB wT))])) X15 hx rfl rfl rfl (pc0 := 87) (pc' := 90) (same := true) rfl (hb hby at_87) rfl (decide_eq_true (congrArg Value.ref (own_gt hc11).1)) (by decide) (by decide) ?_
      show Steps p.tables e below (T15.setTop (mkF m 90 #[.val (.int p0), .val (.int p1), .val (.int p2), .val (.int (if (p2 &&& (1 : Int32)) = (0 : Int32) then p1 else p0)), .val (.ref (f_of p0 (if (p2 &&& (1 : Int32)) = (0 : Int32) then p1 else p0) wP wB wT)), .val (.ref (f_of (if (p2 &&& (1 : Int32)) = (0 : Int32) then p1 else p0) p0 wP wB wT)), .val (.long ((p0.toInt64) - ((if (p2 &&& (1 : Int32)) = (0 : Int32) then p1 else p0).toInt64))), .second, .val (.ref wP), .val (.ref wB)] [])) _
      refine XS.aload X15.here hx rfl (hb hby at_90) rfl rfl ?_
      show Steps p.tables e below (T15.setTop (mkF m 92 #[.val (.int p0), .val (.int p1), .val (.int p2), .val (.int (if (p2 &&& (1 : Int32)) = (0 : Int32) then p1 else p0)), .val (.ref (f_of p0 (if (p2 &&& (1 : Int32)) = (0 : Int32) then p1 else p0) wP wB wT)), .val (.ref (f_of (if (p2 &&& (1 : Int32)) = (0 : Int32) then p1 else p0) p0 wP wB wT)), .val (.long ((p0.toInt64) - ((if (p2 &&& (1 : Int32)) = (0 : Int32) then p1 else p0).toInt64))), .second, .val (.ref wP), .val (.ref wB)] [(.ref (f_of (if (p2 &&& (1 : Int32)) = (0 : Int32) then p1 else p0) p0 wP wB wT))])) _
      refine XS.aload X15.here hx rfl (hb hby at_92) rfl rfl ?_
      show Steps p.tables e below (T15.setTop (mkF m 94 #[.val (.int p0), .val (.int p1), .val (.int p2), .val (.int (if (p2 &&& (1 : Int32)) = (0 : Int32) then p1 else p0)), .val (.ref (f_of p0 (if (p2 &&& (1 : Int32)) = (0 : Int32) then p1 else p0) wP wB wT)), .val (.ref (f_of (if (p2 &&& (1 : Int32)) = (0 : Int32) then p1 else p0) p0 wP wB wT)), .val (.long ((p0.toInt64) - ((if (p2 &&& (1 : Int32)) = (0 : Int32) then p1 else p0).toInt64))), .second, .val (.ref wP), .val (.ref wB)] [(.ref wB), (.ref (f_of (if (p2 &&& (1 : Int32)) = (0 : Int32) then p1 else p0) p0 wP wB wT))])) _
      refine Jvm.RoadKit.acmp (g := (mkF m 94 #[.val (.int p0), .val (.int p1), .val (.int p2), .val (.int (if (p2 &&& (1 : Int32)) = (0 : Int32) then p1 else p0)), .val (.ref (f_of p0 (if (p2 &&& (1 : Int32)) = (0 : Int32) then p1 else p0) wP wB wT)), .val (.ref (f_of (if (p2 &&& (1 : Int32)) = (0 : Int32) then p1 else p0) p0 wP wB wT)), .val (.long ((p0.toInt64) - ((if (p2 &&& (1 : Int32)) = (0 : Int32) then p1 else p0).toInt64))), .second, .val (.ref wP), .val (.ref wB)] [(.ref wB), (.ref (f_of (if (p2 &&& (1 : Int32)) = (0 : Int32) then p1 else p0) p0 wP wB wT))])) X15 hx rfl rfl rfl (pc0 := 94) (pc' := 97) (same := true) rfl (hb hby at_94) rfl (decide_eq_true (congrArg Value.ref (own_gt hc11).2)) (by decide) (by decide) ?_
      show Steps p.tables e below (T15.setTop (mkF m 97 #[.val (.int p0), .val (.int p1), .val (.int p2), .val (.int (if (p2 &&& (1 : Int32)) = (0 : Int32) then p1 else p0)), .val (.ref (f_of p0 (if (p2 &&& (1 : Int32)) = (0 : Int32) then p1 else p0) wP wB wT)), .val (.ref (f_of (if (p2 &&& (1 : Int32)) = (0 : Int32) then p1 else p0) p0 wP wB wT)), .val (.long ((p0.toInt64) - ((if (p2 &&& (1 : Int32)) = (0 : Int32) then p1 else p0).toInt64))), .second, .val (.ref wP), .val (.ref wB)] [])) _
      refine XS.iconst X15.here hx rfl (hb hby at_97) ?_
      show Steps p.tables e below (T15.setTop (mkF m 98 #[.val (.int p0), .val (.int p1), .val (.int p2), .val (.int (if (p2 &&& (1 : Int32)) = (0 : Int32) then p1 else p0)), .val (.ref (f_of p0 (if (p2 &&& (1 : Int32)) = (0 : Int32) then p1 else p0) wP wB wT)), .val (.ref (f_of (if (p2 &&& (1 : Int32)) = (0 : Int32) then p1 else p0) p0 wP wB wT)), .val (.long ((p0.toInt64) - ((if (p2 &&& (1 : Int32)) = (0 : Int32) then p1 else p0).toInt64))), .second, .val (.ref wP), .val (.ref wB)] [(.int (1 : Int32))])) _
      refine XS.goto X15.here hx rfl (pc0 := 98) (pc' := 102) rfl (hb hby at_98) (by decide) (by decide) ?_
      exact ht
    obtain ⟨fs, hr, hrun, hended, hW, hsame⟩ := X15.leave (v := some (.int (1 : Int32))) (fun h => by rw [Bd.returns] at h; cases h)
    refine ⟨_, _, pre0 _ ((goT k1 (goT k2 (goT k6 (goT k7 (goT k8 (goT k9 (goT k10 (goT k12 (goT k13 (goT k14 (goT k15 k16))))))))))) _ (retN X15 hx (t := .boolean) Bd.returns (by simp) (hb hby at_102) hr)), hrun, hended, _, _, rfl, ?_, ⟨_, rfl⟩, hW, hsame.mono (by decide) (by decide)⟩
    show Q_law Z p0 p1 p2 wP wB wT h0 n0 _ T15.heap _
    rw [e15]
    exact ⟨rfl, N9⟩
  · have k17 : Go p.tables e below (T9.setTop (mkF m 37 #[.val (.int p0), .val (.int p1), .val (.int p2), .val (.int (if (p2 &&& (1 : Int32)) = (0 : Int32) then p1 else p0)), .val (.ref (f_of p0 (if (p2 &&& (1 : Int32)) = (0 : Int32) then p1 else p0) wP wB wT)), .val (.ref (f_of (if (p2 &&& (1 : Int32)) = (0 : Int32) then p1 else p0) p0 wP wB wT)), .val (.long ((p0.toInt64) - ((if (p2 &&& (1 : Int32)) = (0 : Int32) then p1 else p0).toInt64))), .second, .unset, .unset] [(.int (lcmpW ((p0.toInt64) - ((if (p2 &&& (1 : Int32)) = (0 : Int32) then p1 else p0).toInt64)) (0 : Int64)))])) (T9.setTop (mkF m 57 #[.val (.int p0), .val (.int p1), .val (.int p2), .val (.int (if (p2 &&& (1 : Int32)) = (0 : Int32) then p1 else p0)), .val (.ref (f_of p0 (if (p2 &&& (1 : Int32)) = (0 : Int32) then p1 else p0) wP wB wT)), .val (.ref (f_of (if (p2 &&& (1 : Int32)) = (0 : Int32) then p1 else p0) p0 wP wB wT)), .val (.long ((p0.toInt64) - ((if (p2 &&& (1 : Int32)) = (0 : Int32) then p1 else p0).toInt64))), .second, .unset, .unset] [(.int (lcmpW ((p0.toInt64) - ((if (p2 &&& (1 : Int32)) = (0 : Int32) then p1 else p0).toInt64)) (0 : Int64)))])) := by
      intro t ht
      refine XS.ifYes X9.here hx rfl (pc0 := 37) (pc' := 53) rfl (hb hby at_37) rfl ((if0 _ _).trans (flt (own_ngtL hc11)).2.2.2) (by decide) (by decide) ?_
      show Steps p.tables e below (T9.setTop (mkF m 53 #[.val (.int p0), .val (.int p1), .val (.int p2), .val (.int (if (p2 &&& (1 : Int32)) = (0 : Int32) then p1 else p0)), .val (.ref (f_of p0 (if (p2 &&& (1 : Int32)) = (0 : Int32) then p1 else p0) wP wB wT)), .val (.ref (f_of (if (p2 &&& (1 : Int32)) = (0 : Int32) then p1 else p0) p0 wP wB wT)), .val (.long ((p0.toInt64) - ((if (p2 &&& (1 : Int32)) = (0 : Int32) then p1 else p0).toInt64))), .second, .unset, .unset] [])) _
      refine XS.lload X9.here hx rfl (hb hby at_53) rfl ?_
      show Steps p.tables e below (T9.setTop (mkF m 55 #[.val (.int p0), .val (.int p1), .val (.int p2), .val (.int (if (p2 &&& (1 : Int32)) = (0 : Int32) then p1 else p0)), .val (.ref (f_of p0 (if (p2 &&& (1 : Int32)) = (0 : Int32) then p1 else p0) wP wB wT)), .val (.ref (f_of (if (p2 &&& (1 : Int32)) = (0 : Int32) then p1 else p0) p0 wP wB wT)), .val (.long ((p0.toInt64) - ((if (p2 &&& (1 : Int32)) = (0 : Int32) then p1 else p0).toInt64))), .second, .unset, .unset] [(.long ((p0.toInt64) - ((if (p2 &&& (1 : Int32)) = (0 : Int32) then p1 else p0).toInt64)))])) _
      refine XS.lconst X9.here hx rfl (hb hby at_55) ?_
      show Steps p.tables e below (T9.setTop (mkF m 56 #[.val (.int p0), .val (.int p1), .val (.int p2), .val (.int (if (p2 &&& (1 : Int32)) = (0 : Int32) then p1 else p0)), .val (.ref (f_of p0 (if (p2 &&& (1 : Int32)) = (0 : Int32) then p1 else p0) wP wB wT)), .val (.ref (f_of (if (p2 &&& (1 : Int32)) = (0 : Int32) then p1 else p0) p0 wP wB wT)), .val (.long ((p0.toInt64) - ((if (p2 &&& (1 : Int32)) = (0 : Int32) then p1 else p0).toInt64))), .second, .unset, .unset] [(.long (0 : Int64)), (.long ((p0.toInt64) - ((if (p2 &&& (1 : Int32)) = (0 : Int32) then p1 else p0).toInt64)))])) _
      refine XS.lcmp X9.here hx rfl (hb hby at_56) rfl ?_
      exact ht
    by_cases hc18 : ((p0.toInt64) - ((if (p2 &&& (1 : Int32)) = (0 : Int32) then p1 else p0).toInt64)) < (0 : Int64)
    · have k19 : Go p.tables e below (T9.setTop (mkF m 57 #[.val (.int p0), .val (.int p1), .val (.int p2), .val (.int (if (p2 &&& (1 : Int32)) = (0 : Int32) then p1 else p0)), .val (.ref (f_of p0 (if (p2 &&& (1 : Int32)) = (0 : Int32) then p1 else p0) wP wB wT)), .val (.ref (f_of (if (p2 &&& (1 : Int32)) = (0 : Int32) then p1 else p0) p0 wP wB wT)), .val (.long ((p0.toInt64) - ((if (p2 &&& (1 : Int32)) = (0 : Int32) then p1 else p0).toInt64))), .second, .unset, .unset] [(.int (lcmpW ((p0.toInt64) - ((if (p2 &&& (1 : Int32)) = (0 : Int32) then p1 else p0).toInt64)) (0 : Int64)))])) (T9.setTop (mkF m 60 #[.val (.int p0), .val (.int p1), .val (.int p2), .val (.int (if (p2 &&& (1 : Int32)) = (0 : Int32) then p1 else p0)), .val (.ref (f_of p0 (if (p2 &&& (1 : Int32)) = (0 : Int32) then p1 else p0) wP wB wT)), .val (.ref (f_of (if (p2 &&& (1 : Int32)) = (0 : Int32) then p1 else p0) p0 wP wB wT)), .val (.long ((p0.toInt64) - ((if (p2 &&& (1 : Int32)) = (0 : Int32) then p1 else p0).toInt64))), .second, .unset, .unset] [])) := by
        intro t ht
        refine XS.ifNo X9.here hx rfl (hb hby at_57) rfl ((if0 _ _).trans (tlt (own_ltL hc18)).2.1) ?_
        exact ht
      obtain ⟨T20, X20, e20, st20⟩ := getS2 X9 hx hZ hown (host := "") (Or.inl (hw _ (List.mem_of_getElem? (i := 8) rfl))) Via.refl eq9 S_BANKER (g := (mkF m 60 #[.val (.int p0), .val (.int p1), .val (.int p2), .val (.int (if (p2 &&& (1 : Int32)) = (0 : Int32) then p1 else p0)), .val (.ref (f_of p0 (if (p2 &&& (1 : Int32)) = (0 : Int32) then p1 else p0) wP wB wT)), .val (.ref (f_of (if (p2 &&& (1 : Int32)) = (0 : Int32) then p1 else p0) p0 wP wB wT)), .val (.long ((p0.toInt64) - ((if (p2 &&& (1 : Int32)) = (0 : Int32) then p1 else p0).toInt64))), .second, .unset, .unset] [])) rfl (hb hby at_60)
      have k20 : Go p.tables e below (T9.setTop (mkF m 60 #[.val (.int p0), .val (.int p1), .val (.int p2), .val (.int (if (p2 &&& (1 : Int32)) = (0 : Int32) then p1 else p0)), .val (.ref (f_of p0 (if (p2 &&& (1 : Int32)) = (0 : Int32) then p1 else p0) wP wB wT)), .val (.ref (f_of (if (p2 &&& (1 : Int32)) = (0 : Int32) then p1 else p0) p0 wP wB wT)), .val (.long ((p0.toInt64) - ((if (p2 &&& (1 : Int32)) = (0 : Int32) then p1 else p0).toInt64))), .second, .unset, .unset] [])) (T20.setTop (mkF m 63 #[.val (.int p0), .val (.int p1), .val (.int p2), .val (.int (if (p2 &&& (1 : Int32)) = (0 : Int32) then p1 else p0)), .val (.ref (f_of p0 (if (p2 &&& (1 : Int32)) = (0 : Int32) then p1 else p0) wP wB wT)), .val (.ref (f_of (if (p2 &&& (1 : Int32)) = (0 : Int32) then p1 else p0) p0 wP wB wT)), .val (.long ((p0.toInt64) - ((if (p2 &&& (1 : Int32)) = (0 : Int32) then p1 else p0).toInt64))), .second, .unset, .unset] [(.ref wB)])) := st20
      have k21 : Go p.tables e below (T20.setTop (mkF m 63 #[.val (.int p0), .val (.int p1), .val (.int p2), .val (.int (if (p2 &&& (1 : Int32)) = (0 : Int32) then p1 else p0)), .val (.ref (f_of p0 (if (p2 &&& (1 : Int32)) = (0 : Int32) then p1 else p0) wP wB wT)), .val (.ref (f_of (if (p2 &&& (1 : Int32)) = (0 : Int32) then p1 else p0) p0 wP wB wT)), .val (.long ((p0.toInt64) - ((if (p2 &&& (1 : Int32)) = (0 : Int32) then p1 else p0).toInt64))), .second, .unset, .unset] [(.ref wB)])) (T20.setTop (mkF m 65 #[.val (.int p0), .val (.int p1), .val (.int p2), .val (.int (if (p2 &&& (1 : Int32)) = (0 : Int32) then p1 else p0)), .val (.ref (f_of p0 (if (p2 &&& (1 : Int32)) = (0 : Int32) then p1 else p0) wP wB wT)), .val (.ref (f_of (if (p2 &&& (1 : Int32)) = (0 : Int32) then p1 else p0) p0 wP wB wT)), .val (.long ((p0.toInt64) - ((if (p2 &&& (1 : Int32)) = (0 : Int32) then p1 else p0).toInt64))), .second, .val (.ref wB), .unset] [])) := by
        intro t ht
        refine XS.astore X20.here hx rfl (hb hby at_63) rfl rfl (l' := #[.val (.int p0), .val (.int p1), .val (.int p2), .val (.int (if (p2 &&& (1 : Int32)) = (0 : Int32) then p1 else p0)), .val (.ref (f_of p0 (if (p2 &&& (1 : Int32)) = (0 : Int32) then p1 else p0) wP wB wT)), .val (.ref (f_of (if (p2 &&& (1 : Int32)) = (0 : Int32) then p1 else p0) p0 wP wB wT)), .val (.long ((p0.toInt64) - ((if (p2 &&& (1 : Int32)) = (0 : Int32) then p1 else p0).toInt64))), .second, .val (.ref wB), .unset]) rfl ?_
        exact ht
      obtain ⟨T22, X22, e22, st22⟩ := getS2 X20 hx hZ hown (host := "") (Or.inl (hw _ (List.mem_of_getElem? (i := 9) rfl))) Via.refl e20 S_PLAYER (g := (mkF m 65 #[.val (.int p0), .val (.int p1), .val (.int p2), .val (.int (if (p2 &&& (1 : Int32)) = (0 : Int32) then p1 else p0)), .val (.ref (f_of p0 (if (p2 &&& (1 : Int32)) = (0 : Int32) then p1 else p0) wP wB wT)), .val (.ref (f_of (if (p2 &&& (1 : Int32)) = (0 : Int32) then p1 else p0) p0 wP wB wT)), .val (.long ((p0.toInt64) - ((if (p2 &&& (1 : Int32)) = (0 : Int32) then p1 else p0).toInt64))), .second, .val (.ref wB), .unset] [])) rfl (hb hby at_65)
      have k22 : Go p.tables e below (T20.setTop (mkF m 65 #[.val (.int p0), .val (.int p1), .val (.int p2), .val (.int (if (p2 &&& (1 : Int32)) = (0 : Int32) then p1 else p0)), .val (.ref (f_of p0 (if (p2 &&& (1 : Int32)) = (0 : Int32) then p1 else p0) wP wB wT)), .val (.ref (f_of (if (p2 &&& (1 : Int32)) = (0 : Int32) then p1 else p0) p0 wP wB wT)), .val (.long ((p0.toInt64) - ((if (p2 &&& (1 : Int32)) = (0 : Int32) then p1 else p0).toInt64))), .second, .val (.ref wB), .unset] [])) (T22.setTop (mkF m 68 #[.val (.int p0), .val (.int p1), .val (.int p2), .val (.int (if (p2 &&& (1 : Int32)) = (0 : Int32) then p1 else p0)), .val (.ref (f_of p0 (if (p2 &&& (1 : Int32)) = (0 : Int32) then p1 else p0) wP wB wT)), .val (.ref (f_of (if (p2 &&& (1 : Int32)) = (0 : Int32) then p1 else p0) p0 wP wB wT)), .val (.long ((p0.toInt64) - ((if (p2 &&& (1 : Int32)) = (0 : Int32) then p1 else p0).toInt64))), .second, .val (.ref wB), .unset] [(.ref wP)])) := st22
      have k23 : Go p.tables e below (T22.setTop (mkF m 68 #[.val (.int p0), .val (.int p1), .val (.int p2), .val (.int (if (p2 &&& (1 : Int32)) = (0 : Int32) then p1 else p0)), .val (.ref (f_of p0 (if (p2 &&& (1 : Int32)) = (0 : Int32) then p1 else p0) wP wB wT)), .val (.ref (f_of (if (p2 &&& (1 : Int32)) = (0 : Int32) then p1 else p0) p0 wP wB wT)), .val (.long ((p0.toInt64) - ((if (p2 &&& (1 : Int32)) = (0 : Int32) then p1 else p0).toInt64))), .second, .val (.ref wB), .unset] [(.ref wP)])) (T22.setTop (mkF m 102 #[.val (.int p0), .val (.int p1), .val (.int p2), .val (.int (if (p2 &&& (1 : Int32)) = (0 : Int32) then p1 else p0)), .val (.ref (f_of p0 (if (p2 &&& (1 : Int32)) = (0 : Int32) then p1 else p0) wP wB wT)), .val (.ref (f_of (if (p2 &&& (1 : Int32)) = (0 : Int32) then p1 else p0) p0 wP wB wT)), .val (.long ((p0.toInt64) - ((if (p2 &&& (1 : Int32)) = (0 : Int32) then p1 else p0).toInt64))), .second, .val (.ref wB), .val (.ref wP)] [(.int (1 : Int32))])) := by
        intro t ht
        refine XS.astore X22.here hx rfl (hb hby at_68) rfl rfl (l' := #[.val (.int p0), .val (.int p1), .val (.int p2), .val (.int (if (p2 &&& (1 : Int32)) = (0 : Int32) then p1 else p0)), .val (.ref (f_of p0 (if (p2 &&& (1 : Int32)) = (0 : Int32) then p1 else p0) wP wB wT)), .val (.ref (f_of (if (p2 &&& (1 : Int32)) = (0 : Int32) then p1 else p0) p0 wP wB wT)), .val (.long ((p0.toInt64) - ((if (p2 &&& (1 : Int32)) = (0 : Int32) then p1 else p0).toInt64))), .second, .val (.ref wB), .val (.ref wP)]) rfl ?_
        show Steps p.tables e below (T22.setTop (mkF m 70 #[.val (.int p0), .val (.int p1), .val (.int p2), .val (.int (if (p2 &&& (1 : Int32)) = (0 : Int32) then p1 else p0)), .val (.ref (f_of p0 (if (p2 &&& (1 : Int32)) = (0 : Int32) then p1 else p0) wP wB wT)), .val (.ref (f_of (if (p2 &&& (1 : Int32)) = (0 : Int32) then p1 else p0) p0 wP wB wT)), .val (.long ((p0.toInt64) - ((if (p2 &&& (1 : Int32)) = (0 : Int32) then p1 else p0).toInt64))), .second, .val (.ref wB), .val (.ref wP)] [])) _
        refine XS.goto X22.here hx rfl (pc0 := 70) (pc' := 83) rfl (hb hby at_70) (by decide) (by decide) ?_
        show Steps p.tables e below (T22.setTop (mkF m 83 #[.val (.int p0), .val (.int p1), .val (.int p2), .val (.int (if (p2 &&& (1 : Int32)) = (0 : Int32) then p1 else p0)), .val (.ref (f_of p0 (if (p2 &&& (1 : Int32)) = (0 : Int32) then p1 else p0) wP wB wT)), .val (.ref (f_of (if (p2 &&& (1 : Int32)) = (0 : Int32) then p1 else p0) p0 wP wB wT)), .val (.long ((p0.toInt64) - ((if (p2 &&& (1 : Int32)) = (0 : Int32) then p1 else p0).toInt64))), .second, .val (.ref wB), .val (.ref wP)] [])) _
        refine XS.aload X22.here hx rfl (hb hby at_83) rfl rfl ?_
        show Steps p.tables e below (T22.setTop (mkF m 85 #[.val (.int p0), .val (.int p1), .val (.int p2), .val (.int (if (p2 &&& (1 : Int32)) = (0 : Int32) then p1 else p0)), .val (.ref (f_of p0 (if (p2 &&& (1 : Int32)) = (0 : Int32) then p1 else p0) wP wB wT)), .val (.ref (f_of (if (p2 &&& (1 : Int32)) = (0 : Int32) then p1 else p0) p0 wP wB wT)), .val (.long ((p0.toInt64) - ((if (p2 &&& (1 : Int32)) = (0 : Int32) then p1 else p0).toInt64))), .second, .val (.ref wB), .val (.ref wP)] [(.ref (f_of p0 (if (p2 &&& (1 : Int32)) = (0 : Int32) then p1 else p0) wP wB wT))])) _
        refine XS.aload X22.here hx rfl (hb hby at_85) rfl rfl ?_
        show Steps p.tables e below (T22.setTop (mkF m 87 #[.val (.int p0), .val (.int p1), .val (.int p2), .val (.int (if (p2 &&& (1 : Int32)) = (0 : Int32) then p1 else p0)), .val (.ref (f_of p0 (if (p2 &&& (1 : Int32)) = (0 : Int32) then p1 else p0) wP wB wT)), .val (.ref (f_of (if (p2 &&& (1 : Int32)) = (0 : Int32) then p1 else p0) p0 wP wB wT)), .val (.long ((p0.toInt64) - ((if (p2 &&& (1 : Int32)) = (0 : Int32) then p1 else p0).toInt64))), .second, .val (.ref wB), .val (.ref wP)] [(.ref wB), (.ref (f_of p0 (if (p2 &&& (1 : Int32)) = (0 : Int32) then p1 else p0) wP wB wT))])) _
        refine Jvm.RoadKit.acmp (g := (mkF m 87 #[.val (.int p0), .val (.int p1), .val (.int p2), .val (.int (if (p2 &&& (1 : Int32)) = (0 : Int32) then p1 else p0)), .val (.ref (f_of p0 (if (p2 &&& (1 : Int32)) = (0 : Int32) then p1 else p0) wP wB wT)), .val (.ref (f_of (if (p2 &&& (1 : Int32)) = (0 : Int32) then p1 else p0) p0 wP wB wT)), .val (.long ((p0.toInt64) - ((if (p2 &&& (1 : Int32)) = (0 : Int32) then p1 else p0).toInt64))), .second, .val (.ref wB), .val (.ref wP)] [(.ref wB), (.ref (f_of p0 (if (p2 &&& (1 : Int32)) = (0 : Int32) then p1 else p0) wP wB wT))])) X22 hx rfl rfl rfl (pc0 := 87) (pc' := 90) (same := true) rfl (hb hby at_87) rfl (decide_eq_true (congrArg Value.ref (own_lt hc18).1)) (by decide) (by decide) ?_
        show Steps p.tables e below (T22.setTop (mkF m 90 #[.val (.int p0), .val (.int p1), .val (.int p2), .val (.int (if (p2 &&& (1 : Int32)) = (0 : Int32) then p1 else p0)), .val (.ref (f_of p0 (if (p2 &&& (1 : Int32)) = (0 : Int32) then p1 else p0) wP wB wT)), .val (.ref (f_of (if (p2 &&& (1 : Int32)) = (0 : Int32) then p1 else p0) p0 wP wB wT)), .val (.long ((p0.toInt64) - ((if (p2 &&& (1 : Int32)) = (0 : Int32) then p1 else p0).toInt64))), .second, .val (.ref wB), .val (.ref wP)] [])) _
        refine XS.aload X22.here hx rfl (hb hby at_90) rfl rfl ?_
        show Steps p.tables e below (T22.setTop (mkF m 92 #[.val (.int p0), .val (.int p1), .val (.int p2), .val (.int (if (p2 &&& (1 : Int32)) = (0 : Int32) then p1 else p0)), .val (.ref (f_of p0 (if (p2 &&& (1 : Int32)) = (0 : Int32) then p1 else p0) wP wB wT)), .val (.ref (f_of (if (p2 &&& (1 : Int32)) = (0 : Int32) then p1 else p0) p0 wP wB wT)), .val (.long ((p0.toInt64) - ((if (p2 &&& (1 : Int32)) = (0 : Int32) then p1 else p0).toInt64))), .second, .val (.ref wB), .val (.ref wP)] [(.ref (f_of (if (p2 &&& (1 : Int32)) = (0 : Int32) then p1 else p0) p0 wP wB wT))])) _
        refine XS.aload X22.here hx rfl (hb hby at_92) rfl rfl ?_
        show Steps p.tables e below (T22.setTop (mkF m 94 #[.val (.int p0), .val (.int p1), .val (.int p2), .val (.int (if (p2 &&& (1 : Int32)) = (0 : Int32) then p1 else p0)), .val (.ref (f_of p0 (if (p2 &&& (1 : Int32)) = (0 : Int32) then p1 else p0) wP wB wT)), .val (.ref (f_of (if (p2 &&& (1 : Int32)) = (0 : Int32) then p1 else p0) p0 wP wB wT)), .val (.long ((p0.toInt64) - ((if (p2 &&& (1 : Int32)) = (0 : Int32) then p1 else p0).toInt64))), .second, .val (.ref wB), .val (.ref wP)] [(.ref wP), (.ref (f_of (if (p2 &&& (1 : Int32)) = (0 : Int32) then p1 else p0) p0 wP wB wT))])) _
        refine Jvm.RoadKit.acmp (g := (mkF m 94 #[.val (.int p0), .val (.int p1), .val (.int p2), .val (.int (if (p2 &&& (1 : Int32)) = (0 : Int32) then p1 else p0)), .val (.ref (f_of p0 (if (p2 &&& (1 : Int32)) = (0 : Int32) then p1 else p0) wP wB wT)), .val (.ref (f_of (if (p2 &&& (1 : Int32)) = (0 : Int32) then p1 else p0) p0 wP wB wT)), .val (.long ((p0.toInt64) - ((if (p2 &&& (1 : Int32)) = (0 : Int32) then p1 else p0).toInt64))), .second, .val (.ref wB), .val (.ref wP)] [(.ref wP), (.ref (f_of (if (p2 &&& (1 : Int32)) = (0 : Int32) then p1 else p0) p0 wP wB wT))])) X22 hx rfl rfl rfl (pc0 := 94) (pc' := 97) (same := true) rfl (hb hby at_94) rfl (decide_eq_true (congrArg Value.ref (own_lt hc18).2)) (by decide) (by decide) ?_
        show Steps p.tables e below (T22.setTop (mkF m 97 #[.val (.int p0), .val (.int p1), .val (.int p2), .val (.int (if (p2 &&& (1 : Int32)) = (0 : Int32) then p1 else p0)), .val (.ref (f_of p0 (if (p2 &&& (1 : Int32)) = (0 : Int32) then p1 else p0) wP wB wT)), .val (.ref (f_of (if (p2 &&& (1 : Int32)) = (0 : Int32) then p1 else p0) p0 wP wB wT)), .val (.long ((p0.toInt64) - ((if (p2 &&& (1 : Int32)) = (0 : Int32) then p1 else p0).toInt64))), .second, .val (.ref wB), .val (.ref wP)] [])) _
        refine XS.iconst X22.here hx rfl (hb hby at_97) ?_
        show Steps p.tables e below (T22.setTop (mkF m 98 #[.val (.int p0), .val (.int p1), .val (.int p2), .val (.int (if (p2 &&& (1 : Int32)) = (0 : Int32) then p1 else p0)), .val (.ref (f_of p0 (if (p2 &&& (1 : Int32)) = (0 : Int32) then p1 else p0) wP wB wT)), .val (.ref (f_of (if (p2 &&& (1 : Int32)) = (0 : Int32) then p1 else p0) p0 wP wB wT)), .val (.long ((p0.toInt64) - ((if (p2 &&& (1 : Int32)) = (0 : Int32) then p1 else p0).toInt64))), .second, .val (.ref wB), .val (.ref wP)] [(.int (1 : Int32))])) _
        refine XS.goto X22.here hx rfl (pc0 := 98) (pc' := 102) rfl (hb hby at_98) (by decide) (by decide) ?_
        exact ht
      obtain ⟨fs, hr, hrun, hended, hW, hsame⟩ := X22.leave (v := some (.int (1 : Int32))) (fun h => by rw [Bd.returns] at h; cases h)
      refine ⟨_, _, pre0 _ ((goT k1 (goT k2 (goT k6 (goT k7 (goT k8 (goT k9 (goT k10 (goT k17 (goT k19 (goT k20 (goT k21 (goT k22 k23)))))))))))) _ (retN X22 hx (t := .boolean) Bd.returns (by simp) (hb hby at_102) hr)), hrun, hended, _, _, rfl, ?_, ⟨_, rfl⟩, hW, hsame.mono (by decide) (by decide)⟩
      show Q_law Z p0 p1 p2 wP wB wT h0 n0 _ T22.heap _
      rw [e22]
      exact ⟨rfl, N9⟩
    · have k24 : Go p.tables e below (T9.setTop (mkF m 57 #[.val (.int p0), .val (.int p1), .val (.int p2), .val (.int (if (p2 &&& (1 : Int32)) = (0 : Int32) then p1 else p0)), .val (.ref (f_of p0 (if (p2 &&& (1 : Int32)) = (0 : Int32) then p1 else p0) wP wB wT)), .val (.ref (f_of (if (p2 &&& (1 : Int32)) = (0 : Int32) then p1 else p0) p0 wP wB wT)), .val (.long ((p0.toInt64) - ((if (p2 &&& (1 : Int32)) = (0 : Int32) then p1 else p0).toInt64))), .second, .unset, .unset] [(.int (lcmpW ((p0.toInt64) - ((if (p2 &&& (1 : Int32)) = (0 : Int32) then p1 else p0).toInt64)) (0 : Int64)))])) (T9.setTop (mkF m 73 #[.val (.int p0), .val (.int p1), .val (.int p2), .val (.int (if (p2 &&& (1 : Int32)) = (0 : Int32) then p1 else p0)), .val (.ref (f_of p0 (if (p2 &&& (1 : Int32)) = (0 : Int32) then p1 else p0) wP wB wT)), .val (.ref (f_of (if (p2 &&& (1 : Int32)) = (0 : Int32) then p1 else p0) p0 wP wB wT)), .val (.long ((p0.toInt64) - ((if (p2 &&& (1 : Int32)) = (0 : Int32) then p1 else p0).toInt64))), .second, .unset, .unset] [])) := by
        intro t ht
        refine XS.ifYes X9.here hx rfl (pc0 := 57) (pc' := 73) rfl (hb hby at_57) rfl ((if0 _ _).trans (flt (own_nltL hc18)).2.1) (by decide) (by decide) ?_
        exact ht
      obtain ⟨T25, X25, e25, st25⟩ := getS2 X9 hx hZ hown (host := "") (Or.inl (hw _ (List.mem_of_getElem? (i := 12) rfl))) Via.refl eq9 S_TIE (g := (mkF m 73 #[.val (.int p0), .val (.int p1), .val (.int p2), .val (.int (if (p2 &&& (1 : Int32)) = (0 : Int32) then p1 else p0)), .val (.ref (f_of p0 (if (p2 &&& (1 : Int32)) = (0 : Int32) then p1 else p0) wP wB wT)), .val (.ref (f_of (if (p2 &&& (1 : Int32)) = (0 : Int32) then p1 else p0) p0 wP wB wT)), .val (.long ((p0.toInt64) - ((if (p2 &&& (1 : Int32)) = (0 : Int32) then p1 else p0).toInt64))), .second, .unset, .unset] [])) rfl (hb hby at_73)
      have k25 : Go p.tables e below (T9.setTop (mkF m 73 #[.val (.int p0), .val (.int p1), .val (.int p2), .val (.int (if (p2 &&& (1 : Int32)) = (0 : Int32) then p1 else p0)), .val (.ref (f_of p0 (if (p2 &&& (1 : Int32)) = (0 : Int32) then p1 else p0) wP wB wT)), .val (.ref (f_of (if (p2 &&& (1 : Int32)) = (0 : Int32) then p1 else p0) p0 wP wB wT)), .val (.long ((p0.toInt64) - ((if (p2 &&& (1 : Int32)) = (0 : Int32) then p1 else p0).toInt64))), .second, .unset, .unset] [])) (T25.setTop (mkF m 76 #[.val (.int p0), .val (.int p1), .val (.int p2), .val (.int (if (p2 &&& (1 : Int32)) = (0 : Int32) then p1 else p0)), .val (.ref (f_of p0 (if (p2 &&& (1 : Int32)) = (0 : Int32) then p1 else p0) wP wB wT)), .val (.ref (f_of (if (p2 &&& (1 : Int32)) = (0 : Int32) then p1 else p0) p0 wP wB wT)), .val (.long ((p0.toInt64) - ((if (p2 &&& (1 : Int32)) = (0 : Int32) then p1 else p0).toInt64))), .second, .unset, .unset] [(.ref wT)])) := st25
      have k26 : Go p.tables e below (T25.setTop (mkF m 76 #[.val (.int p0), .val (.int p1), .val (.int p2), .val (.int (if (p2 &&& (1 : Int32)) = (0 : Int32) then p1 else p0)), .val (.ref (f_of p0 (if (p2 &&& (1 : Int32)) = (0 : Int32) then p1 else p0) wP wB wT)), .val (.ref (f_of (if (p2 &&& (1 : Int32)) = (0 : Int32) then p1 else p0) p0 wP wB wT)), .val (.long ((p0.toInt64) - ((if (p2 &&& (1 : Int32)) = (0 : Int32) then p1 else p0).toInt64))), .second, .unset, .unset] [(.ref wT)])) (T25.setTop (mkF m 78 #[.val (.int p0), .val (.int p1), .val (.int p2), .val (.int (if (p2 &&& (1 : Int32)) = (0 : Int32) then p1 else p0)), .val (.ref (f_of p0 (if (p2 &&& (1 : Int32)) = (0 : Int32) then p1 else p0) wP wB wT)), .val (.ref (f_of (if (p2 &&& (1 : Int32)) = (0 : Int32) then p1 else p0) p0 wP wB wT)), .val (.long ((p0.toInt64) - ((if (p2 &&& (1 : Int32)) = (0 : Int32) then p1 else p0).toInt64))), .second, .val (.ref wT), .unset] [])) := by
        intro t ht
        refine XS.astore X25.here hx rfl (hb hby at_76) rfl rfl (l' := #[.val (.int p0), .val (.int p1), .val (.int p2), .val (.int (if (p2 &&& (1 : Int32)) = (0 : Int32) then p1 else p0)), .val (.ref (f_of p0 (if (p2 &&& (1 : Int32)) = (0 : Int32) then p1 else p0) wP wB wT)), .val (.ref (f_of (if (p2 &&& (1 : Int32)) = (0 : Int32) then p1 else p0) p0 wP wB wT)), .val (.long ((p0.toInt64) - ((if (p2 &&& (1 : Int32)) = (0 : Int32) then p1 else p0).toInt64))), .second, .val (.ref wT), .unset]) rfl ?_
        exact ht
      obtain ⟨T27, X27, e27, st27⟩ := getS2 X25 hx hZ hown (host := "") (Or.inl (hw _ (List.mem_of_getElem? (i := 12) rfl))) Via.refl e25 S_TIE (g := (mkF m 78 #[.val (.int p0), .val (.int p1), .val (.int p2), .val (.int (if (p2 &&& (1 : Int32)) = (0 : Int32) then p1 else p0)), .val (.ref (f_of p0 (if (p2 &&& (1 : Int32)) = (0 : Int32) then p1 else p0) wP wB wT)), .val (.ref (f_of (if (p2 &&& (1 : Int32)) = (0 : Int32) then p1 else p0) p0 wP wB wT)), .val (.long ((p0.toInt64) - ((if (p2 &&& (1 : Int32)) = (0 : Int32) then p1 else p0).toInt64))), .second, .val (.ref wT), .unset] [])) rfl (hb hby at_78)
      have k27 : Go p.tables e below (T25.setTop (mkF m 78 #[.val (.int p0), .val (.int p1), .val (.int p2), .val (.int (if (p2 &&& (1 : Int32)) = (0 : Int32) then p1 else p0)), .val (.ref (f_of p0 (if (p2 &&& (1 : Int32)) = (0 : Int32) then p1 else p0) wP wB wT)), .val (.ref (f_of (if (p2 &&& (1 : Int32)) = (0 : Int32) then p1 else p0) p0 wP wB wT)), .val (.long ((p0.toInt64) - ((if (p2 &&& (1 : Int32)) = (0 : Int32) then p1 else p0).toInt64))), .second, .val (.ref wT), .unset] [])) (T27.setTop (mkF m 81 #[.val (.int p0), .val (.int p1), .val (.int p2), .val (.int (if (p2 &&& (1 : Int32)) = (0 : Int32) then p1 else p0)), .val (.ref (f_of p0 (if (p2 &&& (1 : Int32)) = (0 : Int32) then p1 else p0) wP wB wT)), .val (.ref (f_of (if (p2 &&& (1 : Int32)) = (0 : Int32) then p1 else p0) p0 wP wB wT)), .val (.long ((p0.toInt64) - ((if (p2 &&& (1 : Int32)) = (0 : Int32) then p1 else p0).toInt64))), .second, .val (.ref wT), .unset] [(.ref wT)])) := st27
      have k28 : Go p.tables e below (T27.setTop (mkF m 81 #[.val (.int p0), .val (.int p1), .val (.int p2), .val (.int (if (p2 &&& (1 : Int32)) = (0 : Int32) then p1 else p0)), .val (.ref (f_of p0 (if (p2 &&& (1 : Int32)) = (0 : Int32) then p1 else p0) wP wB wT)), .val (.ref (f_of (if (p2 &&& (1 : Int32)) = (0 : Int32) then p1 else p0) p0 wP wB wT)), .val (.long ((p0.toInt64) - ((if (p2 &&& (1 : Int32)) = (0 : Int32) then p1 else p0).toInt64))), .second, .val (.ref wT), .unset] [(.ref wT)])) (T27.setTop (mkF m 102 #[.val (.int p0), .val (.int p1), .val (.int p2), .val (.int (if (p2 &&& (1 : Int32)) = (0 : Int32) then p1 else p0)), .val (.ref (f_of p0 (if (p2 &&& (1 : Int32)) = (0 : Int32) then p1 else p0) wP wB wT)), .val (.ref (f_of (if (p2 &&& (1 : Int32)) = (0 : Int32) then p1 else p0) p0 wP wB wT)), .val (.long ((p0.toInt64) - ((if (p2 &&& (1 : Int32)) = (0 : Int32) then p1 else p0).toInt64))), .second, .val (.ref wT), .val (.ref wT)] [(.int (1 : Int32))])) := by
        intro t ht
        refine XS.astore X27.here hx rfl (hb hby at_81) rfl rfl (l' := #[.val (.int p0), .val (.int p1), .val (.int p2), .val (.int (if (p2 &&& (1 : Int32)) = (0 : Int32) then p1 else p0)), .val (.ref (f_of p0 (if (p2 &&& (1 : Int32)) = (0 : Int32) then p1 else p0) wP wB wT)), .val (.ref (f_of (if (p2 &&& (1 : Int32)) = (0 : Int32) then p1 else p0) p0 wP wB wT)), .val (.long ((p0.toInt64) - ((if (p2 &&& (1 : Int32)) = (0 : Int32) then p1 else p0).toInt64))), .second, .val (.ref wT), .val (.ref wT)]) rfl ?_
        show Steps p.tables e below (T27.setTop (mkF m 83 #[.val (.int p0), .val (.int p1), .val (.int p2), .val (.int (if (p2 &&& (1 : Int32)) = (0 : Int32) then p1 else p0)), .val (.ref (f_of p0 (if (p2 &&& (1 : Int32)) = (0 : Int32) then p1 else p0) wP wB wT)), .val (.ref (f_of (if (p2 &&& (1 : Int32)) = (0 : Int32) then p1 else p0) p0 wP wB wT)), .val (.long ((p0.toInt64) - ((if (p2 &&& (1 : Int32)) = (0 : Int32) then p1 else p0).toInt64))), .second, .val (.ref wT), .val (.ref wT)] [])) _
        refine XS.aload X27.here hx rfl (hb hby at_83) rfl rfl ?_
        show Steps p.tables e below (T27.setTop (mkF m 85 #[.val (.int p0), .val (.int p1), .val (.int p2), .val (.int (if (p2 &&& (1 : Int32)) = (0 : Int32) then p1 else p0)), .val (.ref (f_of p0 (if (p2 &&& (1 : Int32)) = (0 : Int32) then p1 else p0) wP wB wT)), .val (.ref (f_of (if (p2 &&& (1 : Int32)) = (0 : Int32) then p1 else p0) p0 wP wB wT)), .val (.long ((p0.toInt64) - ((if (p2 &&& (1 : Int32)) = (0 : Int32) then p1 else p0).toInt64))), .second, .val (.ref wT), .val (.ref wT)] [(.ref (f_of p0 (if (p2 &&& (1 : Int32)) = (0 : Int32) then p1 else p0) wP wB wT))])) _
        refine XS.aload X27.here hx rfl (hb hby at_85) rfl rfl ?_
        show Steps p.tables e below (T27.setTop (mkF m 87 #[.val (.int p0), .val (.int p1), .val (.int p2), .val (.int (if (p2 &&& (1 : Int32)) = (0 : Int32) then p1 else p0)), .val (.ref (f_of p0 (if (p2 &&& (1 : Int32)) = (0 : Int32) then p1 else p0) wP wB wT)), .val (.ref (f_of (if (p2 &&& (1 : Int32)) = (0 : Int32) then p1 else p0) p0 wP wB wT)), .val (.long ((p0.toInt64) - ((if (p2 &&& (1 : Int32)) = (0 : Int32) then p1 else p0).toInt64))), .second, .val (.ref wT), .val (.ref wT)] [(.ref wT), (.ref (f_of p0 (if (p2 &&& (1 : Int32)) = (0 : Int32) then p1 else p0) wP wB wT))])) _
        refine Jvm.RoadKit.acmp (g := (mkF m 87 #[.val (.int p0), .val (.int p1), .val (.int p2), .val (.int (if (p2 &&& (1 : Int32)) = (0 : Int32) then p1 else p0)), .val (.ref (f_of p0 (if (p2 &&& (1 : Int32)) = (0 : Int32) then p1 else p0) wP wB wT)), .val (.ref (f_of (if (p2 &&& (1 : Int32)) = (0 : Int32) then p1 else p0) p0 wP wB wT)), .val (.long ((p0.toInt64) - ((if (p2 &&& (1 : Int32)) = (0 : Int32) then p1 else p0).toInt64))), .second, .val (.ref wT), .val (.ref wT)] [(.ref wT), (.ref (f_of p0 (if (p2 &&& (1 : Int32)) = (0 : Int32) then p1 else p0) wP wB wT))])) X27 hx rfl rfl rfl (pc0 := 87) (pc' := 90) (same := true) rfl (hb hby at_87) rfl (decide_eq_true (congrArg Value.ref (own_eq hc11 hc18).1)) (by decide) (by decide) ?_
        show Steps p.tables e below (T27.setTop (mkF m 90 #[.val (.int p0), .val (.int p1), .val (.int p2), .val (.int (if (p2 &&& (1 : Int32)) = (0 : Int32) then p1 else p0)), .val (.ref (f_of p0 (if (p2 &&& (1 : Int32)) = (0 : Int32) then p1 else p0) wP wB wT)), .val (.ref (f_of (if (p2 &&& (1 : Int32)) = (0 : Int32) then p1 else p0) p0 wP wB wT)), .val (.long ((p0.toInt64) - ((if (p2 &&& (1 : Int32)) = (0 : Int32) then p1 else p0).toInt64))), .second, .val (.ref wT), .val (.ref wT)] [])) _
        refine XS.aload X27.here hx rfl (hb hby at_90) rfl rfl ?_
        show Steps p.tables e below (T27.setTop (mkF m 92 #[.val (.int p0), .val (.int p1), .val (.int p2), .val (.int (if (p2 &&& (1 : Int32)) = (0 : Int32) then p1 else p0)), .val (.ref (f_of p0 (if (p2 &&& (1 : Int32)) = (0 : Int32) then p1 else p0) wP wB wT)), .val (.ref (f_of (if (p2 &&& (1 : Int32)) = (0 : Int32) then p1 else p0) p0 wP wB wT)), .val (.long ((p0.toInt64) - ((if (p2 &&& (1 : Int32)) = (0 : Int32) then p1 else p0).toInt64))), .second, .val (.ref wT), .val (.ref wT)] [(.ref (f_of (if (p2 &&& (1 : Int32)) = (0 : Int32) then p1 else p0) p0 wP wB wT))])) _
        refine XS.aload X27.here hx rfl (hb hby at_92) rfl rfl ?_
        show Steps p.tables e below (T27.setTop (mkF m 94 #[.val (.int p0), .val (.int p1), .val (.int p2), .val (.int (if (p2 &&& (1 : Int32)) = (0 : Int32) then p1 else p0)), .val (.ref (f_of p0 (if (p2 &&& (1 : Int32)) = (0 : Int32) then p1 else p0) wP wB wT)), .val (.ref (f_of (if (p2 &&& (1 : Int32)) = (0 : Int32) then p1 else p0) p0 wP wB wT)), .val (.long ((p0.toInt64) - ((if (p2 &&& (1 : Int32)) = (0 : Int32) then p1 else p0).toInt64))), .second, .val (.ref wT), .val (.ref wT)] [(.ref wT), (.ref (f_of (if (p2 &&& (1 : Int32)) = (0 : Int32) then p1 else p0) p0 wP wB wT))])) _
        refine Jvm.RoadKit.acmp (g := (mkF m 94 #[.val (.int p0), .val (.int p1), .val (.int p2), .val (.int (if (p2 &&& (1 : Int32)) = (0 : Int32) then p1 else p0)), .val (.ref (f_of p0 (if (p2 &&& (1 : Int32)) = (0 : Int32) then p1 else p0) wP wB wT)), .val (.ref (f_of (if (p2 &&& (1 : Int32)) = (0 : Int32) then p1 else p0) p0 wP wB wT)), .val (.long ((p0.toInt64) - ((if (p2 &&& (1 : Int32)) = (0 : Int32) then p1 else p0).toInt64))), .second, .val (.ref wT), .val (.ref wT)] [(.ref wT), (.ref (f_of (if (p2 &&& (1 : Int32)) = (0 : Int32) then p1 else p0) p0 wP wB wT))])) X27 hx rfl rfl rfl (pc0 := 94) (pc' := 97) (same := true) rfl (hb hby at_94) rfl (decide_eq_true (congrArg Value.ref (own_eq hc11 hc18).2)) (by decide) (by decide) ?_
        show Steps p.tables e below (T27.setTop (mkF m 97 #[.val (.int p0), .val (.int p1), .val (.int p2), .val (.int (if (p2 &&& (1 : Int32)) = (0 : Int32) then p1 else p0)), .val (.ref (f_of p0 (if (p2 &&& (1 : Int32)) = (0 : Int32) then p1 else p0) wP wB wT)), .val (.ref (f_of (if (p2 &&& (1 : Int32)) = (0 : Int32) then p1 else p0) p0 wP wB wT)), .val (.long ((p0.toInt64) - ((if (p2 &&& (1 : Int32)) = (0 : Int32) then p1 else p0).toInt64))), .second, .val (.ref wT), .val (.ref wT)] [])) _
        refine XS.iconst X27.here hx rfl (hb hby at_97) ?_
        show Steps p.tables e below (T27.setTop (mkF m 98 #[.val (.int p0), .val (.int p1), .val (.int p2), .val (.int (if (p2 &&& (1 : Int32)) = (0 : Int32) then p1 else p0)), .val (.ref (f_of p0 (if (p2 &&& (1 : Int32)) = (0 : Int32) then p1 else p0) wP wB wT)), .val (.ref (f_of (if (p2 &&& (1 : Int32)) = (0 : Int32) then p1 else p0) p0 wP wB wT)), .val (.long ((p0.toInt64) - ((if (p2 &&& (1 : Int32)) = (0 : Int32) then p1 else p0).toInt64))), .second, .val (.ref wT), .val (.ref wT)] [(.int (1 : Int32))])) _
        refine XS.goto X27.here hx rfl (pc0 := 98) (pc' := 102) rfl (hb hby at_98) (by decide) (by decide) ?_
        exact ht
      obtain ⟨fs, hr, hrun, hended, hW, hsame⟩ := X27.leave (v := some (.int (1 : Int32))) (fun h => by rw [Bd.returns] at h; cases h)
      refine ⟨_, _, pre0 _ ((goT k1 (goT k2 (goT k6 (goT k7 (goT k8 (goT k9 (goT k10 (goT k17 (goT k24 (goT k25 (goT k26 (goT k27 k28)))))))))))) _ (retN X27 hx (t := .boolean) Bd.returns (by simp) (hb hby at_102) hr)), hrun, hended, _, _, rfl, ?_, ⟨_, rfl⟩, hW, hsame.mono (by decide) (by decide)⟩
      show Q_law Z p0 p1 p2 wP wB wT h0 n0 _ T27.heap _
      rw [e27]
      exact ⟨rfl, N9⟩
set_option maxRecDepth 65536 in
set_option maxHeartbeats 40000000 in
theorem comes_1 {Post : Tables → Env → Array Value → State → Outcome → State → Prop} (hpost : ∀ tb e args s v u, (limb_1_1.after args s (.returned v) u = true ∧ limb_1_2.after args s (.returned v) u = true ∧ True) → FrameEnd s (.returned v) u (Jvm.fieldLocs frame_1_writes args s ++ Jvm.arrayLocs frame_1_arrays args s ++ Jvm.staticLocs frame_1_statics s) 0 0 → Post tb e args s (.returned v) u) :
    ArmFor flags0 classFile x code maxLocals ret World_1 tables_1 room_1 Calls_1 rest_1 Pre_1 Post := by
  intro l hfl _ _ p e ha hc hk s m args below hf hA hF happ hP
  obtain ⟨hcalls, hrest, hpre⟩ := hP
  obtain ⟨-, -, -, hnamed, -, -, -, hat⟩ := (Spec.applies_iff hf).mp happ
  obtain ⟨hg, hn⟩ := and_e (Cond.before_iff.mp (show (Jvm.Cond.and given_1 narrow_1).before args s = true from hpre))
  obtain ⟨hcnt, hg⟩ := and_e hg
  obtain ⟨ha0, hg⟩ := and_e hg
  obtain ⟨ha1, hg⟩ := and_e hg
  have ha2 := hg
  obtain ⟨w0, w1, w2, rfl⟩ : ∃ w0 w1 w2 : Value, args = #[w0, w1, w2] := by
    have hs : args.size = 3 := by simpa [Cond.value, given_1] using hcnt
    obtain ⟨L⟩ := args
    match L, hs with
    | [w0, w1, w2], _ => exact ⟨w0, w1, w2, rfl⟩
  have hw := fun d (hd : d ∈ tables_1) => atoms_spec (ws := Jvm.Cond.code x code maxLocals ret :: tables_1) hat d (List.mem_cons_of_mem _ hd)
  have hfit : Fit s := fun {y c} hc i hi => by
    obtain ⟨ha, rfl⟩ := Array.getElem?_eq_some_iff.mp hc
    have q := List.all_eq_true.mp ((Array.all_eq_true_iff_forall_mem.mp hF) _ (Array.getElem_mem ha)) i (List.mem_range.mpr hi)
    simpa [Array.getElem?_eq_getElem hi] using q
  obtain ⟨i0, ei0⟩ := is_v ha0
  obtain rfl : w0 = (.int i0) := Option.some.inj ei0
  obtain ⟨i1, ei1⟩ := is_v ha1
  obtain rfl : w1 = (.int i1) := Option.some.inj ei1
  obtain ⟨i2, ei2⟩ := is_v ha2
  obtain rfl : w2 = (.int i2) := Option.some.inj ei2
  obtain ⟨hn0, hn⟩ := and_e hn
  obtain ⟨hn1, hn⟩ := and_e hn
  have hn2 := hn
  obtain ⟨w_Outcome_BANKER, ev_w_Outcome_BANKER⟩ := exa_v hn0
  have S_w_Outcome_BANKER := Sta.start ev_w_Outcome_BANKER (Or.inr ⟨(hw _ (List.mem_of_getElem? (i := 2) rfl)), (hw _ (List.mem_of_getElem? (i := 5) rfl))⟩)
  have E_w_Outcome_BANKER := Exa.start ev_w_Outcome_BANKER hn0
  obtain ⟨w_Outcome_PLAYER, ev_w_Outcome_PLAYER⟩ := exa_v hn1
  have S_w_Outcome_PLAYER := Sta.start ev_w_Outcome_PLAYER (Or.inr ⟨(hw _ (List.mem_of_getElem? (i := 2) rfl)), (hw _ (List.mem_of_getElem? (i := 7) rfl))⟩)
  have E_w_Outcome_PLAYER := Exa.start ev_w_Outcome_PLAYER hn1
  obtain ⟨w_Outcome_TIE, ev_w_Outcome_TIE⟩ := exa_v hn2
  have S_w_Outcome_TIE := Sta.start ev_w_Outcome_TIE (Or.inr ⟨(hw _ (List.mem_of_getElem? (i := 2) rfl)), (hw _ (List.mem_of_getElem? (i := 11) rfl))⟩)
  have E_w_Outcome_TIE := Exa.start ev_w_Outcome_TIE hn2
  obtain ⟨n, o, h1, h2, h3, _, L, rfl, ⟨rfl, N⟩, hq⟩ := rm_law l s _ hw tables_1 i0 i1 i2 w_Outcome_PLAYER w_Outcome_BANKER w_Outcome_TIE s.heap s.heap.size (Nat.le_refl _) S_w_Outcome_PLAYER S_w_Outcome_BANKER S_w_Outcome_TIE p e ha hc hk s m _ below hf ((Spec.applies_iff_loose hf).mp happ).1 ⟨rfl, State.Warmed39.refl s, rfl⟩ trivial
  refine ⟨n, _, h1, h2, h3, hpost _ _ _ _ _ _ ⟨Cond.after_iff.mpr rfl, Cond.after_iff.mpr (eq_i res_at (Term.int_eval (1)) rfl), trivial⟩ ⟨hq.1, hq.2.1, (hq.2.2.sift fun y hy => Or.inr (N y hy)).mono (by decide) (by decide)⟩⟩
theorem main_1_1 : Claimed_1_1 := comes_1 fun _ _ _ _ _ _ h hF => ⟨h.1, hF⟩
theorem main_1_2 : Claimed_1_2 := comes_1 fun _ _ _ _ _ _ h hF => ⟨h.2.1, hF⟩
end Jvm.Pilot.@@N@@
namespace Jvm.Pilot.@@N@@
open Jvm Jvm.ClassFile Sem Op Lib Jvm.Free Jvm.Stand Jvm.Pilot.@@N@@.Jvm.D
/-! MADE BY PROGRAM (witnessworld.py) out of the Statement's table words and the real class files: 12 classes; the members and pool entries that the words name. The judged class is class 1, her method 1. -/
namespace start1
open Jvm.ClassFile
def u (s : String) : CpInfo := .utf8 (stringToUtf16 s)
/-- a pool by its gaps: so many unusable entries, then the entry; so many at the end -/
def gap : Nat → List CpInfo → List CpInfo
  | 0, r => r
  | n + 1, r => .unusable :: gap n r
def poolList (es : List (Nat × CpInfo)) (last : Nat) : List CpInfo := es.foldr (fun e r => gap e.1 (e.2 :: r)) (gap last [])
def pool (es : List (Nat × CpInfo)) (last : Nat) : Array CpInfo := ⟨poolList es last⟩
def fileOf (pool : Array CpInfo) (this : Nat) (attrs : Array Attribute := #[]) (ms : Array MethodInfo := #[]) (fl : Nat := 33) (sup : Nat := 0) (ifs : Array Nat := #[]) (fds : Array FieldInfo := #[]) : ClassFile where
  minorVersion := 0
  majorVersion := 65
  constantPool := pool
  accessFlags := fl
  thisClass := this
  superClass := sup
  interfaces := ifs
  fields := fds
  methods := ms
  attributes := attrs
def plain (name : String) (sup : Option ClassId) : Class where
  name := name
  kind := .ordinary
  loader := none
  accessFlags := 33
  super := sup
  interfaces := #[]
  cf := none
  fields := #[]
  methods := #[]
  instanceTypes := #[]
  staticTypes := #[]
  resolved := #[]
  callSites := []
  init := .initialized
  statics := none
  mirror := none

def pool0 : Array CpInfo := pool [(5, u "<init>"), (0, u "()V"), (1, .class_ 10), (1, u "java/lang/Object")] 113

def k0m0 : Method := { name := "<init>", desc := "()V", sig := { parameters := [], returnType := none }, accessFlags := 1, code := none }
/-- java/lang/Object -/
def k0 : Class := { plain "java/lang/Object" none with
  accessFlags := 33
  interfaces := #[]
  cf := some (fileOf pool0 8 #[] #[{ accessFlags := 1, nameIndex := 5, descriptorIndex := 6, attributes := #[] }] 33 0 #[] #[])
  fields := #[]
  methods := #[k0m0]
  instanceTypes := #[]
  staticTypes := #[]
  resolved := Array.replicate 124 none
  statics := none }

def pool1 : Array CpInfo := pool [(2, .class_ 4), (1, u "java/lang/Object"), (0, u "<init>"), (0, u "()V"), (0, .methodref 8 9), (0, .class_ 10), (0, .nameAndType 11 12), (0, u "ninepoint/Outcome"), (0, u "of"), (0, u "(II)Lninepoint/Outcome;"), (0, .fieldref 8 14), (0, .nameAndType 15 16), (0, u "PLAYER"), (0, u "Lninepoint/Outcome;"), (0, .fieldref 8 18), (0, .nameAndType 19 16), (0, u "BANKER"), (0, .fieldref 8 21), (0, .nameAndType 22 16), (0, u "TIE"), (0, .class_ 24), (0, u "ninepoint/OutcomeOfPinLaw"), (2, u "law"), (0, u "(III)Z")] 3

def k1m0 : Method := { name := "<init>", desc := "()V", sig := { parameters := [], returnType := none }, accessFlags := 2, code := none }
def k1c1 : Code := { maxStack := 4, maxLocals := 10, code := code, exceptionTable := #[], attributes := #[] }
def k1m1 : Method := { name := "law", desc := "(III)Z", sig := { parameters := [.int, .int, .int], returnType := some .boolean }, accessFlags := 9, code := some k1c1 }
/-- ninepoint/OutcomeOfPinLaw -/
def k1 : Class := { plain "ninepoint/OutcomeOfPinLaw" (some 0) with
  accessFlags := 49
  interfaces := #[]
  cf := some (fileOf pool1 23 #[] #[{ accessFlags := 2, nameIndex := 5, descriptorIndex := 6, attributes := #[] }, { accessFlags := 9, nameIndex := 27, descriptorIndex := 28, attributes := #[] }] 49 2 #[] #[])
  fields := #[]
  methods := #[k1m0, k1m1]
  instanceTypes := #[]
  staticTypes := #[]
  resolved := Array.replicate 32 none
  statics := none }

def pool2 : Array CpInfo := pool [(1, .class_ 2), (0, u "java/lang/constant/Constable"), (0, .class_ 4), (0, u "java/lang/Object")] 6

/-- java/lang/constant/Constable -/
def k2 : Class := { plain "java/lang/constant/Constable" (some 0) with
  accessFlags := 1537
  interfaces := #[]
  cf := some (fileOf pool2 1 #[] #[] 1537 3 #[] #[])
  fields := #[]
  methods := #[]
  instanceTypes := #[]
  staticTypes := #[]
  resolved := Array.replicate 11 none
  statics := none }

def pool3 : Array CpInfo := pool [(1, .class_ 2), (0, u "java/lang/Comparable"), (0, .class_ 4), (0, u "java/lang/Object")] 7

/-- java/lang/Comparable -/
def k3 : Class := { plain "java/lang/Comparable" (some 0) with
  accessFlags := 1537
  interfaces := #[]
  cf := some (fileOf pool3 1 #[] #[] 1537 3 #[] #[])
  fields := #[]
  methods := #[]
  instanceTypes := #[]
  staticTypes := #[]
  resolved := Array.replicate 12 none
  statics := none }

def pool4 : Array CpInfo := pool [(1, .class_ 2), (0, u "java/io/Serializable"), (0, .class_ 4), (0, u "java/lang/Object")] 2

/-- java/io/Serializable -/
def k4 : Class := { plain "java/io/Serializable" (some 0) with
  accessFlags := 1537
  interfaces := #[]
  cf := some (fileOf pool4 1 #[] #[] 1537 3 #[] #[])
  fields := #[]
  methods := #[]
  instanceTypes := #[]
  staticTypes := #[]
  resolved := Array.replicate 7 none
  statics := none }

def pool5 : Array CpInfo := pool [(2, .class_ 4), (1, u "java/lang/Enum"), (0, u "name"), (0, u "Ljava/lang/String;"), (2, u "ordinal"), (0, u "I"), (1, .class_ 14), (1, u "java/lang/Object"), (4, u "hash"), (86, .class_ 108), (1, u "java/lang/Enum$EnumDesc"), (2, .class_ 112), (0, u "java/lang/constant/Constable"), (0, .class_ 114), (0, u "java/lang/Comparable"), (0, .class_ 116), (0, u "java/io/Serializable")] 87

/-- java/lang/Enum -/
def k5 : Class := { plain "java/lang/Enum" (some 0) with
  accessFlags := 1057
  interfaces := #[2, 3, 4]
  cf := some (fileOf pool5 2 #[.nestMembers #[106]] #[] 1057 12 #[111, 113, 115] #[{ accessFlags := 18, nameIndex := 5, descriptorIndex := 6, attributes := #[] }, { accessFlags := 18, nameIndex := 9, descriptorIndex := 10, attributes := #[] }, { accessFlags := 2, nameIndex := 19, descriptorIndex := 10, attributes := #[] }])
  fields := #[{ name := "name", type := (.object "java/lang/String"), accessFlags := 18, slot := 0, constantValue := 0 }, { name := "ordinal", type := .int, accessFlags := 18, slot := 1, constantValue := 0 }, { name := "hash", type := .int, accessFlags := 2, slot := 2, constantValue := 0 }]
  methods := #[]
  instanceTypes := #[(.object "java/lang/String"), .int, .int]
  staticTypes := #[]
  resolved := Array.replicate 204 none
  statics := none }

def pool6 : Array CpInfo := pool [(1, .class_ 2), (0, u "ninepoint/Outcome"), (0, .fieldref 1 4), (0, .nameAndType 5 6), (0, u "PLAYER"), (0, u "Lninepoint/Outcome;"), (0, .fieldref 1 8), (0, .nameAndType 9 6), (0, u "BANKER"), (0, .fieldref 1 11), (0, .nameAndType 12 6), (0, u "TIE"), (2, u "VOID"), (2, u "$VALUES"), (0, u "[Lninepoint/Outcome;"), (6, .class_ 28), (1, u "java/lang/Enum"), (27, u "of"), (0, u "(II)Lninepoint/Outcome;")] 7

def k6c0 : Code := { maxStack := 2, maxLocals := 2, code := prog_9_method_4_code, exceptionTable := #[], attributes := #[] }
def k6m0 : Method := { name := "of", desc := "(II)Lninepoint/Outcome;", sig := { parameters := [.int, .int], returnType := some (.object "ninepoint/Outcome") }, accessFlags := 9, code := some k6c0 }
/-- ninepoint/Outcome -/
def k6 : Class := { plain "ninepoint/Outcome" (some 5) with
  accessFlags := 16433
  interfaces := #[]
  cf := some (fileOf pool6 1 #[] #[{ accessFlags := 9, nameIndex := 56, descriptorIndex := 57, attributes := #[] }] 16433 26 #[] #[{ accessFlags := 16409, nameIndex := 5, descriptorIndex := 6, attributes := #[] }, { accessFlags := 16409, nameIndex := 9, descriptorIndex := 6, attributes := #[] }, { accessFlags := 16409, nameIndex := 12, descriptorIndex := 6, attributes := #[] }, { accessFlags := 16409, nameIndex := 15, descriptorIndex := 6, attributes := #[] }, { accessFlags := 4122, nameIndex := 18, descriptorIndex := 19, attributes := #[] }])
  fields := #[{ name := "PLAYER", type := (.object "ninepoint/Outcome"), accessFlags := 16409, slot := 0, constantValue := 0 }, { name := "BANKER", type := (.object "ninepoint/Outcome"), accessFlags := 16409, slot := 1, constantValue := 0 }, { name := "TIE", type := (.object "ninepoint/Outcome"), accessFlags := 16409, slot := 2, constantValue := 0 }, { name := "VOID", type := (.object "ninepoint/Outcome"), accessFlags := 16409, slot := 3, constantValue := 0 }, { name := "$VALUES", type := (.array (.object "ninepoint/Outcome")), accessFlags := 4122, slot := 4, constantValue := 0 }]
  methods := #[k6m0]
  instanceTypes := #[(.object "java/lang/String"), .int, .int]
  staticTypes := #[(.object "ninepoint/Outcome"), (.object "ninepoint/Outcome"), (.object "ninepoint/Outcome"), (.object "ninepoint/Outcome"), (.array (.object "ninepoint/Outcome"))]
  resolved := Array.replicate 65 none
  statics := some 0 }

def pool7 : Array CpInfo := pool [(1, u "java/lang/Cloneable"), (0, .class_ 1), (0, u "java/lang/Object"), (0, .class_ 3)] 3

/-- java/lang/Cloneable -/
def k7 : Class := { plain "java/lang/Cloneable" (some 0) with
  accessFlags := 1537
  interfaces := #[]
  cf := some (fileOf pool7 2 #[] #[] 1537 4 #[] #[])
  fields := #[]
  methods := #[]
  instanceTypes := #[]
  staticTypes := #[]
  resolved := Array.replicate 8 none
  statics := none }

/-- the primitive byte -/
def k8 : Class := { plain "byte" none with kind := .primitive 'B', accessFlags := 0x411 }
/-- [B -/
def k9 : Class := { plain "[B" (some 0) with kind := .array 8 .byte, interfaces := #[7, 4], accessFlags := 1041 }

/-- the primitive int -/
def k10 : Class := { plain "int" none with kind := .primitive 'I', accessFlags := 0x411 }
/-- [I -/
def k11 : Class := { plain "[I" (some 0) with kind := .array 10 .int, interfaces := #[7, 4], accessFlags := 1041 }

def heap : Heap := #[{ cls := 6, slots := #[.ref 1, .ref 1, .ref 1, .null, .null], vm := .statics 6 },
  { cls := 6, slots := #[.null, .int 0, .int 0], vm := .none }]
def classes : Array Class := #[k0, k1, k2, k3, k4, k5, k6, k7, k8, k9, k10, k11]
def interned : List (Array UInt16 × Addr) := []
def slotsUsed : Nat := 8
def theMethod : MethodId := ⟨1, 1⟩
def args0 : Array Value := #[.int 3, .int 4, .int 0]
def aboutOver (below : List Frame) : State where
  vm := { classes := classes, interned := interned.toArray }
  heap := heap
  slotsUsed := slotsUsed
  threads := #[{ frames := .invoking theMethod args0 :: below }]
def below0 : List Frame := [.native { method := ⟨0, 0⟩, args := #[] }]
def about1 : State := aboutOver below0
def p0 : Program := .bare "" "" ""
def e0 : Env := launch0.env 0 0 0
theorem w_frames : about1.frames = Frame.invoking theMethod args0 :: below0 := rfl
set_option maxRecDepth 65536 in
theorem w_args : argsFit about1.vm theMethod args0 = true := by decide +kernel
set_option maxRecDepth 65536 in
theorem w_heap : heapFits about1 = true := by decide +kernel
set_option maxRecDepth 65536 in
theorem w_runnable : about1.curStatus? = some .runnable := by decide +kernel
set_option maxRecDepth 65536 in
theorem w_alone : about1.alone = true := by decide +kernel
set_option maxRecDepth 65536 in
theorem w_named : about1.methodNamed? x = some theMethod := by decide +kernel
set_option maxRecDepth 65536 in
theorem w_hears : about1.hears theMethod below0 = true := by decide +kernel
set_option maxRecDepth 65536 in
theorem w_ripe : about1.ripe theMethod args0 below0 = true := by decide +kernel
theorem w_running : about1.status = .running := rfl
set_option maxRecDepth 65536 in
theorem w_room : about1.hasRoom e0.platform room_1 = true :=
  launch0.hasRoom_least _ room_1 (by decide +kernel) (by decide +kernel) (by decide +kernel) (by decide +kernel) (by decide +kernel) (by decide +kernel)
theorem allAtoms_all (ts : List Jvm.Cond) (a : Array Jvm.Value) (st : Jvm.State) : (allAtoms ts).before a st = ts.all (fun c => c.before a st) := by
  induction ts with
  | nil => rfl
  | cons c t ih =>
    show (Jvm.Cond.and c (allAtoms t)).before a st = _
    rw [Jvm.Cond.before_and, ih, List.all_cons]
def words1 : List Jvm.Cond := Jvm.Cond.code x code maxLocals ret :: tables_1
/-- a 'code' word, met by the world's own term for the bytes: nothing is compared byte by byte -/
theorem code_word {y : MethodName} {bytes : ByteArray} {mx : Nat} {rt : Option FieldType} {a : Array Value} {s : State} {m : MethodId} {meth : Method} {c : Code} (h1 : s.methodNamed? y = some m) (h2 : s.vm.method? m = some meth) (h3 : meth.code = some c) (h4 : c.code = bytes)
    (h5 : (c.maxLocals == mx && c.exceptionTable.isEmpty && decide (c.maxStack ≤ mostOperands) && decide (meth.sig.returnType = rt) && !meth.locks && decide (parseMethodDescriptor y.desc = some meth.sig)) = true) : (Jvm.Cond.code y bytes mx rt).before a s = true := by
  simp only [Bool.and_eq_true, beq_iff_eq, Bool.not_eq_true', decide_eq_true_eq] at h5
  obtain ⟨⟨⟨⟨⟨g1, g2⟩, g3⟩, g4⟩, g5⟩, g6⟩ := h5
  simp [Cond.before, Cond.holds, Cond.value, h1, h2, h3, h4, g1, g2, g3, g4, g5, g6]
def isCode : Jvm.Cond → Bool
  | .code _ _ _ _ => true
  | _ => false
theorem all_split {L : List Jvm.Cond} {P : Jvm.Cond → Bool} (h1 : L.all (fun c => isCode c || P c) = true) (h2 : ∀ c ∈ L.filter isCode, P c = true) : L.all P = true := by
  refine List.all_eq_true.mpr fun c hc => ?_
  have h := List.all_eq_true.mp h1 c hc
  rcases Bool.eq_false_or_eq_true (isCode c) with hi | hi
  · exact h2 c (List.mem_filter.mpr ⟨hc, hi⟩)
  · simpa [hi] using h
set_option maxRecDepth 65536 in
theorem w_c0 : (Jvm.Cond.code x code maxLocals ret).before args0 about1 = true := code_word (m := ⟨1, 1⟩) (meth := k1m1) (c := k1c1) (by decide +kernel) rfl rfl rfl (by decide +kernel)
set_option maxRecDepth 65536 in
theorem w_c1 : (Jvm.Cond.code ({ cls := "ninepoint/Outcome", name := "of", desc := "(II)Lninepoint/Outcome;" } : Jvm.MethodName) prog_9_method_4_code (2 : Nat) (Option.some (Jvm.ClassFile.FieldType.object "ninepoint/Outcome"))).before args0 about1 = true := code_word (m := ⟨6, 0⟩) (meth := k6m0) (c := k6c0) (by decide +kernel) rfl rfl rfl (by decide +kernel)
def codes1 : List Jvm.Cond := [Jvm.Cond.code x code maxLocals ret, Jvm.Cond.code ({ cls := "ninepoint/Outcome", name := "of", desc := "(II)Lninepoint/Outcome;" } : Jvm.MethodName) prog_9_method_4_code (2 : Nat) (Option.some (Jvm.ClassFile.FieldType.object "ninepoint/Outcome"))]
set_option maxRecDepth 65536 in
theorem codes_eq : words1.filter isCode = codes1 := rfl
theorem w_codes : ∀ c ∈ words1.filter isCode, c.before args0 about1 = true := by
  rw [codes_eq]
  intro c hc
  simp only [codes1, List.mem_cons, List.not_mem_nil, or_false] at hc
  rcases hc with rfl | rfl
  · exact w_c0
  · exact w_c1
set_option maxRecDepth 65536 in
theorem w_t1 : words1.all (fun c => isCode c || c.before args0 about1) = true := by decide +kernel
theorem w_tables : (allAtoms (Jvm.Cond.code x code maxLocals ret :: tables_1)).before args0 about1 = true := by
  rw [allAtoms_all]
  show words1.all (fun c => c.before args0 about1) = true
  refine all_split ?_ w_codes
  rw [w_t1]
set_option maxRecDepth 65536 in
theorem w_case : (Jvm.Cond.and given_1 narrow_1).before args0 about1 = true := by decide +kernel
theorem w_applies : (headSpec (Jvm.Cond.code x code maxLocals ret :: tables_1) room_1).applies x e0.platform about1 = true :=
  (Spec.applies_iff w_frames).mpr ⟨w_running, w_runnable, w_alone, w_named, w_hears, w_ripe, w_room, w_tables⟩
theorem atStart : AtStart classFile x code maxLocals ret World_1 tables_1 room_1 Calls_1 rest_1 Pre_1 launch0 p0 e0 about1 theMethod args0 below0 :=
  ⟨lists_1, trivial, launch0.admits_env _ _ _, launch0.least_env, fairChoices_fair.cas, fairChoices_fair.clock, w_frames, w_args, w_heap, w_applies, trivial, trivial, w_case⟩
end start1
theorem witness_1 : WitnessClaimed_1 := ⟨start1.p0, start1.e0, start1.about1, start1.theMethod, start1.args0, start1.below0, start1.atStart⟩
end Jvm.Pilot.@@N@@
