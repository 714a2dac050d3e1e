import JvmDerived
import JvmDerived.Pilot.@@N@@Statement
import JvmDerived.Pilot.@@N@@Code
set_option linter.unusedVariables false
set_option linter.unusedSimpArgs false
namespace Jvm.RoadKit
open Sem ClassFile Op Lib Jvm.Stand Jvm.Free Jvm.LawKit
abbrev Go (tb : Tables) (e : Env) (below : List Frame) (A B : State) : Prop := ∀ t, Steps tb e below B t → Steps tb e below A t
theorem goT {tb : Tables} {e : Env} {below : List Frame} {A B C : State} (f : Go tb e below A B) (g : Go tb e below B C) : Go tb e below A C := fun t h => f t (g t h)
section New
variable {p : Program} {l : Launch} {e : Env} {R : Room} {s : State} {m : MethodId} {args : Array Value} {below : List Frame} {meth : Method} {c : Code} {T : State} {locs : List Loc} {cells slots : Nat}
theorem retI (X : Stand p l e R s m args below meth c T locs cells slots) (hx : p.tables.exec = Jvm.exec) {pc : Nat} {Ls : Array Slot} {z : Int32} {rest : List Value} (hret : meth.sig.returnType = some .int) (hd : decode c.code pc = .ok (.ireturn, 1)) {fs : List Frame}
    (hl : ∀ (f : JFrame) (acts : List Action), f.method = m → f.locked = none → f.entered = [] → (doReturn e (T.setTop f) acts (some (.int z))).1 = T.setFrames fs) : Steps p.tables e below (T.setTop (mkF m pc Ls (.int z :: rest))) (T.setFrames fs) := by
  have hm' : T.vm.method? m = some meth := X.method'
  have hn : narrow .int (.int z) = .int z := rfl
  show Steps p.tables e below (T.setTop { method := m, pc := pc, locals := Ls, stack := _ :: rest, locked := none }) _
  jvm_step X.here [X.here.top, hx, hd, hm', hret, hn]
  first | (intro acts; rw [hl _ acts rfl rfl rfl]) | rw [hl _ _ rfl rfl rfl]
  exact Steps.refl _
theorem retJ (X : Stand p l e R s m args below meth c T locs cells slots) (hx : p.tables.exec = Jvm.exec) {pc : Nat} {Ls : Array Slot} {z : Int64} {rest : List Value} (hret : meth.sig.returnType = some .long) (hd : decode c.code pc = .ok (.lreturn, 1)) {fs : List Frame}
    (hl : ∀ (f : JFrame) (acts : List Action), f.method = m → f.locked = none → f.entered = [] → (doReturn e (T.setTop f) acts (some (.long z))).1 = T.setFrames fs) : Steps p.tables e below (T.setTop (mkF m pc Ls (.long z :: rest))) (T.setFrames fs) := by
  have hm' : T.vm.method? m = some meth := X.method'
  have hn : narrow .long (.long z) = .long z := rfl
  show Steps p.tables e below (T.setTop { method := m, pc := pc, locals := Ls, stack := _ :: rest, locked := none }) _
  jvm_step X.here [X.here.top, hx, hd, hm', hret, hn]
  first | (intro acts; rw [hl _ acts rfl rfl rfl]) | rw [hl _ _ rfl rfl rfl]
  exact Steps.refl _
theorem retR (X : Stand p l e R s m args below meth c T locs cells slots) (hx : p.tables.exec = Jvm.exec) {pc : Nat} {Ls : Array Slot} {z : Addr} {rest : List Value} {C : String} (hret : meth.sig.returnType = some (.object C)) (hd : decode c.code pc = .ok (.areturn, 1)) {fs : List Frame}
    (hl : ∀ (f : JFrame) (acts : List Action), f.method = m → f.locked = none → f.entered = [] → (doReturn e (T.setTop f) acts (some (.ref z))).1 = T.setFrames fs) : Steps p.tables e below (T.setTop (mkF m pc Ls (.ref z :: rest))) (T.setFrames fs) := by
  have hm' : T.vm.method? m = some meth := X.method'
  show Steps p.tables e below (T.setTop { method := m, pc := pc, locals := Ls, stack := _ :: rest, locked := none }) _
  jvm_step X.here [X.here.top, hx, hd, hm', hret, Value.isRef, FieldType.isReference]
  first | (intro acts; rw [hl _ acts rfl rfl rfl]) | rw [hl _ _ rfl rfl rfl]
  exact Steps.refl _
end New
theorem own_sta_keep {Z : State} {h h' : Heap} {b : Addr} {C n d K : String} {v : Value} (F : Sta Z h C n d v) (E : Exa Z h b K) (Kp : Keep h h' [b]) : Sta Z h' C n d v := by
  obtain ⟨cf, i, k, f, st, cell, h1, h2, h3, h4, h5, h6, h7⟩ := F
  obtain ⟨c2, _, g1, -, -, g4, -⟩ := E
  have ne : st ∉ [b] := fun q => by
    cases List.mem_singleton.mp q
    cases h5.symm.trans g1
    rw [g4] at h6; cases h6
  exact ⟨cf, i, k, f, st, cell, h1, h2, h3, h4, Kp.2.1 st cell h5 ne, h6, h7⟩
theorem own_mvM {Z s : State} {a0 args : Array Value} {own host : String} {index : Nat} {y : MethodName} (hZ : Z.Warmed39 s.vm) (w : (Cond.methodLinkNest own index y host).before a0 Z = true) : (Cond.methodLinkNest own index y host).before args s = true := (Cond.methodLinkNest_wide hZ w :)
theorem own_fld_ne {Z : State} {h : Heap} {a : Addr} {C n d : String} {v w : Value} (F : Fld Z h a C n d v) (G : Fld Z h a C n d w) (ne : v ≠ w) : False := by
  obtain ⟨cell, cf, k, i, f, h1, h2, -, -, -, -, h7⟩ := F
  obtain ⟨cell', cf', k', i', f', g1, g2, -, -, -, -, g7⟩ := G
  cases h1.symm.trans g1
  cases h2.symm.trans g2
  cases h7.symm.trans g7
  exact ne rfl
theorem own_eq_i {args : Array Value} {first s : State} {o : Option Outcome} {idx : List Nat} {a : Term} {z : Int32} (h : (Cond.eq a (.int z)).value args first o s idx = some true) : a.eval args first o idx s = some (.int z) := by
  cases ha : a.eval args first o idx s with
  | none => simp [Cond.value, Term.eval, ha] at h
  | some x => cases x <;> simp [Cond.value, Term.eval, ha] at h ⊢; exact h
theorem own_eq_l {args : Array Value} {first s : State} {o : Option Outcome} {idx : List Nat} {a : Term} {z : Int64} (h : (Cond.eq a (.long z)).value args first o s idx = some true) : a.eval args first o idx s = some (.long z) := by
  cases ha : a.eval args first o idx s with
  | none => simp [Cond.value, Term.eval, ha] at h
  | some x => cases x <;> simp [Cond.value, Term.eval, ha] at h ⊢; exact h
theorem own_ltL {x y : Int64} (h : x < y) : lcmpW x y < 0 := (lw_lt x y).mpr h
theorem own_nltL {x y : Int64} (h : ¬ x < y) : ¬ lcmpW x y < 0 := fun q => h ((lw_lt x y).mp q)
theorem own_gtL {x y : Int64} (h : y < x) : 0 < lcmpW x y := (lw_gt x y).mpr h
theorem own_ngtL {x y : Int64} (h : ¬ y < x) : ¬ 0 < lcmpW x y := fun q => h ((lw_gt x y).mp q)
theorem own_eqL {x y : Int64} (h : x = y) : lcmpW x y = 0 := (lw_eq x y).mpr h
theorem own_neqL {x y : Int64} (h : ¬ x = y) : ¬ lcmpW x y = 0 := fun q => h ((lw_eq x y).mp q)
end Jvm.RoadKit
namespace Jvm.Pilot.@@N@@
open Jvm Jvm.ClassFile Sem Op Lib Jvm.Free Jvm.Stand Jvm.LawKit Jvm.RoadKit Bundle Jvm.Pilot.@@N@@.Jvm.D
theorem own_and (x m : Int32) (k : Nat) (hk : k < 32) (hm : m.toBitVec.toNat = 2 ^ k - 1) : x &&& m = Int32.ofNat (x.toBitVec.toNat % 2 ^ k) := by
  apply Int32.toBitVec_inj.mp
  apply BitVec.eq_of_toNat_eq
  show (x.toBitVec &&& m.toBitVec).toNat = (x.toBitVec.toNat % 2 ^ k) % 2 ^ 32
  have hp : 2 ^ k ≤ 2 ^ 32 := Nat.pow_le_pow_right (by decide) (by omega)
  have hq : x.toBitVec.toNat % 2 ^ k < 2 ^ k := Nat.mod_lt _ (Nat.two_pow_pos k)
  rw [BitVec.toNat_and, hm, Nat.and_two_pow_sub_one_eq_mod, Nat.mod_eq_of_lt (Nat.lt_of_lt_of_le hq hp)]
theorem own_ofNat {n : Nat} (h : n < 2 ^ 31) : (Int32.ofNat n).toInt = n := Int32.toInt_ofNat_of_lt h
theorem own_rem {n k : Nat} (h : n < 2 ^ 31) (hk : 0 < k) (hk2 : k < 2 ^ 31) : Int32.ofNat n % Int32.ofNat k = Int32.ofNat (n % k) := by
  apply Int32.toInt_inj.mp
  have : n % k < k := Nat.mod_lt _ hk
  rw [Int32.toInt_mod, own_ofNat h, own_ofNat hk2, own_ofNat (by omega), Int.tmod_eq_emod_of_nonneg (by omega)]
  rfl
theorem own_bmod {n : Int} (h1 : -2 ^ 31 ≤ n) (h2 : n < 2 ^ 31) : n.bmod (2 ^ 32) = n := by
  rw [Int.bmod_def]; omega
theorem own_remE {n k : Nat} (h : n < 2 ^ 31) (hk : 0 < k) (hk2 : k < 2 ^ 31) : Int32.ofNat n - ((Int32.ofNat n / Int32.ofNat k) * Int32.ofNat k) = Int32.ofNat (n % k) := by
  apply Int32.toInt_inj.mp
  have h3 : n % k < k := Nat.mod_lt _ hk
  have h4 : n / k ≤ n := Nat.div_le_self _ _
  have h5 : (n / k) * k + n % k = n := Nat.div_add_mod' n k
  have e0 : (n : Int).tdiv (k : Int) = ((n / k : Nat) : Int) := rfl
  generalize n / k = d at *
  generalize n % k = r at *
  have e1 : (Int32.ofNat n / Int32.ofNat k).toInt = (d : Int) := by
    rw [Int32.toInt_div, own_ofNat h, own_ofNat hk2, e0]
    exact own_bmod (by omega) (by omega)
  have e2 : ((Int32.ofNat n / Int32.ofNat k) * Int32.ofNat k).toInt = ((d * k : Nat) : Int) := by
    rw [Int32.toInt_mul, e1, own_ofNat hk2, ← Int.natCast_mul]
    exact own_bmod (by omega) (by omega)
  rw [Int32.toInt_sub, e2, own_ofNat h, own_ofNat (by omega), own_bmod (by omega) (by omega)]
  omega
theorem own_out7 {i : Int32} (h0 : ¬ i = 0) (h1 : ¬ i = 1) (h2 : ¬ i = 2) (h3 : ¬ i = 3) (h4 : ¬ i = 4) (h5 : ¬ i = 5) (h6 : ¬ i = 6) : i.toInt < 0 ∨ i.toInt > 6 := by
  rw [← Int32.toInt_inj] at h0 h1 h2 h3 h4 h5 h6
  have c0 : (0 : Int32).toInt = 0 := rfl
  have c1 : (1 : Int32).toInt = 1 := rfl
  have c2 : (2 : Int32).toInt = 2 := rfl
  have c3 : (3 : Int32).toInt = 3 := rfl
  have c4 : (4 : Int32).toInt = 4 := rfl
  have c5 : (5 : Int32).toInt = 5 := rfl
  have c6 : (6 : Int32).toInt = 6 := rfl
  omega
theorem d_draws_0 : decode prog_47_method_13_code 0 = .ok (.iload_n 0, 1) := by decide +kernel
theorem d_draws_1 : decode prog_47_method_13_code 1 = .ok (.tableswitch 119 0 6 #[43, 43, 43, 47, 61, 80, 99], 43) := by decide +kernel
theorem d_draws_44 : decode prog_47_method_13_code 44 = .ok (.iconst 1, 1) := by decide +kernel
theorem d_draws_45 : decode prog_47_method_13_code 45 = .ok (.goto 76, 3) := by decide +kernel
theorem d_draws_48 : decode prog_47_method_13_code 48 = .ok (.iload_n 1, 1) := by decide +kernel
theorem d_draws_49 : decode prog_47_method_13_code 49 = .ok (.bipush 8, 2) := by decide +kernel
theorem d_draws_51 : decode prog_47_method_13_code 51 = .ok (.if_icmp .eq 7, 3) := by decide +kernel
theorem d_draws_54 : decode prog_47_method_13_code 54 = .ok (.iconst 1, 1) := by decide +kernel
theorem d_draws_55 : decode prog_47_method_13_code 55 = .ok (.goto 66, 3) := by decide +kernel
theorem d_draws_58 : decode prog_47_method_13_code 58 = .ok (.iconst 0, 1) := by decide +kernel
theorem d_draws_59 : decode prog_47_method_13_code 59 = .ok (.goto 62, 3) := by decide +kernel
theorem d_draws_62 : decode prog_47_method_13_code 62 = .ok (.iload_n 1, 1) := by decide +kernel
theorem d_draws_63 : decode prog_47_method_13_code 63 = .ok (.iconst 2, 1) := by decide +kernel
theorem d_draws_64 : decode prog_47_method_13_code 64 = .ok (.if_icmp .lt 13, 3) := by decide +kernel
theorem d_draws_67 : decode prog_47_method_13_code 67 = .ok (.iload_n 1, 1) := by decide +kernel
theorem d_draws_68 : decode prog_47_method_13_code 68 = .ok (.bipush 7, 2) := by decide +kernel
theorem d_draws_70 : decode prog_47_method_13_code 70 = .ok (.if_icmp .gt 7, 3) := by decide +kernel
theorem d_draws_73 : decode prog_47_method_13_code 73 = .ok (.iconst 1, 1) := by decide +kernel
theorem d_draws_74 : decode prog_47_method_13_code 74 = .ok (.goto 47, 3) := by decide +kernel
theorem d_draws_77 : decode prog_47_method_13_code 77 = .ok (.iconst 0, 1) := by decide +kernel
theorem d_draws_78 : decode prog_47_method_13_code 78 = .ok (.goto 43, 3) := by decide +kernel
theorem d_draws_81 : decode prog_47_method_13_code 81 = .ok (.iload_n 1, 1) := by decide +kernel
theorem d_draws_82 : decode prog_47_method_13_code 82 = .ok (.iconst 4, 1) := by decide +kernel
theorem d_draws_83 : decode prog_47_method_13_code 83 = .ok (.if_icmp .lt 13, 3) := by decide +kernel
theorem d_draws_86 : decode prog_47_method_13_code 86 = .ok (.iload_n 1, 1) := by decide +kernel
theorem d_draws_87 : decode prog_47_method_13_code 87 = .ok (.bipush 7, 2) := by decide +kernel
theorem d_draws_89 : decode prog_47_method_13_code 89 = .ok (.if_icmp .gt 7, 3) := by decide +kernel
theorem d_draws_92 : decode prog_47_method_13_code 92 = .ok (.iconst 1, 1) := by decide +kernel
theorem d_draws_93 : decode prog_47_method_13_code 93 = .ok (.goto 28, 3) := by decide +kernel
theorem d_draws_96 : decode prog_47_method_13_code 96 = .ok (.iconst 0, 1) := by decide +kernel
theorem d_draws_97 : decode prog_47_method_13_code 97 = .ok (.goto 24, 3) := by decide +kernel
theorem d_draws_100 : decode prog_47_method_13_code 100 = .ok (.iload_n 1, 1) := by decide +kernel
theorem d_draws_101 : decode prog_47_method_13_code 101 = .ok (.bipush 6, 2) := by decide +kernel
theorem d_draws_103 : decode prog_47_method_13_code 103 = .ok (.if_icmp .eq 9, 3) := by decide +kernel
theorem d_draws_106 : decode prog_47_method_13_code 106 = .ok (.iload_n 1, 1) := by decide +kernel
theorem d_draws_107 : decode prog_47_method_13_code 107 = .ok (.bipush 7, 2) := by decide +kernel
theorem d_draws_109 : decode prog_47_method_13_code 109 = .ok (.if_icmp .ne 7, 3) := by decide +kernel
theorem d_draws_112 : decode prog_47_method_13_code 112 = .ok (.iconst 1, 1) := by decide +kernel
theorem d_draws_113 : decode prog_47_method_13_code 113 = .ok (.goto 8, 3) := by decide +kernel
theorem d_draws_116 : decode prog_47_method_13_code 116 = .ok (.iconst 0, 1) := by decide +kernel
theorem d_draws_117 : decode prog_47_method_13_code 117 = .ok (.goto 4, 3) := by decide +kernel
theorem d_draws_120 : decode prog_47_method_13_code 120 = .ok (.iconst 0, 1) := by decide +kernel
theorem d_draws_121 : decode prog_47_method_13_code 121 = .ok (.ireturn, 1) := by decide +kernel
theorem pn_0 : plainName "ninepoint/TableOfPlay" = true := by first | (simp [plainName, overriddenIn]; done) | decide +kernel
theorem ef_draws (m : MethodId) (x0 : Int32) (x1 : Int32) : entryFrame m #[(.int x0), (.int x1)] 2 = mkF m 0 #[.val (.int x0), .val (.int x1)] [] := by first | (simp [entryFrame, mkF, argsToLocals, Value.category]; done) | rfl
def f_draws (p0 : Int32) (p1 : Int32) : Int32 := (if p0 = (0 : Int32) then (1 : Int32) else (if p0 = (1 : Int32) then (1 : Int32) else (if p0 = (2 : Int32) then (1 : Int32) else (if p0 = (3 : Int32) then (if p1 = (8 : Int32) then (0 : Int32) else (1 : Int32)) else (if p0 = (4 : Int32) then (if p1 < (2 : Int32) then (0 : Int32) else (if (7 : Int32) < p1 then (0 : Int32) else (1 : Int32))) else (if p0 = (5 : Int32) then (if p1 < (4 : Int32) then (0 : Int32) else (if (7 : Int32) < p1 then (0 : Int32) else (1 : Int32))) else (if p0 = (6 : Int32) then (if p1 = (6 : Int32) then (1 : Int32) else (if p1 = (7 : Int32) then (1 : Int32) else (0 : Int32))) else (0 : Int32))))))))
def Q_draws (Z : State) (p0 : Int32) (p1 : Int32) (h0 : Heap) (n0 : Nat) (v : Option Value) (h : Heap) (L : List Loc) : Prop := v = some (.int (f_draws p0 p1)) ∧ Fr n0 L ∧ h = h0
set_option maxRecDepth 65536 in
set_option maxHeartbeats 40000000 in
theorem rm_draws (l : Launch) (Z : State) (a0 : Array Value) (hw : ∀ d ∈ tables_1, d.before a0 Z = true) (ws : List Jvm.Cond) (p0 : Int32) (p1 : Int32) (h0 : Heap) (n0 : Nat) (Z0 : n0 ≤ h0.size) :
    MetFree l (⟨"ninepoint/TableOfPlay", "bankerDraws", "(II)Z"⟩ : MethodName) (head1 (Jvm.Cond.code (⟨"ninepoint/TableOfPlay", "bankerDraws", "(II)Z"⟩ : MethodName) prog_47_method_13_code 2 (some .boolean) :: ws) ({ frames := 0, cells := 0, slots := 0, locals := 0 } : Room)) (fun a U => a = #[(.int p0), (.int p1)] ∧ Z.Warmed39 U.vm ∧ U.heap = h0) (fun _ _ _ _ _ => True) (fun _ U o U' => ∃ v L, o = .returned v ∧ Q_draws Z p0 p1 h0 n0 v U'.heap L ∧ FrameEnd U o U' L ({ frames := 0, cells := 0, slots := 0, locals := 0 } : Room).cells ({ frames := 0, cells := 0, slots := 0, locals := 0 } : Room).slots) := by
  refine MetFree.of_bodySF (plainFor_of_name pn_0) hisR ?_
  intro p e s m args below meth c s₁ Bd hml0 hP hK
  obtain ⟨rfl, hZ, hh⟩ := hP
  have hx := Bd.exec
  have hby := Bd.bytes
  have hml : c.maxLocals = 2 := hml0
  have hown : s.vm.findClass "ninepoint/TableOfPlay" = some m.cls := findClass_of_methodNamed Bd.named
  have hnm := (name_of_methodNamed Bd.named Bd.method).1
  have X0 : Stand p l e ({ frames := 0, cells := 0, slots := 0, locals := 0 } : Room) s m #[(.int p0), (.int p1)] below meth c s₁ [] 0 0 := Stand.of_body Bd
  have e0 : s₁.heap = h0 := by rw [← hh, Bd.state]; rfl
  have N0 := Fr.nil n0
  have pre0 : ∀ t, Steps p.tables e below (s₁.setTop (mkF m 0 #[.val (.int p0), .val (.int p1)] [])) t → Steps p.tables e below (s₁.setTop (entryFrame m #[(.int p0), (.int p1)] 2)) t := fun t k => castTop (ef_draws m p0 p1) k
  have k1 : Go p.tables e below (s₁.setTop (mkF m 0 #[.val (.int p0), .val (.int p1)] [])) (s₁.setTop (mkF m 1 #[.val (.int p0), .val (.int p1)] [(.int p0)])) := by
    intro t ht
    refine XS.iloadN X0.here hx rfl (hb hby d_draws_0) rfl ?_
    exact ht
  by_cases hc2 : p0 = (0 : Int32)
  · have k3 : Go p.tables e below (s₁.setTop (mkF m 1 #[.val (.int p0), .val (.int p1)] [(.int p0)])) (s₁.setTop (mkF m 121 #[.val (.int p0), .val (.int p1)] [(.int (1 : Int32))])) := by
      intro t ht
      refine XS.tswIn X0.here hx rfl (o := 43) (pc0 := 1) (pc' := 44) rfl (hb hby d_draws_1) rfl (by rw [hc2]; decide) (by rw [hc2]; rfl) (by decide) (by decide) ?_
      show Steps p.tables e below (s₁.setTop (mkF m 44 #[.val (.int p0), .val (.int p1)] [])) _
      refine XS.iconst X0.here hx rfl (hb hby d_draws_44) ?_
      show Steps p.tables e below (s₁.setTop (mkF m 45 #[.val (.int p0), .val (.int p1)] [(.int (1 : Int32))])) _
      refine XS.goto X0.here hx rfl (pc0 := 45) (pc' := 121) rfl (hb hby d_draws_45) (by decide) (by decide) ?_
      exact ht
    obtain ⟨fs, hr, hrun, hended, hW, hsame⟩ := X0.leave (v := some (.int (1 : Int32))) (fun h => by rw [Bd.returns] at h; cases h)
    refine ⟨_, _, pre0 _ ((goT k1 k3) _ (retN X0 hx (t := .boolean) Bd.returns (by simp) (hb hby d_draws_121) hr)), hrun, hended, _, _, rfl, ?_, ⟨_, rfl⟩, hW, hsame.mono (by decide) (by decide)⟩
    show Q_draws Z p0 p1 h0 n0 _ s₁.heap _
    rw [e0]
    exact ⟨by simp only [f_draws, if_pos hc2], N0, rfl⟩
  · by_cases hc4 : p0 = (1 : Int32)
    · have k5 : Go p.tables e below (s₁.setTop (mkF m 1 #[.val (.int p0), .val (.int p1)] [(.int p0)])) (s₁.setTop (mkF m 121 #[.val (.int p0), .val (.int p1)] [(.int (1 : Int32))])) := by
        intro t ht
        refine XS.tswIn X0.here hx rfl (o := 43) (pc0 := 1) (pc' := 44) rfl (hb hby d_draws_1) rfl (by rw [hc4]; decide) (by rw [hc4]; rfl) (by decide) (by decide) ?_
        show Steps p.tables e below (s₁.setTop (mkF m 44 #[.val (.int p0), .val (.int p1)] [])) _
        refine XS.iconst X0.here hx rfl (hb hby d_draws_44) ?_
        show Steps p.tables e below (s₁.setTop (mkF m 45 #[.val (.int p0), .val (.int p1)] [(.int (1 : Int32))])) _
        refine XS.goto X0.here hx rfl (pc0 := 45) (pc' := 121) rfl (hb hby d_draws_45) (by decide) (by decide) ?_
        exact ht
      obtain ⟨fs, hr, hrun, hended, hW, hsame⟩ := X0.leave (v := some (.int (1 : Int32))) (fun h => by rw [Bd.returns] at h; cases h)
      refine ⟨_, _, pre0 _ ((goT k1 k5) _ (retN X0 hx (t := .boolean) Bd.returns (by simp) (hb hby d_draws_121) hr)), hrun, hended, _, _, rfl, ?_, ⟨_, rfl⟩, hW, hsame.mono (by decide) (by decide)⟩
      show Q_draws Z p0 p1 h0 n0 _ s₁.heap _
      rw [e0]
      exact ⟨by simp only [f_draws, if_neg hc2, if_pos hc4], N0, rfl⟩
    · by_cases hc6 : p0 = (2 : Int32)
      · have k7 : Go p.tables e below (s₁.setTop (mkF m 1 #[.val (.int p0), .val (.int p1)] [(.int p0)])) (s₁.setTop (mkF m 121 #[.val (.int p0), .val (.int p1)] [(.int (1 : Int32))])) := by
          intro t ht
          refine XS.tswIn X0.here hx rfl (o := 43) (pc0 := 1) (pc' := 44) rfl (hb hby d_draws_1) rfl (by rw [hc6]; decide) (by rw [hc6]; rfl) (by decide) (by decide) ?_
          show Steps p.tables e below (s₁.setTop (mkF m 44 #[.val (.int p0), .val (.int p1)] [])) _
          refine XS.iconst X0.here hx rfl (hb hby d_draws_44) ?_
          show Steps p.tables e below (s₁.setTop (mkF m 45 #[.val (.int p0), .val (.int p1)] [(.int (1 : Int32))])) _
          refine XS.goto X0.here hx rfl (pc0 := 45) (pc' := 121) rfl (hb hby d_draws_45) (by decide) (by decide) ?_
          exact ht
        obtain ⟨fs, hr, hrun, hended, hW, hsame⟩ := X0.leave (v := some (.int (1 : Int32))) (fun h => by rw [Bd.returns] at h; cases h)
        refine ⟨_, _, pre0 _ ((goT k1 k7) _ (retN X0 hx (t := .boolean) Bd.returns (by simp) (hb hby d_draws_121) hr)), hrun, hended, _, _, rfl, ?_, ⟨_, rfl⟩, hW, hsame.mono (by decide) (by decide)⟩
        show Q_draws Z p0 p1 h0 n0 _ s₁.heap _
        rw [e0]
        exact ⟨by simp only [f_draws, if_neg hc2, if_neg hc4, if_pos hc6], N0, rfl⟩
      · by_cases hc8 : p0 = (3 : Int32)
        · have k9 : Go p.tables e below (s₁.setTop (mkF m 1 #[.val (.int p0), .val (.int p1)] [(.int p0)])) (s₁.setTop (mkF m 51 #[.val (.int p0), .val (.int p1)] [(.int (8 : Int32)), (.int p1)])) := by
            intro t ht
            refine XS.tswIn X0.here hx rfl (o := 47) (pc0 := 1) (pc' := 48) rfl (hb hby d_draws_1) rfl (by rw [hc8]; decide) (by rw [hc8]; rfl) (by decide) (by decide) ?_
            show Steps p.tables e below (s₁.setTop (mkF m 48 #[.val (.int p0), .val (.int p1)] [])) _
            refine XS.iloadN X0.here hx rfl (hb hby d_draws_48) rfl ?_
            show Steps p.tables e below (s₁.setTop (mkF m 49 #[.val (.int p0), .val (.int p1)] [(.int p1)])) _
            refine XS.bipush X0.here hx rfl (hb hby d_draws_49) ?_
            exact ht
          by_cases hc10 : p1 = (8 : Int32)
          · have k11 : Go p.tables e below (s₁.setTop (mkF m 51 #[.val (.int p0), .val (.int p1)] [(.int (8 : Int32)), (.int p1)])) (s₁.setTop (mkF m 121 #[.val (.int p0), .val (.int p1)] [(.int (0 : Int32))])) := by
              intro t ht
              refine XS.icmpYes X0.here hx rfl (pc0 := 51) (pc' := 58) rfl (hb hby d_draws_51) rfl (teq hc10).1 (by decide) (by decide) ?_
              show Steps p.tables e below (s₁.setTop (mkF m 58 #[.val (.int p0), .val (.int p1)] [])) _
              refine XS.iconst X0.here hx rfl (hb hby d_draws_58) ?_
              show Steps p.tables e below (s₁.setTop (mkF m 59 #[.val (.int p0), .val (.int p1)] [(.int (0 : Int32))])) _
              refine XS.goto X0.here hx rfl (pc0 := 59) (pc' := 121) rfl (hb hby d_draws_59) (by decide) (by decide) ?_
              exact ht
            obtain ⟨fs, hr, hrun, hended, hW, hsame⟩ := X0.leave (v := some (.int (0 : Int32))) (fun h => by rw [Bd.returns] at h; cases h)
            refine ⟨_, _, pre0 _ ((goT k1 (goT k9 k11)) _ (retN X0 hx (t := .boolean) Bd.returns (by simp) (hb hby d_draws_121) hr)), hrun, hended, _, _, rfl, ?_, ⟨_, rfl⟩, hW, hsame.mono (by decide) (by decide)⟩
            show Q_draws Z p0 p1 h0 n0 _ s₁.heap _
            rw [e0]
            exact ⟨by simp only [f_draws, if_neg hc2, if_neg hc4, if_neg hc6, if_pos hc8, if_pos hc10], N0, rfl⟩
          · have k12 : Go p.tables e below (s₁.setTop (mkF m 51 #[.val (.int p0), .val (.int p1)] [(.int (8 : Int32)), (.int p1)])) (s₁.setTop (mkF m 121 #[.val (.int p0), .val (.int p1)] [(.int (1 : Int32))])) := by
              intro t ht
              refine XS.icmpNo X0.here hx rfl (hb hby d_draws_51) rfl (feq hc10).1 ?_
              show Steps p.tables e below (s₁.setTop (mkF m 54 #[.val (.int p0), .val (.int p1)] [])) _
              refine XS.iconst X0.here hx rfl (hb hby d_draws_54) ?_
              show Steps p.tables e below (s₁.setTop (mkF m 55 #[.val (.int p0), .val (.int p1)] [(.int (1 : Int32))])) _
              refine XS.goto X0.here hx rfl (pc0 := 55) (pc' := 121) rfl (hb hby d_draws_55) (by decide) (by decide) ?_
              exact ht
            obtain ⟨fs, hr, hrun, hended, hW, hsame⟩ := X0.leave (v := some (.int (1 : Int32))) (fun h => by rw [Bd.returns] at h; cases h)
            refine ⟨_, _, pre0 _ ((goT k1 (goT k9 k12)) _ (retN X0 hx (t := .boolean) Bd.returns (by simp) (hb hby d_draws_121) hr)), hrun, hended, _, _, rfl, ?_, ⟨_, rfl⟩, hW, hsame.mono (by decide) (by decide)⟩
            show Q_draws Z p0 p1 h0 n0 _ s₁.heap _
            rw [e0]
            exact ⟨by simp only [f_draws, if_neg hc2, if_neg hc4, if_neg hc6, if_pos hc8, if_neg hc10], N0, rfl⟩
        · by_cases hc13 : p0 = (4 : Int32)
          · have k14 : Go p.tables e below (s₁.setTop (mkF m 1 #[.val (.int p0), .val (.int p1)] [(.int p0)])) (s₁.setTop (mkF m 64 #[.val (.int p0), .val (.int p1)] [(.int (2 : Int32)), (.int p1)])) := by
              intro t ht
              refine XS.tswIn X0.here hx rfl (o := 61) (pc0 := 1) (pc' := 62) rfl (hb hby d_draws_1) rfl (by rw [hc13]; decide) (by rw [hc13]; rfl) (by decide) (by decide) ?_
              show Steps p.tables e below (s₁.setTop (mkF m 62 #[.val (.int p0), .val (.int p1)] [])) _
              refine XS.iloadN X0.here hx rfl (hb hby d_draws_62) rfl ?_
              show Steps p.tables e below (s₁.setTop (mkF m 63 #[.val (.int p0), .val (.int p1)] [(.int p1)])) _
              refine XS.iconst X0.here hx rfl (hb hby d_draws_63) ?_
              exact ht
            by_cases hc15 : p1 < (2 : Int32)
            · have k16 : Go p.tables e below (s₁.setTop (mkF m 64 #[.val (.int p0), .val (.int p1)] [(.int (2 : Int32)), (.int p1)])) (s₁.setTop (mkF m 121 #[.val (.int p0), .val (.int p1)] [(.int (0 : Int32))])) := by
                intro t ht
                refine XS.icmpYes X0.here hx rfl (pc0 := 64) (pc' := 77) rfl (hb hby d_draws_64) rfl (tlt hc15).1 (by decide) (by decide) ?_
                show Steps p.tables e below (s₁.setTop (mkF m 77 #[.val (.int p0), .val (.int p1)] [])) _
                refine XS.iconst X0.here hx rfl (hb hby d_draws_77) ?_
                show Steps p.tables e below (s₁.setTop (mkF m 78 #[.val (.int p0), .val (.int p1)] [(.int (0 : Int32))])) _
                refine XS.goto X0.here hx rfl (pc0 := 78) (pc' := 121) rfl (hb hby d_draws_78) (by decide) (by decide) ?_
                exact ht
              obtain ⟨fs, hr, hrun, hended, hW, hsame⟩ := X0.leave (v := some (.int (0 : Int32))) (fun h => by rw [Bd.returns] at h; cases h)
              refine ⟨_, _, pre0 _ ((goT k1 (goT k14 k16)) _ (retN X0 hx (t := .boolean) Bd.returns (by simp) (hb hby d_draws_121) hr)), hrun, hended, _, _, rfl, ?_, ⟨_, rfl⟩, hW, hsame.mono (by decide) (by decide)⟩
              show Q_draws Z p0 p1 h0 n0 _ s₁.heap _
              rw [e0]
              exact ⟨by simp only [f_draws, if_neg hc2, if_neg hc4, if_neg hc6, if_neg hc8, if_pos hc13, if_pos hc15], N0, rfl⟩
            · have k17 : Go p.tables e below (s₁.setTop (mkF m 64 #[.val (.int p0), .val (.int p1)] [(.int (2 : Int32)), (.int p1)])) (s₁.setTop (mkF m 70 #[.val (.int p0), .val (.int p1)] [(.int (7 : Int32)), (.int p1)])) := by
                intro t ht
                refine XS.icmpNo X0.here hx rfl (hb hby d_draws_64) rfl (flt hc15).1 ?_
                show Steps p.tables e below (s₁.setTop (mkF m 67 #[.val (.int p0), .val (.int p1)] [])) _
                refine XS.iloadN X0.here hx rfl (hb hby d_draws_67) rfl ?_
                show Steps p.tables e below (s₁.setTop (mkF m 68 #[.val (.int p0), .val (.int p1)] [(.int p1)])) _
                refine XS.bipush X0.here hx rfl (hb hby d_draws_68) ?_
                exact ht
              by_cases hc18 : (7 : Int32) < p1
              · have k19 : Go p.tables e below (s₁.setTop (mkF m 70 #[.val (.int p0), .val (.int p1)] [(.int (7 : Int32)), (.int p1)])) (s₁.setTop (mkF m 121 #[.val (.int p0), .val (.int p1)] [(.int (0 : Int32))])) := by
                  intro t ht
                  refine XS.icmpYes X0.here hx rfl (pc0 := 70) (pc' := 77) rfl (hb hby d_draws_70) rfl (tlt hc18).2.2.1 (by decide) (by decide) ?_
                  show Steps p.tables e below (s₁.setTop (mkF m 77 #[.val (.int p0), .val (.int p1)] [])) _
                  refine XS.iconst X0.here hx rfl (hb hby d_draws_77) ?_
                  show Steps p.tables e below (s₁.setTop (mkF m 78 #[.val (.int p0), .val (.int p1)] [(.int (0 : Int32))])) _
                  refine XS.goto X0.here hx rfl (pc0 := 78) (pc' := 121) rfl (hb hby d_draws_78) (by decide) (by decide) ?_
                  exact ht
                obtain ⟨fs, hr, hrun, hended, hW, hsame⟩ := X0.leave (v := some (.int (0 : Int32))) (fun h => by rw [Bd.returns] at h; cases h)
                refine ⟨_, _, pre0 _ ((goT k1 (goT k14 (goT k17 k19))) _ (retN X0 hx (t := .boolean) Bd.returns (by simp) (hb hby d_draws_121) hr)), hrun, hended, _, _, rfl, ?_, ⟨_, rfl⟩, hW, hsame.mono (by decide) (by decide)⟩
                show Q_draws Z p0 p1 h0 n0 _ s₁.heap _
                rw [e0]
                exact ⟨by simp only [f_draws, if_neg hc2, if_neg hc4, if_neg hc6, if_neg hc8, if_pos hc13, if_neg hc15, if_pos hc18], N0, rfl⟩
              · have k20 : Go p.tables e below (s₁.setTop (mkF m 70 #[.val (.int p0), .val (.int p1)] [(.int (7 : Int32)), (.int p1)])) (s₁.setTop (mkF m 121 #[.val (.int p0), .val (.int p1)] [(.int (1 : Int32))])) := by
                  intro t ht
                  refine XS.icmpNo X0.here hx rfl (hb hby d_draws_70) rfl (flt hc18).2.2.1 ?_
                  show Steps p.tables e below (s₁.setTop (mkF m 73 #[.val (.int p0), .val (.int p1)] [])) _
                  refine XS.iconst X0.here hx rfl (hb hby d_draws_73) ?_
                  show Steps p.tables e below (s₁.setTop (mkF m 74 #[.val (.int p0), .val (.int p1)] [(.int (1 : Int32))])) _
                  refine XS.goto X0.here hx rfl (pc0 := 74) (pc' := 121) rfl (hb hby d_draws_74) (by decide) (by decide) ?_
                  exact ht
                obtain ⟨fs, hr, hrun, hended, hW, hsame⟩ := X0.leave (v := some (.int (1 : Int32))) (fun h => by rw [Bd.returns] at h; cases h)
                refine ⟨_, _, pre0 _ ((goT k1 (goT k14 (goT k17 k20))) _ (retN X0 hx (t := .boolean) Bd.returns (by simp) (hb hby d_draws_121) hr)), hrun, hended, _, _, rfl, ?_, ⟨_, rfl⟩, hW, hsame.mono (by decide) (by decide)⟩
                show Q_draws Z p0 p1 h0 n0 _ s₁.heap _
                rw [e0]
                exact ⟨by simp only [f_draws, if_neg hc2, if_neg hc4, if_neg hc6, if_neg hc8, if_pos hc13, if_neg hc15, if_neg hc18], N0, rfl⟩
          · by_cases hc21 : p0 = (5 : Int32)
            · have k22 : Go p.tables e below (s₁.setTop (mkF m 1 #[.val (.int p0), .val (.int p1)] [(.int p0)])) (s₁.setTop (mkF m 83 #[.val (.int p0), .val (.int p1)] [(.int (4 : Int32)), (.int p1)])) := by
                intro t ht
                refine XS.tswIn X0.here hx rfl (o := 80) (pc0 := 1) (pc' := 81) rfl (hb hby d_draws_1) rfl (by rw [hc21]; decide) (by rw [hc21]; rfl) (by decide) (by decide) ?_
                show Steps p.tables e below (s₁.setTop (mkF m 81 #[.val (.int p0), .val (.int p1)] [])) _
                refine XS.iloadN X0.here hx rfl (hb hby d_draws_81) rfl ?_
                show Steps p.tables e below (s₁.setTop (mkF m 82 #[.val (.int p0), .val (.int p1)] [(.int p1)])) _
                refine XS.iconst X0.here hx rfl (hb hby d_draws_82) ?_
                exact ht
              by_cases hc23 : p1 < (4 : Int32)
              · have k24 : Go p.tables e below (s₁.setTop (mkF m 83 #[.val (.int p0), .val (.int p1)] [(.int (4 : Int32)), (.int p1)])) (s₁.setTop (mkF m 121 #[.val (.int p0), .val (.int p1)] [(.int (0 : Int32))])) := by
                  intro t ht
                  refine XS.icmpYes X0.here hx rfl (pc0 := 83) (pc' := 96) rfl (hb hby d_draws_83) rfl (tlt hc23).1 (by decide) (by decide) ?_
                  show Steps p.tables e below (s₁.setTop (mkF m 96 #[.val (.int p0), .val (.int p1)] [])) _
                  refine XS.iconst X0.here hx rfl (hb hby d_draws_96) ?_
                  show Steps p.tables e below (s₁.setTop (mkF m 97 #[.val (.int p0), .val (.int p1)] [(.int (0 : Int32))])) _
                  refine XS.goto X0.here hx rfl (pc0 := 97) (pc' := 121) rfl (hb hby d_draws_97) (by decide) (by decide) ?_
                  exact ht
                obtain ⟨fs, hr, hrun, hended, hW, hsame⟩ := X0.leave (v := some (.int (0 : Int32))) (fun h => by rw [Bd.returns] at h; cases h)
                refine ⟨_, _, pre0 _ ((goT k1 (goT k22 k24)) _ (retN X0 hx (t := .boolean) Bd.returns (by simp) (hb hby d_draws_121) hr)), hrun, hended, _, _, rfl, ?_, ⟨_, rfl⟩, hW, hsame.mono (by decide) (by decide)⟩
                show Q_draws Z p0 p1 h0 n0 _ s₁.heap _
                rw [e0]
                exact ⟨by simp only [f_draws, if_neg hc2, if_neg hc4, if_neg hc6, if_neg hc8, if_neg hc13, if_pos hc21, if_pos hc23], N0, rfl⟩
              · have k25 : Go p.tables e below (s₁.setTop (mkF m 83 #[.val (.int p0), .val (.int p1)] [(.int (4 : Int32)), (.int p1)])) (s₁.setTop (mkF m 89 #[.val (.int p0), .val (.int p1)] [(.int (7 : Int32)), (.int p1)])) := by
                  intro t ht
                  refine XS.icmpNo X0.here hx rfl (hb hby d_draws_83) rfl (flt hc23).1 ?_
                  show Steps p.tables e below (s₁.setTop (mkF m 86 #[.val (.int p0), .val (.int p1)] [])) _
                  refine XS.iloadN X0.here hx rfl (hb hby d_draws_86) rfl ?_
                  show Steps p.tables e below (s₁.setTop (mkF m 87 #[.val (.int p0), .val (.int p1)] [(.int p1)])) _
                  refine XS.bipush X0.here hx rfl (hb hby d_draws_87) ?_
                  exact ht
                by_cases hc26 : (7 : Int32) < p1
                · have k27 : Go p.tables e below (s₁.setTop (mkF m 89 #[.val (.int p0), .val (.int p1)] [(.int (7 : Int32)), (.int p1)])) (s₁.setTop (mkF m 121 #[.val (.int p0), .val (.int p1)] [(.int (0 : Int32))])) := by
                    intro t ht
                    refine XS.icmpYes X0.here hx rfl (pc0 := 89) (pc' := 96) rfl (hb hby d_draws_89) rfl (tlt hc26).2.2.1 (by decide) (by decide) ?_
                    show Steps p.tables e below (s₁.setTop (mkF m 96 #[.val (.int p0), .val (.int p1)] [])) _
                    refine XS.iconst X0.here hx rfl (hb hby d_draws_96) ?_
                    show Steps p.tables e below (s₁.setTop (mkF m 97 #[.val (.int p0), .val (.int p1)] [(.int (0 : Int32))])) _
                    refine XS.goto X0.here hx rfl (pc0 := 97) (pc' := 121) rfl (hb hby d_draws_97) (by decide) (by decide) ?_
                    exact ht
                  obtain ⟨fs, hr, hrun, hended, hW, hsame⟩ := X0.leave (v := some (.int (0 : Int32))) (fun h => by rw [Bd.returns] at h; cases h)
                  refine ⟨_, _, pre0 _ ((goT k1 (goT k22 (goT k25 k27))) _ (retN X0 hx (t := .boolean) Bd.returns (by simp) (hb hby d_draws_121) hr)), hrun, hended, _, _, rfl, ?_, ⟨_, rfl⟩, hW, hsame.mono (by decide) (by decide)⟩
                  show Q_draws Z p0 p1 h0 n0 _ s₁.heap _
                  rw [e0]
                  exact ⟨by simp only [f_draws, if_neg hc2, if_neg hc4, if_neg hc6, if_neg hc8, if_neg hc13, if_pos hc21, if_neg hc23, if_pos hc26], N0, rfl⟩
                · have k28 : Go p.tables e below (s₁.setTop (mkF m 89 #[.val (.int p0), .val (.int p1)] [(.int (7 : Int32)), (.int p1)])) (s₁.setTop (mkF m 121 #[.val (.int p0), .val (.int p1)] [(.int (1 : Int32))])) := by
                    intro t ht
                    refine XS.icmpNo X0.here hx rfl (hb hby d_draws_89) rfl (flt hc26).2.2.1 ?_
                    show Steps p.tables e below (s₁.setTop (mkF m 92 #[.val (.int p0), .val (.int p1)] [])) _
                    refine XS.iconst X0.here hx rfl (hb hby d_draws_92) ?_
                    show Steps p.tables e below (s₁.setTop (mkF m 93 #[.val (.int p0), .val (.int p1)] [(.int (1 : Int32))])) _
                    refine XS.goto X0.here hx rfl (pc0 := 93) (pc' := 121) rfl (hb hby d_draws_93) (by decide) (by decide) ?_
                    exact ht
                  obtain ⟨fs, hr, hrun, hended, hW, hsame⟩ := X0.leave (v := some (.int (1 : Int32))) (fun h => by rw [Bd.returns] at h; cases h)
                  refine ⟨_, _, pre0 _ ((goT k1 (goT k22 (goT k25 k28))) _ (retN X0 hx (t := .boolean) Bd.returns (by simp) (hb hby d_draws_121) hr)), hrun, hended, _, _, rfl, ?_, ⟨_, rfl⟩, hW, hsame.mono (by decide) (by decide)⟩
                  show Q_draws Z p0 p1 h0 n0 _ s₁.heap _
                  rw [e0]
                  exact ⟨by simp only [f_draws, if_neg hc2, if_neg hc4, if_neg hc6, if_neg hc8, if_neg hc13, if_pos hc21, if_neg hc23, if_neg hc26], N0, rfl⟩
            · by_cases hc29 : p0 = (6 : Int32)
              · have k30 : Go p.tables e below (s₁.setTop (mkF m 1 #[.val (.int p0), .val (.int p1)] [(.int p0)])) (s₁.setTop (mkF m 103 #[.val (.int p0), .val (.int p1)] [(.int (6 : Int32)), (.int p1)])) := by
                  intro t ht
                  refine XS.tswIn X0.here hx rfl (o := 99) (pc0 := 1) (pc' := 100) rfl (hb hby d_draws_1) rfl (by rw [hc29]; decide) (by rw [hc29]; rfl) (by decide) (by decide) ?_
                  show Steps p.tables e below (s₁.setTop (mkF m 100 #[.val (.int p0), .val (.int p1)] [])) _
                  refine XS.iloadN X0.here hx rfl (hb hby d_draws_100) rfl ?_
                  show Steps p.tables e below (s₁.setTop (mkF m 101 #[.val (.int p0), .val (.int p1)] [(.int p1)])) _
                  refine XS.bipush X0.here hx rfl (hb hby d_draws_101) ?_
                  exact ht
                by_cases hc31 : p1 = (6 : Int32)
                · have k32 : Go p.tables e below (s₁.setTop (mkF m 103 #[.val (.int p0), .val (.int p1)] [(.int (6 : Int32)), (.int p1)])) (s₁.setTop (mkF m 121 #[.val (.int p0), .val (.int p1)] [(.int (1 : Int32))])) := by
                    intro t ht
                    refine XS.icmpYes X0.here hx rfl (pc0 := 103) (pc' := 112) rfl (hb hby d_draws_103) rfl (teq hc31).1 (by decide) (by decide) ?_
                    show Steps p.tables e below (s₁.setTop (mkF m 112 #[.val (.int p0), .val (.int p1)] [])) _
                    refine XS.iconst X0.here hx rfl (hb hby d_draws_112) ?_
                    show Steps p.tables e below (s₁.setTop (mkF m 113 #[.val (.int p0), .val (.int p1)] [(.int (1 : Int32))])) _
                    refine XS.goto X0.here hx rfl (pc0 := 113) (pc' := 121) rfl (hb hby d_draws_113) (by decide) (by decide) ?_
                    exact ht
                  obtain ⟨fs, hr, hrun, hended, hW, hsame⟩ := X0.leave (v := some (.int (1 : Int32))) (fun h => by rw [Bd.returns] at h; cases h)
                  refine ⟨_, _, pre0 _ ((goT k1 (goT k30 k32)) _ (retN X0 hx (t := .boolean) Bd.returns (by simp) (hb hby d_draws_121) hr)), hrun, hended, _, _, rfl, ?_, ⟨_, rfl⟩, hW, hsame.mono (by decide) (by decide)⟩
                  show Q_draws Z p0 p1 h0 n0 _ s₁.heap _
                  rw [e0]
                  exact ⟨by simp only [f_draws, if_neg hc2, if_neg hc4, if_neg hc6, if_neg hc8, if_neg hc13, if_neg hc21, if_pos hc29, if_pos hc31], N0, rfl⟩
                · have k33 : Go p.tables e below (s₁.setTop (mkF m 103 #[.val (.int p0), .val (.int p1)] [(.int (6 : Int32)), (.int p1)])) (s₁.setTop (mkF m 109 #[.val (.int p0), .val (.int p1)] [(.int (7 : Int32)), (.int p1)])) := by
                    intro t ht
                    refine XS.icmpNo X0.here hx rfl (hb hby d_draws_103) rfl (feq hc31).1 ?_
                    show Steps p.tables e below (s₁.setTop (mkF m 106 #[.val (.int p0), .val (.int p1)] [])) _
                    refine XS.iloadN X0.here hx rfl (hb hby d_draws_106) rfl ?_
                    show Steps p.tables e below (s₁.setTop (mkF m 107 #[.val (.int p0), .val (.int p1)] [(.int p1)])) _
                    refine XS.bipush X0.here hx rfl (hb hby d_draws_107) ?_
                    exact ht
                  by_cases hc34 : p1 = (7 : Int32)
                  · have k35 : Go p.tables e below (s₁.setTop (mkF m 109 #[.val (.int p0), .val (.int p1)] [(.int (7 : Int32)), (.int p1)])) (s₁.setTop (mkF m 121 #[.val (.int p0), .val (.int p1)] [(.int (1 : Int32))])) := by
                      intro t ht
                      refine XS.icmpNo X0.here hx rfl (hb hby d_draws_109) rfl (teq hc34).2 ?_
                      show Steps p.tables e below (s₁.setTop (mkF m 112 #[.val (.int p0), .val (.int p1)] [])) _
                      refine XS.iconst X0.here hx rfl (hb hby d_draws_112) ?_
                      show Steps p.tables e below (s₁.setTop (mkF m 113 #[.val (.int p0), .val (.int p1)] [(.int (1 : Int32))])) _
                      refine XS.goto X0.here hx rfl (pc0 := 113) (pc' := 121) rfl (hb hby d_draws_113) (by decide) (by decide) ?_
                      exact ht
                    obtain ⟨fs, hr, hrun, hended, hW, hsame⟩ := X0.leave (v := some (.int (1 : Int32))) (fun h => by rw [Bd.returns] at h; cases h)
                    refine ⟨_, _, pre0 _ ((goT k1 (goT k30 (goT k33 k35))) _ (retN X0 hx (t := .boolean) Bd.returns (by simp) (hb hby d_draws_121) hr)), hrun, hended, _, _, rfl, ?_, ⟨_, rfl⟩, hW, hsame.mono (by decide) (by decide)⟩
                    show Q_draws Z p0 p1 h0 n0 _ s₁.heap _
                    rw [e0]
                    exact ⟨by simp only [f_draws, if_neg hc2, if_neg hc4, if_neg hc6, if_neg hc8, if_neg hc13, if_neg hc21, if_pos hc29, if_neg hc31, if_pos hc34], N0, rfl⟩
                  · have k36 : Go p.tables e below (s₁.setTop (mkF m 109 #[.val (.int p0), .val (.int p1)] [(.int (7 : Int32)), (.int p1)])) (s₁.setTop (mkF m 121 #[.val (.int p0), .val (.int p1)] [(.int (0 : Int32))])) := by
                      intro t ht
                      refine XS.icmpYes X0.here hx rfl (pc0 := 109) (pc' := 116) rfl (hb hby d_draws_109) rfl (feq hc34).2 (by decide) (by decide) ?_
                      show Steps p.tables e below (s₁.setTop (mkF m 116 #[.val (.int p0), .val (.int p1)] [])) _
                      refine XS.iconst X0.here hx rfl (hb hby d_draws_116) ?_
                      show Steps p.tables e below (s₁.setTop (mkF m 117 #[.val (.int p0), .val (.int p1)] [(.int (0 : Int32))])) _
                      refine XS.goto X0.here hx rfl (pc0 := 117) (pc' := 121) rfl (hb hby d_draws_117) (by decide) (by decide) ?_
                      exact ht
                    obtain ⟨fs, hr, hrun, hended, hW, hsame⟩ := X0.leave (v := some (.int (0 : Int32))) (fun h => by rw [Bd.returns] at h; cases h)
                    refine ⟨_, _, pre0 _ ((goT k1 (goT k30 (goT k33 k36))) _ (retN X0 hx (t := .boolean) Bd.returns (by simp) (hb hby d_draws_121) hr)), hrun, hended, _, _, rfl, ?_, ⟨_, rfl⟩, hW, hsame.mono (by decide) (by decide)⟩
                    show Q_draws Z p0 p1 h0 n0 _ s₁.heap _
                    rw [e0]
                    exact ⟨by simp only [f_draws, if_neg hc2, if_neg hc4, if_neg hc6, if_neg hc8, if_neg hc13, if_neg hc21, if_pos hc29, if_neg hc31, if_neg hc34], N0, rfl⟩
              · have k37 : Go p.tables e below (s₁.setTop (mkF m 1 #[.val (.int p0), .val (.int p1)] [(.int p0)])) (s₁.setTop (mkF m 121 #[.val (.int p0), .val (.int p1)] [(.int (0 : Int32))])) := by
                  intro t ht
                  refine XS.tswOut X0.here hx rfl (pc0 := 1) (pc' := 120) rfl (hb hby d_draws_1) rfl (own_out7 hc2 hc4 hc6 hc8 hc13 hc21 hc29) (by decide) (by decide) ?_
                  show Steps p.tables e below (s₁.setTop (mkF m 120 #[.val (.int p0), .val (.int p1)] [])) _
                  refine XS.iconst X0.here hx rfl (hb hby d_draws_120) ?_
                  exact ht
                obtain ⟨fs, hr, hrun, hended, hW, hsame⟩ := X0.leave (v := some (.int (0 : Int32))) (fun h => by rw [Bd.returns] at h; cases h)
                refine ⟨_, _, pre0 _ ((goT k1 k37) _ (retN X0 hx (t := .boolean) Bd.returns (by simp) (hb hby d_draws_121) hr)), hrun, hended, _, _, rfl, ?_, ⟨_, rfl⟩, hW, hsame.mono (by decide) (by decide)⟩
                show Q_draws Z p0 p1 h0 n0 _ s₁.heap _
                rw [e0]
                exact ⟨by simp only [f_draws, if_neg hc2, if_neg hc4, if_neg hc6, if_neg hc8, if_neg hc13, if_neg hc21, if_neg hc29], N0, rfl⟩
def own_mask (j : Int32) : Int32 := ([1023, 1023, 1023, 767, 252, 240, 192, 0] : List Int32).getD j.toNatClampNeg 0
theorem own_and7 (x : Int32) : ∃ n : Fin 8, x &&& 7 = Int32.ofNat n.val := ⟨⟨x.toBitVec.toNat % 2 ^ 3, Nat.mod_lt _ (by decide)⟩, own_and x 7 3 (by decide) (by decide)⟩
theorem own_rem10 (x : Int32) : ∃ n : Fin 10, ((x &&& (2147483647 : Int32)) - (((x &&& (2147483647 : Int32)) / (10 : Int32)) * (10 : Int32))) = Int32.ofNat n.val := by
  have h : x.toBitVec.toNat % 2 ^ 31 < 2 ^ 31 := Nat.mod_lt _ (by decide)
  refine ⟨⟨(x.toBitVec.toNat % 2 ^ 31) % 10, Nat.mod_lt _ (by decide)⟩, ?_⟩
  rw [own_and x 2147483647 31 (by decide) (by decide)]
  exact own_remE h (by decide) (by decide)
theorem own_inb (x : Int32) : ¬ (x &&& (7 : Int32)) < 0 ∧ (x &&& (7 : Int32)) < (8 : Int32) := by
  obtain ⟨n, e⟩ := own_and7 x
  rw [e]; clear e
  revert n; decide
theorem own_masks (j : Nat) : ([(.int (1023 : Int32)), (.int (1023 : Int32)), (.int (1023 : Int32)), (.int (767 : Int32)), (.int (252 : Int32)), (.int (240 : Int32)), (.int (192 : Int32)), (.int (0 : Int32))] : List Value).getD j (.int (0 : Int32)) = .int (([1023, 1023, 1023, 767, 252, 240, 192, 0] : List Int32).getD j 0) := by
  match j with
  | 0 | 1 | 2 | 3 | 4 | 5 | 6 | 7 => rfl
  | _ + 8 => rfl
theorem own_all : ∀ (n : Fin 8) (k : Fin 10), f_draws (Int32.ofNat n.val) (Int32.ofNat k.val) = (if ((own_mask (Int32.ofNat n.val) >>> (Int32.ofNat k.val &&& 31)) &&& (1 : Int32)) = (0 : Int32) then (0 : Int32) else (1 : Int32)) := by decide +kernel
theorem own_law (a b : Int32) : f_draws (a &&& (7 : Int32)) ((b &&& (2147483647 : Int32)) - (((b &&& (2147483647 : Int32)) / (10 : Int32)) * (10 : Int32))) = (if ((own_mask (a &&& (7 : Int32)) >>> (((b &&& (2147483647 : Int32)) - (((b &&& (2147483647 : Int32)) / (10 : Int32)) * (10 : Int32))) &&& 31)) &&& (1 : Int32)) = (0 : Int32) then (0 : Int32) else (1 : Int32)) := by
  obtain ⟨n, e⟩ := own_and7 a
  obtain ⟨k, e2⟩ := own_rem10 b
  rw [e, e2]
  exact own_all n k
theorem pd_0 : parseMethodDescriptor "(II)Z" = some ⟨[.int, .int], some .boolean⟩ := by decide +kernel
theorem pn_1 : plainName "ninepoint/TableOfPlayBankerDrawsPinLaw" = true := by first | (simp [plainName, overriddenIn]; done) | decide +kernel
theorem ef_law (m : MethodId) (x0 : Int32) (x1 : Int32) : entryFrame m #[(.int x0), (.int x1)] maxLocals = mkF m 0 #[.val (.int x0), .val (.int x1), .unset, .unset, .unset, .unset] [] := by first | (simp [entryFrame, mkF, argsToLocals, Value.category, maxLocals]; done) | rfl
def Q_law (Z : State) (p0 : Int32) (p1 : Int32) (h0 : Heap) (n0 : Nat) (v : Option Value) (h : Heap) (L : List Loc) : Prop := v = some (.int (1 : Int32)) ∧ Fr n0 L
set_option maxRecDepth 65536 in
set_option maxHeartbeats 40000000 in
theorem rm_law (l : Launch) (Z : State) (a0 : Array Value) (hw : ∀ d ∈ tables_1, d.before a0 Z = true) (ws : List Jvm.Cond) (p0 : Int32) (p1 : Int32) (h0 : Heap) (n0 : Nat) (Z0 : n0 ≤ h0.size) :
    MetFree l x (head1 (Jvm.Cond.code x code maxLocals ret :: ws) room_1) (fun a U => a = #[(.int p0), (.int p1)] ∧ Z.Warmed39 U.vm ∧ U.heap = h0) (fun _ _ _ _ _ => True) (fun _ U o U' => ∃ v L, o = .returned v ∧ Q_law Z p0 p1 h0 n0 v U'.heap L ∧ FrameEnd U o U' L room_1.cells room_1.slots) := by
  refine MetFree.of_bodySF (plainFor_of_name pn_1) hisR ?_
  intro p e s m args below meth c s₁ Bd hml0 hP hK
  obtain ⟨rfl, hZ, hh⟩ := hP
  have hx := Bd.exec
  have hby := Bd.bytes
  have hml : c.maxLocals = 6 := hml0
  have hown : s.vm.findClass "ninepoint/TableOfPlayBankerDrawsPinLaw" = some m.cls := findClass_of_methodNamed Bd.named
  have hnm := (name_of_methodNamed Bd.named Bd.method).1
  have X0 : Stand p l e room_1 s m #[(.int p0), (.int p1)] below meth c s₁ [] 0 0 := Stand.of_body Bd
  have e0 : s₁.heap = h0 := by rw [← hh, Bd.state]; rfl
  have N0 := Fr.nil n0
  have pre0 : ∀ t, Steps p.tables e below (s₁.setTop (mkF m 0 #[.val (.int p0), .val (.int p1), .unset, .unset, .unset, .unset] [])) t → Steps p.tables e below (s₁.setTop (entryFrame m #[(.int p0), (.int p1)] maxLocals)) t := fun t k => castTop (ef_law m p0 p1) k
  have k1 : Go p.tables e below (s₁.setTop (mkF m 0 #[.val (.int p0), .val (.int p1), .unset, .unset, .unset, .unset] [])) (s₁.setTop (mkF m 15 #[.val (.int p0), .val (.int p1), .val (.int (p0 &&& (7 : Int32))), .val (.int ((p1 &&& (2147483647 : Int32)) - (((p1 &&& (2147483647 : Int32)) / (10 : Int32)) * (10 : Int32)))), .unset, .unset] [(.int (8 : Int32))])) := by
    intro t ht
    refine XS.iloadN X0.here hx rfl (hb hby at_0) rfl ?_
    show Steps p.tables e below (s₁.setTop (mkF m 1 #[.val (.int p0), .val (.int p1), .unset, .unset, .unset, .unset] [(.int p0)])) _
    refine XS.bipush X0.here hx rfl (hb hby at_1) ?_
    show Steps p.tables e below (s₁.setTop (mkF m 3 #[.val (.int p0), .val (.int p1), .unset, .unset, .unset, .unset] [(.int (7 : Int32)), (.int p0)])) _
    refine XS.iand X0.here hx rfl (hb hby at_3) rfl ?_
    show Steps p.tables e below (s₁.setTop (mkF m 4 #[.val (.int p0), .val (.int p1), .unset, .unset, .unset, .unset] [(.int (p0 &&& (7 : Int32)))])) _
    refine XS.istoreN X0.here hx rfl (hb hby at_4) rfl (l' := #[.val (.int p0), .val (.int p1), .val (.int (p0 &&& (7 : Int32))), .unset, .unset, .unset]) rfl ?_
    show Steps p.tables e below (s₁.setTop (mkF m 5 #[.val (.int p0), .val (.int p1), .val (.int (p0 &&& (7 : Int32))), .unset, .unset, .unset] [])) _
    refine XS.iloadN X0.here hx rfl (hb hby at_5) rfl ?_
    show Steps p.tables e below (s₁.setTop (mkF m 6 #[.val (.int p0), .val (.int p1), .val (.int (p0 &&& (7 : Int32))), .unset, .unset, .unset] [(.int p1)])) _
    refine X0.ldcInt hx hown (mvT hZ (hw _ (List.mem_of_getElem? (i := 0) rfl))) (g := (mkF m 6 #[.val (.int p0), .val (.int p1), .val (.int (p0 &&& (7 : Int32))), .unset, .unset, .unset] [(.int p1)])) rfl (hb hby at_6) _ ?_
    show Steps p.tables e below (s₁.setTop (mkF m 8 #[.val (.int p0), .val (.int p1), .val (.int (p0 &&& (7 : Int32))), .unset, .unset, .unset] [(.int (2147483647 : Int32)), (.int p1)])) _
    refine XS.iand X0.here hx rfl (hb hby at_8) rfl ?_
    show Steps p.tables e below (s₁.setTop (mkF m 9 #[.val (.int p0), .val (.int p1), .val (.int (p0 &&& (7 : Int32))), .unset, .unset, .unset] [(.int (p1 &&& (2147483647 : Int32)))])) _
    refine XS.bipush X0.here hx rfl (hb hby at_9) ?_
    show Steps p.tables e below (s₁.setTop (mkF m 11 #[.val (.int p0), .val (.int p1), .val (.int (p0 &&& (7 : Int32))), .unset, .unset, .unset] [(.int (10 : Int32)), (.int (p1 &&& (2147483647 : Int32)))])) _
    refine XS.irem X0.here hx rfl (hb hby at_11) rfl (by decide : ¬ ((10 : Int32) = 0)) ?_
    show Steps p.tables e below (s₁.setTop (mkF m 12 #[.val (.int p0), .val (.int p1), .val (.int (p0 &&& (7 : Int32))), .unset, .unset, .unset] [(.int ((p1 &&& (2147483647 : Int32)) - (((p1 &&& (2147483647 : Int32)) / (10 : Int32)) * (10 : Int32))))])) _
    refine XS.istoreN X0.here hx rfl (hb hby at_12) rfl (l' := #[.val (.int p0), .val (.int p1), .val (.int (p0 &&& (7 : Int32))), .val (.int ((p1 &&& (2147483647 : Int32)) - (((p1 &&& (2147483647 : Int32)) / (10 : Int32)) * (10 : Int32)))), .unset, .unset]) rfl ?_
    show Steps p.tables e below (s₁.setTop (mkF m 13 #[.val (.int p0), .val (.int p1), .val (.int (p0 &&& (7 : Int32))), .val (.int ((p1 &&& (2147483647 : Int32)) - (((p1 &&& (2147483647 : Int32)) / (10 : Int32)) * (10 : Int32)))), .unset, .unset] [])) _
    refine XS.bipush X0.here hx rfl (hb hby at_13) ?_
    exact ht
  obtain ⟨T2, h2, kc2, X2, e2, E2, A2, st2⟩ := newP X0 hx hZ (hw _ (List.mem_of_getElem? (i := 1) rfl)) e0 (g := (mkF m 15 #[.val (.int p0), .val (.int p1), .val (.int (p0 &&& (7 : Int32))), .val (.int ((p1 &&& (2147483647 : Int32)) - (((p1 &&& (2147483647 : Int32)) / (10 : Int32)) * (10 : Int32)))), .unset, .unset] [(.int (8 : Int32))])) rfl (hb hby at_15) rfl (by decide) (cap := 8) (by decide) (by decide) (by decide) (by decide)
  obtain ⟨b2, g2⟩ : ∃ z, z = h0.size := ⟨_, rfl⟩
  rw [← g2] at A2 st2
  have g_b2 : n0 ≤ b2 := Nat.le_trans Z0 (Nat.le_of_eq g2.symm)
  have sz_b2 : h0.size ≤ b2 := Nat.le_trans (Keep.refl h0 []).1 (Nat.le_of_eq g2.symm)
  have Kp2 : Keep h0 h2 [] := (Keep.refl h0 []).ext E2
  have Z2 : n0 ≤ h2.size := Nat.le_trans Z0 E2.1
  have V_b2 : Arv Z h2 b2 kc2 .int (8 : Int32) [(.int (0 : Int32)), (.int (0 : Int32)), (.int (0 : Int32)), (.int (0 : Int32)), (.int (0 : Int32)), (.int (0 : Int32)), (.int (0 : Int32)), (.int (0 : Int32))] (.int (0 : Int32)) := (Arv.new A2 (by decide)).pad (pad_rep [] (.int (0 : Int32)) 8)
  have k2 : Go p.tables e below (s₁.setTop (mkF m 15 #[.val (.int p0), .val (.int p1), .val (.int (p0 &&& (7 : Int32))), .val (.int ((p1 &&& (2147483647 : Int32)) - (((p1 &&& (2147483647 : Int32)) / (10 : Int32)) * (10 : Int32)))), .unset, .unset] [(.int (8 : Int32))])) (T2.setTop (mkF m 17 #[.val (.int p0), .val (.int p1), .val (.int (p0 &&& (7 : Int32))), .val (.int ((p1 &&& (2147483647 : Int32)) - (((p1 &&& (2147483647 : Int32)) / (10 : Int32)) * (10 : Int32)))), .unset, .unset] [(.ref b2)])) := st2
  have k3 : Go p.tables e below (T2.setTop (mkF m 17 #[.val (.int p0), .val (.int p1), .val (.int (p0 &&& (7 : Int32))), .val (.int ((p1 &&& (2147483647 : Int32)) - (((p1 &&& (2147483647 : Int32)) / (10 : Int32)) * (10 : Int32)))), .unset, .unset] [(.ref b2)])) (T2.setTop (mkF m 22 #[.val (.int p0), .val (.int p1), .val (.int (p0 &&& (7 : Int32))), .val (.int ((p1 &&& (2147483647 : Int32)) - (((p1 &&& (2147483647 : Int32)) / (10 : Int32)) * (10 : Int32)))), .unset, .unset] [(.int (1023 : Int32)), (.int (0 : Int32)), (.ref b2), (.ref b2)])) := by
    intro t ht
    refine XS.dup X2.here hx rfl (hb hby at_17) rfl rfl ?_
    show Steps p.tables e below (T2.setTop (mkF m 18 #[.val (.int p0), .val (.int p1), .val (.int (p0 &&& (7 : Int32))), .val (.int ((p1 &&& (2147483647 : Int32)) - (((p1 &&& (2147483647 : Int32)) / (10 : Int32)) * (10 : Int32)))), .unset, .unset] [(.ref b2), (.ref b2)])) _
    refine XS.iconst X2.here hx rfl (hb hby at_18) ?_
    show Steps p.tables e below (T2.setTop (mkF m 19 #[.val (.int p0), .val (.int p1), .val (.int (p0 &&& (7 : Int32))), .val (.int ((p1 &&& (2147483647 : Int32)) - (((p1 &&& (2147483647 : Int32)) / (10 : Int32)) * (10 : Int32)))), .unset, .unset] [(.int (0 : Int32)), (.ref b2), (.ref b2)])) _
    refine XS.sipush X2.here hx rfl (hb hby at_19) ?_
    exact ht
  obtain ⟨cl4, Ar4, q4, S4, M4, H4, G4⟩ := V_b2
  have hin4 : ¬ ((0 : Int32) < 0 ∨ cl4.slots.size ≤ ((0 : Int32)).toNatClampNeg) := inb_of S4 ⟨by decide, by decide⟩
  obtain ⟨T4, h4, X4, e4, W4, st4⟩ := stI X2 hx hZ e2 Ar4 (j := (0 : Int32)) hin4 (g := (mkF m 22 #[.val (.int p0), .val (.int p1), .val (.int (p0 &&& (7 : Int32))), .val (.int ((p1 &&& (2147483647 : Int32)) - (((p1 &&& (2147483647 : Int32)) / (10 : Int32)) * (10 : Int32)))), .unset, .unset] [(.int (1023 : Int32)), (.int (0 : Int32)), (.ref b2), (.ref b2)])) rfl rfl (hb hby at_22)
  have V4_b2 : Arv Z h4 b2 kc2 .int (8 : Int32) [(.int (1023 : Int32)), (.int (0 : Int32)), (.int (0 : Int32)), (.int (0 : Int32)), (.int (0 : Int32)), (.int (0 : Int32)), (.int (0 : Int32)), (.int (0 : Int32))] (.int (0 : Int32)) := Arv.set Ar4 q4 S4 M4 H4 G4 rfl W4 0 rfl (Nat.le_of_ble_eq_true rfl)
  have Kp4 : Keep h0 h4 [] := Kp2.wr W4 (Or.inr sz_b2)
  have Z4 : n0 ≤ h4.size := Nat.le_trans Z2 (Keep.of_wr W4).1
  have k4 : Go p.tables e below (T2.setTop (mkF m 22 #[.val (.int p0), .val (.int p1), .val (.int (p0 &&& (7 : Int32))), .val (.int ((p1 &&& (2147483647 : Int32)) - (((p1 &&& (2147483647 : Int32)) / (10 : Int32)) * (10 : Int32)))), .unset, .unset] [(.int (1023 : Int32)), (.int (0 : Int32)), (.ref b2), (.ref b2)])) (T4.setTop (mkF m 23 #[.val (.int p0), .val (.int p1), .val (.int (p0 &&& (7 : Int32))), .val (.int ((p1 &&& (2147483647 : Int32)) - (((p1 &&& (2147483647 : Int32)) / (10 : Int32)) * (10 : Int32)))), .unset, .unset] [(.ref b2)])) := st4
  have N4 := Fr.snoc X4 N0 g_b2
  have k5 : Go p.tables e below (T4.setTop (mkF m 23 #[.val (.int p0), .val (.int p1), .val (.int (p0 &&& (7 : Int32))), .val (.int ((p1 &&& (2147483647 : Int32)) - (((p1 &&& (2147483647 : Int32)) / (10 : Int32)) * (10 : Int32)))), .unset, .unset] [(.ref b2)])) (T4.setTop (mkF m 28 #[.val (.int p0), .val (.int p1), .val (.int (p0 &&& (7 : Int32))), .val (.int ((p1 &&& (2147483647 : Int32)) - (((p1 &&& (2147483647 : Int32)) / (10 : Int32)) * (10 : Int32)))), .unset, .unset] [(.int (1023 : Int32)), (.int (1 : Int32)), (.ref b2), (.ref b2)])) := by
    intro t ht
    refine XS.dup X4.here hx rfl (hb hby at_23) rfl rfl ?_
    show Steps p.tables e below (T4.setTop (mkF m 24 #[.val (.int p0), .val (.int p1), .val (.int (p0 &&& (7 : Int32))), .val (.int ((p1 &&& (2147483647 : Int32)) - (((p1 &&& (2147483647 : Int32)) / (10 : Int32)) * (10 : Int32)))), .unset, .unset] [(.ref b2), (.ref b2)])) _
    refine XS.iconst X4.here hx rfl (hb hby at_24) ?_
    show Steps p.tables e below (T4.setTop (mkF m 25 #[.val (.int p0), .val (.int p1), .val (.int (p0 &&& (7 : Int32))), .val (.int ((p1 &&& (2147483647 : Int32)) - (((p1 &&& (2147483647 : Int32)) / (10 : Int32)) * (10 : Int32)))), .unset, .unset] [(.int (1 : Int32)), (.ref b2), (.ref b2)])) _
    refine XS.sipush X4.here hx rfl (hb hby at_25) ?_
    exact ht
  obtain ⟨cl6, Ar6, q6, S6, M6, H6, G6⟩ := V4_b2
  have hin6 : ¬ ((1 : Int32) < 0 ∨ cl6.slots.size ≤ ((1 : Int32)).toNatClampNeg) := inb_of S6 ⟨by decide, by decide⟩
  obtain ⟨T6, h6, X6, e6, W6, st6⟩ := stI X4 hx hZ e4 Ar6 (j := (1 : Int32)) hin6 (g := (mkF m 28 #[.val (.int p0), .val (.int p1), .val (.int (p0 &&& (7 : Int32))), .val (.int ((p1 &&& (2147483647 : Int32)) - (((p1 &&& (2147483647 : Int32)) / (10 : Int32)) * (10 : Int32)))), .unset, .unset] [(.int (1023 : Int32)), (.int (1 : Int32)), (.ref b2), (.ref b2)])) rfl rfl (hb hby at_28)
  have V6_b2 : Arv Z h6 b2 kc2 .int (8 : Int32) [(.int (1023 : Int32)), (.int (1023 : Int32)), (.int (0 : Int32)), (.int (0 : Int32)), (.int (0 : Int32)), (.int (0 : Int32)), (.int (0 : Int32)), (.int (0 : Int32))] (.int (0 : Int32)) := Arv.set Ar6 q6 S6 M6 H6 G6 rfl W6 1 rfl (Nat.le_of_ble_eq_true rfl)
  have Kp6 : Keep h0 h6 [] := Kp4.wr W6 (Or.inr sz_b2)
  have Z6 : n0 ≤ h6.size := Nat.le_trans Z4 (Keep.of_wr W6).1
  have k6 : Go p.tables e below (T4.setTop (mkF m 28 #[.val (.int p0), .val (.int p1), .val (.int (p0 &&& (7 : Int32))), .val (.int ((p1 &&& (2147483647 : Int32)) - (((p1 &&& (2147483647 : Int32)) / (10 : Int32)) * (10 : Int32)))), .unset, .unset] [(.int (1023 : Int32)), (.int (1 : Int32)), (.ref b2), (.ref b2)])) (T6.setTop (mkF m 29 #[.val (.int p0), .val (.int p1), .val (.int (p0 &&& (7 : Int32))), .val (.int ((p1 &&& (2147483647 : Int32)) - (((p1 &&& (2147483647 : Int32)) / (10 : Int32)) * (10 : Int32)))), .unset, .unset] [(.ref b2)])) := st6
  have N6 := Fr.snoc X6 N4 g_b2
  have k7 : Go p.tables e below (T6.setTop (mkF m 29 #[.val (.int p0), .val (.int p1), .val (.int (p0 &&& (7 : Int32))), .val (.int ((p1 &&& (2147483647 : Int32)) - (((p1 &&& (2147483647 : Int32)) / (10 : Int32)) * (10 : Int32)))), .unset, .unset] [(.ref b2)])) (T6.setTop (mkF m 34 #[.val (.int p0), .val (.int p1), .val (.int (p0 &&& (7 : Int32))), .val (.int ((p1 &&& (2147483647 : Int32)) - (((p1 &&& (2147483647 : Int32)) / (10 : Int32)) * (10 : Int32)))), .unset, .unset] [(.int (1023 : Int32)), (.int (2 : Int32)), (.ref b2), (.ref b2)])) := by
    intro t ht
    refine XS.dup X6.here hx rfl (hb hby at_29) rfl rfl ?_
    show Steps p.tables e below (T6.setTop (mkF m 30 #[.val (.int p0), .val (.int p1), .val (.int (p0 &&& (7 : Int32))), .val (.int ((p1 &&& (2147483647 : Int32)) - (((p1 &&& (2147483647 : Int32)) / (10 : Int32)) * (10 : Int32)))), .unset, .unset] [(.ref b2), (.ref b2)])) _
    refine XS.iconst X6.here hx rfl (hb hby at_30) ?_
    show Steps p.tables e below (T6.setTop (mkF m 31 #[.val (.int p0), .val (.int p1), .val (.int (p0 &&& (7 : Int32))), .val (.int ((p1 &&& (2147483647 : Int32)) - (((p1 &&& (2147483647 : Int32)) / (10 : Int32)) * (10 : Int32)))), .unset, .unset] [(.int (2 : Int32)), (.ref b2), (.ref b2)])) _
    refine XS.sipush X6.here hx rfl (hb hby at_31) ?_
    exact ht
  obtain ⟨cl8, Ar8, q8, S8, M8, H8, G8⟩ := V6_b2
  have hin8 : ¬ ((2 : Int32) < 0 ∨ cl8.slots.size ≤ ((2 : Int32)).toNatClampNeg) := inb_of S8 ⟨by decide, by decide⟩
  obtain ⟨T8, h8, X8, e8, W8, st8⟩ := stI X6 hx hZ e6 Ar8 (j := (2 : Int32)) hin8 (g := (mkF m 34 #[.val (.int p0), .val (.int p1), .val (.int (p0 &&& (7 : Int32))), .val (.int ((p1 &&& (2147483647 : Int32)) - (((p1 &&& (2147483647 : Int32)) / (10 : Int32)) * (10 : Int32)))), .unset, .unset] [(.int (1023 : Int32)), (.int (2 : Int32)), (.ref b2), (.ref b2)])) rfl rfl (hb hby at_34)
  have V8_b2 : Arv Z h8 b2 kc2 .int (8 : Int32) [(.int (1023 : Int32)), (.int (1023 : Int32)), (.int (1023 : Int32)), (.int (0 : Int32)), (.int (0 : Int32)), (.int (0 : Int32)), (.int (0 : Int32)), (.int (0 : Int32))] (.int (0 : Int32)) := Arv.set Ar8 q8 S8 M8 H8 G8 rfl W8 2 rfl (Nat.le_of_ble_eq_true rfl)
  have Kp8 : Keep h0 h8 [] := Kp6.wr W8 (Or.inr sz_b2)
  have Z8 : n0 ≤ h8.size := Nat.le_trans Z6 (Keep.of_wr W8).1
  have k8 : Go p.tables e below (T6.setTop (mkF m 34 #[.val (.int p0), .val (.int p1), .val (.int (p0 &&& (7 : Int32))), .val (.int ((p1 &&& (2147483647 : Int32)) - (((p1 &&& (2147483647 : Int32)) / (10 : Int32)) * (10 : Int32)))), .unset, .unset] [(.int (1023 : Int32)), (.int (2 : Int32)), (.ref b2), (.ref b2)])) (T8.setTop (mkF m 35 #[.val (.int p0), .val (.int p1), .val (.int (p0 &&& (7 : Int32))), .val (.int ((p1 &&& (2147483647 : Int32)) - (((p1 &&& (2147483647 : Int32)) / (10 : Int32)) * (10 : Int32)))), .unset, .unset] [(.ref b2)])) := st8
  have N8 := Fr.snoc X8 N6 g_b2
  have k9 : Go p.tables e below (T8.setTop (mkF m 35 #[.val (.int p0), .val (.int p1), .val (.int (p0 &&& (7 : Int32))), .val (.int ((p1 &&& (2147483647 : Int32)) - (((p1 &&& (2147483647 : Int32)) / (10 : Int32)) * (10 : Int32)))), .unset, .unset] [(.ref b2)])) (T8.setTop (mkF m 40 #[.val (.int p0), .val (.int p1), .val (.int (p0 &&& (7 : Int32))), .val (.int ((p1 &&& (2147483647 : Int32)) - (((p1 &&& (2147483647 : Int32)) / (10 : Int32)) * (10 : Int32)))), .unset, .unset] [(.int (767 : Int32)), (.int (3 : Int32)), (.ref b2), (.ref b2)])) := by
    intro t ht
    refine XS.dup X8.here hx rfl (hb hby at_35) rfl rfl ?_
    show Steps p.tables e below (T8.setTop (mkF m 36 #[.val (.int p0), .val (.int p1), .val (.int (p0 &&& (7 : Int32))), .val (.int ((p1 &&& (2147483647 : Int32)) - (((p1 &&& (2147483647 : Int32)) / (10 : Int32)) * (10 : Int32)))), .unset, .unset] [(.ref b2), (.ref b2)])) _
    refine XS.iconst X8.here hx rfl (hb hby at_36) ?_
    show Steps p.tables e below (T8.setTop (mkF m 37 #[.val (.int p0), .val (.int p1), .val (.int (p0 &&& (7 : Int32))), .val (.int ((p1 &&& (2147483647 : Int32)) - (((p1 &&& (2147483647 : Int32)) / (10 : Int32)) * (10 : Int32)))), .unset, .unset] [(.int (3 : Int32)), (.ref b2), (.ref b2)])) _
    refine XS.sipush X8.here hx rfl (hb hby at_37) ?_
    exact ht
  obtain ⟨cl10, Ar10, q10, S10, M10, H10, G10⟩ := V8_b2
  have hin10 : ¬ ((3 : Int32) < 0 ∨ cl10.slots.size ≤ ((3 : Int32)).toNatClampNeg) := inb_of S10 ⟨by decide, by decide⟩
  obtain ⟨T10, h10, X10, e10, W10, st10⟩ := stI X8 hx hZ e8 Ar10 (j := (3 : Int32)) hin10 (g := (mkF m 40 #[.val (.int p0), .val (.int p1), .val (.int (p0 &&& (7 : Int32))), .val (.int ((p1 &&& (2147483647 : Int32)) - (((p1 &&& (2147483647 : Int32)) / (10 : Int32)) * (10 : Int32)))), .unset, .unset] [(.int (767 : Int32)), (.int (3 : Int32)), (.ref b2), (.ref b2)])) rfl rfl (hb hby at_40)
  have V10_b2 : Arv Z h10 b2 kc2 .int (8 : Int32) [(.int (1023 : Int32)), (.int (1023 : Int32)), (.int (1023 : Int32)), (.int (767 : Int32)), (.int (0 : Int32)), (.int (0 : Int32)), (.int (0 : Int32)), (.int (0 : Int32))] (.int (0 : Int32)) := Arv.set Ar10 q10 S10 M10 H10 G10 rfl W10 3 rfl (Nat.le_of_ble_eq_true rfl)
  have Kp10 : Keep h0 h10 [] := Kp8.wr W10 (Or.inr sz_b2)
  have Z10 : n0 ≤ h10.size := Nat.le_trans Z8 (Keep.of_wr W10).1
  have k10 : Go p.tables e below (T8.setTop (mkF m 40 #[.val (.int p0), .val (.int p1), .val (.int (p0 &&& (7 : Int32))), .val (.int ((p1 &&& (2147483647 : Int32)) - (((p1 &&& (2147483647 : Int32)) / (10 : Int32)) * (10 : Int32)))), .unset, .unset] [(.int (767 : Int32)), (.int (3 : Int32)), (.ref b2), (.ref b2)])) (T10.setTop (mkF m 41 #[.val (.int p0), .val (.int p1), .val (.int (p0 &&& (7 : Int32))), .val (.int ((p1 &&& (2147483647 : Int32)) - (((p1 &&& (2147483647 : Int32)) / (10 : Int32)) * (10 : Int32)))), .unset, .unset] [(.ref b2)])) := st10
  have N10 := Fr.snoc X10 N8 g_b2
  have k11 : Go p.tables e below (T10.setTop (mkF m 41 #[.val (.int p0), .val (.int p1), .val (.int (p0 &&& (7 : Int32))), .val (.int ((p1 &&& (2147483647 : Int32)) - (((p1 &&& (2147483647 : Int32)) / (10 : Int32)) * (10 : Int32)))), .unset, .unset] [(.ref b2)])) (T10.setTop (mkF m 46 #[.val (.int p0), .val (.int p1), .val (.int (p0 &&& (7 : Int32))), .val (.int ((p1 &&& (2147483647 : Int32)) - (((p1 &&& (2147483647 : Int32)) / (10 : Int32)) * (10 : Int32)))), .unset, .unset] [(.int (252 : Int32)), (.int (4 : Int32)), (.ref b2), (.ref b2)])) := by
    intro t ht
    refine XS.dup X10.here hx rfl (hb hby at_41) rfl rfl ?_
    show Steps p.tables e below (T10.setTop (mkF m 42 #[.val (.int p0), .val (.int p1), .val (.int (p0 &&& (7 : Int32))), .val (.int ((p1 &&& (2147483647 : Int32)) - (((p1 &&& (2147483647 : Int32)) / (10 : Int32)) * (10 : Int32)))), .unset, .unset] [(.ref b2), (.ref b2)])) _
    refine XS.iconst X10.here hx rfl (hb hby at_42) ?_
    show Steps p.tables e below (T10.setTop (mkF m 43 #[.val (.int p0), .val (.int p1), .val (.int (p0 &&& (7 : Int32))), .val (.int ((p1 &&& (2147483647 : Int32)) - (((p1 &&& (2147483647 : Int32)) / (10 : Int32)) * (10 : Int32)))), .unset, .unset] [(.int (4 : Int32)), (.ref b2), (.ref b2)])) _
    refine XS.sipush X10.here hx rfl (hb hby at_43) ?_
    exact ht
  obtain ⟨cl12, Ar12, q12, S12, M12, H12, G12⟩ := V10_b2
  have hin12 : ¬ ((4 : Int32) < 0 ∨ cl12.slots.size ≤ ((4 : Int32)).toNatClampNeg) := inb_of S12 ⟨by decide, by decide⟩
  obtain ⟨T12, h12, X12, e12, W12, st12⟩ := stI X10 hx hZ e10 Ar12 (j := (4 : Int32)) hin12 (g := (mkF m 46 #[.val (.int p0), .val (.int p1), .val (.int (p0 &&& (7 : Int32))), .val (.int ((p1 &&& (2147483647 : Int32)) - (((p1 &&& (2147483647 : Int32)) / (10 : Int32)) * (10 : Int32)))), .unset, .unset] [(.int (252 : Int32)), (.int (4 : Int32)), (.ref b2), (.ref b2)])) rfl rfl (hb hby at_46)
  have V12_b2 : Arv Z h12 b2 kc2 .int (8 : Int32) [(.int (1023 : Int32)), (.int (1023 : Int32)), (.int (1023 : Int32)), (.int (767 : Int32)), (.int (252 : Int32)), (.int (0 : Int32)), (.int (0 : Int32)), (.int (0 : Int32))] (.int (0 : Int32)) := Arv.set Ar12 q12 S12 M12 H12 G12 rfl W12 4 rfl (Nat.le_of_ble_eq_true rfl)
  have Kp12 : Keep h0 h12 [] := Kp10.wr W12 (Or.inr sz_b2)
  have Z12 : n0 ≤ h12.size := Nat.le_trans Z10 (Keep.of_wr W12).1
  have k12 : Go p.tables e below (T10.setTop (mkF m 46 #[.val (.int p0), .val (.int p1), .val (.int (p0 &&& (7 : Int32))), .val (.int ((p1 &&& (2147483647 : Int32)) - (((p1 &&& (2147483647 : Int32)) / (10 : Int32)) * (10 : Int32)))), .unset, .unset] [(.int (252 : Int32)), (.int (4 : Int32)), (.ref b2), (.ref b2)])) (T12.setTop (mkF m 47 #[.val (.int p0), .val (.int p1), .val (.int (p0 &&& (7 : Int32))), .val (.int ((p1 &&& (2147483647 : Int32)) - (((p1 &&& (2147483647 : Int32)) / (10 : Int32)) * (10 : Int32)))), .unset, .unset] [(.ref b2)])) := st12
  have N12 := Fr.snoc X12 N10 g_b2
  have k13 : Go p.tables e below (T12.setTop (mkF m 47 #[.val (.int p0), .val (.int p1), .val (.int (p0 &&& (7 : Int32))), .val (.int ((p1 &&& (2147483647 : Int32)) - (((p1 &&& (2147483647 : Int32)) / (10 : Int32)) * (10 : Int32)))), .unset, .unset] [(.ref b2)])) (T12.setTop (mkF m 52 #[.val (.int p0), .val (.int p1), .val (.int (p0 &&& (7 : Int32))), .val (.int ((p1 &&& (2147483647 : Int32)) - (((p1 &&& (2147483647 : Int32)) / (10 : Int32)) * (10 : Int32)))), .unset, .unset] [(.int (240 : Int32)), (.int (5 : Int32)), (.ref b2), (.ref b2)])) := by
    intro t ht
    refine XS.dup X12.here hx rfl (hb hby at_47) rfl rfl ?_
    show Steps p.tables e below (T12.setTop (mkF m 48 #[.val (.int p0), .val (.int p1), .val (.int (p0 &&& (7 : Int32))), .val (.int ((p1 &&& (2147483647 : Int32)) - (((p1 &&& (2147483647 : Int32)) / (10 : Int32)) * (10 : Int32)))), .unset, .unset] [(.ref b2), (.ref b2)])) _
    refine XS.iconst X12.here hx rfl (hb hby at_48) ?_
    show Steps p.tables e below (T12.setTop (mkF m 49 #[.val (.int p0), .val (.int p1), .val (.int (p0 &&& (7 : Int32))), .val (.int ((p1 &&& (2147483647 : Int32)) - (((p1 &&& (2147483647 : Int32)) / (10 : Int32)) * (10 : Int32)))), .unset, .unset] [(.int (5 : Int32)), (.ref b2), (.ref b2)])) _
    refine XS.sipush X12.here hx rfl (hb hby at_49) ?_
    exact ht
  obtain ⟨cl14, Ar14, q14, S14, M14, H14, G14⟩ := V12_b2
  have hin14 : ¬ ((5 : Int32) < 0 ∨ cl14.slots.size ≤ ((5 : Int32)).toNatClampNeg) := inb_of S14 ⟨by decide, by decide⟩
  obtain ⟨T14, h14, X14, e14, W14, st14⟩ := stI X12 hx hZ e12 Ar14 (j := (5 : Int32)) hin14 (g := (mkF m 52 #[.val (.int p0), .val (.int p1), .val (.int (p0 &&& (7 : Int32))), .val (.int ((p1 &&& (2147483647 : Int32)) - (((p1 &&& (2147483647 : Int32)) / (10 : Int32)) * (10 : Int32)))), .unset, .unset] [(.int (240 : Int32)), (.int (5 : Int32)), (.ref b2), (.ref b2)])) rfl rfl (hb hby at_52)
  have V14_b2 : Arv Z h14 b2 kc2 .int (8 : Int32) [(.int (1023 : Int32)), (.int (1023 : Int32)), (.int (1023 : Int32)), (.int (767 : Int32)), (.int (252 : Int32)), (.int (240 : Int32)), (.int (0 : Int32)), (.int (0 : Int32))] (.int (0 : Int32)) := Arv.set Ar14 q14 S14 M14 H14 G14 rfl W14 5 rfl (Nat.le_of_ble_eq_true rfl)
  have Kp14 : Keep h0 h14 [] := Kp12.wr W14 (Or.inr sz_b2)
  have Z14 : n0 ≤ h14.size := Nat.le_trans Z12 (Keep.of_wr W14).1
  have k14 : Go p.tables e below (T12.setTop (mkF m 52 #[.val (.int p0), .val (.int p1), .val (.int (p0 &&& (7 : Int32))), .val (.int ((p1 &&& (2147483647 : Int32)) - (((p1 &&& (2147483647 : Int32)) / (10 : Int32)) * (10 : Int32)))), .unset, .unset] [(.int (240 : Int32)), (.int (5 : Int32)), (.ref b2), (.ref b2)])) (T14.setTop (mkF m 53 #[.val (.int p0), .val (.int p1), .val (.int (p0 &&& (7 : Int32))), .val (.int ((p1 &&& (2147483647 : Int32)) - (((p1 &&& (2147483647 : Int32)) / (10 : Int32)) * (10 : Int32)))), .unset, .unset] [(.ref b2)])) := st14
  have N14 := Fr.snoc X14 N12 g_b2
  have k15 : Go p.tables e below (T14.setTop (mkF m 53 #[.val (.int p0), .val (.int p1), .val (.int (p0 &&& (7 : Int32))), .val (.int ((p1 &&& (2147483647 : Int32)) - (((p1 &&& (2147483647 : Int32)) / (10 : Int32)) * (10 : Int32)))), .unset, .unset] [(.ref b2)])) (T14.setTop (mkF m 59 #[.val (.int p0), .val (.int p1), .val (.int (p0 &&& (7 : Int32))), .val (.int ((p1 &&& (2147483647 : Int32)) - (((p1 &&& (2147483647 : Int32)) / (10 : Int32)) * (10 : Int32)))), .unset, .unset] [(.int (192 : Int32)), (.int (6 : Int32)), (.ref b2), (.ref b2)])) := by
    intro t ht
    refine XS.dup X14.here hx rfl (hb hby at_53) rfl rfl ?_
    show Steps p.tables e below (T14.setTop (mkF m 54 #[.val (.int p0), .val (.int p1), .val (.int (p0 &&& (7 : Int32))), .val (.int ((p1 &&& (2147483647 : Int32)) - (((p1 &&& (2147483647 : Int32)) / (10 : Int32)) * (10 : Int32)))), .unset, .unset] [(.ref b2), (.ref b2)])) _
    refine XS.bipush X14.here hx rfl (hb hby at_54) ?_
    show Steps p.tables e below (T14.setTop (mkF m 56 #[.val (.int p0), .val (.int p1), .val (.int (p0 &&& (7 : Int32))), .val (.int ((p1 &&& (2147483647 : Int32)) - (((p1 &&& (2147483647 : Int32)) / (10 : Int32)) * (10 : Int32)))), .unset, .unset] [(.int (6 : Int32)), (.ref b2), (.ref b2)])) _
    refine XS.sipush X14.here hx rfl (hb hby at_56) ?_
    exact ht
  obtain ⟨cl16, Ar16, q16, S16, M16, H16, G16⟩ := V14_b2
  have hin16 : ¬ ((6 : Int32) < 0 ∨ cl16.slots.size ≤ ((6 : Int32)).toNatClampNeg) := inb_of S16 ⟨by decide, by decide⟩
  obtain ⟨T16, h16, X16, e16, W16, st16⟩ := stI X14 hx hZ e14 Ar16 (j := (6 : Int32)) hin16 (g := (mkF m 59 #[.val (.int p0), .val (.int p1), .val (.int (p0 &&& (7 : Int32))), .val (.int ((p1 &&& (2147483647 : Int32)) - (((p1 &&& (2147483647 : Int32)) / (10 : Int32)) * (10 : Int32)))), .unset, .unset] [(.int (192 : Int32)), (.int (6 : Int32)), (.ref b2), (.ref b2)])) rfl rfl (hb hby at_59)
  have V16_b2 : Arv Z h16 b2 kc2 .int (8 : Int32) [(.int (1023 : Int32)), (.int (1023 : Int32)), (.int (1023 : Int32)), (.int (767 : Int32)), (.int (252 : Int32)), (.int (240 : Int32)), (.int (192 : Int32)), (.int (0 : Int32))] (.int (0 : Int32)) := Arv.set Ar16 q16 S16 M16 H16 G16 rfl W16 6 rfl (Nat.le_of_ble_eq_true rfl)
  have Kp16 : Keep h0 h16 [] := Kp14.wr W16 (Or.inr sz_b2)
  have Z16 : n0 ≤ h16.size := Nat.le_trans Z14 (Keep.of_wr W16).1
  have k16 : Go p.tables e below (T14.setTop (mkF m 59 #[.val (.int p0), .val (.int p1), .val (.int (p0 &&& (7 : Int32))), .val (.int ((p1 &&& (2147483647 : Int32)) - (((p1 &&& (2147483647 : Int32)) / (10 : Int32)) * (10 : Int32)))), .unset, .unset] [(.int (192 : Int32)), (.int (6 : Int32)), (.ref b2), (.ref b2)])) (T16.setTop (mkF m 60 #[.val (.int p0), .val (.int p1), .val (.int (p0 &&& (7 : Int32))), .val (.int ((p1 &&& (2147483647 : Int32)) - (((p1 &&& (2147483647 : Int32)) / (10 : Int32)) * (10 : Int32)))), .unset, .unset] [(.ref b2)])) := st16
  have N16 := Fr.snoc X16 N14 g_b2
  have k17 : Go p.tables e below (T16.setTop (mkF m 60 #[.val (.int p0), .val (.int p1), .val (.int (p0 &&& (7 : Int32))), .val (.int ((p1 &&& (2147483647 : Int32)) - (((p1 &&& (2147483647 : Int32)) / (10 : Int32)) * (10 : Int32)))), .unset, .unset] [(.ref b2)])) (T16.setTop (mkF m 64 #[.val (.int p0), .val (.int p1), .val (.int (p0 &&& (7 : Int32))), .val (.int ((p1 &&& (2147483647 : Int32)) - (((p1 &&& (2147483647 : Int32)) / (10 : Int32)) * (10 : Int32)))), .unset, .unset] [(.int (0 : Int32)), (.int (7 : Int32)), (.ref b2), (.ref b2)])) := by
    intro t ht
    refine XS.dup X16.here hx rfl (hb hby at_60) rfl rfl ?_
    show Steps p.tables e below (T16.setTop (mkF m 61 #[.val (.int p0), .val (.int p1), .val (.int (p0 &&& (7 : Int32))), .val (.int ((p1 &&& (2147483647 : Int32)) - (((p1 &&& (2147483647 : Int32)) / (10 : Int32)) * (10 : Int32)))), .unset, .unset] [(.ref b2), (.ref b2)])) _
    refine XS.bipush X16.here hx rfl (hb hby at_61) ?_
    show Steps p.tables e below (T16.setTop (mkF m 63 #[.val (.int p0), .val (.int p1), .val (.int (p0 &&& (7 : Int32))), .val (.int ((p1 &&& (2147483647 : Int32)) - (((p1 &&& (2147483647 : Int32)) / (10 : Int32)) * (10 : Int32)))), .unset, .unset] [(.int (7 : Int32)), (.ref b2), (.ref b2)])) _
    refine XS.iconst X16.here hx rfl (hb hby at_63) ?_
    exact ht
  obtain ⟨cl18, Ar18, q18, S18, M18, H18, G18⟩ := V16_b2
  have hin18 : ¬ ((7 : Int32) < 0 ∨ cl18.slots.size ≤ ((7 : Int32)).toNatClampNeg) := inb_of S18 ⟨by decide, by decide⟩
  obtain ⟨T18, h18, X18, e18, W18, st18⟩ := stI X16 hx hZ e16 Ar18 (j := (7 : Int32)) hin18 (g := (mkF m 64 #[.val (.int p0), .val (.int p1), .val (.int (p0 &&& (7 : Int32))), .val (.int ((p1 &&& (2147483647 : Int32)) - (((p1 &&& (2147483647 : Int32)) / (10 : Int32)) * (10 : Int32)))), .unset, .unset] [(.int (0 : Int32)), (.int (7 : Int32)), (.ref b2), (.ref b2)])) rfl rfl (hb hby at_64)
  have V18_b2 : Arv Z h18 b2 kc2 .int (8 : Int32) [(.int (1023 : Int32)), (.int (1023 : Int32)), (.int (1023 : Int32)), (.int (767 : Int32)), (.int (252 : Int32)), (.int (240 : Int32)), (.int (192 : Int32)), (.int (0 : Int32))] (.int (0 : Int32)) := Arv.set Ar18 q18 S18 M18 H18 G18 rfl W18 7 rfl (Nat.le_of_ble_eq_true rfl)
  have Kp18 : Keep h0 h18 [] := Kp16.wr W18 (Or.inr sz_b2)
  have Z18 : n0 ≤ h18.size := Nat.le_trans Z16 (Keep.of_wr W18).1
  have k18 : Go p.tables e below (T16.setTop (mkF m 64 #[.val (.int p0), .val (.int p1), .val (.int (p0 &&& (7 : Int32))), .val (.int ((p1 &&& (2147483647 : Int32)) - (((p1 &&& (2147483647 : Int32)) / (10 : Int32)) * (10 : Int32)))), .unset, .unset] [(.int (0 : Int32)), (.int (7 : Int32)), (.ref b2), (.ref b2)])) (T18.setTop (mkF m 65 #[.val (.int p0), .val (.int p1), .val (.int (p0 &&& (7 : Int32))), .val (.int ((p1 &&& (2147483647 : Int32)) - (((p1 &&& (2147483647 : Int32)) / (10 : Int32)) * (10 : Int32)))), .unset, .unset] [(.ref b2)])) := st18
  have N18 := Fr.snoc X18 N16 g_b2
  have k19 : Go p.tables e below (T18.setTop (mkF m 65 #[.val (.int p0), .val (.int p1), .val (.int (p0 &&& (7 : Int32))), .val (.int ((p1 &&& (2147483647 : Int32)) - (((p1 &&& (2147483647 : Int32)) / (10 : Int32)) * (10 : Int32)))), .unset, .unset] [(.ref b2)])) (T18.setTop (mkF m 70 #[.val (.int p0), .val (.int p1), .val (.int (p0 &&& (7 : Int32))), .val (.int ((p1 &&& (2147483647 : Int32)) - (((p1 &&& (2147483647 : Int32)) / (10 : Int32)) * (10 : Int32)))), .val (.ref b2), .unset] [(.int (p0 &&& (7 : Int32))), (.ref b2)])) := by
    intro t ht
    refine XS.astore X18.here hx rfl (hb hby at_65) rfl rfl (l' := #[.val (.int p0), .val (.int p1), .val (.int (p0 &&& (7 : Int32))), .val (.int ((p1 &&& (2147483647 : Int32)) - (((p1 &&& (2147483647 : Int32)) / (10 : Int32)) * (10 : Int32)))), .val (.ref b2), .unset]) rfl ?_
    show Steps p.tables e below (T18.setTop (mkF m 67 #[.val (.int p0), .val (.int p1), .val (.int (p0 &&& (7 : Int32))), .val (.int ((p1 &&& (2147483647 : Int32)) - (((p1 &&& (2147483647 : Int32)) / (10 : Int32)) * (10 : Int32)))), .val (.ref b2), .unset] [])) _
    refine XS.aload X18.here hx rfl (hb hby at_67) rfl rfl ?_
    show Steps p.tables e below (T18.setTop (mkF m 69 #[.val (.int p0), .val (.int p1), .val (.int (p0 &&& (7 : Int32))), .val (.int ((p1 &&& (2147483647 : Int32)) - (((p1 &&& (2147483647 : Int32)) / (10 : Int32)) * (10 : Int32)))), .val (.ref b2), .unset] [(.ref b2)])) _
    refine XS.iloadN X18.here hx rfl (hb hby at_69) rfl ?_
    exact ht
  obtain ⟨cl20, Ar20, q20, S20, M20, H20, G20⟩ := V18_b2
  have hin20 : ¬ ((p0 &&& (7 : Int32)) < 0 ∨ cl20.slots.size ≤ ((p0 &&& (7 : Int32))).toNatClampNeg) := inb_of S20 (own_inb _)
  have hat20 : cl20.slots[((p0 &&& (7 : Int32))).toNatClampNeg]? = some (.int (own_mask (p0 &&& (7 : Int32)))) := (H20 _ (Nat.lt_of_not_le fun y => hin20 (Or.inr y))).trans (congrArg some (own_masks _))
  have k21 : Go p.tables e below (T18.setTop (mkF m 70 #[.val (.int p0), .val (.int p1), .val (.int (p0 &&& (7 : Int32))), .val (.int ((p1 &&& (2147483647 : Int32)) - (((p1 &&& (2147483647 : Int32)) / (10 : Int32)) * (10 : Int32)))), .val (.ref b2), .unset] [(.int (p0 &&& (7 : Int32))), (.ref b2)])) (T18.setTop (mkF m 75 #[.val (.int p0), .val (.int p1), .val (.int (p0 &&& (7 : Int32))), .val (.int ((p1 &&& (2147483647 : Int32)) - (((p1 &&& (2147483647 : Int32)) / (10 : Int32)) * (10 : Int32)))), .val (.ref b2), .unset] [(.int (((own_mask (p0 &&& (7 : Int32))) >>> (((p1 &&& (2147483647 : Int32)) - (((p1 &&& (2147483647 : Int32)) / (10 : Int32)) * (10 : Int32))) &&& 31)) &&& (1 : Int32)))])) := by
    intro t ht
    refine X18.iaload hx (j := (p0 &&& (7 : Int32))) (v := (.int (own_mask (p0 &&& (7 : Int32))))) (by rw [e18]; exact Ar20.1) (State.isArrayOf_alike hZ.alike Ar20.2.1) Ar20.2.2 hin20 hat20 (g := (mkF m 70 #[.val (.int p0), .val (.int p1), .val (.int (p0 &&& (7 : Int32))), .val (.int ((p1 &&& (2147483647 : Int32)) - (((p1 &&& (2147483647 : Int32)) / (10 : Int32)) * (10 : Int32)))), .val (.ref b2), .unset] [(.int (p0 &&& (7 : Int32))), (.ref b2)])) rfl rfl (hb hby at_70) _ ?_
    show Steps p.tables e below (T18.setTop (mkF m 71 #[.val (.int p0), .val (.int p1), .val (.int (p0 &&& (7 : Int32))), .val (.int ((p1 &&& (2147483647 : Int32)) - (((p1 &&& (2147483647 : Int32)) / (10 : Int32)) * (10 : Int32)))), .val (.ref b2), .unset] [(.int (own_mask (p0 &&& (7 : Int32))))])) _
    refine XS.iloadN X18.here hx rfl (hb hby at_71) rfl ?_
    show Steps p.tables e below (T18.setTop (mkF m 72 #[.val (.int p0), .val (.int p1), .val (.int (p0 &&& (7 : Int32))), .val (.int ((p1 &&& (2147483647 : Int32)) - (((p1 &&& (2147483647 : Int32)) / (10 : Int32)) * (10 : Int32)))), .val (.ref b2), .unset] [(.int ((p1 &&& (2147483647 : Int32)) - (((p1 &&& (2147483647 : Int32)) / (10 : Int32)) * (10 : Int32)))), (.int (own_mask (p0 &&& (7 : Int32))))])) _
    refine XS.ishr X18.here hx rfl (hb hby at_72) rfl ?_
    show Steps p.tables e below (T18.setTop (mkF m 73 #[.val (.int p0), .val (.int p1), .val (.int (p0 &&& (7 : Int32))), .val (.int ((p1 &&& (2147483647 : Int32)) - (((p1 &&& (2147483647 : Int32)) / (10 : Int32)) * (10 : Int32)))), .val (.ref b2), .unset] [(.int ((own_mask (p0 &&& (7 : Int32))) >>> (((p1 &&& (2147483647 : Int32)) - (((p1 &&& (2147483647 : Int32)) / (10 : Int32)) * (10 : Int32))) &&& 31)))])) _
    refine XS.iconst X18.here hx rfl (hb hby at_73) ?_
    show Steps p.tables e below (T18.setTop (mkF m 74 #[.val (.int p0), .val (.int p1), .val (.int (p0 &&& (7 : Int32))), .val (.int ((p1 &&& (2147483647 : Int32)) - (((p1 &&& (2147483647 : Int32)) / (10 : Int32)) * (10 : Int32)))), .val (.ref b2), .unset] [(.int (1 : Int32)), (.int ((own_mask (p0 &&& (7 : Int32))) >>> (((p1 &&& (2147483647 : Int32)) - (((p1 &&& (2147483647 : Int32)) / (10 : Int32)) * (10 : Int32))) &&& 31)))])) _
    refine XS.iand X18.here hx rfl (hb hby at_74) rfl ?_
    exact ht
  have k22 : Go p.tables e below (T18.setTop (mkF m 75 #[.val (.int p0), .val (.int p1), .val (.int (p0 &&& (7 : Int32))), .val (.int ((p1 &&& (2147483647 : Int32)) - (((p1 &&& (2147483647 : Int32)) / (10 : Int32)) * (10 : Int32)))), .val (.ref b2), .unset] [(.int (((own_mask (p0 &&& (7 : Int32))) >>> (((p1 &&& (2147483647 : Int32)) - (((p1 &&& (2147483647 : Int32)) / (10 : Int32)) * (10 : Int32))) &&& 31)) &&& (1 : Int32)))])) (T18.setTop (mkF m 83 #[.val (.int p0), .val (.int p1), .val (.int (p0 &&& (7 : Int32))), .val (.int ((p1 &&& (2147483647 : Int32)) - (((p1 &&& (2147483647 : Int32)) / (10 : Int32)) * (10 : Int32)))), .val (.ref b2), .unset] [(.int (if (((own_mask (p0 &&& (7 : Int32))) >>> (((p1 &&& (2147483647 : Int32)) - (((p1 &&& (2147483647 : Int32)) / (10 : Int32)) * (10 : Int32))) &&& 31)) &&& (1 : Int32)) = (0 : Int32) then (0 : Int32) else (1 : Int32)))])) := by
    by_cases hc23 : (((own_mask (p0 &&& (7 : Int32))) >>> (((p1 &&& (2147483647 : Int32)) - (((p1 &&& (2147483647 : Int32)) / (10 : Int32)) * (10 : Int32))) &&& 31)) &&& (1 : Int32)) = (0 : Int32)
    · have k24 : Go p.tables e below (T18.setTop (mkF m 75 #[.val (.int p0), .val (.int p1), .val (.int (p0 &&& (7 : Int32))), .val (.int ((p1 &&& (2147483647 : Int32)) - (((p1 &&& (2147483647 : Int32)) / (10 : Int32)) * (10 : Int32)))), .val (.ref b2), .unset] [(.int (((own_mask (p0 &&& (7 : Int32))) >>> (((p1 &&& (2147483647 : Int32)) - (((p1 &&& (2147483647 : Int32)) / (10 : Int32)) * (10 : Int32))) &&& 31)) &&& (1 : Int32)))])) (T18.setTop (mkF m 83 #[.val (.int p0), .val (.int p1), .val (.int (p0 &&& (7 : Int32))), .val (.int ((p1 &&& (2147483647 : Int32)) - (((p1 &&& (2147483647 : Int32)) / (10 : Int32)) * (10 : Int32)))), .val (.ref b2), .unset] [(.int (0 : Int32))])) := by
        intro t ht
        refine XS.ifYes X18.here hx rfl (pc0 := 75) (pc' := 82) rfl (hb hby at_75) rfl ((if0 _ _).trans (teq hc23).1) (by decide) (by decide) ?_
        show Steps p.tables e below (T18.setTop (mkF m 82 #[.val (.int p0), .val (.int p1), .val (.int (p0 &&& (7 : Int32))), .val (.int ((p1 &&& (2147483647 : Int32)) - (((p1 &&& (2147483647 : Int32)) / (10 : Int32)) * (10 : Int32)))), .val (.ref b2), .unset] [])) _
        refine XS.iconst X18.here hx rfl (hb hby at_82) ?_
        exact ht
      have kk := k24
      simpa only [if_pos hc23] using kk
    · have k25 : Go p.tables e below (T18.setTop (mkF m 75 #[.val (.int p0), .val (.int p1), .val (.int (p0 &&& (7 : Int32))), .val (.int ((p1 &&& (2147483647 : Int32)) - (((p1 &&& (2147483647 : Int32)) / (10 : Int32)) * (10 : Int32)))), .val (.ref b2), .unset] [(.int (((own_mask (p0 &&& (7 : Int32))) >>> (((p1 &&& (2147483647 : Int32)) - (((p1 &&& (2147483647 : Int32)) / (10 : Int32)) * (10 : Int32))) &&& 31)) &&& (1 : Int32)))])) (T18.setTop (mkF m 83 #[.val (.int p0), .val (.int p1), .val (.int (p0 &&& (7 : Int32))), .val (.int ((p1 &&& (2147483647 : Int32)) - (((p1 &&& (2147483647 : Int32)) / (10 : Int32)) * (10 : Int32)))), .val (.ref b2), .unset] [(.int (1 : Int32))])) := by
        intro t ht
        refine XS.ifNo X18.here hx rfl (hb hby at_75) rfl ((if0 _ _).trans (feq hc23).1) ?_
        show Steps p.tables e below (T18.setTop (mkF m 78 #[.val (.int p0), .val (.int p1), .val (.int (p0 &&& (7 : Int32))), .val (.int ((p1 &&& (2147483647 : Int32)) - (((p1 &&& (2147483647 : Int32)) / (10 : Int32)) * (10 : Int32)))), .val (.ref b2), .unset] [])) _
        refine XS.iconst X18.here hx rfl (hb hby at_78) ?_
        show Steps p.tables e below (T18.setTop (mkF m 79 #[.val (.int p0), .val (.int p1), .val (.int (p0 &&& (7 : Int32))), .val (.int ((p1 &&& (2147483647 : Int32)) - (((p1 &&& (2147483647 : Int32)) / (10 : Int32)) * (10 : Int32)))), .val (.ref b2), .unset] [(.int (1 : Int32))])) _
        refine XS.goto X18.here hx rfl (pc0 := 79) (pc' := 83) rfl (hb hby at_79) (by decide) (by decide) ?_
        exact ht
      have kk := k25
      simpa only [if_neg hc23] using kk
  have k26 : Go p.tables e below (T18.setTop (mkF m 83 #[.val (.int p0), .val (.int p1), .val (.int (p0 &&& (7 : Int32))), .val (.int ((p1 &&& (2147483647 : Int32)) - (((p1 &&& (2147483647 : Int32)) / (10 : Int32)) * (10 : Int32)))), .val (.ref b2), .unset] [(.int (if (((own_mask (p0 &&& (7 : Int32))) >>> (((p1 &&& (2147483647 : Int32)) - (((p1 &&& (2147483647 : Int32)) / (10 : Int32)) * (10 : Int32))) &&& 31)) &&& (1 : Int32)) = (0 : Int32) then (0 : Int32) else (1 : Int32)))])) (T18.setTop (mkF m 87 #[.val (.int p0), .val (.int p1), .val (.int (p0 &&& (7 : Int32))), .val (.int ((p1 &&& (2147483647 : Int32)) - (((p1 &&& (2147483647 : Int32)) / (10 : Int32)) * (10 : Int32)))), .val (.ref b2), .val (.int (if (((own_mask (p0 &&& (7 : Int32))) >>> (((p1 &&& (2147483647 : Int32)) - (((p1 &&& (2147483647 : Int32)) / (10 : Int32)) * (10 : Int32))) &&& 31)) &&& (1 : Int32)) = (0 : Int32) then (0 : Int32) else (1 : Int32)))] [(.int ((p1 &&& (2147483647 : Int32)) - (((p1 &&& (2147483647 : Int32)) / (10 : Int32)) * (10 : Int32)))), (.int (p0 &&& (7 : Int32)))])) := by
    intro t ht
    refine XS.istore X18.here hx rfl (hb hby at_83) rfl (l' := #[.val (.int p0), .val (.int p1), .val (.int (p0 &&& (7 : Int32))), .val (.int ((p1 &&& (2147483647 : Int32)) - (((p1 &&& (2147483647 : Int32)) / (10 : Int32)) * (10 : Int32)))), .val (.ref b2), .val (.int (if (((own_mask (p0 &&& (7 : Int32))) >>> (((p1 &&& (2147483647 : Int32)) - (((p1 &&& (2147483647 : Int32)) / (10 : Int32)) * (10 : Int32))) &&& 31)) &&& (1 : Int32)) = (0 : Int32) then (0 : Int32) else (1 : Int32)))]) rfl ?_
    show Steps p.tables e below (T18.setTop (mkF m 85 #[.val (.int p0), .val (.int p1), .val (.int (p0 &&& (7 : Int32))), .val (.int ((p1 &&& (2147483647 : Int32)) - (((p1 &&& (2147483647 : Int32)) / (10 : Int32)) * (10 : Int32)))), .val (.ref b2), .val (.int (if (((own_mask (p0 &&& (7 : Int32))) >>> (((p1 &&& (2147483647 : Int32)) - (((p1 &&& (2147483647 : Int32)) / (10 : Int32)) * (10 : Int32))) &&& 31)) &&& (1 : Int32)) = (0 : Int32) then (0 : Int32) else (1 : Int32)))] [])) _
    refine XS.iloadN X18.here hx rfl (hb hby at_85) rfl ?_
    show Steps p.tables e below (T18.setTop (mkF m 86 #[.val (.int p0), .val (.int p1), .val (.int (p0 &&& (7 : Int32))), .val (.int ((p1 &&& (2147483647 : Int32)) - (((p1 &&& (2147483647 : Int32)) / (10 : Int32)) * (10 : Int32)))), .val (.ref b2), .val (.int (if (((own_mask (p0 &&& (7 : Int32))) >>> (((p1 &&& (2147483647 : Int32)) - (((p1 &&& (2147483647 : Int32)) / (10 : Int32)) * (10 : Int32))) &&& 31)) &&& (1 : Int32)) = (0 : Int32) then (0 : Int32) else (1 : Int32)))] [(.int (p0 &&& (7 : Int32)))])) _
    refine XS.iloadN X18.here hx rfl (hb hby at_86) rfl ?_
    exact ht
  obtain ⟨_, _, ⟨T27, L27, kq27, n27⟩, -, X27, ⟨Lc27, hQ27, l27, y27, z27⟩, st27⟩ := Jvm.LawKit.callS X18 hx (y := (⟨"ninepoint/TableOfPlay", "bankerDraws", "(II)Z"⟩ : MethodName)) hown (mvT hZ (hw _ (List.mem_of_getElem? (i := 2) rfl))) (mvT hZ (hw _ (List.mem_of_getElem? (i := 3) rfl))) (mvT hZ (hw _ (List.mem_of_getElem? (i := 4) rfl))) (mvT hZ (hw _ (List.mem_of_getElem? (i := 5) rfl))) (by decide) (backOf (W := 0) (rm_draws l Z a0 hw [] (p0 &&& (7 : Int32)) ((p1 &&& (2147483647 : Int32)) - (((p1 &&& (2147483647 : Int32)) / (10 : Int32)) * (10 : Int32))) h18 n0 Z18 ) hZ (hw _ (List.mem_of_getElem? (i := 5) rfl)) (hw _ (List.mem_of_getElem? (i := 4) rfl)) (by decide) (by decide)) (g := (mkF m 87 #[.val (.int p0), .val (.int p1), .val (.int (p0 &&& (7 : Int32))), .val (.int ((p1 &&& (2147483647 : Int32)) - (((p1 &&& (2147483647 : Int32)) / (10 : Int32)) * (10 : Int32)))), .val (.ref b2), .val (.int (if (((own_mask (p0 &&& (7 : Int32))) >>> (((p1 &&& (2147483647 : Int32)) - (((p1 &&& (2147483647 : Int32)) / (10 : Int32)) * (10 : Int32))) &&& 31)) &&& (1 : Int32)) = (0 : Int32) then (0 : Int32) else (1 : Int32)))] [(.int ((p1 &&& (2147483647 : Int32)) - (((p1 &&& (2147483647 : Int32)) / (10 : Int32)) * (10 : Int32)))), (.int (p0 &&& (7 : Int32)))])) rfl (by rw [hml]; rfl) (argsL := [(.int (p0 &&& (7 : Int32))), (.int ((p1 &&& (2147483647 : Int32)) - (((p1 &&& (2147483647 : Int32)) / (10 : Int32)) * (10 : Int32))))]) (rest := []) (lenOf pd_0 rfl) rfl (by show 2 * 0 + _ ≤ _; exact Nat.le_of_eq rfl) (hb hby at_87) (fun _ _ => ⟨rfl, e18, (by decide : 1 + 0 ≤ _), (by decide : 8 + 0 ≤ _)⟩)
  dsimp only [Pt.U, Pt.locs, Pt.cells, Pt.slots] at X27 l27 y27 z27 st27 hQ27
  subst l27 y27 z27
  obtain ⟨rfl, N27q, eq27⟩ := hQ27
  have N27 := Fr.app N18 N27q
  have k27 : Go p.tables e below (T18.setTop (mkF m 87 #[.val (.int p0), .val (.int p1), .val (.int (p0 &&& (7 : Int32))), .val (.int ((p1 &&& (2147483647 : Int32)) - (((p1 &&& (2147483647 : Int32)) / (10 : Int32)) * (10 : Int32)))), .val (.ref b2), .val (.int (if (((own_mask (p0 &&& (7 : Int32))) >>> (((p1 &&& (2147483647 : Int32)) - (((p1 &&& (2147483647 : Int32)) / (10 : Int32)) * (10 : Int32))) &&& 31)) &&& (1 : Int32)) = (0 : Int32) then (0 : Int32) else (1 : Int32)))] [(.int ((p1 &&& (2147483647 : Int32)) - (((p1 &&& (2147483647 : Int32)) / (10 : Int32)) * (10 : Int32)))), (.int (p0 &&& (7 : Int32)))])) (T27.setTop (mkF m 90 #[.val (.int p0), .val (.int p1), .val (.int (p0 &&& (7 : Int32))), .val (.int ((p1 &&& (2147483647 : Int32)) - (((p1 &&& (2147483647 : Int32)) / (10 : Int32)) * (10 : Int32)))), .val (.ref b2), .val (.int (if (((own_mask (p0 &&& (7 : Int32))) >>> (((p1 &&& (2147483647 : Int32)) - (((p1 &&& (2147483647 : Int32)) / (10 : Int32)) * (10 : Int32))) &&& 31)) &&& (1 : Int32)) = (0 : Int32) then (0 : Int32) else (1 : Int32)))] [(.int (f_draws (p0 &&& (7 : Int32)) ((p1 &&& (2147483647 : Int32)) - (((p1 &&& (2147483647 : Int32)) / (10 : Int32)) * (10 : Int32)))))])) := st27
  have k28 : Go p.tables e below (T27.setTop (mkF m 90 #[.val (.int p0), .val (.int p1), .val (.int (p0 &&& (7 : Int32))), .val (.int ((p1 &&& (2147483647 : Int32)) - (((p1 &&& (2147483647 : Int32)) / (10 : Int32)) * (10 : Int32)))), .val (.ref b2), .val (.int (if (((own_mask (p0 &&& (7 : Int32))) >>> (((p1 &&& (2147483647 : Int32)) - (((p1 &&& (2147483647 : Int32)) / (10 : Int32)) * (10 : Int32))) &&& 31)) &&& (1 : Int32)) = (0 : Int32) then (0 : Int32) else (1 : Int32)))] [(.int (f_draws (p0 &&& (7 : Int32)) ((p1 &&& (2147483647 : Int32)) - (((p1 &&& (2147483647 : Int32)) / (10 : Int32)) * (10 : Int32)))))])) (T27.setTop (mkF m 100 #[.val (.int p0), .val (.int p1), .val (.int (p0 &&& (7 : Int32))), .val (.int ((p1 &&& (2147483647 : Int32)) - (((p1 &&& (2147483647 : Int32)) / (10 : Int32)) * (10 : Int32)))), .val (.ref b2), .val (.int (if (((own_mask (p0 &&& (7 : Int32))) >>> (((p1 &&& (2147483647 : Int32)) - (((p1 &&& (2147483647 : Int32)) / (10 : Int32)) * (10 : Int32))) &&& 31)) &&& (1 : Int32)) = (0 : Int32) then (0 : Int32) else (1 : Int32)))] [(.int (1 : Int32))])) := by
    intro t ht
    refine XS.iload X27.here hx rfl (hb hby at_90) rfl ?_
    show Steps p.tables e below (T27.setTop (mkF m 92 #[.val (.int p0), .val (.int p1), .val (.int (p0 &&& (7 : Int32))), .val (.int ((p1 &&& (2147483647 : Int32)) - (((p1 &&& (2147483647 : Int32)) / (10 : Int32)) * (10 : Int32)))), .val (.ref b2), .val (.int (if (((own_mask (p0 &&& (7 : Int32))) >>> (((p1 &&& (2147483647 : Int32)) - (((p1 &&& (2147483647 : Int32)) / (10 : Int32)) * (10 : Int32))) &&& 31)) &&& (1 : Int32)) = (0 : Int32) then (0 : Int32) else (1 : Int32)))] [(.int (if (((own_mask (p0 &&& (7 : Int32))) >>> (((p1 &&& (2147483647 : Int32)) - (((p1 &&& (2147483647 : Int32)) / (10 : Int32)) * (10 : Int32))) &&& 31)) &&& (1 : Int32)) = (0 : Int32) then (0 : Int32) else (1 : Int32))), (.int (f_draws (p0 &&& (7 : Int32)) ((p1 &&& (2147483647 : Int32)) - (((p1 &&& (2147483647 : Int32)) / (10 : Int32)) * (10 : Int32)))))])) _
    refine XS.icmpNo X27.here hx rfl (hb hby at_92) rfl (teq (own_law _ _ : (f_draws (p0 &&& (7 : Int32)) ((p1 &&& (2147483647 : Int32)) - (((p1 &&& (2147483647 : Int32)) / (10 : Int32)) * (10 : Int32)))) = (if (((own_mask (p0 &&& (7 : Int32))) >>> (((p1 &&& (2147483647 : Int32)) - (((p1 &&& (2147483647 : Int32)) / (10 : Int32)) * (10 : Int32))) &&& 31)) &&& (1 : Int32)) = (0 : Int32) then (0 : Int32) else (1 : Int32)))).2 ?_
    show Steps p.tables e below (T27.setTop (mkF m 95 #[.val (.int p0), .val (.int p1), .val (.int (p0 &&& (7 : Int32))), .val (.int ((p1 &&& (2147483647 : Int32)) - (((p1 &&& (2147483647 : Int32)) / (10 : Int32)) * (10 : Int32)))), .val (.ref b2), .val (.int (if (((own_mask (p0 &&& (7 : Int32))) >>> (((p1 &&& (2147483647 : Int32)) - (((p1 &&& (2147483647 : Int32)) / (10 : Int32)) * (10 : Int32))) &&& 31)) &&& (1 : Int32)) = (0 : Int32) then (0 : Int32) else (1 : Int32)))] [])) _
    refine XS.iconst X27.here hx rfl (hb hby at_95) ?_
    show Steps p.tables e below (T27.setTop (mkF m 96 #[.val (.int p0), .val (.int p1), .val (.int (p0 &&& (7 : Int32))), .val (.int ((p1 &&& (2147483647 : Int32)) - (((p1 &&& (2147483647 : Int32)) / (10 : Int32)) * (10 : Int32)))), .val (.ref b2), .val (.int (if (((own_mask (p0 &&& (7 : Int32))) >>> (((p1 &&& (2147483647 : Int32)) - (((p1 &&& (2147483647 : Int32)) / (10 : Int32)) * (10 : Int32))) &&& 31)) &&& (1 : Int32)) = (0 : Int32) then (0 : Int32) else (1 : Int32)))] [(.int (1 : Int32))])) _
    refine XS.goto X27.here hx rfl (pc0 := 96) (pc' := 100) rfl (hb hby at_96) (by decide) (by decide) ?_
    exact ht
  obtain ⟨fs, hr, hrun, hended, hW, hsame⟩ := X27.leave (v := some (.int (1 : Int32))) (fun h => by rw [Bd.returns] at h; cases h)
  refine ⟨_, _, pre0 _ ((goT k1 (goT k2 (goT k3 (goT k4 (goT k5 (goT k6 (goT k7 (goT k8 (goT k9 (goT k10 (goT k11 (goT k12 (goT k13 (goT k14 (goT k15 (goT k16 (goT k17 (goT k18 (goT k19 (goT k21 (goT k22 (goT k26 (goT k27 k28))))))))))))))))))))))) _ (retN X27 hx (t := .boolean) Bd.returns (by simp) (hb hby at_100) hr)), hrun, hended, _, _, rfl, ?_, ⟨_, rfl⟩, hW, hsame.mono (by decide) (by decide)⟩
  show Q_law Z p0 p1 h0 n0 _ T27.heap _
  rw [eq27]
  exact ⟨rfl, N27⟩
set_option maxRecDepth 65536 in
set_option maxHeartbeats 40000000 in
theorem comes_1 {Post : Tables → Env → Array Value → State → Outcome → State → Prop} (hpost : ∀ tb e args s v u, (limb_1_1.after args s (.returned v) u = true ∧ limb_1_2.after args s (.returned v) u = true ∧ True) → FrameEnd s (.returned v) u (Jvm.fieldLocs frame_1_writes args s ++ Jvm.arrayLocs frame_1_arrays args s ++ Jvm.staticLocs frame_1_statics s) 16 128 → Post tb e args s (.returned v) u) :
    ArmFor flags0 classFile x code maxLocals ret World_1 tables_1 room_1 Calls_1 rest_1 Pre_1 Post := by
  intro l hfl _ _ p e ha hc hk s m args below hf hA hF happ hP
  obtain ⟨hcalls, hrest, hpre⟩ := hP
  obtain ⟨-, -, -, hnamed, -, -, -, hat⟩ := (Spec.applies_iff hf).mp happ
  obtain ⟨hg, hn⟩ := and_e (Cond.before_iff.mp (show (Jvm.Cond.and given_1 narrow_1).before args s = true from hpre))
  obtain ⟨hcnt, hg⟩ := and_e hg
  obtain ⟨ha0, hg⟩ := and_e hg
  have ha1 := hg
  obtain ⟨w0, w1, rfl⟩ : ∃ w0 w1 : Value, args = #[w0, w1] := by
    have hs : args.size = 2 := by simpa [Cond.value, given_1] using hcnt
    obtain ⟨L⟩ := args
    match L, hs with
    | [w0, w1], _ => exact ⟨w0, w1, rfl⟩
  have hw := fun d (hd : d ∈ tables_1) => atoms_spec (ws := Jvm.Cond.code x code maxLocals ret :: tables_1) hat d (List.mem_cons_of_mem _ hd)
  have hfit : Fit s := fun {y c} hc i hi => by
    obtain ⟨ha, rfl⟩ := Array.getElem?_eq_some_iff.mp hc
    have q := List.all_eq_true.mp ((Array.all_eq_true_iff_forall_mem.mp hF) _ (Array.getElem_mem ha)) i (List.mem_range.mpr hi)
    simpa [Array.getElem?_eq_getElem hi] using q
  obtain ⟨i0, ei0⟩ := is_v ha0
  obtain rfl : w0 = (.int i0) := Option.some.inj ei0
  obtain ⟨i1, ei1⟩ := is_v ha1
  obtain rfl : w1 = (.int i1) := Option.some.inj ei1
  obtain ⟨n, o, h1, h2, h3, _, L, rfl, ⟨rfl, N⟩, hq⟩ := rm_law l s _ hw tables_1 i0 i1 s.heap s.heap.size (Nat.le_refl _)  p e ha hc hk s m _ below hf ((Spec.applies_iff_loose hf).mp happ).1 ⟨rfl, State.Warmed39.refl s, rfl⟩ trivial
  refine ⟨n, _, h1, h2, h3, hpost _ _ _ _ _ _ ⟨Cond.after_iff.mpr rfl, Cond.after_iff.mpr (eq_i res_at (Term.int_eval (1)) rfl), trivial⟩ ⟨hq.1, hq.2.1, (hq.2.2.sift fun y hy => Or.inr (N y hy)).mono (by decide) (by decide)⟩⟩
theorem main_1_1 : Claimed_1_1 := comes_1 fun _ _ _ _ _ _ h hF => ⟨h.1, hF⟩
theorem main_1_2 : Claimed_1_2 := comes_1 fun _ _ _ _ _ _ h hF => ⟨h.2.1, hF⟩
end Jvm.Pilot.@@N@@
namespace Jvm.Pilot.@@N@@
open Jvm Jvm.ClassFile Sem Op Lib Jvm.Free Jvm.Stand Jvm.Pilot.@@N@@.Jvm.D
/-! MADE BY PROGRAM (witnessworld.py) out of the Statement's table words and the real class files: 9 classes; the members and pool entries that the words name. The judged class is class 1, her method 1. -/
namespace start1
open Jvm.ClassFile
def u (s : String) : CpInfo := .utf8 (stringToUtf16 s)
/-- a pool by its gaps: so many unusable entries, then the entry; so many at the end -/
def gap : Nat → List CpInfo → List CpInfo
  | 0, r => r
  | n + 1, r => .unusable :: gap n r
def poolList (es : List (Nat × CpInfo)) (last : Nat) : List CpInfo := es.foldr (fun e r => gap e.1 (e.2 :: r)) (gap last [])
def pool (es : List (Nat × CpInfo)) (last : Nat) : Array CpInfo := ⟨poolList es last⟩
def fileOf (pool : Array CpInfo) (this : Nat) (attrs : Array Attribute := #[]) (ms : Array MethodInfo := #[]) (fl : Nat := 33) (sup : Nat := 0) (ifs : Array Nat := #[]) (fds : Array FieldInfo := #[]) : ClassFile where
  minorVersion := 0
  majorVersion := 65
  constantPool := pool
  accessFlags := fl
  thisClass := this
  superClass := sup
  interfaces := ifs
  fields := fds
  methods := ms
  attributes := attrs
def plain (name : String) (sup : Option ClassId) : Class where
  name := name
  kind := .ordinary
  loader := none
  accessFlags := 33
  super := sup
  interfaces := #[]
  cf := none
  fields := #[]
  methods := #[]
  instanceTypes := #[]
  staticTypes := #[]
  resolved := #[]
  callSites := []
  init := .initialized
  statics := none
  mirror := none

def pool0 : Array CpInfo := pool [(5, u "<init>"), (0, u "()V"), (1, .class_ 10), (1, u "java/lang/Object")] 113

def k0m0 : Method := { name := "<init>", desc := "()V", sig := { parameters := [], returnType := none }, accessFlags := 1, code := none }
/-- java/lang/Object -/
def k0 : Class := { plain "java/lang/Object" none with
  accessFlags := 33
  interfaces := #[]
  cf := some (fileOf pool0 8 #[] #[{ accessFlags := 1, nameIndex := 5, descriptorIndex := 6, attributes := #[] }] 33 0 #[] #[])
  fields := #[]
  methods := #[k0m0]
  instanceTypes := #[]
  staticTypes := #[]
  resolved := Array.replicate 124 none
  statics := none }

def pool1 : Array CpInfo := pool [(2, .class_ 4), (1, u "java/lang/Object"), (0, u "<init>"), (0, u "()V"), (0, .integer 2147483647), (0, .methodref 9 10), (0, .class_ 11), (0, .nameAndType 12 13), (0, u "ninepoint/TableOfPlay"), (0, u "bankerDraws"), (0, u "(II)Z"), (0, .class_ 15), (0, u "ninepoint/TableOfPlayBankerDrawsPinLaw"), (2, u "law")] 5

def k1m0 : Method := { name := "<init>", desc := "()V", sig := { parameters := [], returnType := none }, accessFlags := 2, code := none }
def k1c1 : Code := { maxStack := 4, maxLocals := 6, code := code, exceptionTable := #[], attributes := #[] }
def k1m1 : Method := { name := "law", desc := "(II)Z", sig := { parameters := [.int, .int], returnType := some .boolean }, accessFlags := 9, code := some k1c1 }
/-- ninepoint/TableOfPlayBankerDrawsPinLaw -/
def k1 : Class := { plain "ninepoint/TableOfPlayBankerDrawsPinLaw" (some 0) with
  accessFlags := 49
  interfaces := #[]
  cf := some (fileOf pool1 14 #[] #[{ accessFlags := 2, nameIndex := 5, descriptorIndex := 6, attributes := #[] }, { accessFlags := 9, nameIndex := 18, descriptorIndex := 13, attributes := #[] }] 49 2 #[] #[])
  fields := #[]
  methods := #[k1m0, k1m1]
  instanceTypes := #[]
  staticTypes := #[]
  resolved := Array.replicate 24 none
  statics := none }

def pool2 : Array CpInfo := pool [(1, .class_ 2), (0, u "ninepoint/TableOfPlay"), (1, .class_ 6), (1, u "java/lang/Object"), (0, u "<init>"), (0, u "()V"), (31, u "THIRD_CARDS"), (0, u "[B"), (25, u "bankerDraws"), (0, u "(II)Z"), (6, u "MAX_CARDS"), (0, u "I"), (2, u "VALUES"), (1, u "OPENING_POINTS"), (1, u "PLAYER_DRAWS"), (1, u "BANKER_DRAWS"), (1, u "BOTH_DRAW")] 25

def k2m0 : Method := { name := "<init>", desc := "()V", sig := { parameters := [], returnType := none }, accessFlags := 2, code := none }
def k2c1 : Code := { maxStack := 2, maxLocals := 2, code := prog_47_method_13_code, exceptionTable := #[], attributes := #[] }
def k2m1 : Method := { name := "bankerDraws", desc := "(II)Z", sig := { parameters := [.int, .int], returnType := some .boolean }, accessFlags := 9, code := some k2c1 }
/-- ninepoint/TableOfPlay -/
def k2 : Class := { plain "ninepoint/TableOfPlay" (some 0) with
  accessFlags := 49
  interfaces := #[]
  cf := some (fileOf pool2 1 #[] #[{ accessFlags := 2, nameIndex := 7, descriptorIndex := 8, attributes := #[] }, { accessFlags := 9, nameIndex := 67, descriptorIndex := 68, attributes := #[] }] 49 4 #[] #[{ accessFlags := 25, nameIndex := 75, descriptorIndex := 76, attributes := #[] }, { accessFlags := 26, nameIndex := 79, descriptorIndex := 76, attributes := #[] }, { accessFlags := 26, nameIndex := 81, descriptorIndex := 76, attributes := #[] }, { accessFlags := 26, nameIndex := 83, descriptorIndex := 76, attributes := #[] }, { accessFlags := 26, nameIndex := 85, descriptorIndex := 76, attributes := #[] }, { accessFlags := 26, nameIndex := 87, descriptorIndex := 76, attributes := #[] }, { accessFlags := 26, nameIndex := 40, descriptorIndex := 41, attributes := #[] }])
  fields := #[{ name := "MAX_CARDS", type := .int, accessFlags := 25, slot := 0, constantValue := 0 }, { name := "VALUES", type := .int, accessFlags := 26, slot := 1, constantValue := 0 }, { name := "OPENING_POINTS", type := .int, accessFlags := 26, slot := 2, constantValue := 0 }, { name := "PLAYER_DRAWS", type := .int, accessFlags := 26, slot := 3, constantValue := 0 }, { name := "BANKER_DRAWS", type := .int, accessFlags := 26, slot := 4, constantValue := 0 }, { name := "BOTH_DRAW", type := .int, accessFlags := 26, slot := 5, constantValue := 0 }, { name := "THIRD_CARDS", type := (.array .byte), accessFlags := 26, slot := 6, constantValue := 0 }]
  methods := #[k2m0, k2m1]
  instanceTypes := #[]
  staticTypes := #[.int, .int, .int, .int, .int, .int, (.array .byte)]
  resolved := Array.replicate 113 none
  statics := none }

def pool3 : Array CpInfo := pool [(1, u "java/lang/Cloneable"), (0, .class_ 1), (0, u "java/lang/Object"), (0, .class_ 3)] 3

/-- java/lang/Cloneable -/
def k3 : Class := { plain "java/lang/Cloneable" (some 0) with
  accessFlags := 1537
  interfaces := #[]
  cf := some (fileOf pool3 2 #[] #[] 1537 4 #[] #[])
  fields := #[]
  methods := #[]
  instanceTypes := #[]
  staticTypes := #[]
  resolved := Array.replicate 8 none
  statics := none }

def pool4 : Array CpInfo := pool [(1, u "java/io/Serializable"), (0, .class_ 1), (0, u "java/lang/Object"), (0, .class_ 3)] 3

/-- java/io/Serializable -/
def k4 : Class := { plain "java/io/Serializable" (some 0) with
  accessFlags := 1537
  interfaces := #[]
  cf := some (fileOf pool4 2 #[] #[] 1537 4 #[] #[])
  fields := #[]
  methods := #[]
  instanceTypes := #[]
  staticTypes := #[]
  resolved := Array.replicate 8 none
  statics := none }

/-- the primitive byte -/
def k5 : Class := { plain "byte" none with kind := .primitive 'B', accessFlags := 0x411 }
/-- [B -/
def k6 : Class := { plain "[B" (some 0) with kind := .array 5 .byte, interfaces := #[3, 4], accessFlags := 1041 }

/-- the primitive int -/
def k7 : Class := { plain "int" none with kind := .primitive 'I', accessFlags := 0x411 }
/-- [I -/
def k8 : Class := { plain "[I" (some 0) with kind := .array 7 .int, interfaces := #[3, 4], accessFlags := 1041 }

def heap : Heap := #[]
def classes : Array Class := #[k0, k1, k2, k3, k4, k5, k6, k7, k8]
def interned : List (Array UInt16 × Addr) := []
def slotsUsed : Nat := 0
def theMethod : MethodId := ⟨1, 1⟩
def args0 : Array Value := #[.int 3, .int 8]
def aboutOver (below : List Frame) : State where
  vm := { classes := classes, interned := interned.toArray }
  heap := heap
  slotsUsed := slotsUsed
  threads := #[{ frames := .invoking theMethod args0 :: below }]
def below0 : List Frame := [.native { method := ⟨0, 0⟩, args := #[] }]
def about1 : State := aboutOver below0
def p0 : Program := .bare "" "" ""
def e0 : Env := launch0.env 0 0 0
theorem w_frames : about1.frames = Frame.invoking theMethod args0 :: below0 := rfl
set_option maxRecDepth 65536 in
theorem w_args : argsFit about1.vm theMethod args0 = true := by decide +kernel
set_option maxRecDepth 65536 in
theorem w_heap : heapFits about1 = true := by decide +kernel
set_option maxRecDepth 65536 in
theorem w_runnable : about1.curStatus? = some .runnable := by decide +kernel
set_option maxRecDepth 65536 in
theorem w_alone : about1.alone = true := by decide +kernel
set_option maxRecDepth 65536 in
theorem w_named : about1.methodNamed? x = some theMethod := by decide +kernel
set_option maxRecDepth 65536 in
theorem w_hears : about1.hears theMethod below0 = true := by decide +kernel
set_option maxRecDepth 65536 in
theorem w_ripe : about1.ripe theMethod args0 below0 = true := by decide +kernel
theorem w_running : about1.status = .running := rfl
set_option maxRecDepth 65536 in
theorem w_room : about1.hasRoom e0.platform room_1 = true :=
  launch0.hasRoom_least _ room_1 (by decide +kernel) (by decide +kernel) (by decide +kernel) (by decide +kernel) (by decide +kernel) (by decide +kernel)
theorem allAtoms_all (ts : List Jvm.Cond) (a : Array Jvm.Value) (st : Jvm.State) : (allAtoms ts).before a st = ts.all (fun c => c.before a st) := by
  induction ts with
  | nil => rfl
  | cons c t ih =>
    show (Jvm.Cond.and c (allAtoms t)).before a st = _
    rw [Jvm.Cond.before_and, ih, List.all_cons]
def words1 : List Jvm.Cond := Jvm.Cond.code x code maxLocals ret :: tables_1
/-- a 'code' word, met by the world's own term for the bytes: nothing is compared byte by byte -/
theorem code_word {y : MethodName} {bytes : ByteArray} {mx : Nat} {rt : Option FieldType} {a : Array Value} {s : State} {m : MethodId} {meth : Method} {c : Code} (h1 : s.methodNamed? y = some m) (h2 : s.vm.method? m = some meth) (h3 : meth.code = some c) (h4 : c.code = bytes)
    (h5 : (c.maxLocals == mx && c.exceptionTable.isEmpty && decide (c.maxStack ≤ mostOperands) && decide (meth.sig.returnType = rt) && !meth.locks && decide (parseMethodDescriptor y.desc = some meth.sig)) = true) : (Jvm.Cond.code y bytes mx rt).before a s = true := by
  simp only [Bool.and_eq_true, beq_iff_eq, Bool.not_eq_true', decide_eq_true_eq] at h5
  obtain ⟨⟨⟨⟨⟨g1, g2⟩, g3⟩, g4⟩, g5⟩, g6⟩ := h5
  simp [Cond.before, Cond.holds, Cond.value, h1, h2, h3, h4, g1, g2, g3, g4, g5, g6]
def isCode : Jvm.Cond → Bool
  | .code _ _ _ _ => true
  | _ => false
theorem all_split {L : List Jvm.Cond} {P : Jvm.Cond → Bool} (h1 : L.all (fun c => isCode c || P c) = true) (h2 : ∀ c ∈ L.filter isCode, P c = true) : L.all P = true := by
  refine List.all_eq_true.mpr fun c hc => ?_
  have h := List.all_eq_true.mp h1 c hc
  rcases Bool.eq_false_or_eq_true (isCode c) with hi | hi
  · exact h2 c (List.mem_filter.mpr ⟨hc, hi⟩)
  · simpa [hi] using h
set_option maxRecDepth 65536 in
theorem w_c0 : (Jvm.Cond.code x code maxLocals ret).before args0 about1 = true := code_word (m := ⟨1, 1⟩) (meth := k1m1) (c := k1c1) (by decide +kernel) rfl rfl rfl (by decide +kernel)
set_option maxRecDepth 65536 in
theorem w_c1 : (Jvm.Cond.code ({ cls := "ninepoint/TableOfPlay", name := "bankerDraws", desc := "(II)Z" } : Jvm.MethodName) prog_47_method_13_code (2 : Nat) (Option.some Jvm.ClassFile.FieldType.boolean)).before args0 about1 = true := code_word (m := ⟨2, 1⟩) (meth := k2m1) (c := k2c1) (by decide +kernel) rfl rfl rfl (by decide +kernel)
def codes1 : List Jvm.Cond := [Jvm.Cond.code x code maxLocals ret, Jvm.Cond.code ({ cls := "ninepoint/TableOfPlay", name := "bankerDraws", desc := "(II)Z" } : Jvm.MethodName) prog_47_method_13_code (2 : Nat) (Option.some Jvm.ClassFile.FieldType.boolean)]
set_option maxRecDepth 65536 in
theorem codes_eq : words1.filter isCode = codes1 := rfl
theorem w_codes : ∀ c ∈ words1.filter isCode, c.before args0 about1 = true := by
  rw [codes_eq]
  intro c hc
  simp only [codes1, List.mem_cons, List.not_mem_nil, or_false] at hc
  rcases hc with rfl | rfl
  · exact w_c0
  · exact w_c1
set_option maxRecDepth 65536 in
theorem w_t1 : words1.all (fun c => isCode c || c.before args0 about1) = true := by decide +kernel
theorem w_tables : (allAtoms (Jvm.Cond.code x code maxLocals ret :: tables_1)).before args0 about1 = true := by
  rw [allAtoms_all]
  show words1.all (fun c => c.before args0 about1) = true
  refine all_split ?_ w_codes
  rw [w_t1]
set_option maxRecDepth 65536 in
theorem w_case : (Jvm.Cond.and given_1 narrow_1).before args0 about1 = true := by decide +kernel
theorem w_applies : (headSpec (Jvm.Cond.code x code maxLocals ret :: tables_1) room_1).applies x e0.platform about1 = true :=
  (Spec.applies_iff w_frames).mpr ⟨w_running, w_runnable, w_alone, w_named, w_hears, w_ripe, w_room, w_tables⟩
theorem atStart : AtStart classFile x code maxLocals ret World_1 tables_1 room_1 Calls_1 rest_1 Pre_1 launch0 p0 e0 about1 theMethod args0 below0 :=
  ⟨lists_1, trivial, launch0.admits_env _ _ _, launch0.least_env, fairChoices_fair.cas, fairChoices_fair.clock, w_frames, w_args, w_heap, w_applies, trivial, trivial, w_case⟩
end start1
theorem witness_1 : WitnessClaimed_1 := ⟨start1.p0, start1.e0, start1.about1, start1.theMethod, start1.args0, start1.below0, start1.atStart⟩
end Jvm.Pilot.@@N@@
