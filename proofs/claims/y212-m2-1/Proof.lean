import JvmDerived
import JvmDerived.Pilot.@@N@@Statement
import JvmDerived.Pilot.@@N@@Code
set_option linter.unusedVariables false
set_option linter.unusedSimpArgs false
namespace Jvm.RoadKit
open Sem ClassFile Op Lib Jvm.Stand Jvm.Free Jvm.LawKit
abbrev Go (tb : Tables) (e : Env) (below : List Frame) (A B : State) : Prop := ∀ t, Steps tb e below B t → Steps tb e below A t
theorem goT {tb : Tables} {e : Env} {below : List Frame} {A B C : State} (f : Go tb e below A B) (g : Go tb e below B C) : Go tb e below A C := fun t h => f t (g t h)
section New
variable {p : Program} {l : Launch} {e : Env} {R : Room} {s : State} {m : MethodId} {args : Array Value} {below : List Frame} {meth : Method} {c : Code} {T : State} {locs : List Loc} {cells slots : Nat}
theorem retI (X : Stand p l e R s m args below meth c T locs cells slots) (hx : p.tables.exec = Jvm.exec) {pc : Nat} {Ls : Array Slot} {z : Int32} {rest : List Value} (hret : meth.sig.returnType = some .int) (hd : decode c.code pc = .ok (.ireturn, 1)) {fs : List Frame}
    (hl : ∀ (f : JFrame) (acts : List Action), f.method = m → f.locked = none → f.entered = [] → (doReturn e (T.setTop f) acts (some (.int z))).1 = T.setFrames fs) : Steps p.tables e below (T.setTop (mkF m pc Ls (.int z :: rest))) (T.setFrames fs) := by
  have hm' : T.vm.method? m = some meth := X.method'
  have hn : narrow .int (.int z) = .int z := rfl
  show Steps p.tables e below (T.setTop { method := m, pc := pc, locals := Ls, stack := _ :: rest, locked := none }) _
  jvm_step X.here [X.here.top, hx, hd, hm', hret, hn]
  first | (intro acts; rw [hl _ acts rfl rfl rfl]) | rw [hl _ _ rfl rfl rfl]
  exact Steps.refl _
theorem retJ (X : Stand p l e R s m args below meth c T locs cells slots) (hx : p.tables.exec = Jvm.exec) {pc : Nat} {Ls : Array Slot} {z : Int64} {rest : List Value} (hret : meth.sig.returnType = some .long) (hd : decode c.code pc = .ok (.lreturn, 1)) {fs : List Frame}
    (hl : ∀ (f : JFrame) (acts : List Action), f.method = m → f.locked = none → f.entered = [] → (doReturn e (T.setTop f) acts (some (.long z))).1 = T.setFrames fs) : Steps p.tables e below (T.setTop (mkF m pc Ls (.long z :: rest))) (T.setFrames fs) := by
  have hm' : T.vm.method? m = some meth := X.method'
  have hn : narrow .long (.long z) = .long z := rfl
  show Steps p.tables e below (T.setTop { method := m, pc := pc, locals := Ls, stack := _ :: rest, locked := none }) _
  jvm_step X.here [X.here.top, hx, hd, hm', hret, hn]
  first | (intro acts; rw [hl _ acts rfl rfl rfl]) | rw [hl _ _ rfl rfl rfl]
  exact Steps.refl _
theorem retR (X : Stand p l e R s m args below meth c T locs cells slots) (hx : p.tables.exec = Jvm.exec) {pc : Nat} {Ls : Array Slot} {z : Addr} {rest : List Value} {C : String} (hret : meth.sig.returnType = some (.object C)) (hd : decode c.code pc = .ok (.areturn, 1)) {fs : List Frame}
    (hl : ∀ (f : JFrame) (acts : List Action), f.method = m → f.locked = none → f.entered = [] → (doReturn e (T.setTop f) acts (some (.ref z))).1 = T.setFrames fs) : Steps p.tables e below (T.setTop (mkF m pc Ls (.ref z :: rest))) (T.setFrames fs) := by
  have hm' : T.vm.method? m = some meth := X.method'
  show Steps p.tables e below (T.setTop { method := m, pc := pc, locals := Ls, stack := _ :: rest, locked := none }) _
  jvm_step X.here [X.here.top, hx, hd, hm', hret, Value.isRef, FieldType.isReference]
  first | (intro acts; rw [hl _ acts rfl rfl rfl]) | rw [hl _ _ rfl rfl rfl]
  exact Steps.refl _
end New
theorem own_sta_keep {Z : State} {h h' : Heap} {b : Addr} {C n d K : String} {v : Value} (F : Sta Z h C n d v) (E : Exa Z h b K) (Kp : Keep h h' [b]) : Sta Z h' C n d v := by
  obtain ⟨cf, i, k, f, st, cell, h1, h2, h3, h4, h5, h6, h7⟩ := F
  obtain ⟨c2, _, g1, -, -, g4, -⟩ := E
  have ne : st ∉ [b] := fun q => by
    cases List.mem_singleton.mp q
    cases h5.symm.trans g1
    rw [g4] at h6; cases h6
  exact ⟨cf, i, k, f, st, cell, h1, h2, h3, h4, Kp.2.1 st cell h5 ne, h6, h7⟩
theorem own_mvM {Z s : State} {a0 args : Array Value} {own host : String} {index : Nat} {y : MethodName} (hZ : Z.Warmed39 s.vm) (w : (Cond.methodLinkNest own index y host).before a0 Z = true) : (Cond.methodLinkNest own index y host).before args s = true := (Cond.methodLinkNest_wide hZ w :)
theorem own_fld_ne {Z : State} {h : Heap} {a : Addr} {C n d : String} {v w : Value} (F : Fld Z h a C n d v) (G : Fld Z h a C n d w) (ne : v ≠ w) : False := by
  obtain ⟨cell, cf, k, i, f, h1, h2, -, -, -, -, h7⟩ := F
  obtain ⟨cell', cf', k', i', f', g1, g2, -, -, -, -, g7⟩ := G
  cases h1.symm.trans g1
  cases h2.symm.trans g2
  cases h7.symm.trans g7
  exact ne rfl
theorem own_eq_i {args : Array Value} {first s : State} {o : Option Outcome} {idx : List Nat} {a : Term} {z : Int32} (h : (Cond.eq a (.int z)).value args first o s idx = some true) : a.eval args first o idx s = some (.int z) := by
  cases ha : a.eval args first o idx s with
  | none => simp [Cond.value, Term.eval, ha] at h
  | some x => cases x <;> simp [Cond.value, Term.eval, ha] at h ⊢; exact h
theorem own_eq_l {args : Array Value} {first s : State} {o : Option Outcome} {idx : List Nat} {a : Term} {z : Int64} (h : (Cond.eq a (.long z)).value args first o s idx = some true) : a.eval args first o idx s = some (.long z) := by
  cases ha : a.eval args first o idx s with
  | none => simp [Cond.value, Term.eval, ha] at h
  | some x => cases x <;> simp [Cond.value, Term.eval, ha] at h ⊢; exact h
theorem own_ltL {x y : Int64} (h : x < y) : lcmpW x y < 0 := (lw_lt x y).mpr h
theorem own_nltL {x y : Int64} (h : ¬ x < y) : ¬ lcmpW x y < 0 := fun q => h ((lw_lt x y).mp q)
theorem own_gtL {x y : Int64} (h : y < x) : 0 < lcmpW x y := (lw_gt x y).mpr h
theorem own_ngtL {x y : Int64} (h : ¬ y < x) : ¬ 0 < lcmpW x y := fun q => h ((lw_gt x y).mp q)
theorem own_eqL {x y : Int64} (h : x = y) : lcmpW x y = 0 := (lw_eq x y).mpr h
theorem own_neqL {x y : Int64} (h : ¬ x = y) : ¬ lcmpW x y = 0 := fun q => h ((lw_eq x y).mp q)
end Jvm.RoadKit
namespace Jvm.Pilot.@@N@@
open Jvm Jvm.ClassFile Sem Op Lib Jvm.Free Jvm.Stand Jvm.LawKit Jvm.RoadKit Bundle Jvm.Pilot.@@N@@.Jvm.D
theorem own_and (x m : Int32) (k : Nat) (hk : k < 32) (hm : m.toBitVec.toNat = 2 ^ k - 1) : x &&& m = Int32.ofNat (x.toBitVec.toNat % 2 ^ k) := by
  apply Int32.toBitVec_inj.mp
  apply BitVec.eq_of_toNat_eq
  show (x.toBitVec &&& m.toBitVec).toNat = (x.toBitVec.toNat % 2 ^ k) % 2 ^ 32
  have hp : 2 ^ k ≤ 2 ^ 32 := Nat.pow_le_pow_right (by decide) (by omega)
  have hq : x.toBitVec.toNat % 2 ^ k < 2 ^ k := Nat.mod_lt _ (Nat.two_pow_pos k)
  rw [BitVec.toNat_and, hm, Nat.and_two_pow_sub_one_eq_mod, Nat.mod_eq_of_lt (Nat.lt_of_lt_of_le hq hp)]
theorem own_ofNat {n : Nat} (h : n < 2 ^ 31) : (Int32.ofNat n).toInt = n := Int32.toInt_ofNat_of_lt h
theorem own_rem {n k : Nat} (h : n < 2 ^ 31) (hk : 0 < k) (hk2 : k < 2 ^ 31) : Int32.ofNat n % Int32.ofNat k = Int32.ofNat (n % k) := by
  apply Int32.toInt_inj.mp
  have : n % k < k := Nat.mod_lt _ hk
  rw [Int32.toInt_mod, own_ofNat h, own_ofNat hk2, own_ofNat (by omega), Int.tmod_eq_emod_of_nonneg (by omega)]
  rfl
theorem d_init_0 : decode prog_21_method_1_code 0 = .ok (.aload_n 0, 1) := by decide +kernel
theorem d_init_1 : decode prog_21_method_1_code 1 = .ok (.invokespecial 1, 3) := by decide +kernel
theorem d_init_4 : decode prog_21_method_1_code 4 = .ok (.aload_n 0, 1) := by decide +kernel
theorem d_init_5 : decode prog_21_method_1_code 5 = .ok (.lload_n 1, 1) := by decide +kernel
theorem d_init_6 : decode prog_21_method_1_code 6 = .ok (.putfield 7, 3) := by decide +kernel
theorem d_init_9 : decode prog_21_method_1_code 9 = .ok (.return_, 1) := by decide +kernel
theorem pn_0 : plainName "com/example/role_conflict_finder/roleconflictfinder/SeededRandom" = true := by first | (simp [plainName, overriddenIn]; done) | decide +kernel
theorem ef_init (m : MethodId) (x0 : Addr) (x1 : Int64) : entryFrame m #[(.ref x0), (.long x1)] 3 = mkF m 0 #[.val (.ref x0), .val (.long x1), .second] [] := by first | (simp [entryFrame, mkF, argsToLocals, Value.category]; done) | rfl
def Q_init (Z : State) (r0 : Addr) (q1 : Int64) (h0 : Heap) (n0 : Nat) (v : Option Value) (h : Heap) (L : List Loc) : Prop := v = none ∧ Fr n0 L ∧ Keep h0 h [r0] ∧ Exa Z h r0 "com/example/role_conflict_finder/roleconflictfinder/SeededRandom" ∧ Fld Z h r0 "com/example/role_conflict_finder/roleconflictfinder/SeededRandom" "state" "J" (.long q1)
set_option maxRecDepth 65536 in
set_option maxHeartbeats 40000000 in
theorem rm_init (l : Launch) (Z : State) (a0 : Array Value) (hw : ∀ d ∈ tables_1, d.before a0 Z = true) (ws : List Jvm.Cond) (r0 : Addr) (q1 : Int64) (h0 : Heap) (n0 : Nat) (Z0 : n0 ≤ h0.size) (F_state : Fld Z h0 r0 "com/example/role_conflict_finder/roleconflictfinder/SeededRandom" "state" "J" (.long (0 : Int64))) (E_r0 : Exa Z h0 r0 "com/example/role_conflict_finder/roleconflictfinder/SeededRandom") (g_r0 : n0 ≤ r0) :
    MetFree l (⟨"com/example/role_conflict_finder/roleconflictfinder/SeededRandom", "<init>", "(J)V"⟩ : MethodName) (head1 (Jvm.Cond.code (⟨"com/example/role_conflict_finder/roleconflictfinder/SeededRandom", "<init>", "(J)V"⟩ : MethodName) prog_21_method_1_code 3 none :: ws) ({ frames := 1, cells := 0, slots := 0, locals := 12 } : Room)) (fun a U => a = #[(.ref r0), (.long q1)] ∧ Z.Warmed39 U.vm ∧ U.heap = h0) (fun _ _ _ _ _ => True) (fun _ U o U' => ∃ v L, o = .returned v ∧ Q_init Z r0 q1 h0 n0 v U'.heap L ∧ FrameEnd U o U' L ({ frames := 1, cells := 0, slots := 0, locals := 12 } : Room).cells ({ frames := 1, cells := 0, slots := 0, locals := 12 } : Room).slots) := by
  refine MetFree.of_bodySF (plainFor_of_name pn_0) hisR ?_
  intro p e s m args below meth c s₁ Bd hml0 hP hK
  obtain ⟨rfl, hZ, hh⟩ := hP
  have hx := Bd.exec
  have hby := Bd.bytes
  have hml : c.maxLocals = 3 := hml0
  have hown : s.vm.findClass "com/example/role_conflict_finder/roleconflictfinder/SeededRandom" = some m.cls := findClass_of_methodNamed Bd.named
  have hnm := (name_of_methodNamed Bd.named Bd.method).1
  have X0 : Stand p l e ({ frames := 1, cells := 0, slots := 0, locals := 12 } : Room) s m #[(.ref r0), (.long q1)] below meth c s₁ [] 0 0 := Stand.of_body Bd
  have e0 : s₁.heap = h0 := by rw [← hh, Bd.state]; rfl
  have N0 := Fr.nil n0
  have pre0 : ∀ t, Steps p.tables e below (s₁.setTop (mkF m 0 #[.val (.ref r0), .val (.long q1), .second] [])) t → Steps p.tables e below (s₁.setTop (entryFrame m #[(.ref r0), (.long q1)] 3)) t := fun t k => castTop (ef_init m r0 q1) k
  have k1 : Go p.tables e below (s₁.setTop (mkF m 0 #[.val (.ref r0), .val (.long q1), .second] [])) (s₁.setTop (mkF m 1 #[.val (.ref r0), .val (.long q1), .second] [(.ref r0)])) := by
    intro t ht
    refine XS.aloadN X0.here hx rfl (hb hby d_init_0) rfl rfl ?_
    exact ht
  obtain ⟨T2, X2, e2, st2⟩ := initO X0 hx hZ hown (hw _ (List.mem_of_getElem? (i := 7) rfl)) (hw _ (List.mem_of_getElem? (i := 8) rfl)) (hw _ (List.mem_of_getElem? (i := 9) rfl)) e0 (g := (mkF m 1 #[.val (.ref r0), .val (.long q1), .second] [(.ref r0)])) rfl (by rw [hml]; rfl) rfl (hb hby d_init_1) (by decide) (W := 0) (by show 2 * 0 + _ ≤ _; exact Nat.le_of_eq rfl) (by decide)
  have k2 : Go p.tables e below (s₁.setTop (mkF m 1 #[.val (.ref r0), .val (.long q1), .second] [(.ref r0)])) (T2.setTop (mkF m 4 #[.val (.ref r0), .val (.long q1), .second] [])) := st2
  have k3 : Go p.tables e below (T2.setTop (mkF m 4 #[.val (.ref r0), .val (.long q1), .second] [])) (T2.setTop (mkF m 6 #[.val (.ref r0), .val (.long q1), .second] [(.long q1), (.ref r0)])) := by
    intro t ht
    refine XS.aloadN X2.here hx rfl (hb hby d_init_4) rfl rfl ?_
    show Steps p.tables e below (T2.setTop (mkF m 5 #[.val (.ref r0), .val (.long q1), .second] [(.ref r0)])) _
    refine XS.lloadN X2.here hx rfl (hb hby d_init_5) rfl ?_
    exact ht
  obtain ⟨T4, h4, X4, e4, W4, st4⟩ := putF X2 hx hZ hown (host := "") (Or.inl (hw _ (List.mem_of_getElem? (i := 10) rfl))) Via.refl e2 F_state E_r0 (Or.inl (hw _ (List.mem_of_getElem? (i := 11) rfl))) (hw _ (List.mem_of_getElem? (i := 2) rfl)) (ty := .long) (by decide) rfl rfl (g := (mkF m 6 #[.val (.ref r0), .val (.long q1), .second] [(.long q1), (.ref r0)])) rfl rfl (hb hby d_init_6)
  have Kp4 : Keep h0 h4 [r0] := (Keep.refl h0 [r0]).wr W4 (Or.inl (by simp))
  have F_state_c_4 := F_state.same W4
  have E_r0_c_4 := E_r0.wr W4
  have k4 : Go p.tables e below (T2.setTop (mkF m 6 #[.val (.ref r0), .val (.long q1), .second] [(.long q1), (.ref r0)])) (T4.setTop (mkF m 9 #[.val (.ref r0), .val (.long q1), .second] [])) := st4
  have N4 := Fr.snoc X4 N0 g_r0
  obtain ⟨fs, hr, hrun, hended, hW, hsame⟩ := X4.leave (v := none) (fun _ => rfl)
  refine ⟨_, _, pre0 _ ((goT k1 (goT k2 (goT k3 k4))) _ (X4.returnOut hx Bd.returns (hb hby d_init_9) hr)), hrun, hended, _, _, rfl, ?_, ⟨_, rfl⟩, hW, hsame.mono (by decide) (by decide)⟩
  show Q_init Z r0 q1 h0 n0 _ T4.heap _
  rw [e4]
  exact ⟨rfl, N4, Kp4, E_r0_c_4, F_state_c_4⟩
def own_sh (z : Int64) (k : Int32) : Int64 := (z.toUInt64 >>> (k &&& 0x3f).toInt64.toUInt64).toInt64
def own_m1 (s : Int64) : Int64 := (s ^^^ own_sh s 30) * (-4658895280553007687)
def own_m2 (s : Int64) : Int64 := (own_m1 s ^^^ own_sh (own_m1 s) 27) * (-7723592293110705685)
def own_m3 (s : Int64) : Int64 := own_m2 s ^^^ own_sh (own_m2 s) 31
def own_x1 (a : Int64) : Int64 := a * (2 - a * a)
def own_x2 (a : Int64) : Int64 := own_x1 a * (2 - a * own_x1 a)
def own_x3 (a : Int64) : Int64 := own_x2 a * (2 - a * own_x2 a)
def own_x4 (a : Int64) : Int64 := own_x3 a * (2 - a * own_x3 a)
def own_x5 (a : Int64) : Int64 := own_x4 a * (2 - a * own_x4 a)
def own_u1 (y : Int64) : Int64 := (y ^^^ own_sh y 31) ^^^ own_sh y 62
def own_u2 (y : Int64) : Int64 := own_u1 y * own_x5 (-7723592293110705685)
def own_u3 (y : Int64) : Int64 := (own_u2 y ^^^ own_sh (own_u2 y) 27) ^^^ own_sh (own_u2 y) 54
def own_u4 (y : Int64) : Int64 := own_u3 y * own_x5 (-4658895280553007687)
def own_u5 (y : Int64) : Int64 := (own_u4 y ^^^ own_sh (own_u4 y) 30) ^^^ own_sh (own_u4 y) 60
theorem d_next_0 : decode prog_21_method_2_code 0 = .ok (.aload_n 0, 1) := by decide +kernel
theorem d_next_1 : decode prog_21_method_2_code 1 = .ok (.dup, 1) := by decide +kernel
theorem d_next_2 : decode prog_21_method_2_code 2 = .ok (.getfield 7, 3) := by decide +kernel
theorem d_next_5 : decode prog_21_method_2_code 5 = .ok (.ldc2_w 13, 3) := by decide +kernel
theorem d_next_8 : decode prog_21_method_2_code 8 = .ok (.ladd, 1) := by decide +kernel
theorem d_next_9 : decode prog_21_method_2_code 9 = .ok (.putfield 7, 3) := by decide +kernel
theorem d_next_12 : decode prog_21_method_2_code 12 = .ok (.aload_n 0, 1) := by decide +kernel
theorem d_next_13 : decode prog_21_method_2_code 13 = .ok (.getfield 7, 3) := by decide +kernel
theorem d_next_16 : decode prog_21_method_2_code 16 = .ok (.aload_n 0, 1) := by decide +kernel
theorem d_next_17 : decode prog_21_method_2_code 17 = .ok (.getfield 7, 3) := by decide +kernel
theorem d_next_20 : decode prog_21_method_2_code 20 = .ok (.bipush 30, 2) := by decide +kernel
theorem d_next_22 : decode prog_21_method_2_code 22 = .ok (.lushr, 1) := by decide +kernel
theorem d_next_23 : decode prog_21_method_2_code 23 = .ok (.lxor, 1) := by decide +kernel
theorem d_next_24 : decode prog_21_method_2_code 24 = .ok (.ldc2_w 15, 3) := by decide +kernel
theorem d_next_27 : decode prog_21_method_2_code 27 = .ok (.lmul, 1) := by decide +kernel
theorem d_next_28 : decode prog_21_method_2_code 28 = .ok (.lstore_n 1, 1) := by decide +kernel
theorem d_next_29 : decode prog_21_method_2_code 29 = .ok (.lload_n 1, 1) := by decide +kernel
theorem d_next_30 : decode prog_21_method_2_code 30 = .ok (.lload_n 1, 1) := by decide +kernel
theorem d_next_31 : decode prog_21_method_2_code 31 = .ok (.bipush 27, 2) := by decide +kernel
theorem d_next_33 : decode prog_21_method_2_code 33 = .ok (.lushr, 1) := by decide +kernel
theorem d_next_34 : decode prog_21_method_2_code 34 = .ok (.lxor, 1) := by decide +kernel
theorem d_next_35 : decode prog_21_method_2_code 35 = .ok (.ldc2_w 17, 3) := by decide +kernel
theorem d_next_38 : decode prog_21_method_2_code 38 = .ok (.lmul, 1) := by decide +kernel
theorem d_next_39 : decode prog_21_method_2_code 39 = .ok (.lstore_n 1, 1) := by decide +kernel
theorem d_next_40 : decode prog_21_method_2_code 40 = .ok (.lload_n 1, 1) := by decide +kernel
theorem d_next_41 : decode prog_21_method_2_code 41 = .ok (.lload_n 1, 1) := by decide +kernel
theorem d_next_42 : decode prog_21_method_2_code 42 = .ok (.bipush 31, 2) := by decide +kernel
theorem d_next_44 : decode prog_21_method_2_code 44 = .ok (.lushr, 1) := by decide +kernel
theorem d_next_45 : decode prog_21_method_2_code 45 = .ok (.lxor, 1) := by decide +kernel
theorem d_next_46 : decode prog_21_method_2_code 46 = .ok (.lreturn, 1) := by decide +kernel
theorem ef_next (m : MethodId) (x0 : Addr) : entryFrame m #[(.ref x0)] 3 = mkF m 0 #[.val (.ref x0), .unset, .unset] [] := by first | (simp [entryFrame, mkF, argsToLocals, Value.category]; done) | rfl
def Q_next (Z : State) (r0 : Addr) (q : Int64) (h0 : Heap) (n0 : Nat) (v : Option Value) (h : Heap) (L : List Loc) : Prop := v = some (.long (own_m3 (q + (-7046029254386353131 : Int64)))) ∧ Fr n0 L ∧ Keep h0 h [r0] ∧ Exa Z h r0 "com/example/role_conflict_finder/roleconflictfinder/SeededRandom" ∧ Fld Z h r0 "com/example/role_conflict_finder/roleconflictfinder/SeededRandom" "state" "J" (.long (q + (-7046029254386353131 : Int64)))
set_option maxRecDepth 65536 in
set_option maxHeartbeats 40000000 in
theorem rm_next (l : Launch) (Z : State) (a0 : Array Value) (hw : ∀ d ∈ tables_1, d.before a0 Z = true) (ws : List Jvm.Cond) (r0 : Addr) (q : Int64) (h0 : Heap) (n0 : Nat) (Z0 : n0 ≤ h0.size) (F_state : Fld Z h0 r0 "com/example/role_conflict_finder/roleconflictfinder/SeededRandom" "state" "J" (.long q)) (E_r0 : Exa Z h0 r0 "com/example/role_conflict_finder/roleconflictfinder/SeededRandom") (g_r0 : n0 ≤ r0) :
    MetFree l (⟨"com/example/role_conflict_finder/roleconflictfinder/SeededRandom", "nextLong", "()J"⟩ : MethodName) (head1 (Jvm.Cond.code (⟨"com/example/role_conflict_finder/roleconflictfinder/SeededRandom", "nextLong", "()J"⟩ : MethodName) prog_21_method_2_code 3 (some .long) :: ws) ({ frames := 0, cells := 0, slots := 0, locals := 0 } : Room)) (fun a U => a = #[(.ref r0)] ∧ Z.Warmed39 U.vm ∧ U.heap = h0) (fun _ _ _ _ _ => True) (fun _ U o U' => ∃ v L, o = .returned v ∧ Q_next Z r0 q h0 n0 v U'.heap L ∧ FrameEnd U o U' L ({ frames := 0, cells := 0, slots := 0, locals := 0 } : Room).cells ({ frames := 0, cells := 0, slots := 0, locals := 0 } : Room).slots) := by
  refine MetFree.of_bodySF (plainFor_of_name pn_0) hisR ?_
  intro p e s m args below meth c s₁ Bd hml0 hP hK
  obtain ⟨rfl, hZ, hh⟩ := hP
  have hx := Bd.exec
  have hby := Bd.bytes
  have hml : c.maxLocals = 3 := hml0
  have hown : s.vm.findClass "com/example/role_conflict_finder/roleconflictfinder/SeededRandom" = some m.cls := findClass_of_methodNamed Bd.named
  have hnm := (name_of_methodNamed Bd.named Bd.method).1
  have X0 : Stand p l e ({ frames := 0, cells := 0, slots := 0, locals := 0 } : Room) s m #[(.ref r0)] below meth c s₁ [] 0 0 := Stand.of_body Bd
  have e0 : s₁.heap = h0 := by rw [← hh, Bd.state]; rfl
  have N0 := Fr.nil n0
  have pre0 : ∀ t, Steps p.tables e below (s₁.setTop (mkF m 0 #[.val (.ref r0), .unset, .unset] [])) t → Steps p.tables e below (s₁.setTop (entryFrame m #[(.ref r0)] 3)) t := fun t k => castTop (ef_next m r0) k
  have k1 : Go p.tables e below (s₁.setTop (mkF m 0 #[.val (.ref r0), .unset, .unset] [])) (s₁.setTop (mkF m 2 #[.val (.ref r0), .unset, .unset] [(.ref r0), (.ref r0)])) := by
    intro t ht
    refine XS.aloadN X0.here hx rfl (hb hby d_next_0) rfl rfl ?_
    show Steps p.tables e below (s₁.setTop (mkF m 1 #[.val (.ref r0), .unset, .unset] [(.ref r0)])) _
    refine XS.dup X0.here hx rfl (hb hby d_next_1) rfl rfl ?_
    exact ht
  obtain ⟨T2, X2, e2, st2⟩ := getF X0 hx hZ hown (host := "") (Or.inl (hw _ (List.mem_of_getElem? (i := 10) rfl))) Via.refl e0 F_state (g := (mkF m 2 #[.val (.ref r0), .unset, .unset] [(.ref r0), (.ref r0)])) rfl rfl (hb hby d_next_2)
  have k2 : Go p.tables e below (s₁.setTop (mkF m 2 #[.val (.ref r0), .unset, .unset] [(.ref r0), (.ref r0)])) (T2.setTop (mkF m 5 #[.val (.ref r0), .unset, .unset] [(.long q), (.ref r0)])) := st2
  have k3 : Go p.tables e below (T2.setTop (mkF m 5 #[.val (.ref r0), .unset, .unset] [(.long q), (.ref r0)])) (T2.setTop (mkF m 9 #[.val (.ref r0), .unset, .unset] [(.long (q + (-7046029254386353131 : Int64))), (.ref r0)])) := by
    intro t ht
    refine X2.ldc2Long hx hown (mvT hZ (hw _ (List.mem_of_getElem? (i := 17) rfl))) (g := (mkF m 5 #[.val (.ref r0), .unset, .unset] [(.long q), (.ref r0)])) rfl (hb hby d_next_5) _ ?_
    show Steps p.tables e below (T2.setTop (mkF m 8 #[.val (.ref r0), .unset, .unset] [(.long (-7046029254386353131 : Int64)), (.long q), (.ref r0)])) _
    refine XS.ladd X2.here hx rfl (hb hby d_next_8) rfl ?_
    exact ht
  obtain ⟨T4, h4, X4, e4, W4, st4⟩ := putF X2 hx hZ hown (host := "") (Or.inl (hw _ (List.mem_of_getElem? (i := 10) rfl))) Via.refl e2 F_state E_r0 (Or.inl (hw _ (List.mem_of_getElem? (i := 11) rfl))) (hw _ (List.mem_of_getElem? (i := 2) rfl)) (ty := .long) (by decide) rfl rfl (g := (mkF m 9 #[.val (.ref r0), .unset, .unset] [(.long (q + (-7046029254386353131 : Int64))), (.ref r0)])) rfl rfl (hb hby d_next_9)
  have Kp4 : Keep h0 h4 [r0] := (Keep.refl h0 [r0]).wr W4 (Or.inl (by simp))
  have F_state_c_4 := F_state.same W4
  have E_r0_c_4 := E_r0.wr W4
  have k4 : Go p.tables e below (T2.setTop (mkF m 9 #[.val (.ref r0), .unset, .unset] [(.long (q + (-7046029254386353131 : Int64))), (.ref r0)])) (T4.setTop (mkF m 12 #[.val (.ref r0), .unset, .unset] [])) := st4
  have N4 := Fr.snoc X4 N0 g_r0
  have k5 : Go p.tables e below (T4.setTop (mkF m 12 #[.val (.ref r0), .unset, .unset] [])) (T4.setTop (mkF m 13 #[.val (.ref r0), .unset, .unset] [(.ref r0)])) := by
    intro t ht
    refine XS.aloadN X4.here hx rfl (hb hby d_next_12) rfl rfl ?_
    exact ht
  obtain ⟨T6, X6, e6, st6⟩ := getF X4 hx hZ hown (host := "") (Or.inl (hw _ (List.mem_of_getElem? (i := 10) rfl))) Via.refl e4 F_state_c_4 (g := (mkF m 13 #[.val (.ref r0), .unset, .unset] [(.ref r0)])) rfl rfl (hb hby d_next_13)
  have k6 : Go p.tables e below (T4.setTop (mkF m 13 #[.val (.ref r0), .unset, .unset] [(.ref r0)])) (T6.setTop (mkF m 16 #[.val (.ref r0), .unset, .unset] [(.long (q + (-7046029254386353131 : Int64)))])) := st6
  have k7 : Go p.tables e below (T6.setTop (mkF m 16 #[.val (.ref r0), .unset, .unset] [(.long (q + (-7046029254386353131 : Int64)))])) (T6.setTop (mkF m 17 #[.val (.ref r0), .unset, .unset] [(.ref r0), (.long (q + (-7046029254386353131 : Int64)))])) := by
    intro t ht
    refine XS.aloadN X6.here hx rfl (hb hby d_next_16) rfl rfl ?_
    exact ht
  obtain ⟨T8, X8, e8, st8⟩ := getF X6 hx hZ hown (host := "") (Or.inl (hw _ (List.mem_of_getElem? (i := 10) rfl))) Via.refl e6 F_state_c_4 (g := (mkF m 17 #[.val (.ref r0), .unset, .unset] [(.ref r0), (.long (q + (-7046029254386353131 : Int64)))])) rfl rfl (hb hby d_next_17)
  have k8 : Go p.tables e below (T6.setTop (mkF m 17 #[.val (.ref r0), .unset, .unset] [(.ref r0), (.long (q + (-7046029254386353131 : Int64)))])) (T8.setTop (mkF m 20 #[.val (.ref r0), .unset, .unset] [(.long (q + (-7046029254386353131 : Int64))), (.long (q + (-7046029254386353131 : Int64)))])) := st8
  have k9 : Go p.tables e below (T8.setTop (mkF m 20 #[.val (.ref r0), .unset, .unset] [(.long (q + (-7046029254386353131 : Int64))), (.long (q + (-7046029254386353131 : Int64)))])) (T8.setTop (mkF m 46 #[.val (.ref r0), .val (.long (own_m2 (q + (-7046029254386353131 : Int64)))), .second] [(.long (own_m3 (q + (-7046029254386353131 : Int64))))])) := by
    intro t ht
    refine XS.bipush X8.here hx rfl (hb hby d_next_20) ?_
    show Steps p.tables e below (T8.setTop (mkF m 22 #[.val (.ref r0), .unset, .unset] [(.int (30 : Int32)), (.long (q + (-7046029254386353131 : Int64))), (.long (q + (-7046029254386353131 : Int64)))])) _
    refine XS.lushr X8.here hx rfl (hb hby d_next_22) rfl ?_
    show Steps p.tables e below (T8.setTop (mkF m 23 #[.val (.ref r0), .unset, .unset] [(.long (((q + (-7046029254386353131 : Int64)).toUInt64 >>> ((30 : Int32) &&& 0x3f).toInt64.toUInt64).toInt64)), (.long (q + (-7046029254386353131 : Int64)))])) _
    refine XS.lxor X8.here hx rfl (hb hby d_next_23) rfl ?_
    show Steps p.tables e below (T8.setTop (mkF m 24 #[.val (.ref r0), .unset, .unset] [(.long ((q + (-7046029254386353131 : Int64)) ^^^ (((q + (-7046029254386353131 : Int64)).toUInt64 >>> ((30 : Int32) &&& 0x3f).toInt64.toUInt64).toInt64)))])) _
    refine X8.ldc2Long hx hown (mvT hZ (hw _ (List.mem_of_getElem? (i := 18) rfl))) (g := (mkF m 24 #[.val (.ref r0), .unset, .unset] [(.long ((q + (-7046029254386353131 : Int64)) ^^^ (((q + (-7046029254386353131 : Int64)).toUInt64 >>> ((30 : Int32) &&& 0x3f).toInt64.toUInt64).toInt64)))])) rfl (hb hby d_next_24) _ ?_
    show Steps p.tables e below (T8.setTop (mkF m 27 #[.val (.ref r0), .unset, .unset] [(.long (-4658895280553007687 : Int64)), (.long ((q + (-7046029254386353131 : Int64)) ^^^ (((q + (-7046029254386353131 : Int64)).toUInt64 >>> ((30 : Int32) &&& 0x3f).toInt64.toUInt64).toInt64)))])) _
    refine XS.lmul X8.here hx rfl (hb hby d_next_27) rfl ?_
    show Steps p.tables e below (T8.setTop (mkF m 28 #[.val (.ref r0), .unset, .unset] [(.long (((q + (-7046029254386353131 : Int64)) ^^^ (((q + (-7046029254386353131 : Int64)).toUInt64 >>> ((30 : Int32) &&& 0x3f).toInt64.toUInt64).toInt64)) * (-4658895280553007687 : Int64)))])) _
    refine XS.lstoreN X8.here hx rfl (hb hby d_next_28) rfl (l' := #[.val (.ref r0), .val (.long (((q + (-7046029254386353131 : Int64)) ^^^ (((q + (-7046029254386353131 : Int64)).toUInt64 >>> ((30 : Int32) &&& 0x3f).toInt64.toUInt64).toInt64)) * (-4658895280553007687 : Int64))), .second]) rfl ?_
    show Steps p.tables e below (T8.setTop (mkF m 29 #[.val (.ref r0), .val (.long (own_m1 (q + (-7046029254386353131 : Int64)))), .second] [])) _
    refine XS.lloadN X8.here hx rfl (hb hby d_next_29) rfl ?_
    show Steps p.tables e below (T8.setTop (mkF m 30 #[.val (.ref r0), .val (.long (own_m1 (q + (-7046029254386353131 : Int64)))), .second] [(.long (own_m1 (q + (-7046029254386353131 : Int64))))])) _
    refine XS.lloadN X8.here hx rfl (hb hby d_next_30) rfl ?_
    show Steps p.tables e below (T8.setTop (mkF m 31 #[.val (.ref r0), .val (.long (own_m1 (q + (-7046029254386353131 : Int64)))), .second] [(.long (own_m1 (q + (-7046029254386353131 : Int64)))), (.long (own_m1 (q + (-7046029254386353131 : Int64))))])) _
    refine XS.bipush X8.here hx rfl (hb hby d_next_31) ?_
    show Steps p.tables e below (T8.setTop (mkF m 33 #[.val (.ref r0), .val (.long (own_m1 (q + (-7046029254386353131 : Int64)))), .second] [(.int (27 : Int32)), (.long (own_m1 (q + (-7046029254386353131 : Int64)))), (.long (own_m1 (q + (-7046029254386353131 : Int64))))])) _
    refine XS.lushr X8.here hx rfl (hb hby d_next_33) rfl ?_
    show Steps p.tables e below (T8.setTop (mkF m 34 #[.val (.ref r0), .val (.long (own_m1 (q + (-7046029254386353131 : Int64)))), .second] [(.long (((own_m1 (q + (-7046029254386353131 : Int64))).toUInt64 >>> ((27 : Int32) &&& 0x3f).toInt64.toUInt64).toInt64)), (.long (own_m1 (q + (-7046029254386353131 : Int64))))])) _
    refine XS.lxor X8.here hx rfl (hb hby d_next_34) rfl ?_
    show Steps p.tables e below (T8.setTop (mkF m 35 #[.val (.ref r0), .val (.long (own_m1 (q + (-7046029254386353131 : Int64)))), .second] [(.long ((own_m1 (q + (-7046029254386353131 : Int64))) ^^^ (((own_m1 (q + (-7046029254386353131 : Int64))).toUInt64 >>> ((27 : Int32) &&& 0x3f).toInt64.toUInt64).toInt64)))])) _
    refine X8.ldc2Long hx hown (mvT hZ (hw _ (List.mem_of_getElem? (i := 19) rfl))) (g := (mkF m 35 #[.val (.ref r0), .val (.long (own_m1 (q + (-7046029254386353131 : Int64)))), .second] [(.long ((own_m1 (q + (-7046029254386353131 : Int64))) ^^^ (((own_m1 (q + (-7046029254386353131 : Int64))).toUInt64 >>> ((27 : Int32) &&& 0x3f).toInt64.toUInt64).toInt64)))])) rfl (hb hby d_next_35) _ ?_
    show Steps p.tables e below (T8.setTop (mkF m 38 #[.val (.ref r0), .val (.long (own_m1 (q + (-7046029254386353131 : Int64)))), .second] [(.long (-7723592293110705685 : Int64)), (.long ((own_m1 (q + (-7046029254386353131 : Int64))) ^^^ (((own_m1 (q + (-7046029254386353131 : Int64))).toUInt64 >>> ((27 : Int32) &&& 0x3f).toInt64.toUInt64).toInt64)))])) _
    refine XS.lmul X8.here hx rfl (hb hby d_next_38) rfl ?_
    show Steps p.tables e below (T8.setTop (mkF m 39 #[.val (.ref r0), .val (.long (own_m1 (q + (-7046029254386353131 : Int64)))), .second] [(.long (((own_m1 (q + (-7046029254386353131 : Int64))) ^^^ (((own_m1 (q + (-7046029254386353131 : Int64))).toUInt64 >>> ((27 : Int32) &&& 0x3f).toInt64.toUInt64).toInt64)) * (-7723592293110705685 : Int64)))])) _
    refine XS.lstoreN X8.here hx rfl (hb hby d_next_39) rfl (l' := #[.val (.ref r0), .val (.long (((own_m1 (q + (-7046029254386353131 : Int64))) ^^^ (((own_m1 (q + (-7046029254386353131 : Int64))).toUInt64 >>> ((27 : Int32) &&& 0x3f).toInt64.toUInt64).toInt64)) * (-7723592293110705685 : Int64))), .second]) rfl ?_
    show Steps p.tables e below (T8.setTop (mkF m 40 #[.val (.ref r0), .val (.long (own_m2 (q + (-7046029254386353131 : Int64)))), .second] [])) _
    refine XS.lloadN X8.here hx rfl (hb hby d_next_40) rfl ?_
    show Steps p.tables e below (T8.setTop (mkF m 41 #[.val (.ref r0), .val (.long (own_m2 (q + (-7046029254386353131 : Int64)))), .second] [(.long (own_m2 (q + (-7046029254386353131 : Int64))))])) _
    refine XS.lloadN X8.here hx rfl (hb hby d_next_41) rfl ?_
    show Steps p.tables e below (T8.setTop (mkF m 42 #[.val (.ref r0), .val (.long (own_m2 (q + (-7046029254386353131 : Int64)))), .second] [(.long (own_m2 (q + (-7046029254386353131 : Int64)))), (.long (own_m2 (q + (-7046029254386353131 : Int64))))])) _
    refine XS.bipush X8.here hx rfl (hb hby d_next_42) ?_
    show Steps p.tables e below (T8.setTop (mkF m 44 #[.val (.ref r0), .val (.long (own_m2 (q + (-7046029254386353131 : Int64)))), .second] [(.int (31 : Int32)), (.long (own_m2 (q + (-7046029254386353131 : Int64)))), (.long (own_m2 (q + (-7046029254386353131 : Int64))))])) _
    refine XS.lushr X8.here hx rfl (hb hby d_next_44) rfl ?_
    show Steps p.tables e below (T8.setTop (mkF m 45 #[.val (.ref r0), .val (.long (own_m2 (q + (-7046029254386353131 : Int64)))), .second] [(.long (((own_m2 (q + (-7046029254386353131 : Int64))).toUInt64 >>> ((31 : Int32) &&& 0x3f).toInt64.toUInt64).toInt64)), (.long (own_m2 (q + (-7046029254386353131 : Int64))))])) _
    refine XS.lxor X8.here hx rfl (hb hby d_next_45) rfl ?_
    exact ht
  obtain ⟨fs, hr, hrun, hended, hW, hsame⟩ := X8.leave (v := some (.long (own_m3 (q + (-7046029254386353131 : Int64))))) (fun h => by rw [Bd.returns] at h; cases h)
  refine ⟨_, _, pre0 _ ((goT k1 (goT k2 (goT k3 (goT k4 (goT k5 (goT k6 (goT k7 (goT k8 k9)))))))) _ (retJ X8 hx Bd.returns (hb hby d_next_46) hr)), hrun, hended, _, _, rfl, ?_, ⟨_, rfl⟩, hW, hsame.mono (by decide) (by decide)⟩
  show Q_next Z r0 q h0 n0 _ T8.heap _
  rw [e8]
  exact ⟨rfl, N4, Kp4, E_r0_c_4, F_state_c_4⟩
theorem d_inverse_0 : decode method_2_code 0 = .ok (.lload_n 0, 1) := by decide +kernel
theorem d_inverse_1 : decode method_2_code 1 = .ok (.lstore_n 2, 1) := by decide +kernel
theorem d_inverse_2 : decode method_2_code 2 = .ok (.lload_n 2, 1) := by decide +kernel
theorem d_inverse_3 : decode method_2_code 3 = .ok (.ldc2_w 7, 3) := by decide +kernel
theorem d_inverse_6 : decode method_2_code 6 = .ok (.lload_n 0, 1) := by decide +kernel
theorem d_inverse_7 : decode method_2_code 7 = .ok (.lload_n 2, 1) := by decide +kernel
theorem d_inverse_8 : decode method_2_code 8 = .ok (.lmul, 1) := by decide +kernel
theorem d_inverse_9 : decode method_2_code 9 = .ok (.lsub, 1) := by decide +kernel
theorem d_inverse_10 : decode method_2_code 10 = .ok (.lmul, 1) := by decide +kernel
theorem d_inverse_11 : decode method_2_code 11 = .ok (.lstore_n 2, 1) := by decide +kernel
theorem d_inverse_12 : decode method_2_code 12 = .ok (.lload_n 2, 1) := by decide +kernel
theorem d_inverse_13 : decode method_2_code 13 = .ok (.ldc2_w 7, 3) := by decide +kernel
theorem d_inverse_16 : decode method_2_code 16 = .ok (.lload_n 0, 1) := by decide +kernel
theorem d_inverse_17 : decode method_2_code 17 = .ok (.lload_n 2, 1) := by decide +kernel
theorem d_inverse_18 : decode method_2_code 18 = .ok (.lmul, 1) := by decide +kernel
theorem d_inverse_19 : decode method_2_code 19 = .ok (.lsub, 1) := by decide +kernel
theorem d_inverse_20 : decode method_2_code 20 = .ok (.lmul, 1) := by decide +kernel
theorem d_inverse_21 : decode method_2_code 21 = .ok (.lstore_n 2, 1) := by decide +kernel
theorem d_inverse_22 : decode method_2_code 22 = .ok (.lload_n 2, 1) := by decide +kernel
theorem d_inverse_23 : decode method_2_code 23 = .ok (.ldc2_w 7, 3) := by decide +kernel
theorem d_inverse_26 : decode method_2_code 26 = .ok (.lload_n 0, 1) := by decide +kernel
theorem d_inverse_27 : decode method_2_code 27 = .ok (.lload_n 2, 1) := by decide +kernel
theorem d_inverse_28 : decode method_2_code 28 = .ok (.lmul, 1) := by decide +kernel
theorem d_inverse_29 : decode method_2_code 29 = .ok (.lsub, 1) := by decide +kernel
theorem d_inverse_30 : decode method_2_code 30 = .ok (.lmul, 1) := by decide +kernel
theorem d_inverse_31 : decode method_2_code 31 = .ok (.lstore_n 2, 1) := by decide +kernel
theorem d_inverse_32 : decode method_2_code 32 = .ok (.lload_n 2, 1) := by decide +kernel
theorem d_inverse_33 : decode method_2_code 33 = .ok (.ldc2_w 7, 3) := by decide +kernel
theorem d_inverse_36 : decode method_2_code 36 = .ok (.lload_n 0, 1) := by decide +kernel
theorem d_inverse_37 : decode method_2_code 37 = .ok (.lload_n 2, 1) := by decide +kernel
theorem d_inverse_38 : decode method_2_code 38 = .ok (.lmul, 1) := by decide +kernel
theorem d_inverse_39 : decode method_2_code 39 = .ok (.lsub, 1) := by decide +kernel
theorem d_inverse_40 : decode method_2_code 40 = .ok (.lmul, 1) := by decide +kernel
theorem d_inverse_41 : decode method_2_code 41 = .ok (.lstore_n 2, 1) := by decide +kernel
theorem d_inverse_42 : decode method_2_code 42 = .ok (.lload_n 2, 1) := by decide +kernel
theorem d_inverse_43 : decode method_2_code 43 = .ok (.ldc2_w 7, 3) := by decide +kernel
theorem d_inverse_46 : decode method_2_code 46 = .ok (.lload_n 0, 1) := by decide +kernel
theorem d_inverse_47 : decode method_2_code 47 = .ok (.lload_n 2, 1) := by decide +kernel
theorem d_inverse_48 : decode method_2_code 48 = .ok (.lmul, 1) := by decide +kernel
theorem d_inverse_49 : decode method_2_code 49 = .ok (.lsub, 1) := by decide +kernel
theorem d_inverse_50 : decode method_2_code 50 = .ok (.lmul, 1) := by decide +kernel
theorem d_inverse_51 : decode method_2_code 51 = .ok (.lstore_n 2, 1) := by decide +kernel
theorem d_inverse_52 : decode method_2_code 52 = .ok (.lload_n 2, 1) := by decide +kernel
theorem d_inverse_53 : decode method_2_code 53 = .ok (.lreturn, 1) := by decide +kernel
theorem pn_1 : plainName "com/example/role_conflict_finder/roleconflictfinder/SeededRandomNextLongPinLaw" = true := by first | (simp [plainName, overriddenIn]; done) | decide +kernel
theorem ef_inverse (m : MethodId) (x0 : Int64) : entryFrame m #[(.long x0)] 4 = mkF m 0 #[.val (.long x0), .second, .unset, .unset] [] := by first | (simp [entryFrame, mkF, argsToLocals, Value.category]; done) | rfl
def Q_inverse (Z : State) (q0 : Int64) (h0 : Heap) (n0 : Nat) (v : Option Value) (h : Heap) (L : List Loc) : Prop := v = some (.long (own_x5 q0)) ∧ Fr n0 L ∧ h = h0
set_option maxRecDepth 65536 in
set_option maxHeartbeats 40000000 in
theorem rm_inverse (l : Launch) (Z : State) (a0 : Array Value) (hw : ∀ d ∈ tables_1, d.before a0 Z = true) (ws : List Jvm.Cond) (q0 : Int64) (h0 : Heap) (n0 : Nat) (Z0 : n0 ≤ h0.size) :
    MetFree l (⟨"com/example/role_conflict_finder/roleconflictfinder/SeededRandomNextLongPinLaw", "inverse", "(J)J"⟩ : MethodName) (head1 (Jvm.Cond.code (⟨"com/example/role_conflict_finder/roleconflictfinder/SeededRandomNextLongPinLaw", "inverse", "(J)J"⟩ : MethodName) method_2_code 4 (some .long) :: ws) ({ frames := 0, cells := 0, slots := 0, locals := 0 } : Room)) (fun a U => a = #[(.long q0)] ∧ Z.Warmed39 U.vm ∧ U.heap = h0) (fun _ _ _ _ _ => True) (fun _ U o U' => ∃ v L, o = .returned v ∧ Q_inverse Z q0 h0 n0 v U'.heap L ∧ FrameEnd U o U' L ({ frames := 0, cells := 0, slots := 0, locals := 0 } : Room).cells ({ frames := 0, cells := 0, slots := 0, locals := 0 } : Room).slots) := by
  refine MetFree.of_bodySF (plainFor_of_name pn_1) hisR ?_
  intro p e s m args below meth c s₁ Bd hml0 hP hK
  obtain ⟨rfl, hZ, hh⟩ := hP
  have hx := Bd.exec
  have hby := Bd.bytes
  have hml : c.maxLocals = 4 := hml0
  have hown : s.vm.findClass "com/example/role_conflict_finder/roleconflictfinder/SeededRandomNextLongPinLaw" = some m.cls := findClass_of_methodNamed Bd.named
  have hnm := (name_of_methodNamed Bd.named Bd.method).1
  have X0 : Stand p l e ({ frames := 0, cells := 0, slots := 0, locals := 0 } : Room) s m #[(.long q0)] below meth c s₁ [] 0 0 := Stand.of_body Bd
  have e0 : s₁.heap = h0 := by rw [← hh, Bd.state]; rfl
  have N0 := Fr.nil n0
  have pre0 : ∀ t, Steps p.tables e below (s₁.setTop (mkF m 0 #[.val (.long q0), .second, .unset, .unset] [])) t → Steps p.tables e below (s₁.setTop (entryFrame m #[(.long q0)] 4)) t := fun t k => castTop (ef_inverse m q0) k
  have k1 : Go p.tables e below (s₁.setTop (mkF m 0 #[.val (.long q0), .second, .unset, .unset] [])) (s₁.setTop (mkF m 53 #[.val (.long q0), .second, .val (.long (own_x5 q0)), .second] [(.long (own_x5 q0))])) := by
    intro t ht
    refine XS.lloadN X0.here hx rfl (hb hby d_inverse_0) rfl ?_
    show Steps p.tables e below (s₁.setTop (mkF m 1 #[.val (.long q0), .second, .unset, .unset] [(.long q0)])) _
    refine XS.lstoreN X0.here hx rfl (hb hby d_inverse_1) rfl (l' := #[.val (.long q0), .second, .val (.long q0), .second]) rfl ?_
    show Steps p.tables e below (s₁.setTop (mkF m 2 #[.val (.long q0), .second, .val (.long q0), .second] [])) _
    refine XS.lloadN X0.here hx rfl (hb hby d_inverse_2) rfl ?_
    show Steps p.tables e below (s₁.setTop (mkF m 3 #[.val (.long q0), .second, .val (.long q0), .second] [(.long q0)])) _
    refine X0.ldc2Long hx hown (mvT hZ (hw _ (List.mem_of_getElem? (i := 25) rfl))) (g := (mkF m 3 #[.val (.long q0), .second, .val (.long q0), .second] [(.long q0)])) rfl (hb hby d_inverse_3) _ ?_
    show Steps p.tables e below (s₁.setTop (mkF m 6 #[.val (.long q0), .second, .val (.long q0), .second] [(.long (2 : Int64)), (.long q0)])) _
    refine XS.lloadN X0.here hx rfl (hb hby d_inverse_6) rfl ?_
    show Steps p.tables e below (s₁.setTop (mkF m 7 #[.val (.long q0), .second, .val (.long q0), .second] [(.long q0), (.long (2 : Int64)), (.long q0)])) _
    refine XS.lloadN X0.here hx rfl (hb hby d_inverse_7) rfl ?_
    show Steps p.tables e below (s₁.setTop (mkF m 8 #[.val (.long q0), .second, .val (.long q0), .second] [(.long q0), (.long q0), (.long (2 : Int64)), (.long q0)])) _
    refine XS.lmul X0.here hx rfl (hb hby d_inverse_8) rfl ?_
    show Steps p.tables e below (s₁.setTop (mkF m 9 #[.val (.long q0), .second, .val (.long q0), .second] [(.long (q0 * q0)), (.long (2 : Int64)), (.long q0)])) _
    refine XS.lsub X0.here hx rfl (hb hby d_inverse_9) rfl ?_
    show Steps p.tables e below (s₁.setTop (mkF m 10 #[.val (.long q0), .second, .val (.long q0), .second] [(.long ((2 : Int64) - (q0 * q0))), (.long q0)])) _
    refine XS.lmul X0.here hx rfl (hb hby d_inverse_10) rfl ?_
    show Steps p.tables e below (s₁.setTop (mkF m 11 #[.val (.long q0), .second, .val (.long q0), .second] [(.long (q0 * ((2 : Int64) - (q0 * q0))))])) _
    refine XS.lstoreN X0.here hx rfl (hb hby d_inverse_11) rfl (l' := #[.val (.long q0), .second, .val (.long (q0 * ((2 : Int64) - (q0 * q0)))), .second]) rfl ?_
    show Steps p.tables e below (s₁.setTop (mkF m 12 #[.val (.long q0), .second, .val (.long (own_x1 q0)), .second] [])) _
    refine XS.lloadN X0.here hx rfl (hb hby d_inverse_12) rfl ?_
    show Steps p.tables e below (s₁.setTop (mkF m 13 #[.val (.long q0), .second, .val (.long (own_x1 q0)), .second] [(.long (own_x1 q0))])) _
    refine X0.ldc2Long hx hown (mvT hZ (hw _ (List.mem_of_getElem? (i := 25) rfl))) (g := (mkF m 13 #[.val (.long q0), .second, .val (.long (own_x1 q0)), .second] [(.long (own_x1 q0))])) rfl (hb hby d_inverse_13) _ ?_
    show Steps p.tables e below (s₁.setTop (mkF m 16 #[.val (.long q0), .second, .val (.long (own_x1 q0)), .second] [(.long (2 : Int64)), (.long (own_x1 q0))])) _
    refine XS.lloadN X0.here hx rfl (hb hby d_inverse_16) rfl ?_
    show Steps p.tables e below (s₁.setTop (mkF m 17 #[.val (.long q0), .second, .val (.long (own_x1 q0)), .second] [(.long q0), (.long (2 : Int64)), (.long (own_x1 q0))])) _
    refine XS.lloadN X0.here hx rfl (hb hby d_inverse_17) rfl ?_
    show Steps p.tables e below (s₁.setTop (mkF m 18 #[.val (.long q0), .second, .val (.long (own_x1 q0)), .second] [(.long (own_x1 q0)), (.long q0), (.long (2 : Int64)), (.long (own_x1 q0))])) _
    refine XS.lmul X0.here hx rfl (hb hby d_inverse_18) rfl ?_
    show Steps p.tables e below (s₁.setTop (mkF m 19 #[.val (.long q0), .second, .val (.long (own_x1 q0)), .second] [(.long (q0 * (own_x1 q0))), (.long (2 : Int64)), (.long (own_x1 q0))])) _
    refine XS.lsub X0.here hx rfl (hb hby d_inverse_19) rfl ?_
    show Steps p.tables e below (s₁.setTop (mkF m 20 #[.val (.long q0), .second, .val (.long (own_x1 q0)), .second] [(.long ((2 : Int64) - (q0 * (own_x1 q0)))), (.long (own_x1 q0))])) _
    refine XS.lmul X0.here hx rfl (hb hby d_inverse_20) rfl ?_
    show Steps p.tables e below (s₁.setTop (mkF m 21 #[.val (.long q0), .second, .val (.long (own_x1 q0)), .second] [(.long ((own_x1 q0) * ((2 : Int64) - (q0 * (own_x1 q0)))))])) _
    refine XS.lstoreN X0.here hx rfl (hb hby d_inverse_21) rfl (l' := #[.val (.long q0), .second, .val (.long ((own_x1 q0) * ((2 : Int64) - (q0 * (own_x1 q0))))), .second]) rfl ?_
    show Steps p.tables e below (s₁.setTop (mkF m 22 #[.val (.long q0), .second, .val (.long (own_x2 q0)), .second] [])) _
    refine XS.lloadN X0.here hx rfl (hb hby d_inverse_22) rfl ?_
    show Steps p.tables e below (s₁.setTop (mkF m 23 #[.val (.long q0), .second, .val (.long (own_x2 q0)), .second] [(.long (own_x2 q0))])) _
    refine X0.ldc2Long hx hown (mvT hZ (hw _ (List.mem_of_getElem? (i := 25) rfl))) (g := (mkF m 23 #[.val (.long q0), .second, .val (.long (own_x2 q0)), .second] [(.long (own_x2 q0))])) rfl (hb hby d_inverse_23) _ ?_
    show Steps p.tables e below (s₁.setTop (mkF m 26 #[.val (.long q0), .second, .val (.long (own_x2 q0)), .second] [(.long (2 : Int64)), (.long (own_x2 q0))])) _
    refine XS.lloadN X0.here hx rfl (hb hby d_inverse_26) rfl ?_
    show Steps p.tables e below (s₁.setTop (mkF m 27 #[.val (.long q0), .second, .val (.long (own_x2 q0)), .second] [(.long q0), (.long (2 : Int64)), (.long (own_x2 q0))])) _
    refine XS.lloadN X0.here hx rfl (hb hby d_inverse_27) rfl ?_
    show Steps p.tables e below (s₁.setTop (mkF m 28 #[.val (.long q0), .second, .val (.long (own_x2 q0)), .second] [(.long (own_x2 q0)), (.long q0), (.long (2 : Int64)), (.long (own_x2 q0))])) _
    refine XS.lmul X0.here hx rfl (hb hby d_inverse_28) rfl ?_
    show Steps p.tables e below (s₁.setTop (mkF m 29 #[.val (.long q0), .second, .val (.long (own_x2 q0)), .second] [(.long (q0 * (own_x2 q0))), (.long (2 : Int64)), (.long (own_x2 q0))])) _
    refine XS.lsub X0.here hx rfl (hb hby d_inverse_29) rfl ?_
    show Steps p.tables e below (s₁.setTop (mkF m 30 #[.val (.long q0), .second, .val (.long (own_x2 q0)), .second] [(.long ((2 : Int64) - (q0 * (own_x2 q0)))), (.long (own_x2 q0))])) _
    refine XS.lmul X0.here hx rfl (hb hby d_inverse_30) rfl ?_
    show Steps p.tables e below (s₁.setTop (mkF m 31 #[.val (.long q0), .second, .val (.long (own_x2 q0)), .second] [(.long ((own_x2 q0) * ((2 : Int64) - (q0 * (own_x2 q0)))))])) _
    refine XS.lstoreN X0.here hx rfl (hb hby d_inverse_31) rfl (l' := #[.val (.long q0), .second, .val (.long ((own_x2 q0) * ((2 : Int64) - (q0 * (own_x2 q0))))), .second]) rfl ?_
    show Steps p.tables e below (s₁.setTop (mkF m 32 #[.val (.long q0), .second, .val (.long (own_x3 q0)), .second] [])) _
    refine XS.lloadN X0.here hx rfl (hb hby d_inverse_32) rfl ?_
    show Steps p.tables e below (s₁.setTop (mkF m 33 #[.val (.long q0), .second, .val (.long (own_x3 q0)), .second] [(.long (own_x3 q0))])) _
    refine X0.ldc2Long hx hown (mvT hZ (hw _ (List.mem_of_getElem? (i := 25) rfl))) (g := (mkF m 33 #[.val (.long q0), .second, .val (.long (own_x3 q0)), .second] [(.long (own_x3 q0))])) rfl (hb hby d_inverse_33) _ ?_
    show Steps p.tables e below (s₁.setTop (mkF m 36 #[.val (.long q0), .second, .val (.long (own_x3 q0)), .second] [(.long (2 : Int64)), (.long (own_x3 q0))])) _
    refine XS.lloadN X0.here hx rfl (hb hby d_inverse_36) rfl ?_
    show Steps p.tables e below (s₁.setTop (mkF m 37 #[.val (.long q0), .second, .val (.long (own_x3 q0)), .second] [(.long q0), (.long (2 : Int64)), (.long (own_x3 q0))])) _
    refine XS.lloadN X0.here hx rfl (hb hby d_inverse_37) rfl ?_
    show Steps p.tables e below (s₁.setTop (mkF m 38 #[.val (.long q0), .second, .val (.long (own_x3 q0)), .second] [(.long (own_x3 q0)), (.long q0), (.long (2 : Int64)), (.long (own_x3 q0))])) _
    refine XS.lmul X0.here hx rfl (hb hby d_inverse_38) rfl ?_
    show Steps p.tables e below (s₁.setTop (mkF m 39 #[.val (.long q0), .second, .val (.long (own_x3 q0)), .second] [(.long (q0 * (own_x3 q0))), (.long (2 : Int64)), (.long (own_x3 q0))])) _
    refine XS.lsub X0.here hx rfl (hb hby d_inverse_39) rfl ?_
    show Steps p.tables e below (s₁.setTop (mkF m 40 #[.val (.long q0), .second, .val (.long (own_x3 q0)), .second] [(.long ((2 : Int64) - (q0 * (own_x3 q0)))), (.long (own_x3 q0))])) _
    refine XS.lmul X0.here hx rfl (hb hby d_inverse_40) rfl ?_
    show Steps p.tables e below (s₁.setTop (mkF m 41 #[.val (.long q0), .second, .val (.long (own_x3 q0)), .second] [(.long ((own_x3 q0) * ((2 : Int64) - (q0 * (own_x3 q0)))))])) _
    refine XS.lstoreN X0.here hx rfl (hb hby d_inverse_41) rfl (l' := #[.val (.long q0), .second, .val (.long ((own_x3 q0) * ((2 : Int64) - (q0 * (own_x3 q0))))), .second]) rfl ?_
    show Steps p.tables e below (s₁.setTop (mkF m 42 #[.val (.long q0), .second, .val (.long (own_x4 q0)), .second] [])) _
    refine XS.lloadN X0.here hx rfl (hb hby d_inverse_42) rfl ?_
    show Steps p.tables e below (s₁.setTop (mkF m 43 #[.val (.long q0), .second, .val (.long (own_x4 q0)), .second] [(.long (own_x4 q0))])) _
    refine X0.ldc2Long hx hown (mvT hZ (hw _ (List.mem_of_getElem? (i := 25) rfl))) (g := (mkF m 43 #[.val (.long q0), .second, .val (.long (own_x4 q0)), .second] [(.long (own_x4 q0))])) rfl (hb hby d_inverse_43) _ ?_
    show Steps p.tables e below (s₁.setTop (mkF m 46 #[.val (.long q0), .second, .val (.long (own_x4 q0)), .second] [(.long (2 : Int64)), (.long (own_x4 q0))])) _
    refine XS.lloadN X0.here hx rfl (hb hby d_inverse_46) rfl ?_
    show Steps p.tables e below (s₁.setTop (mkF m 47 #[.val (.long q0), .second, .val (.long (own_x4 q0)), .second] [(.long q0), (.long (2 : Int64)), (.long (own_x4 q0))])) _
    refine XS.lloadN X0.here hx rfl (hb hby d_inverse_47) rfl ?_
    show Steps p.tables e below (s₁.setTop (mkF m 48 #[.val (.long q0), .second, .val (.long (own_x4 q0)), .second] [(.long (own_x4 q0)), (.long q0), (.long (2 : Int64)), (.long (own_x4 q0))])) _
    refine XS.lmul X0.here hx rfl (hb hby d_inverse_48) rfl ?_
    show Steps p.tables e below (s₁.setTop (mkF m 49 #[.val (.long q0), .second, .val (.long (own_x4 q0)), .second] [(.long (q0 * (own_x4 q0))), (.long (2 : Int64)), (.long (own_x4 q0))])) _
    refine XS.lsub X0.here hx rfl (hb hby d_inverse_49) rfl ?_
    show Steps p.tables e below (s₁.setTop (mkF m 50 #[.val (.long q0), .second, .val (.long (own_x4 q0)), .second] [(.long ((2 : Int64) - (q0 * (own_x4 q0)))), (.long (own_x4 q0))])) _
    refine XS.lmul X0.here hx rfl (hb hby d_inverse_50) rfl ?_
    show Steps p.tables e below (s₁.setTop (mkF m 51 #[.val (.long q0), .second, .val (.long (own_x4 q0)), .second] [(.long ((own_x4 q0) * ((2 : Int64) - (q0 * (own_x4 q0)))))])) _
    refine XS.lstoreN X0.here hx rfl (hb hby d_inverse_51) rfl (l' := #[.val (.long q0), .second, .val (.long ((own_x4 q0) * ((2 : Int64) - (q0 * (own_x4 q0))))), .second]) rfl ?_
    show Steps p.tables e below (s₁.setTop (mkF m 52 #[.val (.long q0), .second, .val (.long (own_x5 q0)), .second] [])) _
    refine XS.lloadN X0.here hx rfl (hb hby d_inverse_52) rfl ?_
    exact ht
  obtain ⟨fs, hr, hrun, hended, hW, hsame⟩ := X0.leave (v := some (.long (own_x5 q0))) (fun h => by rw [Bd.returns] at h; cases h)
  refine ⟨_, _, pre0 _ (k1 _ (retJ X0 hx Bd.returns (hb hby d_inverse_53) hr)), hrun, hended, _, _, rfl, ?_, ⟨_, rfl⟩, hW, hsame.mono (by decide) (by decide)⟩
  show Q_inverse Z q0 h0 n0 _ s₁.heap _
  rw [e0]
  exact ⟨rfl, N0, rfl⟩
theorem pd_0 : parseMethodDescriptor "(J)J" = some ⟨[.long], some .long⟩ := by decide +kernel
theorem d_unmix_0 : decode method_3_code 0 = .ok (.lload_n 0, 1) := by decide +kernel
theorem d_unmix_1 : decode method_3_code 1 = .ok (.lstore_n 2, 1) := by decide +kernel
theorem d_unmix_2 : decode method_3_code 2 = .ok (.lload_n 2, 1) := by decide +kernel
theorem d_unmix_3 : decode method_3_code 3 = .ok (.lload_n 2, 1) := by decide +kernel
theorem d_unmix_4 : decode method_3_code 4 = .ok (.bipush 31, 2) := by decide +kernel
theorem d_unmix_6 : decode method_3_code 6 = .ok (.lushr, 1) := by decide +kernel
theorem d_unmix_7 : decode method_3_code 7 = .ok (.lxor, 1) := by decide +kernel
theorem d_unmix_8 : decode method_3_code 8 = .ok (.lload_n 2, 1) := by decide +kernel
theorem d_unmix_9 : decode method_3_code 9 = .ok (.bipush 62, 2) := by decide +kernel
theorem d_unmix_11 : decode method_3_code 11 = .ok (.lushr, 1) := by decide +kernel
theorem d_unmix_12 : decode method_3_code 12 = .ok (.lxor, 1) := by decide +kernel
theorem d_unmix_13 : decode method_3_code 13 = .ok (.lstore_n 2, 1) := by decide +kernel
theorem d_unmix_14 : decode method_3_code 14 = .ok (.lload_n 2, 1) := by decide +kernel
theorem d_unmix_15 : decode method_3_code 15 = .ok (.ldc2_w 9, 3) := by decide +kernel
theorem d_unmix_18 : decode method_3_code 18 = .ok (.invokestatic 11, 3) := by decide +kernel
theorem d_unmix_21 : decode method_3_code 21 = .ok (.lmul, 1) := by decide +kernel
theorem d_unmix_22 : decode method_3_code 22 = .ok (.lstore_n 2, 1) := by decide +kernel
theorem d_unmix_23 : decode method_3_code 23 = .ok (.lload_n 2, 1) := by decide +kernel
theorem d_unmix_24 : decode method_3_code 24 = .ok (.lload_n 2, 1) := by decide +kernel
theorem d_unmix_25 : decode method_3_code 25 = .ok (.bipush 27, 2) := by decide +kernel
theorem d_unmix_27 : decode method_3_code 27 = .ok (.lushr, 1) := by decide +kernel
theorem d_unmix_28 : decode method_3_code 28 = .ok (.lxor, 1) := by decide +kernel
theorem d_unmix_29 : decode method_3_code 29 = .ok (.lload_n 2, 1) := by decide +kernel
theorem d_unmix_30 : decode method_3_code 30 = .ok (.bipush 54, 2) := by decide +kernel
theorem d_unmix_32 : decode method_3_code 32 = .ok (.lushr, 1) := by decide +kernel
theorem d_unmix_33 : decode method_3_code 33 = .ok (.lxor, 1) := by decide +kernel
theorem d_unmix_34 : decode method_3_code 34 = .ok (.lstore_n 2, 1) := by decide +kernel
theorem d_unmix_35 : decode method_3_code 35 = .ok (.lload_n 2, 1) := by decide +kernel
theorem d_unmix_36 : decode method_3_code 36 = .ok (.ldc2_w 17, 3) := by decide +kernel
theorem d_unmix_39 : decode method_3_code 39 = .ok (.invokestatic 11, 3) := by decide +kernel
theorem d_unmix_42 : decode method_3_code 42 = .ok (.lmul, 1) := by decide +kernel
theorem d_unmix_43 : decode method_3_code 43 = .ok (.lstore_n 2, 1) := by decide +kernel
theorem d_unmix_44 : decode method_3_code 44 = .ok (.lload_n 2, 1) := by decide +kernel
theorem d_unmix_45 : decode method_3_code 45 = .ok (.lload_n 2, 1) := by decide +kernel
theorem d_unmix_46 : decode method_3_code 46 = .ok (.bipush 30, 2) := by decide +kernel
theorem d_unmix_48 : decode method_3_code 48 = .ok (.lushr, 1) := by decide +kernel
theorem d_unmix_49 : decode method_3_code 49 = .ok (.lxor, 1) := by decide +kernel
theorem d_unmix_50 : decode method_3_code 50 = .ok (.lload_n 2, 1) := by decide +kernel
theorem d_unmix_51 : decode method_3_code 51 = .ok (.bipush 60, 2) := by decide +kernel
theorem d_unmix_53 : decode method_3_code 53 = .ok (.lushr, 1) := by decide +kernel
theorem d_unmix_54 : decode method_3_code 54 = .ok (.lxor, 1) := by decide +kernel
theorem d_unmix_55 : decode method_3_code 55 = .ok (.lstore_n 2, 1) := by decide +kernel
theorem d_unmix_56 : decode method_3_code 56 = .ok (.lload_n 2, 1) := by decide +kernel
theorem d_unmix_57 : decode method_3_code 57 = .ok (.lreturn, 1) := by decide +kernel
theorem ef_unmix (m : MethodId) (x0 : Int64) : entryFrame m #[(.long x0)] 4 = mkF m 0 #[.val (.long x0), .second, .unset, .unset] [] := by first | (simp [entryFrame, mkF, argsToLocals, Value.category]; done) | rfl
def Q_unmix (Z : State) (q0 : Int64) (h0 : Heap) (n0 : Nat) (v : Option Value) (h : Heap) (L : List Loc) : Prop := v = some (.long (own_u5 q0)) ∧ Fr n0 L ∧ h = h0
set_option maxRecDepth 65536 in
set_option maxHeartbeats 40000000 in
theorem rm_unmix (l : Launch) (Z : State) (a0 : Array Value) (hw : ∀ d ∈ tables_1, d.before a0 Z = true) (ws : List Jvm.Cond) (q0 : Int64) (h0 : Heap) (n0 : Nat) (Z0 : n0 ≤ h0.size) :
    MetFree l (⟨"com/example/role_conflict_finder/roleconflictfinder/SeededRandomNextLongPinLaw", "unmix", "(J)J"⟩ : MethodName) (head1 (Jvm.Cond.code (⟨"com/example/role_conflict_finder/roleconflictfinder/SeededRandomNextLongPinLaw", "unmix", "(J)J"⟩ : MethodName) method_3_code 4 (some .long) :: ws) ({ frames := 1, cells := 0, slots := 0, locals := 17 } : Room)) (fun a U => a = #[(.long q0)] ∧ Z.Warmed39 U.vm ∧ U.heap = h0) (fun _ _ _ _ _ => True) (fun _ U o U' => ∃ v L, o = .returned v ∧ Q_unmix Z q0 h0 n0 v U'.heap L ∧ FrameEnd U o U' L ({ frames := 1, cells := 0, slots := 0, locals := 17 } : Room).cells ({ frames := 1, cells := 0, slots := 0, locals := 17 } : Room).slots) := by
  refine MetFree.of_bodySF (plainFor_of_name pn_1) hisR ?_
  intro p e s m args below meth c s₁ Bd hml0 hP hK
  obtain ⟨rfl, hZ, hh⟩ := hP
  have hx := Bd.exec
  have hby := Bd.bytes
  have hml : c.maxLocals = 4 := hml0
  have hown : s.vm.findClass "com/example/role_conflict_finder/roleconflictfinder/SeededRandomNextLongPinLaw" = some m.cls := findClass_of_methodNamed Bd.named
  have hnm := (name_of_methodNamed Bd.named Bd.method).1
  have X0 : Stand p l e ({ frames := 1, cells := 0, slots := 0, locals := 17 } : Room) s m #[(.long q0)] below meth c s₁ [] 0 0 := Stand.of_body Bd
  have e0 : s₁.heap = h0 := by rw [← hh, Bd.state]; rfl
  have N0 := Fr.nil n0
  have pre0 : ∀ t, Steps p.tables e below (s₁.setTop (mkF m 0 #[.val (.long q0), .second, .unset, .unset] [])) t → Steps p.tables e below (s₁.setTop (entryFrame m #[(.long q0)] 4)) t := fun t k => castTop (ef_unmix m q0) k
  have k1 : Go p.tables e below (s₁.setTop (mkF m 0 #[.val (.long q0), .second, .unset, .unset] [])) (s₁.setTop (mkF m 18 #[.val (.long q0), .second, .val (.long (own_u1 q0)), .second] [(.long (-7723592293110705685 : Int64)), (.long (own_u1 q0))])) := by
    intro t ht
    refine XS.lloadN X0.here hx rfl (hb hby d_unmix_0) rfl ?_
    show Steps p.tables e below (s₁.setTop (mkF m 1 #[.val (.long q0), .second, .unset, .unset] [(.long q0)])) _
    refine XS.lstoreN X0.here hx rfl (hb hby d_unmix_1) rfl (l' := #[.val (.long q0), .second, .val (.long q0), .second]) rfl ?_
    show Steps p.tables e below (s₁.setTop (mkF m 2 #[.val (.long q0), .second, .val (.long q0), .second] [])) _
    refine XS.lloadN X0.here hx rfl (hb hby d_unmix_2) rfl ?_
    show Steps p.tables e below (s₁.setTop (mkF m 3 #[.val (.long q0), .second, .val (.long q0), .second] [(.long q0)])) _
    refine XS.lloadN X0.here hx rfl (hb hby d_unmix_3) rfl ?_
    show Steps p.tables e below (s₁.setTop (mkF m 4 #[.val (.long q0), .second, .val (.long q0), .second] [(.long q0), (.long q0)])) _
    refine XS.bipush X0.here hx rfl (hb hby d_unmix_4) ?_
    show Steps p.tables e below (s₁.setTop (mkF m 6 #[.val (.long q0), .second, .val (.long q0), .second] [(.int (31 : Int32)), (.long q0), (.long q0)])) _
    refine XS.lushr X0.here hx rfl (hb hby d_unmix_6) rfl ?_
    show Steps p.tables e below (s₁.setTop (mkF m 7 #[.val (.long q0), .second, .val (.long q0), .second] [(.long ((q0.toUInt64 >>> ((31 : Int32) &&& 0x3f).toInt64.toUInt64).toInt64)), (.long q0)])) _
    refine XS.lxor X0.here hx rfl (hb hby d_unmix_7) rfl ?_
    show Steps p.tables e below (s₁.setTop (mkF m 8 #[.val (.long q0), .second, .val (.long q0), .second] [(.long (q0 ^^^ ((q0.toUInt64 >>> ((31 : Int32) &&& 0x3f).toInt64.toUInt64).toInt64)))])) _
    refine XS.lloadN X0.here hx rfl (hb hby d_unmix_8) rfl ?_
    show Steps p.tables e below (s₁.setTop (mkF m 9 #[.val (.long q0), .second, .val (.long q0), .second] [(.long q0), (.long (q0 ^^^ ((q0.toUInt64 >>> ((31 : Int32) &&& 0x3f).toInt64.toUInt64).toInt64)))])) _
    refine XS.bipush X0.here hx rfl (hb hby d_unmix_9) ?_
    show Steps p.tables e below (s₁.setTop (mkF m 11 #[.val (.long q0), .second, .val (.long q0), .second] [(.int (62 : Int32)), (.long q0), (.long (q0 ^^^ ((q0.toUInt64 >>> ((31 : Int32) &&& 0x3f).toInt64.toUInt64).toInt64)))])) _
    refine XS.lushr X0.here hx rfl (hb hby d_unmix_11) rfl ?_
    show Steps p.tables e below (s₁.setTop (mkF m 12 #[.val (.long q0), .second, .val (.long q0), .second] [(.long ((q0.toUInt64 >>> ((62 : Int32) &&& 0x3f).toInt64.toUInt64).toInt64)), (.long (q0 ^^^ ((q0.toUInt64 >>> ((31 : Int32) &&& 0x3f).toInt64.toUInt64).toInt64)))])) _
    refine XS.lxor X0.here hx rfl (hb hby d_unmix_12) rfl ?_
    show Steps p.tables e below (s₁.setTop (mkF m 13 #[.val (.long q0), .second, .val (.long q0), .second] [(.long ((q0 ^^^ ((q0.toUInt64 >>> ((31 : Int32) &&& 0x3f).toInt64.toUInt64).toInt64)) ^^^ ((q0.toUInt64 >>> ((62 : Int32) &&& 0x3f).toInt64.toUInt64).toInt64)))])) _
    refine XS.lstoreN X0.here hx rfl (hb hby d_unmix_13) rfl (l' := #[.val (.long q0), .second, .val (.long ((q0 ^^^ ((q0.toUInt64 >>> ((31 : Int32) &&& 0x3f).toInt64.toUInt64).toInt64)) ^^^ ((q0.toUInt64 >>> ((62 : Int32) &&& 0x3f).toInt64.toUInt64).toInt64))), .second]) rfl ?_
    show Steps p.tables e below (s₁.setTop (mkF m 14 #[.val (.long q0), .second, .val (.long (own_u1 q0)), .second] [])) _
    refine XS.lloadN X0.here hx rfl (hb hby d_unmix_14) rfl ?_
    show Steps p.tables e below (s₁.setTop (mkF m 15 #[.val (.long q0), .second, .val (.long (own_u1 q0)), .second] [(.long (own_u1 q0))])) _
    refine X0.ldc2Long hx hown (mvT hZ (hw _ (List.mem_of_getElem? (i := 20) rfl))) (g := (mkF m 15 #[.val (.long q0), .second, .val (.long (own_u1 q0)), .second] [(.long (own_u1 q0))])) rfl (hb hby d_unmix_15) _ ?_
    exact ht
  obtain ⟨_, _, ⟨T2, L2, kq2, n2⟩, -, X2, ⟨Lc2, hQ2, l2, y2, z2⟩, st2⟩ := Jvm.LawKit.callS X0 hx (y := (⟨"com/example/role_conflict_finder/roleconflictfinder/SeededRandomNextLongPinLaw", "inverse", "(J)J"⟩ : MethodName)) hown (mvT hZ (hw _ (List.mem_of_getElem? (i := 21) rfl))) (mvT hZ (hw _ (List.mem_of_getElem? (i := 22) rfl))) (mvT hZ (hw _ (List.mem_of_getElem? (i := 23) rfl))) (mvT hZ (hw _ (List.mem_of_getElem? (i := 24) rfl))) (by decide) (backOf (W := 2) (rm_inverse l Z a0 hw [] (-7723592293110705685 : Int64) h0 n0 Z0 ) hZ (hw _ (List.mem_of_getElem? (i := 24) rfl)) (hw _ (List.mem_of_getElem? (i := 23) rfl)) (by decide) (by decide)) (g := (mkF m 18 #[.val (.long q0), .second, .val (.long (own_u1 q0)), .second] [(.long (-7723592293110705685 : Int64)), (.long (own_u1 q0))])) rfl (by rw [hml]; rfl) (argsL := [(.long (-7723592293110705685 : Int64))]) (rest := [(.long (own_u1 q0))]) (lenOf pd_0 rfl) rfl (by show 2 * 0 + _ ≤ _; exact Nat.le_of_eq rfl) (hb hby d_unmix_18) (fun _ _ => ⟨rfl, e0, (by decide : 0 + 0 ≤ _), (by decide : 0 + 0 ≤ _)⟩)
  dsimp only [Pt.U, Pt.locs, Pt.cells, Pt.slots] at X2 l2 y2 z2 st2 hQ2
  subst l2 y2 z2
  obtain ⟨rfl, N2q, eq2⟩ := hQ2
  have N2 := Fr.app N0 N2q
  have k2 : Go p.tables e below (s₁.setTop (mkF m 18 #[.val (.long q0), .second, .val (.long (own_u1 q0)), .second] [(.long (-7723592293110705685 : Int64)), (.long (own_u1 q0))])) (T2.setTop (mkF m 21 #[.val (.long q0), .second, .val (.long (own_u1 q0)), .second] [(.long (own_x5 (-7723592293110705685 : Int64))), (.long (own_u1 q0))])) := st2
  have k3 : Go p.tables e below (T2.setTop (mkF m 21 #[.val (.long q0), .second, .val (.long (own_u1 q0)), .second] [(.long (own_x5 (-7723592293110705685 : Int64))), (.long (own_u1 q0))])) (T2.setTop (mkF m 39 #[.val (.long q0), .second, .val (.long (own_u3 q0)), .second] [(.long (-4658895280553007687 : Int64)), (.long (own_u3 q0))])) := by
    intro t ht
    refine XS.lmul X2.here hx rfl (hb hby d_unmix_21) rfl ?_
    show Steps p.tables e below (T2.setTop (mkF m 22 #[.val (.long q0), .second, .val (.long (own_u1 q0)), .second] [(.long ((own_u1 q0) * (own_x5 (-7723592293110705685 : Int64))))])) _
    refine XS.lstoreN X2.here hx rfl (hb hby d_unmix_22) rfl (l' := #[.val (.long q0), .second, .val (.long ((own_u1 q0) * (own_x5 (-7723592293110705685 : Int64)))), .second]) rfl ?_
    show Steps p.tables e below (T2.setTop (mkF m 23 #[.val (.long q0), .second, .val (.long (own_u2 q0)), .second] [])) _
    refine XS.lloadN X2.here hx rfl (hb hby d_unmix_23) rfl ?_
    show Steps p.tables e below (T2.setTop (mkF m 24 #[.val (.long q0), .second, .val (.long (own_u2 q0)), .second] [(.long (own_u2 q0))])) _
    refine XS.lloadN X2.here hx rfl (hb hby d_unmix_24) rfl ?_
    show Steps p.tables e below (T2.setTop (mkF m 25 #[.val (.long q0), .second, .val (.long (own_u2 q0)), .second] [(.long (own_u2 q0)), (.long (own_u2 q0))])) _
    refine XS.bipush X2.here hx rfl (hb hby d_unmix_25) ?_
    show Steps p.tables e below (T2.setTop (mkF m 27 #[.val (.long q0), .second, .val (.long (own_u2 q0)), .second] [(.int (27 : Int32)), (.long (own_u2 q0)), (.long (own_u2 q0))])) _
    refine XS.lushr X2.here hx rfl (hb hby d_unmix_27) rfl ?_
    show Steps p.tables e below (T2.setTop (mkF m 28 #[.val (.long q0), .second, .val (.long (own_u2 q0)), .second] [(.long (((own_u2 q0).toUInt64 >>> ((27 : Int32) &&& 0x3f).toInt64.toUInt64).toInt64)), (.long (own_u2 q0))])) _
    refine XS.lxor X2.here hx rfl (hb hby d_unmix_28) rfl ?_
    show Steps p.tables e below (T2.setTop (mkF m 29 #[.val (.long q0), .second, .val (.long (own_u2 q0)), .second] [(.long ((own_u2 q0) ^^^ (((own_u2 q0).toUInt64 >>> ((27 : Int32) &&& 0x3f).toInt64.toUInt64).toInt64)))])) _
    refine XS.lloadN X2.here hx rfl (hb hby d_unmix_29) rfl ?_
    show Steps p.tables e below (T2.setTop (mkF m 30 #[.val (.long q0), .second, .val (.long (own_u2 q0)), .second] [(.long (own_u2 q0)), (.long ((own_u2 q0) ^^^ (((own_u2 q0).toUInt64 >>> ((27 : Int32) &&& 0x3f).toInt64.toUInt64).toInt64)))])) _
    refine XS.bipush X2.here hx rfl (hb hby d_unmix_30) ?_
    show Steps p.tables e below (T2.setTop (mkF m 32 #[.val (.long q0), .second, .val (.long (own_u2 q0)), .second] [(.int (54 : Int32)), (.long (own_u2 q0)), (.long ((own_u2 q0) ^^^ (((own_u2 q0).toUInt64 >>> ((27 : Int32) &&& 0x3f).toInt64.toUInt64).toInt64)))])) _
    refine XS.lushr X2.here hx rfl (hb hby d_unmix_32) rfl ?_
    show Steps p.tables e below (T2.setTop (mkF m 33 #[.val (.long q0), .second, .val (.long (own_u2 q0)), .second] [(.long (((own_u2 q0).toUInt64 >>> ((54 : Int32) &&& 0x3f).toInt64.toUInt64).toInt64)), (.long ((own_u2 q0) ^^^ (((own_u2 q0).toUInt64 >>> ((27 : Int32) &&& 0x3f).toInt64.toUInt64).toInt64)))])) _
    refine XS.lxor X2.here hx rfl (hb hby d_unmix_33) rfl ?_
    show Steps p.tables e below (T2.setTop (mkF m 34 #[.val (.long q0), .second, .val (.long (own_u2 q0)), .second] [(.long (((own_u2 q0) ^^^ (((own_u2 q0).toUInt64 >>> ((27 : Int32) &&& 0x3f).toInt64.toUInt64).toInt64)) ^^^ (((own_u2 q0).toUInt64 >>> ((54 : Int32) &&& 0x3f).toInt64.toUInt64).toInt64)))])) _
    refine XS.lstoreN X2.here hx rfl (hb hby d_unmix_34) rfl (l' := #[.val (.long q0), .second, .val (.long (((own_u2 q0) ^^^ (((own_u2 q0).toUInt64 >>> ((27 : Int32) &&& 0x3f).toInt64.toUInt64).toInt64)) ^^^ (((own_u2 q0).toUInt64 >>> ((54 : Int32) &&& 0x3f).toInt64.toUInt64).toInt64))), .second]) rfl ?_
    show Steps p.tables e below (T2.setTop (mkF m 35 #[.val (.long q0), .second, .val (.long (own_u3 q0)), .second] [])) _
    refine XS.lloadN X2.here hx rfl (hb hby d_unmix_35) rfl ?_
    show Steps p.tables e below (T2.setTop (mkF m 36 #[.val (.long q0), .second, .val (.long (own_u3 q0)), .second] [(.long (own_u3 q0))])) _
    refine X2.ldc2Long hx hown (mvT hZ (hw _ (List.mem_of_getElem? (i := 26) rfl))) (g := (mkF m 36 #[.val (.long q0), .second, .val (.long (own_u3 q0)), .second] [(.long (own_u3 q0))])) rfl (hb hby d_unmix_36) _ ?_
    exact ht
  obtain ⟨_, _, ⟨T4, L4, kq4, n4⟩, -, X4, ⟨Lc4, hQ4, l4, y4, z4⟩, st4⟩ := Jvm.LawKit.callS X2 hx (y := (⟨"com/example/role_conflict_finder/roleconflictfinder/SeededRandomNextLongPinLaw", "inverse", "(J)J"⟩ : MethodName)) hown (mvT hZ (hw _ (List.mem_of_getElem? (i := 21) rfl))) (mvT hZ (hw _ (List.mem_of_getElem? (i := 22) rfl))) (mvT hZ (hw _ (List.mem_of_getElem? (i := 23) rfl))) (mvT hZ (hw _ (List.mem_of_getElem? (i := 24) rfl))) (by decide) (backOf (W := 2) (rm_inverse l Z a0 hw [] (-4658895280553007687 : Int64) h0 n0 Z0 ) hZ (hw _ (List.mem_of_getElem? (i := 24) rfl)) (hw _ (List.mem_of_getElem? (i := 23) rfl)) (by decide) (by decide)) (g := (mkF m 39 #[.val (.long q0), .second, .val (.long (own_u3 q0)), .second] [(.long (-4658895280553007687 : Int64)), (.long (own_u3 q0))])) rfl (by rw [hml]; rfl) (argsL := [(.long (-4658895280553007687 : Int64))]) (rest := [(.long (own_u3 q0))]) (lenOf pd_0 rfl) rfl (by show 2 * 0 + _ ≤ _; exact Nat.le_of_eq rfl) (hb hby d_unmix_39) (fun _ _ => ⟨rfl, eq2, (by decide : 0 + 0 ≤ _), (by decide : 0 + 0 ≤ _)⟩)
  dsimp only [Pt.U, Pt.locs, Pt.cells, Pt.slots] at X4 l4 y4 z4 st4 hQ4
  subst l4 y4 z4
  obtain ⟨rfl, N4q, eq4⟩ := hQ4
  have N4 := Fr.app N2 N4q
  have k4 : Go p.tables e below (T2.setTop (mkF m 39 #[.val (.long q0), .second, .val (.long (own_u3 q0)), .second] [(.long (-4658895280553007687 : Int64)), (.long (own_u3 q0))])) (T4.setTop (mkF m 42 #[.val (.long q0), .second, .val (.long (own_u3 q0)), .second] [(.long (own_x5 (-4658895280553007687 : Int64))), (.long (own_u3 q0))])) := st4
  have k5 : Go p.tables e below (T4.setTop (mkF m 42 #[.val (.long q0), .second, .val (.long (own_u3 q0)), .second] [(.long (own_x5 (-4658895280553007687 : Int64))), (.long (own_u3 q0))])) (T4.setTop (mkF m 57 #[.val (.long q0), .second, .val (.long (own_u5 q0)), .second] [(.long (own_u5 q0))])) := by
    intro t ht
    refine XS.lmul X4.here hx rfl (hb hby d_unmix_42) rfl ?_
    show Steps p.tables e below (T4.setTop (mkF m 43 #[.val (.long q0), .second, .val (.long (own_u3 q0)), .second] [(.long ((own_u3 q0) * (own_x5 (-4658895280553007687 : Int64))))])) _
    refine XS.lstoreN X4.here hx rfl (hb hby d_unmix_43) rfl (l' := #[.val (.long q0), .second, .val (.long ((own_u3 q0) * (own_x5 (-4658895280553007687 : Int64)))), .second]) rfl ?_
    show Steps p.tables e below (T4.setTop (mkF m 44 #[.val (.long q0), .second, .val (.long (own_u4 q0)), .second] [])) _
    refine XS.lloadN X4.here hx rfl (hb hby d_unmix_44) rfl ?_
    show Steps p.tables e below (T4.setTop (mkF m 45 #[.val (.long q0), .second, .val (.long (own_u4 q0)), .second] [(.long (own_u4 q0))])) _
    refine XS.lloadN X4.here hx rfl (hb hby d_unmix_45) rfl ?_
    show Steps p.tables e below (T4.setTop (mkF m 46 #[.val (.long q0), .second, .val (.long (own_u4 q0)), .second] [(.long (own_u4 q0)), (.long (own_u4 q0))])) _
    refine XS.bipush X4.here hx rfl (hb hby d_unmix_46) ?_
    show Steps p.tables e below (T4.setTop (mkF m 48 #[.val (.long q0), .second, .val (.long (own_u4 q0)), .second] [(.int (30 : Int32)), (.long (own_u4 q0)), (.long (own_u4 q0))])) _
    refine XS.lushr X4.here hx rfl (hb hby d_unmix_48) rfl ?_
    show Steps p.tables e below (T4.setTop (mkF m 49 #[.val (.long q0), .second, .val (.long (own_u4 q0)), .second] [(.long (((own_u4 q0).toUInt64 >>> ((30 : Int32) &&& 0x3f).toInt64.toUInt64).toInt64)), (.long (own_u4 q0))])) _
    refine XS.lxor X4.here hx rfl (hb hby d_unmix_49) rfl ?_
    show Steps p.tables e below (T4.setTop (mkF m 50 #[.val (.long q0), .second, .val (.long (own_u4 q0)), .second] [(.long ((own_u4 q0) ^^^ (((own_u4 q0).toUInt64 >>> ((30 : Int32) &&& 0x3f).toInt64.toUInt64).toInt64)))])) _
    refine XS.lloadN X4.here hx rfl (hb hby d_unmix_50) rfl ?_
    show Steps p.tables e below (T4.setTop (mkF m 51 #[.val (.long q0), .second, .val (.long (own_u4 q0)), .second] [(.long (own_u4 q0)), (.long ((own_u4 q0) ^^^ (((own_u4 q0).toUInt64 >>> ((30 : Int32) &&& 0x3f).toInt64.toUInt64).toInt64)))])) _
    refine XS.bipush X4.here hx rfl (hb hby d_unmix_51) ?_
    show Steps p.tables e below (T4.setTop (mkF m 53 #[.val (.long q0), .second, .val (.long (own_u4 q0)), .second] [(.int (60 : Int32)), (.long (own_u4 q0)), (.long ((own_u4 q0) ^^^ (((own_u4 q0).toUInt64 >>> ((30 : Int32) &&& 0x3f).toInt64.toUInt64).toInt64)))])) _
    refine XS.lushr X4.here hx rfl (hb hby d_unmix_53) rfl ?_
    show Steps p.tables e below (T4.setTop (mkF m 54 #[.val (.long q0), .second, .val (.long (own_u4 q0)), .second] [(.long (((own_u4 q0).toUInt64 >>> ((60 : Int32) &&& 0x3f).toInt64.toUInt64).toInt64)), (.long ((own_u4 q0) ^^^ (((own_u4 q0).toUInt64 >>> ((30 : Int32) &&& 0x3f).toInt64.toUInt64).toInt64)))])) _
    refine XS.lxor X4.here hx rfl (hb hby d_unmix_54) rfl ?_
    show Steps p.tables e below (T4.setTop (mkF m 55 #[.val (.long q0), .second, .val (.long (own_u4 q0)), .second] [(.long (((own_u4 q0) ^^^ (((own_u4 q0).toUInt64 >>> ((30 : Int32) &&& 0x3f).toInt64.toUInt64).toInt64)) ^^^ (((own_u4 q0).toUInt64 >>> ((60 : Int32) &&& 0x3f).toInt64.toUInt64).toInt64)))])) _
    refine XS.lstoreN X4.here hx rfl (hb hby d_unmix_55) rfl (l' := #[.val (.long q0), .second, .val (.long (((own_u4 q0) ^^^ (((own_u4 q0).toUInt64 >>> ((30 : Int32) &&& 0x3f).toInt64.toUInt64).toInt64)) ^^^ (((own_u4 q0).toUInt64 >>> ((60 : Int32) &&& 0x3f).toInt64.toUInt64).toInt64))), .second]) rfl ?_
    show Steps p.tables e below (T4.setTop (mkF m 56 #[.val (.long q0), .second, .val (.long (own_u5 q0)), .second] [])) _
    refine XS.lloadN X4.here hx rfl (hb hby d_unmix_56) rfl ?_
    exact ht
  obtain ⟨fs, hr, hrun, hended, hW, hsame⟩ := X4.leave (v := some (.long (own_u5 q0))) (fun h => by rw [Bd.returns] at h; cases h)
  refine ⟨_, _, pre0 _ ((goT k1 (goT k2 (goT k3 (goT k4 k5)))) _ (retJ X4 hx Bd.returns (hb hby d_unmix_57) hr)), hrun, hended, _, _, rfl, ?_, ⟨_, rfl⟩, hW, hsame.mono (by decide) (by decide)⟩
  show Q_unmix Z q0 h0 n0 _ T4.heap _
  rw [eq4]
  exact ⟨rfl, N4, rfl⟩
theorem own_inv1 : own_x5 (-7723592293110705685 : Int64) * (-7723592293110705685 : Int64) = 1 := by decide +kernel
theorem own_inv2 : own_x5 (-4658895280553007687 : Int64) * (-4658895280553007687 : Int64) = 1 := by decide +kernel
theorem own_shb (z : Int64) (k : Int32) (n : Nat) (h : ((k &&& 0x3f).toInt64.toUInt64.toBitVec % 64).toNat = n) : (own_sh z k).toBitVec = z.toBitVec >>> n := by
  show (z.toUInt64 >>> (k &&& 0x3f).toInt64.toUInt64).toBitVec = _
  rw [UInt64.toBitVec_shiftRight]
  show z.toBitVec >>> ((k &&& 0x3f).toInt64.toUInt64.toBitVec % 64).toNat = _
  rw [h]
theorem own_xs (z : BitVec 64) (k : Nat) (h : 64 ≤ 3 * k) : ((z ^^^ (z >>> k)) ^^^ ((z ^^^ (z >>> k)) >>> k)) ^^^ ((z ^^^ (z >>> k)) >>> (2 * k)) = z := by
  apply BitVec.eq_of_getLsbD_eq
  intro i hi
  simp only [BitVec.getLsbD_xor, BitVec.getLsbD_ushiftRight]
  have e : z.getLsbD (k + (2 * k + i)) = false := BitVec.getLsbD_of_ge _ _ (by omega)
  have e2 : 2 * k + i = k + (k + i) := by omega
  rw [e, e2]
  cases z.getLsbD i <;> cases z.getLsbD (k + i) <;> cases z.getLsbD (k + (k + i)) <;> rfl
theorem own_xsh (z : Int64) (k k2 : Int32) (n : Nat) (h1 : ((k &&& 0x3f).toInt64.toUInt64.toBitVec % 64).toNat = n) (h2 : ((k2 &&& 0x3f).toInt64.toUInt64.toBitVec % 64).toNat = 2 * n) (h : 64 ≤ 3 * n) :
    ((z ^^^ own_sh z k) ^^^ own_sh (z ^^^ own_sh z k) k) ^^^ own_sh (z ^^^ own_sh z k) k2 = z := by
  apply Int64.toBitVec_inj.mp
  simp only [Int64.toBitVec_xor, own_shb _ k n h1, own_shb _ k2 (2 * n) h2]
  exact own_xs _ _ h
theorem own_back (z c i : Int64) (h : i * c = 1) : z * c * i = z := by
  rw [Int64.mul_assoc, Int64.mul_comm c i, h, Int64.mul_one]
theorem own_unmix (s : Int64) : own_u5 (own_m3 s) = s := by
  have e1 : own_u1 (own_m3 s) = own_m2 s := own_xsh (own_m2 s) 31 62 31 (by decide +kernel) (by decide +kernel) (by decide)
  have e2 : own_u2 (own_m3 s) = own_m1 s ^^^ own_sh (own_m1 s) 27 := by
    rw [own_u2, e1, own_m2]; exact own_back _ _ _ own_inv1
  have e3 : own_u3 (own_m3 s) = own_m1 s := by
    rw [own_u3, e2]; exact own_xsh (own_m1 s) 27 54 27 (by decide +kernel) (by decide +kernel) (by decide)
  have e4 : own_u4 (own_m3 s) = s ^^^ own_sh s 30 := by
    rw [own_u4, e3, own_m1]; exact own_back _ _ _ own_inv2
  rw [own_u5, e4]
  exact own_xsh s 30 60 30 (by decide +kernel) (by decide +kernel) (by decide)
theorem own_law1 (q : Int64) : own_u5 (own_m3 (q + (-7046029254386353131 : Int64))) = q + (-7046029254386353131 : Int64) := own_unmix _
theorem own_law2 (q : Int64) : own_u5 (own_m3 ((q + (-7046029254386353131 : Int64)) + (-7046029254386353131 : Int64))) = q + ((2 : Int64) * (-7046029254386353131 : Int64)) := by
  rw [own_unmix, Int64.add_assoc]; rfl
theorem pd_1 : parseMethodDescriptor "(J)V" = some ⟨[.long], none⟩ := by decide +kernel
theorem pd_2 : parseMethodDescriptor "()J" = some ⟨[], some .long⟩ := by decide +kernel
theorem ef_law (m : MethodId) (x0 : Int64) : entryFrame m #[(.long x0)] maxLocals = mkF m 0 #[.val (.long x0), .second, .unset, .unset, .unset, .unset, .unset, .unset, .unset, .unset] [] := by first | (simp [entryFrame, mkF, argsToLocals, Value.category, maxLocals]; done) | rfl
def Q_law (Z : State) (q0 : Int64) (h0 : Heap) (n0 : Nat) (v : Option Value) (h : Heap) (L : List Loc) : Prop := v = some (.int (1 : Int32)) ∧ Fr n0 L
set_option maxRecDepth 65536 in
set_option maxHeartbeats 40000000 in
theorem rm_law (l : Launch) (Z : State) (a0 : Array Value) (hw : ∀ d ∈ tables_1, d.before a0 Z = true) (ws : List Jvm.Cond) (q0 : Int64) (h0 : Heap) (n0 : Nat) (Z0 : n0 ≤ h0.size) :
    MetFree l x (head1 (Jvm.Cond.code x code maxLocals ret :: ws) room_1) (fun a U => a = #[(.long q0)] ∧ Z.Warmed39 U.vm ∧ U.heap = h0) (fun _ _ _ _ _ => True) (fun _ U o U' => ∃ v L, o = .returned v ∧ Q_law Z q0 h0 n0 v U'.heap L ∧ FrameEnd U o U' L room_1.cells room_1.slots) := by
  refine MetFree.of_bodySF (plainFor_of_name pn_1) hisR ?_
  intro p e s m args below meth c s₁ Bd hml0 hP hK
  obtain ⟨rfl, hZ, hh⟩ := hP
  have hx := Bd.exec
  have hby := Bd.bytes
  have hml : c.maxLocals = 10 := hml0
  have hown : s.vm.findClass "com/example/role_conflict_finder/roleconflictfinder/SeededRandomNextLongPinLaw" = some m.cls := findClass_of_methodNamed Bd.named
  have hnm := (name_of_methodNamed Bd.named Bd.method).1
  have X0 : Stand p l e room_1 s m #[(.long q0)] below meth c s₁ [] 0 0 := Stand.of_body Bd
  have e0 : s₁.heap = h0 := by rw [← hh, Bd.state]; rfl
  have N0 := Fr.nil n0
  have pre0 : ∀ t, Steps p.tables e below (s₁.setTop (mkF m 0 #[.val (.long q0), .second, .unset, .unset, .unset, .unset, .unset, .unset, .unset, .unset] [])) t → Steps p.tables e below (s₁.setTop (entryFrame m #[(.long q0)] maxLocals)) t := fun t k => castTop (ef_law m q0) k
  have k1 : Go p.tables e below (s₁.setTop (mkF m 0 #[.val (.long q0), .second, .unset, .unset, .unset, .unset, .unset, .unset, .unset, .unset] [])) (s₁.setTop (mkF m 4 #[.val (.long q0), .second, .val (.long (-7046029254386353131 : Int64)), .second, .unset, .unset, .unset, .unset, .unset, .unset] [])) := by
    intro t ht
    refine X0.ldc2Long hx hown (mvT hZ (hw _ (List.mem_of_getElem? (i := 0) rfl))) (g := (mkF m 0 #[.val (.long q0), .second, .unset, .unset, .unset, .unset, .unset, .unset, .unset, .unset] [])) rfl (hb hby at_0) _ ?_
    show Steps p.tables e below (s₁.setTop (mkF m 3 #[.val (.long q0), .second, .unset, .unset, .unset, .unset, .unset, .unset, .unset, .unset] [(.long (-7046029254386353131 : Int64))])) _
    refine XS.lstoreN X0.here hx rfl (hb hby at_3) rfl (l' := #[.val (.long q0), .second, .val (.long (-7046029254386353131 : Int64)), .second, .unset, .unset, .unset, .unset, .unset, .unset]) rfl ?_
    exact ht
  obtain ⟨T2, h2, X2, e2, E2, A2, D2, -, st2⟩ := newO X0 hx hZ hown (hw _ (List.mem_of_getElem? (i := 1) rfl)) (hw _ (List.mem_of_getElem? (i := 2) rfl)) (hw _ (List.mem_of_getElem? (i := 3) rfl)) e0 (g := (mkF m 4 #[.val (.long q0), .second, .val (.long (-7046029254386353131 : Int64)), .second, .unset, .unset, .unset, .unset, .unset, .unset] [])) rfl (hb hby at_4) (by decide) (by decide)
  obtain ⟨b2, g2⟩ : ∃ z, z = h0.size := ⟨_, rfl⟩
  rw [← g2] at A2 D2 st2
  have g_b2 : n0 ≤ b2 := Nat.le_trans Z0 (Nat.le_of_eq g2.symm)
  have sz_b2 : h0.size ≤ b2 := Nat.le_trans (Keep.refl h0 []).1 (Nat.le_of_eq g2.symm)
  have Kp2 : Keep h0 h2 [] := (Keep.refl h0 []).ext E2
  have Z2 : n0 ≤ h2.size := Nat.le_trans Z0 E2.1
  have F_state_b2 : Fld Z h2 b2 "com/example/role_conflict_finder/roleconflictfinder/SeededRandom" "state" "J" (.long (0 : Int64)) := D2 (Or.inl (hw _ (List.mem_of_getElem? (i := 11) rfl))) (ty := .long) (by decide)
  have k2 : Go p.tables e below (s₁.setTop (mkF m 4 #[.val (.long q0), .second, .val (.long (-7046029254386353131 : Int64)), .second, .unset, .unset, .unset, .unset, .unset, .unset] [])) (T2.setTop (mkF m 7 #[.val (.long q0), .second, .val (.long (-7046029254386353131 : Int64)), .second, .unset, .unset, .unset, .unset, .unset, .unset] [(.ref b2)])) := st2
  have k3 : Go p.tables e below (T2.setTop (mkF m 7 #[.val (.long q0), .second, .val (.long (-7046029254386353131 : Int64)), .second, .unset, .unset, .unset, .unset, .unset, .unset] [(.ref b2)])) (T2.setTop (mkF m 9 #[.val (.long q0), .second, .val (.long (-7046029254386353131 : Int64)), .second, .unset, .unset, .unset, .unset, .unset, .unset] [(.long q0), (.ref b2), (.ref b2)])) := by
    intro t ht
    refine XS.dup X2.here hx rfl (hb hby at_7) rfl rfl ?_
    show Steps p.tables e below (T2.setTop (mkF m 8 #[.val (.long q0), .second, .val (.long (-7046029254386353131 : Int64)), .second, .unset, .unset, .unset, .unset, .unset, .unset] [(.ref b2), (.ref b2)])) _
    refine XS.lloadN X2.here hx rfl (hb hby at_8) rfl ?_
    exact ht
  obtain ⟨_, _, ⟨T4, L4, kq4, n4⟩, -, X4, ⟨Lc4, hQ4, l4, y4, z4⟩, st4⟩ := X2.specialBack hx (y := (⟨"com/example/role_conflict_finder/roleconflictfinder/SeededRandom", "<init>", "(J)V"⟩ : MethodName)) rfl hown (mvT hZ (hw _ (List.mem_of_getElem? (i := 4) rfl))) (mvT hZ (hw _ (List.mem_of_getElem? (i := 5) rfl))) (mvT hZ (hw _ (List.mem_of_getElem? (i := 6) rfl))) (by decide) (backOf (W := 1) (rm_init l Z a0 hw [] b2 q0 h2 n0 Z2 F_state_b2 A2 g_b2) hZ (hw _ (List.mem_of_getElem? (i := 6) rfl)) (hw _ (List.mem_of_getElem? (i := 3) rfl)) (by decide) (by decide)) (g := (mkF m 9 #[.val (.long q0), .second, .val (.long (-7046029254386353131 : Int64)), .second, .unset, .unset, .unset, .unset, .unset, .unset] [(.long q0), (.ref b2), (.ref b2)])) rfl (by rw [hml]; rfl) (Steps.refl _) (a := b2) (argsL := [(.long q0)]) (rest := [(.ref b2)]) (lenOf pd_1 rfl) rfl (by show 2 * 0 + _ ≤ _; exact Nat.le_of_eq rfl) (hb hby at_9) (fun _ _ => ⟨rfl, e2, (by decide : 1 + 0 ≤ _), (by decide : 1 + 0 ≤ _)⟩)
  dsimp only [Pt.U, Pt.locs, Pt.cells, Pt.slots] at X4 l4 y4 z4 st4 hQ4
  subst l4 y4 z4
  obtain ⟨rfl, N4q, K4, Fq4_0, Fq4_1⟩ := hQ4
  have N4 := Fr.app N0 N4q
  have k4 : Go p.tables e below (T2.setTop (mkF m 9 #[.val (.long q0), .second, .val (.long (-7046029254386353131 : Int64)), .second, .unset, .unset, .unset, .unset, .unset, .unset] [(.long q0), (.ref b2), (.ref b2)])) (T4.setTop (mkF m 12 #[.val (.long q0), .second, .val (.long (-7046029254386353131 : Int64)), .second, .unset, .unset, .unset, .unset, .unset, .unset] [(.ref b2)])) := fun _ ht => st4.trans ht
  have Kp4 : Keep h0 T4.heap [] := Kp2.trans K4 (allS (Or.inr sz_b2) all0)
  have Z4 : n0 ≤ T4.heap.size := Nat.le_trans Z2 K4.1
  have A2_c_4 := A2.keep K4
  have k5 : Go p.tables e below (T4.setTop (mkF m 12 #[.val (.long q0), .second, .val (.long (-7046029254386353131 : Int64)), .second, .unset, .unset, .unset, .unset, .unset, .unset] [(.ref b2)])) (T4.setTop (mkF m 16 #[.val (.long q0), .second, .val (.long (-7046029254386353131 : Int64)), .second, .val (.ref b2), .unset, .unset, .unset, .unset, .unset] [(.ref b2)])) := by
    intro t ht
    refine XS.astore X4.here hx rfl (hb hby at_12) rfl rfl (l' := #[.val (.long q0), .second, .val (.long (-7046029254386353131 : Int64)), .second, .val (.ref b2), .unset, .unset, .unset, .unset, .unset]) rfl ?_
    show Steps p.tables e below (T4.setTop (mkF m 14 #[.val (.long q0), .second, .val (.long (-7046029254386353131 : Int64)), .second, .val (.ref b2), .unset, .unset, .unset, .unset, .unset] [])) _
    refine XS.aload X4.here hx rfl (hb hby at_14) rfl rfl ?_
    exact ht
  obtain ⟨cq6, kq6, q6a, q6b, q6c⟩ := isOf hZ rfl Fq4_0
  obtain ⟨_, _, ⟨T6, L6, kq6, n6⟩, -, X6, ⟨Lc6, hQ6, l6, y6, z6⟩, st6⟩ := X4.virtualBack hx (y := (⟨"com/example/role_conflict_finder/roleconflictfinder/SeededRandom", "nextLong", "()J"⟩ : MethodName)) (z := (⟨"com/example/role_conflict_finder/roleconflictfinder/SeededRandom", "nextLong", "()J"⟩ : MethodName)) hown (mvT hZ (hw _ (List.mem_of_getElem? (i := 12) rfl))) (mvT hZ (hw _ (List.mem_of_getElem? (i := 13) rfl))) (notFace_of_selects (args := #[]) (mvT hZ (hw _ (List.mem_of_getElem? (i := 15) rfl)))) (mvT hZ (hw _ (List.mem_of_getElem? (i := 15) rfl))) (mvT hZ (hw _ (List.mem_of_getElem? (i := 14) rfl))) (by decide) (backOf (W := 0) (rm_next l Z a0 hw [] b2 q0 T4.heap n0 Z4 Fq4_1 Fq4_0 g_b2) hZ (hw _ (List.mem_of_getElem? (i := 16) rfl)) (hw _ (List.mem_of_getElem? (i := 3) rfl)) (by decide) (by decide)) q6a q6c (g := (mkF m 16 #[.val (.long q0), .second, .val (.long (-7046029254386353131 : Int64)), .second, .val (.ref b2), .unset, .unset, .unset, .unset, .unset] [(.ref b2)])) rfl (by rw [hml]; rfl) (Steps.refl _) (argsL := []) (rest := []) (lenOf pd_2 rfl) rfl (by show 2 * 0 + _ ≤ _; exact Nat.le_of_eq rfl) (hb hby at_16) (fun _ _ => ⟨rfl, rfl, (by decide : 1 + 0 ≤ _), (by decide : 1 + 0 ≤ _)⟩)
  dsimp only [Pt.U, Pt.locs, Pt.cells, Pt.slots] at X6 l6 y6 z6 st6 hQ6
  subst l6 y6 z6
  obtain ⟨rfl, N6q, K6, Fq6_0, Fq6_1⟩ := hQ6
  have N6 := Fr.app N4 N6q
  have k6 : Go p.tables e below (T4.setTop (mkF m 16 #[.val (.long q0), .second, .val (.long (-7046029254386353131 : Int64)), .second, .val (.ref b2), .unset, .unset, .unset, .unset, .unset] [(.ref b2)])) (T6.setTop (mkF m 19 #[.val (.long q0), .second, .val (.long (-7046029254386353131 : Int64)), .second, .val (.ref b2), .unset, .unset, .unset, .unset, .unset] [(.long (own_m3 (q0 + (-7046029254386353131 : Int64))))])) := fun _ ht => st6.trans ht
  have Kp6 : Keep h0 T6.heap [] := Kp4.trans K6 (allS (Or.inr sz_b2) all0)
  have Z6 : n0 ≤ T6.heap.size := Nat.le_trans Z4 K6.1
  have Fq4_0_c_6 := Fq4_0.keep K6
  have k7 : Go p.tables e below (T6.setTop (mkF m 19 #[.val (.long q0), .second, .val (.long (-7046029254386353131 : Int64)), .second, .val (.ref b2), .unset, .unset, .unset, .unset, .unset] [(.long (own_m3 (q0 + (-7046029254386353131 : Int64))))])) (T6.setTop (mkF m 23 #[.val (.long q0), .second, .val (.long (-7046029254386353131 : Int64)), .second, .val (.ref b2), .val (.long (own_m3 (q0 + (-7046029254386353131 : Int64)))), .second, .unset, .unset, .unset] [(.ref b2)])) := by
    intro t ht
    refine XS.lstore X6.here hx rfl (hb hby at_19) rfl (l' := #[.val (.long q0), .second, .val (.long (-7046029254386353131 : Int64)), .second, .val (.ref b2), .val (.long (own_m3 (q0 + (-7046029254386353131 : Int64)))), .second, .unset, .unset, .unset]) rfl ?_
    show Steps p.tables e below (T6.setTop (mkF m 21 #[.val (.long q0), .second, .val (.long (-7046029254386353131 : Int64)), .second, .val (.ref b2), .val (.long (own_m3 (q0 + (-7046029254386353131 : Int64)))), .second, .unset, .unset, .unset] [])) _
    refine XS.aload X6.here hx rfl (hb hby at_21) rfl rfl ?_
    exact ht
  obtain ⟨cq8, kq8, q8a, q8b, q8c⟩ := isOf hZ rfl Fq6_0
  obtain ⟨_, _, ⟨T8, L8, kq8, n8⟩, -, X8, ⟨Lc8, hQ8, l8, y8, z8⟩, st8⟩ := X6.virtualBack hx (y := (⟨"com/example/role_conflict_finder/roleconflictfinder/SeededRandom", "nextLong", "()J"⟩ : MethodName)) (z := (⟨"com/example/role_conflict_finder/roleconflictfinder/SeededRandom", "nextLong", "()J"⟩ : MethodName)) hown (mvT hZ (hw _ (List.mem_of_getElem? (i := 12) rfl))) (mvT hZ (hw _ (List.mem_of_getElem? (i := 13) rfl))) (notFace_of_selects (args := #[]) (mvT hZ (hw _ (List.mem_of_getElem? (i := 15) rfl)))) (mvT hZ (hw _ (List.mem_of_getElem? (i := 15) rfl))) (mvT hZ (hw _ (List.mem_of_getElem? (i := 14) rfl))) (by decide) (backOf (W := 0) (rm_next l Z a0 hw [] b2 (q0 + (-7046029254386353131 : Int64)) T6.heap n0 Z6 Fq6_1 Fq6_0 g_b2) hZ (hw _ (List.mem_of_getElem? (i := 16) rfl)) (hw _ (List.mem_of_getElem? (i := 3) rfl)) (by decide) (by decide)) q8a q8c (g := (mkF m 23 #[.val (.long q0), .second, .val (.long (-7046029254386353131 : Int64)), .second, .val (.ref b2), .val (.long (own_m3 (q0 + (-7046029254386353131 : Int64)))), .second, .unset, .unset, .unset] [(.ref b2)])) rfl (by rw [hml]; rfl) (Steps.refl _) (argsL := []) (rest := []) (lenOf pd_2 rfl) rfl (by show 2 * 0 + _ ≤ _; exact Nat.le_of_eq rfl) (hb hby at_23) (fun _ _ => ⟨rfl, rfl, (by decide : 1 + 0 ≤ _), (by decide : 1 + 0 ≤ _)⟩)
  dsimp only [Pt.U, Pt.locs, Pt.cells, Pt.slots] at X8 l8 y8 z8 st8 hQ8
  subst l8 y8 z8
  obtain ⟨rfl, N8q, K8, Fq8_0, Fq8_1⟩ := hQ8
  have N8 := Fr.app N6 N8q
  have k8 : Go p.tables e below (T6.setTop (mkF m 23 #[.val (.long q0), .second, .val (.long (-7046029254386353131 : Int64)), .second, .val (.ref b2), .val (.long (own_m3 (q0 + (-7046029254386353131 : Int64)))), .second, .unset, .unset, .unset] [(.ref b2)])) (T8.setTop (mkF m 26 #[.val (.long q0), .second, .val (.long (-7046029254386353131 : Int64)), .second, .val (.ref b2), .val (.long (own_m3 (q0 + (-7046029254386353131 : Int64)))), .second, .unset, .unset, .unset] [(.long (own_m3 ((q0 + (-7046029254386353131 : Int64)) + (-7046029254386353131 : Int64))))])) := fun _ ht => st8.trans ht
  have Kp8 : Keep h0 T8.heap [] := Kp6.trans K8 (allS (Or.inr sz_b2) all0)
  have Z8 : n0 ≤ T8.heap.size := Nat.le_trans Z6 K8.1
  have Fq6_0_c_8 := Fq6_0.keep K8
  have k9 : Go p.tables e below (T8.setTop (mkF m 26 #[.val (.long q0), .second, .val (.long (-7046029254386353131 : Int64)), .second, .val (.ref b2), .val (.long (own_m3 (q0 + (-7046029254386353131 : Int64)))), .second, .unset, .unset, .unset] [(.long (own_m3 ((q0 + (-7046029254386353131 : Int64)) + (-7046029254386353131 : Int64))))])) (T8.setTop (mkF m 31 #[.val (.long q0), .second, .val (.long (-7046029254386353131 : Int64)), .second, .val (.ref b2), .val (.long (own_m3 (q0 + (-7046029254386353131 : Int64)))), .second, .val (.long (own_m3 ((q0 + (-7046029254386353131 : Int64)) + (-7046029254386353131 : Int64)))), .second, .unset] [(.long (-7723592293110705685 : Int64))])) := by
    intro t ht
    refine XS.lstore X8.here hx rfl (hb hby at_26) rfl (l' := #[.val (.long q0), .second, .val (.long (-7046029254386353131 : Int64)), .second, .val (.ref b2), .val (.long (own_m3 (q0 + (-7046029254386353131 : Int64)))), .second, .val (.long (own_m3 ((q0 + (-7046029254386353131 : Int64)) + (-7046029254386353131 : Int64)))), .second, .unset]) rfl ?_
    show Steps p.tables e below (T8.setTop (mkF m 28 #[.val (.long q0), .second, .val (.long (-7046029254386353131 : Int64)), .second, .val (.ref b2), .val (.long (own_m3 (q0 + (-7046029254386353131 : Int64)))), .second, .val (.long (own_m3 ((q0 + (-7046029254386353131 : Int64)) + (-7046029254386353131 : Int64)))), .second, .unset] [])) _
    refine X8.ldc2Long hx hown (mvT hZ (hw _ (List.mem_of_getElem? (i := 20) rfl))) (g := (mkF m 28 #[.val (.long q0), .second, .val (.long (-7046029254386353131 : Int64)), .second, .val (.ref b2), .val (.long (own_m3 (q0 + (-7046029254386353131 : Int64)))), .second, .val (.long (own_m3 ((q0 + (-7046029254386353131 : Int64)) + (-7046029254386353131 : Int64)))), .second, .unset] [])) rfl (hb hby at_28) _ ?_
    exact ht
  obtain ⟨_, _, ⟨T10, L10, kq10, n10⟩, -, X10, ⟨Lc10, hQ10, l10, y10, z10⟩, st10⟩ := Jvm.LawKit.callS X8 hx (y := (⟨"com/example/role_conflict_finder/roleconflictfinder/SeededRandomNextLongPinLaw", "inverse", "(J)J"⟩ : MethodName)) hown (mvT hZ (hw _ (List.mem_of_getElem? (i := 21) rfl))) (mvT hZ (hw _ (List.mem_of_getElem? (i := 22) rfl))) (mvT hZ (hw _ (List.mem_of_getElem? (i := 23) rfl))) (mvT hZ (hw _ (List.mem_of_getElem? (i := 24) rfl))) (by decide) (backOf (W := 0) (rm_inverse l Z a0 hw [] (-7723592293110705685 : Int64) T8.heap n0 Z8 ) hZ (hw _ (List.mem_of_getElem? (i := 24) rfl)) (hw _ (List.mem_of_getElem? (i := 23) rfl)) (by decide) (by decide)) (g := (mkF m 31 #[.val (.long q0), .second, .val (.long (-7046029254386353131 : Int64)), .second, .val (.ref b2), .val (.long (own_m3 (q0 + (-7046029254386353131 : Int64)))), .second, .val (.long (own_m3 ((q0 + (-7046029254386353131 : Int64)) + (-7046029254386353131 : Int64)))), .second, .unset] [(.long (-7723592293110705685 : Int64))])) rfl (by rw [hml]; rfl) (argsL := [(.long (-7723592293110705685 : Int64))]) (rest := []) (lenOf pd_0 rfl) rfl (by show 2 * 0 + _ ≤ _; exact Nat.le_of_eq rfl) (hb hby at_31) (fun _ _ => ⟨rfl, rfl, (by decide : 1 + 0 ≤ _), (by decide : 1 + 0 ≤ _)⟩)
  dsimp only [Pt.U, Pt.locs, Pt.cells, Pt.slots] at X10 l10 y10 z10 st10 hQ10
  subst l10 y10 z10
  obtain ⟨rfl, N10q, eq10⟩ := hQ10
  have N10 := Fr.app N8 N10q
  have k10 : Go p.tables e below (T8.setTop (mkF m 31 #[.val (.long q0), .second, .val (.long (-7046029254386353131 : Int64)), .second, .val (.ref b2), .val (.long (own_m3 (q0 + (-7046029254386353131 : Int64)))), .second, .val (.long (own_m3 ((q0 + (-7046029254386353131 : Int64)) + (-7046029254386353131 : Int64)))), .second, .unset] [(.long (-7723592293110705685 : Int64))])) (T10.setTop (mkF m 34 #[.val (.long q0), .second, .val (.long (-7046029254386353131 : Int64)), .second, .val (.ref b2), .val (.long (own_m3 (q0 + (-7046029254386353131 : Int64)))), .second, .val (.long (own_m3 ((q0 + (-7046029254386353131 : Int64)) + (-7046029254386353131 : Int64)))), .second, .unset] [(.long (own_x5 (-7723592293110705685 : Int64)))])) := st10
  have k11 : Go p.tables e below (T10.setTop (mkF m 34 #[.val (.long q0), .second, .val (.long (-7046029254386353131 : Int64)), .second, .val (.ref b2), .val (.long (own_m3 (q0 + (-7046029254386353131 : Int64)))), .second, .val (.long (own_m3 ((q0 + (-7046029254386353131 : Int64)) + (-7046029254386353131 : Int64)))), .second, .unset] [(.long (own_x5 (-7723592293110705685 : Int64)))])) (T10.setTop (mkF m 46 #[.val (.long q0), .second, .val (.long (-7046029254386353131 : Int64)), .second, .val (.ref b2), .val (.long (own_m3 (q0 + (-7046029254386353131 : Int64)))), .second, .val (.long (own_m3 ((q0 + (-7046029254386353131 : Int64)) + (-7046029254386353131 : Int64)))), .second, .unset] [(.long (-4658895280553007687 : Int64))])) := by
    intro t ht
    refine X10.ldc2Long hx hown (mvT hZ (hw _ (List.mem_of_getElem? (i := 20) rfl))) (g := (mkF m 34 #[.val (.long q0), .second, .val (.long (-7046029254386353131 : Int64)), .second, .val (.ref b2), .val (.long (own_m3 (q0 + (-7046029254386353131 : Int64)))), .second, .val (.long (own_m3 ((q0 + (-7046029254386353131 : Int64)) + (-7046029254386353131 : Int64)))), .second, .unset] [(.long (own_x5 (-7723592293110705685 : Int64)))])) rfl (hb hby at_34) _ ?_
    show Steps p.tables e below (T10.setTop (mkF m 37 #[.val (.long q0), .second, .val (.long (-7046029254386353131 : Int64)), .second, .val (.ref b2), .val (.long (own_m3 (q0 + (-7046029254386353131 : Int64)))), .second, .val (.long (own_m3 ((q0 + (-7046029254386353131 : Int64)) + (-7046029254386353131 : Int64)))), .second, .unset] [(.long (-7723592293110705685 : Int64)), (.long (own_x5 (-7723592293110705685 : Int64)))])) _
    refine XS.lmul X10.here hx rfl (hb hby at_37) rfl ?_
    show Steps p.tables e below (T10.setTop (mkF m 38 #[.val (.long q0), .second, .val (.long (-7046029254386353131 : Int64)), .second, .val (.ref b2), .val (.long (own_m3 (q0 + (-7046029254386353131 : Int64)))), .second, .val (.long (own_m3 ((q0 + (-7046029254386353131 : Int64)) + (-7046029254386353131 : Int64)))), .second, .unset] [(.long ((own_x5 (-7723592293110705685 : Int64)) * (-7723592293110705685 : Int64)))])) _
    refine XS.lconst X10.here hx rfl (hb hby at_38) ?_
    show Steps p.tables e below (T10.setTop (mkF m 39 #[.val (.long q0), .second, .val (.long (-7046029254386353131 : Int64)), .second, .val (.ref b2), .val (.long (own_m3 (q0 + (-7046029254386353131 : Int64)))), .second, .val (.long (own_m3 ((q0 + (-7046029254386353131 : Int64)) + (-7046029254386353131 : Int64)))), .second, .unset] [(.long (1 : Int64)), (.long ((own_x5 (-7723592293110705685 : Int64)) * (-7723592293110705685 : Int64)))])) _
    refine XS.lcmp X10.here hx rfl (hb hby at_39) rfl ?_
    show Steps p.tables e below (T10.setTop (mkF m 40 #[.val (.long q0), .second, .val (.long (-7046029254386353131 : Int64)), .second, .val (.ref b2), .val (.long (own_m3 (q0 + (-7046029254386353131 : Int64)))), .second, .val (.long (own_m3 ((q0 + (-7046029254386353131 : Int64)) + (-7046029254386353131 : Int64)))), .second, .unset] [(.int (lcmpW ((own_x5 (-7723592293110705685 : Int64)) * (-7723592293110705685 : Int64)) (1 : Int64)))])) _
    refine XS.ifNo X10.here hx rfl (hb hby at_40) rfl ((if0 _ _).trans (teq (own_eqL (own_inv1 : ((own_x5 (-7723592293110705685 : Int64)) * (-7723592293110705685 : Int64)) = (1 : Int64)))).2) ?_
    show Steps p.tables e below (T10.setTop (mkF m 43 #[.val (.long q0), .second, .val (.long (-7046029254386353131 : Int64)), .second, .val (.ref b2), .val (.long (own_m3 (q0 + (-7046029254386353131 : Int64)))), .second, .val (.long (own_m3 ((q0 + (-7046029254386353131 : Int64)) + (-7046029254386353131 : Int64)))), .second, .unset] [])) _
    refine X10.ldc2Long hx hown (mvT hZ (hw _ (List.mem_of_getElem? (i := 26) rfl))) (g := (mkF m 43 #[.val (.long q0), .second, .val (.long (-7046029254386353131 : Int64)), .second, .val (.ref b2), .val (.long (own_m3 (q0 + (-7046029254386353131 : Int64)))), .second, .val (.long (own_m3 ((q0 + (-7046029254386353131 : Int64)) + (-7046029254386353131 : Int64)))), .second, .unset] [])) rfl (hb hby at_43) _ ?_
    exact ht
  obtain ⟨_, _, ⟨T12, L12, kq12, n12⟩, -, X12, ⟨Lc12, hQ12, l12, y12, z12⟩, st12⟩ := Jvm.LawKit.callS X10 hx (y := (⟨"com/example/role_conflict_finder/roleconflictfinder/SeededRandomNextLongPinLaw", "inverse", "(J)J"⟩ : MethodName)) hown (mvT hZ (hw _ (List.mem_of_getElem? (i := 21) rfl))) (mvT hZ (hw _ (List.mem_of_getElem? (i := 22) rfl))) (mvT hZ (hw _ (List.mem_of_getElem? (i := 23) rfl))) (mvT hZ (hw _ (List.mem_of_getElem? (i := 24) rfl))) (by decide) (backOf (W := 0) (rm_inverse l Z a0 hw [] (-4658895280553007687 : Int64) T8.heap n0 Z8 ) hZ (hw _ (List.mem_of_getElem? (i := 24) rfl)) (hw _ (List.mem_of_getElem? (i := 23) rfl)) (by decide) (by decide)) (g := (mkF m 46 #[.val (.long q0), .second, .val (.long (-7046029254386353131 : Int64)), .second, .val (.ref b2), .val (.long (own_m3 (q0 + (-7046029254386353131 : Int64)))), .second, .val (.long (own_m3 ((q0 + (-7046029254386353131 : Int64)) + (-7046029254386353131 : Int64)))), .second, .unset] [(.long (-4658895280553007687 : Int64))])) rfl (by rw [hml]; rfl) (argsL := [(.long (-4658895280553007687 : Int64))]) (rest := []) (lenOf pd_0 rfl) rfl (by show 2 * 0 + _ ≤ _; exact Nat.le_of_eq rfl) (hb hby at_46) (fun _ _ => ⟨rfl, eq10, (by decide : 1 + 0 ≤ _), (by decide : 1 + 0 ≤ _)⟩)
  dsimp only [Pt.U, Pt.locs, Pt.cells, Pt.slots] at X12 l12 y12 z12 st12 hQ12
  subst l12 y12 z12
  obtain ⟨rfl, N12q, eq12⟩ := hQ12
  have N12 := Fr.app N10 N12q
  have k12 : Go p.tables e below (T10.setTop (mkF m 46 #[.val (.long q0), .second, .val (.long (-7046029254386353131 : Int64)), .second, .val (.ref b2), .val (.long (own_m3 (q0 + (-7046029254386353131 : Int64)))), .second, .val (.long (own_m3 ((q0 + (-7046029254386353131 : Int64)) + (-7046029254386353131 : Int64)))), .second, .unset] [(.long (-4658895280553007687 : Int64))])) (T12.setTop (mkF m 49 #[.val (.long q0), .second, .val (.long (-7046029254386353131 : Int64)), .second, .val (.ref b2), .val (.long (own_m3 (q0 + (-7046029254386353131 : Int64)))), .second, .val (.long (own_m3 ((q0 + (-7046029254386353131 : Int64)) + (-7046029254386353131 : Int64)))), .second, .unset] [(.long (own_x5 (-4658895280553007687 : Int64)))])) := st12
  have k13 : Go p.tables e below (T12.setTop (mkF m 49 #[.val (.long q0), .second, .val (.long (-7046029254386353131 : Int64)), .second, .val (.ref b2), .val (.long (own_m3 (q0 + (-7046029254386353131 : Int64)))), .second, .val (.long (own_m3 ((q0 + (-7046029254386353131 : Int64)) + (-7046029254386353131 : Int64)))), .second, .unset] [(.long (own_x5 (-4658895280553007687 : Int64)))])) (T12.setTop (mkF m 72 #[.val (.long q0), .second, .val (.long (-7046029254386353131 : Int64)), .second, .val (.ref b2), .val (.long (own_m3 (q0 + (-7046029254386353131 : Int64)))), .second, .val (.long (own_m3 ((q0 + (-7046029254386353131 : Int64)) + (-7046029254386353131 : Int64)))), .second, .val (.int (1 : Int32))] [(.long (own_m3 (q0 + (-7046029254386353131 : Int64))))])) := by
    intro t ht
    refine X12.ldc2Long hx hown (mvT hZ (hw _ (List.mem_of_getElem? (i := 26) rfl))) (g := (mkF m 49 #[.val (.long q0), .second, .val (.long (-7046029254386353131 : Int64)), .second, .val (.ref b2), .val (.long (own_m3 (q0 + (-7046029254386353131 : Int64)))), .second, .val (.long (own_m3 ((q0 + (-7046029254386353131 : Int64)) + (-7046029254386353131 : Int64)))), .second, .unset] [(.long (own_x5 (-4658895280553007687 : Int64)))])) rfl (hb hby at_49) _ ?_
    show Steps p.tables e below (T12.setTop (mkF m 52 #[.val (.long q0), .second, .val (.long (-7046029254386353131 : Int64)), .second, .val (.ref b2), .val (.long (own_m3 (q0 + (-7046029254386353131 : Int64)))), .second, .val (.long (own_m3 ((q0 + (-7046029254386353131 : Int64)) + (-7046029254386353131 : Int64)))), .second, .unset] [(.long (-4658895280553007687 : Int64)), (.long (own_x5 (-4658895280553007687 : Int64)))])) _
    refine XS.lmul X12.here hx rfl (hb hby at_52) rfl ?_
    show Steps p.tables e below (T12.setTop (mkF m 53 #[.val (.long q0), .second, .val (.long (-7046029254386353131 : Int64)), .second, .val (.ref b2), .val (.long (own_m3 (q0 + (-7046029254386353131 : Int64)))), .second, .val (.long (own_m3 ((q0 + (-7046029254386353131 : Int64)) + (-7046029254386353131 : Int64)))), .second, .unset] [(.long ((own_x5 (-4658895280553007687 : Int64)) * (-4658895280553007687 : Int64)))])) _
    refine XS.lconst X12.here hx rfl (hb hby at_53) ?_
    show Steps p.tables e below (T12.setTop (mkF m 54 #[.val (.long q0), .second, .val (.long (-7046029254386353131 : Int64)), .second, .val (.ref b2), .val (.long (own_m3 (q0 + (-7046029254386353131 : Int64)))), .second, .val (.long (own_m3 ((q0 + (-7046029254386353131 : Int64)) + (-7046029254386353131 : Int64)))), .second, .unset] [(.long (1 : Int64)), (.long ((own_x5 (-4658895280553007687 : Int64)) * (-4658895280553007687 : Int64)))])) _
    refine XS.lcmp X12.here hx rfl (hb hby at_54) rfl ?_
    show Steps p.tables e below (T12.setTop (mkF m 55 #[.val (.long q0), .second, .val (.long (-7046029254386353131 : Int64)), .second, .val (.ref b2), .val (.long (own_m3 (q0 + (-7046029254386353131 : Int64)))), .second, .val (.long (own_m3 ((q0 + (-7046029254386353131 : Int64)) + (-7046029254386353131 : Int64)))), .second, .unset] [(.int (lcmpW ((own_x5 (-4658895280553007687 : Int64)) * (-4658895280553007687 : Int64)) (1 : Int64)))])) _
    refine XS.ifNo X12.here hx rfl (hb hby at_55) rfl ((if0 _ _).trans (teq (own_eqL (own_inv2 : ((own_x5 (-4658895280553007687 : Int64)) * (-4658895280553007687 : Int64)) = (1 : Int64)))).2) ?_
    show Steps p.tables e below (T12.setTop (mkF m 58 #[.val (.long q0), .second, .val (.long (-7046029254386353131 : Int64)), .second, .val (.ref b2), .val (.long (own_m3 (q0 + (-7046029254386353131 : Int64)))), .second, .val (.long (own_m3 ((q0 + (-7046029254386353131 : Int64)) + (-7046029254386353131 : Int64)))), .second, .unset] [])) _
    refine XS.iconst X12.here hx rfl (hb hby at_58) ?_
    show Steps p.tables e below (T12.setTop (mkF m 59 #[.val (.long q0), .second, .val (.long (-7046029254386353131 : Int64)), .second, .val (.ref b2), .val (.long (own_m3 (q0 + (-7046029254386353131 : Int64)))), .second, .val (.long (own_m3 ((q0 + (-7046029254386353131 : Int64)) + (-7046029254386353131 : Int64)))), .second, .unset] [(.int (1 : Int32))])) _
    refine XS.goto X12.here hx rfl (pc0 := 59) (pc' := 63) rfl (hb hby at_59) (by decide) (by decide) ?_
    show Steps p.tables e below (T12.setTop (mkF m 63 #[.val (.long q0), .second, .val (.long (-7046029254386353131 : Int64)), .second, .val (.ref b2), .val (.long (own_m3 (q0 + (-7046029254386353131 : Int64)))), .second, .val (.long (own_m3 ((q0 + (-7046029254386353131 : Int64)) + (-7046029254386353131 : Int64)))), .second, .unset] [(.int (1 : Int32))])) _
    refine XS.istore X12.here hx rfl (hb hby at_63) rfl (l' := #[.val (.long q0), .second, .val (.long (-7046029254386353131 : Int64)), .second, .val (.ref b2), .val (.long (own_m3 (q0 + (-7046029254386353131 : Int64)))), .second, .val (.long (own_m3 ((q0 + (-7046029254386353131 : Int64)) + (-7046029254386353131 : Int64)))), .second, .val (.int (1 : Int32))]) rfl ?_
    show Steps p.tables e below (T12.setTop (mkF m 65 #[.val (.long q0), .second, .val (.long (-7046029254386353131 : Int64)), .second, .val (.ref b2), .val (.long (own_m3 (q0 + (-7046029254386353131 : Int64)))), .second, .val (.long (own_m3 ((q0 + (-7046029254386353131 : Int64)) + (-7046029254386353131 : Int64)))), .second, .val (.int (1 : Int32))] [])) _
    refine XS.iload X12.here hx rfl (hb hby at_65) rfl ?_
    show Steps p.tables e below (T12.setTop (mkF m 67 #[.val (.long q0), .second, .val (.long (-7046029254386353131 : Int64)), .second, .val (.ref b2), .val (.long (own_m3 (q0 + (-7046029254386353131 : Int64)))), .second, .val (.long (own_m3 ((q0 + (-7046029254386353131 : Int64)) + (-7046029254386353131 : Int64)))), .second, .val (.int (1 : Int32))] [(.int (1 : Int32))])) _
    refine XS.ifNo X12.here hx rfl (hb hby at_67) rfl ((if0 _ _).trans (feq (by decide : ¬ ((1 : Int32) = (0 : Int32)))).1) ?_
    show Steps p.tables e below (T12.setTop (mkF m 70 #[.val (.long q0), .second, .val (.long (-7046029254386353131 : Int64)), .second, .val (.ref b2), .val (.long (own_m3 (q0 + (-7046029254386353131 : Int64)))), .second, .val (.long (own_m3 ((q0 + (-7046029254386353131 : Int64)) + (-7046029254386353131 : Int64)))), .second, .val (.int (1 : Int32))] [])) _
    refine XS.lload X12.here hx rfl (hb hby at_70) rfl ?_
    exact ht
  obtain ⟨_, _, ⟨T14, L14, kq14, n14⟩, -, X14, ⟨Lc14, hQ14, l14, y14, z14⟩, st14⟩ := Jvm.LawKit.callS X12 hx (y := (⟨"com/example/role_conflict_finder/roleconflictfinder/SeededRandomNextLongPinLaw", "unmix", "(J)J"⟩ : MethodName)) hown (mvT hZ (hw _ (List.mem_of_getElem? (i := 27) rfl))) (mvT hZ (hw _ (List.mem_of_getElem? (i := 28) rfl))) (mvT hZ (hw _ (List.mem_of_getElem? (i := 23) rfl))) (mvT hZ (hw _ (List.mem_of_getElem? (i := 29) rfl))) (by decide) (backOf (W := 0) (rm_unmix l Z a0 hw [] (own_m3 (q0 + (-7046029254386353131 : Int64))) T8.heap n0 Z8 ) hZ (hw _ (List.mem_of_getElem? (i := 29) rfl)) (hw _ (List.mem_of_getElem? (i := 23) rfl)) (by decide) (by decide)) (g := (mkF m 72 #[.val (.long q0), .second, .val (.long (-7046029254386353131 : Int64)), .second, .val (.ref b2), .val (.long (own_m3 (q0 + (-7046029254386353131 : Int64)))), .second, .val (.long (own_m3 ((q0 + (-7046029254386353131 : Int64)) + (-7046029254386353131 : Int64)))), .second, .val (.int (1 : Int32))] [(.long (own_m3 (q0 + (-7046029254386353131 : Int64))))])) rfl (by rw [hml]; rfl) (argsL := [(.long (own_m3 (q0 + (-7046029254386353131 : Int64))))]) (rest := []) (lenOf pd_0 rfl) rfl (by show 2 * 0 + _ ≤ _; exact Nat.le_of_eq rfl) (hb hby at_72) (fun _ _ => ⟨rfl, eq12, (by decide : 1 + 0 ≤ _), (by decide : 1 + 0 ≤ _)⟩)
  dsimp only [Pt.U, Pt.locs, Pt.cells, Pt.slots] at X14 l14 y14 z14 st14 hQ14
  subst l14 y14 z14
  obtain ⟨rfl, N14q, eq14⟩ := hQ14
  have N14 := Fr.app N12 N14q
  have k14 : Go p.tables e below (T12.setTop (mkF m 72 #[.val (.long q0), .second, .val (.long (-7046029254386353131 : Int64)), .second, .val (.ref b2), .val (.long (own_m3 (q0 + (-7046029254386353131 : Int64)))), .second, .val (.long (own_m3 ((q0 + (-7046029254386353131 : Int64)) + (-7046029254386353131 : Int64)))), .second, .val (.int (1 : Int32))] [(.long (own_m3 (q0 + (-7046029254386353131 : Int64))))])) (T14.setTop (mkF m 75 #[.val (.long q0), .second, .val (.long (-7046029254386353131 : Int64)), .second, .val (.ref b2), .val (.long (own_m3 (q0 + (-7046029254386353131 : Int64)))), .second, .val (.long (own_m3 ((q0 + (-7046029254386353131 : Int64)) + (-7046029254386353131 : Int64)))), .second, .val (.int (1 : Int32))] [(.long (own_u5 (own_m3 (q0 + (-7046029254386353131 : Int64)))))])) := st14
  have k15 : Go p.tables e below (T14.setTop (mkF m 75 #[.val (.long q0), .second, .val (.long (-7046029254386353131 : Int64)), .second, .val (.ref b2), .val (.long (own_m3 (q0 + (-7046029254386353131 : Int64)))), .second, .val (.long (own_m3 ((q0 + (-7046029254386353131 : Int64)) + (-7046029254386353131 : Int64)))), .second, .val (.int (1 : Int32))] [(.long (own_u5 (own_m3 (q0 + (-7046029254386353131 : Int64)))))])) (T14.setTop (mkF m 84 #[.val (.long q0), .second, .val (.long (-7046029254386353131 : Int64)), .second, .val (.ref b2), .val (.long (own_m3 (q0 + (-7046029254386353131 : Int64)))), .second, .val (.long (own_m3 ((q0 + (-7046029254386353131 : Int64)) + (-7046029254386353131 : Int64)))), .second, .val (.int (1 : Int32))] [(.long (own_m3 ((q0 + (-7046029254386353131 : Int64)) + (-7046029254386353131 : Int64))))])) := by
    intro t ht
    refine XS.lloadN X14.here hx rfl (hb hby at_75) rfl ?_
    show Steps p.tables e below (T14.setTop (mkF m 76 #[.val (.long q0), .second, .val (.long (-7046029254386353131 : Int64)), .second, .val (.ref b2), .val (.long (own_m3 (q0 + (-7046029254386353131 : Int64)))), .second, .val (.long (own_m3 ((q0 + (-7046029254386353131 : Int64)) + (-7046029254386353131 : Int64)))), .second, .val (.int (1 : Int32))] [(.long q0), (.long (own_u5 (own_m3 (q0 + (-7046029254386353131 : Int64)))))])) _
    refine XS.lloadN X14.here hx rfl (hb hby at_76) rfl ?_
    show Steps p.tables e below (T14.setTop (mkF m 77 #[.val (.long q0), .second, .val (.long (-7046029254386353131 : Int64)), .second, .val (.ref b2), .val (.long (own_m3 (q0 + (-7046029254386353131 : Int64)))), .second, .val (.long (own_m3 ((q0 + (-7046029254386353131 : Int64)) + (-7046029254386353131 : Int64)))), .second, .val (.int (1 : Int32))] [(.long (-7046029254386353131 : Int64)), (.long q0), (.long (own_u5 (own_m3 (q0 + (-7046029254386353131 : Int64)))))])) _
    refine XS.ladd X14.here hx rfl (hb hby at_77) rfl ?_
    show Steps p.tables e below (T14.setTop (mkF m 78 #[.val (.long q0), .second, .val (.long (-7046029254386353131 : Int64)), .second, .val (.ref b2), .val (.long (own_m3 (q0 + (-7046029254386353131 : Int64)))), .second, .val (.long (own_m3 ((q0 + (-7046029254386353131 : Int64)) + (-7046029254386353131 : Int64)))), .second, .val (.int (1 : Int32))] [(.long (q0 + (-7046029254386353131 : Int64))), (.long (own_u5 (own_m3 (q0 + (-7046029254386353131 : Int64)))))])) _
    refine XS.lcmp X14.here hx rfl (hb hby at_78) rfl ?_
    show Steps p.tables e below (T14.setTop (mkF m 79 #[.val (.long q0), .second, .val (.long (-7046029254386353131 : Int64)), .second, .val (.ref b2), .val (.long (own_m3 (q0 + (-7046029254386353131 : Int64)))), .second, .val (.long (own_m3 ((q0 + (-7046029254386353131 : Int64)) + (-7046029254386353131 : Int64)))), .second, .val (.int (1 : Int32))] [(.int (lcmpW (own_u5 (own_m3 (q0 + (-7046029254386353131 : Int64)))) (q0 + (-7046029254386353131 : Int64))))])) _
    refine XS.ifNo X14.here hx rfl (hb hby at_79) rfl ((if0 _ _).trans (teq (own_eqL (own_law1 _ : (own_u5 (own_m3 (q0 + (-7046029254386353131 : Int64)))) = (q0 + (-7046029254386353131 : Int64))))).2) ?_
    show Steps p.tables e below (T14.setTop (mkF m 82 #[.val (.long q0), .second, .val (.long (-7046029254386353131 : Int64)), .second, .val (.ref b2), .val (.long (own_m3 (q0 + (-7046029254386353131 : Int64)))), .second, .val (.long (own_m3 ((q0 + (-7046029254386353131 : Int64)) + (-7046029254386353131 : Int64)))), .second, .val (.int (1 : Int32))] [])) _
    refine XS.lload X14.here hx rfl (hb hby at_82) rfl ?_
    exact ht
  obtain ⟨_, _, ⟨T16, L16, kq16, n16⟩, -, X16, ⟨Lc16, hQ16, l16, y16, z16⟩, st16⟩ := Jvm.LawKit.callS X14 hx (y := (⟨"com/example/role_conflict_finder/roleconflictfinder/SeededRandomNextLongPinLaw", "unmix", "(J)J"⟩ : MethodName)) hown (mvT hZ (hw _ (List.mem_of_getElem? (i := 27) rfl))) (mvT hZ (hw _ (List.mem_of_getElem? (i := 28) rfl))) (mvT hZ (hw _ (List.mem_of_getElem? (i := 23) rfl))) (mvT hZ (hw _ (List.mem_of_getElem? (i := 29) rfl))) (by decide) (backOf (W := 0) (rm_unmix l Z a0 hw [] (own_m3 ((q0 + (-7046029254386353131 : Int64)) + (-7046029254386353131 : Int64))) T8.heap n0 Z8 ) hZ (hw _ (List.mem_of_getElem? (i := 29) rfl)) (hw _ (List.mem_of_getElem? (i := 23) rfl)) (by decide) (by decide)) (g := (mkF m 84 #[.val (.long q0), .second, .val (.long (-7046029254386353131 : Int64)), .second, .val (.ref b2), .val (.long (own_m3 (q0 + (-7046029254386353131 : Int64)))), .second, .val (.long (own_m3 ((q0 + (-7046029254386353131 : Int64)) + (-7046029254386353131 : Int64)))), .second, .val (.int (1 : Int32))] [(.long (own_m3 ((q0 + (-7046029254386353131 : Int64)) + (-7046029254386353131 : Int64))))])) rfl (by rw [hml]; rfl) (argsL := [(.long (own_m3 ((q0 + (-7046029254386353131 : Int64)) + (-7046029254386353131 : Int64))))]) (rest := []) (lenOf pd_0 rfl) rfl (by show 2 * 0 + _ ≤ _; exact Nat.le_of_eq rfl) (hb hby at_84) (fun _ _ => ⟨rfl, eq14, (by decide : 1 + 0 ≤ _), (by decide : 1 + 0 ≤ _)⟩)
  dsimp only [Pt.U, Pt.locs, Pt.cells, Pt.slots] at X16 l16 y16 z16 st16 hQ16
  subst l16 y16 z16
  obtain ⟨rfl, N16q, eq16⟩ := hQ16
  have N16 := Fr.app N14 N16q
  have k16 : Go p.tables e below (T14.setTop (mkF m 84 #[.val (.long q0), .second, .val (.long (-7046029254386353131 : Int64)), .second, .val (.ref b2), .val (.long (own_m3 (q0 + (-7046029254386353131 : Int64)))), .second, .val (.long (own_m3 ((q0 + (-7046029254386353131 : Int64)) + (-7046029254386353131 : Int64)))), .second, .val (.int (1 : Int32))] [(.long (own_m3 ((q0 + (-7046029254386353131 : Int64)) + (-7046029254386353131 : Int64))))])) (T16.setTop (mkF m 87 #[.val (.long q0), .second, .val (.long (-7046029254386353131 : Int64)), .second, .val (.ref b2), .val (.long (own_m3 (q0 + (-7046029254386353131 : Int64)))), .second, .val (.long (own_m3 ((q0 + (-7046029254386353131 : Int64)) + (-7046029254386353131 : Int64)))), .second, .val (.int (1 : Int32))] [(.long (own_u5 (own_m3 ((q0 + (-7046029254386353131 : Int64)) + (-7046029254386353131 : Int64)))))])) := st16
  have k17 : Go p.tables e below (T16.setTop (mkF m 87 #[.val (.long q0), .second, .val (.long (-7046029254386353131 : Int64)), .second, .val (.ref b2), .val (.long (own_m3 (q0 + (-7046029254386353131 : Int64)))), .second, .val (.long (own_m3 ((q0 + (-7046029254386353131 : Int64)) + (-7046029254386353131 : Int64)))), .second, .val (.int (1 : Int32))] [(.long (own_u5 (own_m3 ((q0 + (-7046029254386353131 : Int64)) + (-7046029254386353131 : Int64)))))])) (T16.setTop (mkF m 103 #[.val (.long q0), .second, .val (.long (-7046029254386353131 : Int64)), .second, .val (.ref b2), .val (.long (own_m3 (q0 + (-7046029254386353131 : Int64)))), .second, .val (.long (own_m3 ((q0 + (-7046029254386353131 : Int64)) + (-7046029254386353131 : Int64)))), .second, .val (.int (1 : Int32))] [(.int (1 : Int32))])) := by
    intro t ht
    refine XS.lloadN X16.here hx rfl (hb hby at_87) rfl ?_
    show Steps p.tables e below (T16.setTop (mkF m 88 #[.val (.long q0), .second, .val (.long (-7046029254386353131 : Int64)), .second, .val (.ref b2), .val (.long (own_m3 (q0 + (-7046029254386353131 : Int64)))), .second, .val (.long (own_m3 ((q0 + (-7046029254386353131 : Int64)) + (-7046029254386353131 : Int64)))), .second, .val (.int (1 : Int32))] [(.long q0), (.long (own_u5 (own_m3 ((q0 + (-7046029254386353131 : Int64)) + (-7046029254386353131 : Int64)))))])) _
    refine X16.ldc2Long hx hown (mvT hZ (hw _ (List.mem_of_getElem? (i := 25) rfl))) (g := (mkF m 88 #[.val (.long q0), .second, .val (.long (-7046029254386353131 : Int64)), .second, .val (.ref b2), .val (.long (own_m3 (q0 + (-7046029254386353131 : Int64)))), .second, .val (.long (own_m3 ((q0 + (-7046029254386353131 : Int64)) + (-7046029254386353131 : Int64)))), .second, .val (.int (1 : Int32))] [(.long q0), (.long (own_u5 (own_m3 ((q0 + (-7046029254386353131 : Int64)) + (-7046029254386353131 : Int64)))))])) rfl (hb hby at_88) _ ?_
    show Steps p.tables e below (T16.setTop (mkF m 91 #[.val (.long q0), .second, .val (.long (-7046029254386353131 : Int64)), .second, .val (.ref b2), .val (.long (own_m3 (q0 + (-7046029254386353131 : Int64)))), .second, .val (.long (own_m3 ((q0 + (-7046029254386353131 : Int64)) + (-7046029254386353131 : Int64)))), .second, .val (.int (1 : Int32))] [(.long (2 : Int64)), (.long q0), (.long (own_u5 (own_m3 ((q0 + (-7046029254386353131 : Int64)) + (-7046029254386353131 : Int64)))))])) _
    refine XS.lloadN X16.here hx rfl (hb hby at_91) rfl ?_
    show Steps p.tables e below (T16.setTop (mkF m 92 #[.val (.long q0), .second, .val (.long (-7046029254386353131 : Int64)), .second, .val (.ref b2), .val (.long (own_m3 (q0 + (-7046029254386353131 : Int64)))), .second, .val (.long (own_m3 ((q0 + (-7046029254386353131 : Int64)) + (-7046029254386353131 : Int64)))), .second, .val (.int (1 : Int32))] [(.long (-7046029254386353131 : Int64)), (.long (2 : Int64)), (.long q0), (.long (own_u5 (own_m3 ((q0 + (-7046029254386353131 : Int64)) + (-7046029254386353131 : Int64)))))])) _
    refine XS.lmul X16.here hx rfl (hb hby at_92) rfl ?_
    show Steps p.tables e below (T16.setTop (mkF m 93 #[.val (.long q0), .second, .val (.long (-7046029254386353131 : Int64)), .second, .val (.ref b2), .val (.long (own_m3 (q0 + (-7046029254386353131 : Int64)))), .second, .val (.long (own_m3 ((q0 + (-7046029254386353131 : Int64)) + (-7046029254386353131 : Int64)))), .second, .val (.int (1 : Int32))] [(.long ((2 : Int64) * (-7046029254386353131 : Int64))), (.long q0), (.long (own_u5 (own_m3 ((q0 + (-7046029254386353131 : Int64)) + (-7046029254386353131 : Int64)))))])) _
    refine XS.ladd X16.here hx rfl (hb hby at_93) rfl ?_
    show Steps p.tables e below (T16.setTop (mkF m 94 #[.val (.long q0), .second, .val (.long (-7046029254386353131 : Int64)), .second, .val (.ref b2), .val (.long (own_m3 (q0 + (-7046029254386353131 : Int64)))), .second, .val (.long (own_m3 ((q0 + (-7046029254386353131 : Int64)) + (-7046029254386353131 : Int64)))), .second, .val (.int (1 : Int32))] [(.long (q0 + ((2 : Int64) * (-7046029254386353131 : Int64)))), (.long (own_u5 (own_m3 ((q0 + (-7046029254386353131 : Int64)) + (-7046029254386353131 : Int64)))))])) _
    refine XS.lcmp X16.here hx rfl (hb hby at_94) rfl ?_
    show Steps p.tables e below (T16.setTop (mkF m 95 #[.val (.long q0), .second, .val (.long (-7046029254386353131 : Int64)), .second, .val (.ref b2), .val (.long (own_m3 (q0 + (-7046029254386353131 : Int64)))), .second, .val (.long (own_m3 ((q0 + (-7046029254386353131 : Int64)) + (-7046029254386353131 : Int64)))), .second, .val (.int (1 : Int32))] [(.int (lcmpW (own_u5 (own_m3 ((q0 + (-7046029254386353131 : Int64)) + (-7046029254386353131 : Int64)))) (q0 + ((2 : Int64) * (-7046029254386353131 : Int64)))))])) _
    refine XS.ifNo X16.here hx rfl (hb hby at_95) rfl ((if0 _ _).trans (teq (own_eqL (own_law2 _ : (own_u5 (own_m3 ((q0 + (-7046029254386353131 : Int64)) + (-7046029254386353131 : Int64)))) = (q0 + ((2 : Int64) * (-7046029254386353131 : Int64)))))).2) ?_
    show Steps p.tables e below (T16.setTop (mkF m 98 #[.val (.long q0), .second, .val (.long (-7046029254386353131 : Int64)), .second, .val (.ref b2), .val (.long (own_m3 (q0 + (-7046029254386353131 : Int64)))), .second, .val (.long (own_m3 ((q0 + (-7046029254386353131 : Int64)) + (-7046029254386353131 : Int64)))), .second, .val (.int (1 : Int32))] [])) _
    refine XS.iconst X16.here hx rfl (hb hby at_98) ?_
    show Steps p.tables e below (T16.setTop (mkF m 99 #[.val (.long q0), .second, .val (.long (-7046029254386353131 : Int64)), .second, .val (.ref b2), .val (.long (own_m3 (q0 + (-7046029254386353131 : Int64)))), .second, .val (.long (own_m3 ((q0 + (-7046029254386353131 : Int64)) + (-7046029254386353131 : Int64)))), .second, .val (.int (1 : Int32))] [(.int (1 : Int32))])) _
    refine XS.goto X16.here hx rfl (pc0 := 99) (pc' := 103) rfl (hb hby at_99) (by decide) (by decide) ?_
    exact ht
  obtain ⟨fs, hr, hrun, hended, hW, hsame⟩ := X16.leave (v := some (.int (1 : Int32))) (fun h => by rw [Bd.returns] at h; cases h)
  refine ⟨_, _, pre0 _ ((goT k1 (goT k2 (goT k3 (goT k4 (goT k5 (goT k6 (goT k7 (goT k8 (goT k9 (goT k10 (goT k11 (goT k12 (goT k13 (goT k14 (goT k15 (goT k16 k17)))))))))))))))) _ (retN X16 hx (t := .boolean) Bd.returns (by simp) (hb hby at_103) hr)), hrun, hended, _, _, rfl, ?_, ⟨_, rfl⟩, hW, hsame.mono (by decide) (by decide)⟩
  show Q_law Z q0 h0 n0 _ T16.heap _
  rw [eq16]
  exact ⟨rfl, N16⟩
set_option maxRecDepth 65536 in
set_option maxHeartbeats 40000000 in
theorem comes_1 {Post : Tables → Env → Array Value → State → Outcome → State → Prop} (hpost : ∀ tb e args s v u, (limb_1_1.after args s (.returned v) u = true ∧ limb_1_2.after args s (.returned v) u = true ∧ True) → FrameEnd s (.returned v) u (Jvm.fieldLocs frame_1_writes args s ++ Jvm.arrayLocs frame_1_arrays args s ++ Jvm.staticLocs frame_1_statics s) 16 128 → Post tb e args s (.returned v) u) :
    ArmFor flags0 classFile x code maxLocals ret World_1 tables_1 room_1 Calls_1 rest_1 Pre_1 Post := by
  intro l hfl _ _ p e ha hc hk s m args below hf hA hF happ hP
  obtain ⟨hcalls, hrest, hpre⟩ := hP
  obtain ⟨-, -, -, hnamed, -, -, -, hat⟩ := (Spec.applies_iff hf).mp happ
  obtain ⟨hg, hn⟩ := and_e (Cond.before_iff.mp (show (Jvm.Cond.and given_1 narrow_1).before args s = true from hpre))
  obtain ⟨hcnt, hg⟩ := and_e hg
  have ha0 := hg
  obtain ⟨w0, rfl⟩ : ∃ w0 : Value, args = #[w0] := by
    have hs : args.size = 1 := by simpa [Cond.value, given_1] using hcnt
    obtain ⟨L⟩ := args
    match L, hs with
    | [w0], _ => exact ⟨w0, rfl⟩
  have hw := fun d (hd : d ∈ tables_1) => atoms_spec (ws := Jvm.Cond.code x code maxLocals ret :: tables_1) hat d (List.mem_cons_of_mem _ hd)
  have hfit : Fit s := fun {y c} hc i hi => by
    obtain ⟨ha, rfl⟩ := Array.getElem?_eq_some_iff.mp hc
    have q := List.all_eq_true.mp ((Array.all_eq_true_iff_forall_mem.mp hF) _ (Array.getElem_mem ha)) i (List.mem_range.mpr hi)
    simpa [Array.getElem?_eq_getElem hi] using q
  obtain ⟨i0, ei0⟩ := isL_v ha0
  obtain rfl : w0 = (.long i0) := Option.some.inj ei0
  obtain ⟨n, o, h1, h2, h3, _, L, rfl, ⟨rfl, N⟩, hq⟩ := rm_law l s _ hw tables_1 i0 s.heap s.heap.size (Nat.le_refl _)  p e ha hc hk s m _ below hf ((Spec.applies_iff_loose hf).mp happ).1 ⟨rfl, State.Warmed39.refl s, rfl⟩ trivial
  refine ⟨n, _, h1, h2, h3, hpost _ _ _ _ _ _ ⟨Cond.after_iff.mpr rfl, Cond.after_iff.mpr (eq_i res_at (Term.int_eval (1)) rfl), trivial⟩ ⟨hq.1, hq.2.1, (hq.2.2.sift fun y hy => Or.inr (N y hy)).mono (by decide) (by decide)⟩⟩
theorem main_1_1 : Claimed_1_1 := comes_1 fun _ _ _ _ _ _ h hF => ⟨h.1, hF⟩
theorem main_1_2 : Claimed_1_2 := comes_1 fun _ _ _ _ _ _ h hF => ⟨h.2.1, hF⟩
end Jvm.Pilot.@@N@@
namespace Jvm.Pilot.@@N@@
open Jvm Jvm.ClassFile Sem Op Lib Jvm.Free Jvm.Stand Jvm.Pilot.@@N@@.Jvm.D
/-! MADE BY PROGRAM (witnessworld.py) out of the Statement's table words and the real class files: 9 classes; the members and pool entries that the words name. The judged class is class 1, her method 3. -/
namespace start1
open Jvm.ClassFile
def u (s : String) : CpInfo := .utf8 (stringToUtf16 s)
/-- a pool by its gaps: so many unusable entries, then the entry; so many at the end -/
def gap : Nat → List CpInfo → List CpInfo
  | 0, r => r
  | n + 1, r => .unusable :: gap n r
def poolList (es : List (Nat × CpInfo)) (last : Nat) : List CpInfo := es.foldr (fun e r => gap e.1 (e.2 :: r)) (gap last [])
def pool (es : List (Nat × CpInfo)) (last : Nat) : Array CpInfo := ⟨poolList es last⟩
def fileOf (pool : Array CpInfo) (this : Nat) (attrs : Array Attribute := #[]) (ms : Array MethodInfo := #[]) (fl : Nat := 33) (sup : Nat := 0) (ifs : Array Nat := #[]) (fds : Array FieldInfo := #[]) : ClassFile where
  minorVersion := 0
  majorVersion := 65
  constantPool := pool
  accessFlags := fl
  thisClass := this
  superClass := sup
  interfaces := ifs
  fields := fds
  methods := ms
  attributes := attrs
def plain (name : String) (sup : Option ClassId) : Class where
  name := name
  kind := .ordinary
  loader := none
  accessFlags := 33
  super := sup
  interfaces := #[]
  cf := none
  fields := #[]
  methods := #[]
  instanceTypes := #[]
  staticTypes := #[]
  resolved := #[]
  callSites := []
  init := .initialized
  statics := none
  mirror := none

def pool0 : Array CpInfo := pool [(5, u "<init>"), (0, u "()V"), (1, .class_ 10), (1, u "java/lang/Object")] 113

def k0c0 : Code := { maxStack := 0, maxLocals := 1, code := object_method_1_code, exceptionTable := #[], attributes := #[] }
def k0m0 : Method := { name := "<init>", desc := "()V", sig := { parameters := [], returnType := none }, accessFlags := 1, code := some k0c0 }
/-- java/lang/Object -/
def k0 : Class := { plain "java/lang/Object" none with
  accessFlags := 33
  interfaces := #[]
  cf := some (fileOf pool0 8 #[] #[{ accessFlags := 1, nameIndex := 5, descriptorIndex := 6, attributes := #[] }] 33 0 #[] #[])
  fields := #[]
  methods := #[k0m0]
  instanceTypes := #[]
  staticTypes := #[]
  resolved := Array.replicate 124 none
  statics := none }

def pool1 : Array CpInfo := pool [(2, .class_ 4), (1, u "java/lang/Object"), (0, u "<init>"), (0, u "()V"), (0, .long 2), (1, .long 10723151780598845931), (1, .methodref 12 13), (0, .class_ 14), (0, .nameAndType 15 16), (0, u "com/example/role_conflict_finder/roleconflictfinder/SeededRandomNextLongPinLaw"), (0, u "inverse"), (0, u "(J)J"), (0, .long 13787848793156543929), (1, .long 11400714819323198485), (1, .class_ 22), (0, u "com/example/role_conflict_finder/roleconflictfinder/SeededRandom"), (0, .methodref 21 24), (0, .nameAndType 5 25), (0, u "(J)V"), (0, .methodref 21 27), (0, .nameAndType 28 29), (0, u "nextLong"), (0, u "()J"), (0, .methodref 12 31), (0, .nameAndType 32 16), (0, u "unmix"), (2, u "law"), (0, u "(J)Z")] 3

def k1m0 : Method := { name := "<init>", desc := "()V", sig := { parameters := [], returnType := none }, accessFlags := 1, code := none }
def k1c1 : Code := { maxStack := 8, maxLocals := 4, code := method_2_code, exceptionTable := #[], attributes := #[] }
def k1m1 : Method := { name := "inverse", desc := "(J)J", sig := { parameters := [.long], returnType := some .long }, accessFlags := 10, code := some k1c1 }
def k1c2 : Code := { maxStack := 5, maxLocals := 4, code := method_3_code, exceptionTable := #[], attributes := #[] }
def k1m2 : Method := { name := "unmix", desc := "(J)J", sig := { parameters := [.long], returnType := some .long }, accessFlags := 10, code := some k1c2 }
def k1c3 : Code := { maxStack := 8, maxLocals := 10, code := code, exceptionTable := #[], attributes := #[] }
def k1m3 : Method := { name := "law", desc := "(J)Z", sig := { parameters := [.long], returnType := some .boolean }, accessFlags := 9, code := some k1c3 }
/-- com/example/role_conflict_finder/roleconflictfinder/SeededRandomNextLongPinLaw -/
def k1 : Class := { plain "com/example/role_conflict_finder/roleconflictfinder/SeededRandomNextLongPinLaw" (some 0) with
  accessFlags := 49
  interfaces := #[]
  cf := some (fileOf pool1 12 #[] #[{ accessFlags := 1, nameIndex := 5, descriptorIndex := 6, attributes := #[] }, { accessFlags := 10, nameIndex := 15, descriptorIndex := 16, attributes := #[] }, { accessFlags := 10, nameIndex := 32, descriptorIndex := 16, attributes := #[] }, { accessFlags := 9, nameIndex := 35, descriptorIndex := 36, attributes := #[] }] 49 2 #[] #[])
  fields := #[]
  methods := #[k1m0, k1m1, k1m2, k1m3]
  instanceTypes := #[]
  staticTypes := #[]
  resolved := Array.replicate 40 none
  statics := none }

def pool2 : Array CpInfo := pool [(1, .methodref 2 3), (0, .class_ 4), (0, .nameAndType 5 6), (0, u "java/lang/Object"), (0, u "<init>"), (0, u "()V"), (0, .fieldref 8 9), (0, .class_ 10), (0, .nameAndType 11 12), (0, u "com/example/role_conflict_finder/roleconflictfinder/SeededRandom"), (0, u "state"), (0, u "J"), (0, .long 11400714819323198485), (1, .long 13787848793156543929), (1, .long 10723151780598845931), (3, u "nextLong"), (0, u "()J"), (47, u "GAMMA"), (1, u "FIRST_MIX"), (0, u "SECOND_MIX"), (0, u "(J)V")] 13

def k2c0 : Code := { maxStack := 3, maxLocals := 3, code := prog_21_method_1_code, exceptionTable := #[], attributes := #[] }
def k2m0 : Method := { name := "<init>", desc := "(J)V", sig := { parameters := [.long], returnType := none }, accessFlags := 0, code := some k2c0 }
def k2c1 : Code := { maxStack := 5, maxLocals := 3, code := prog_21_method_2_code, exceptionTable := #[], attributes := #[] }
def k2m1 : Method := { name := "nextLong", desc := "()J", sig := { parameters := [], returnType := some .long }, accessFlags := 0, code := some k2c1 }
/-- com/example/role_conflict_finder/roleconflictfinder/SeededRandom -/
def k2 : Class := { plain "com/example/role_conflict_finder/roleconflictfinder/SeededRandom" (some 0) with
  accessFlags := 48
  interfaces := #[]
  cf := some (fileOf pool2 8 #[] #[{ accessFlags := 0, nameIndex := 5, descriptorIndex := 74, attributes := #[] }, { accessFlags := 0, nameIndex := 21, descriptorIndex := 22, attributes := #[] }] 48 2 #[] #[{ accessFlags := 26, nameIndex := 70, descriptorIndex := 12, attributes := #[] }, { accessFlags := 26, nameIndex := 72, descriptorIndex := 12, attributes := #[] }, { accessFlags := 26, nameIndex := 73, descriptorIndex := 12, attributes := #[] }, { accessFlags := 2, nameIndex := 11, descriptorIndex := 12, attributes := #[] }])
  fields := #[{ name := "GAMMA", type := .long, accessFlags := 26, slot := 0, constantValue := 0 }, { name := "FIRST_MIX", type := .long, accessFlags := 26, slot := 1, constantValue := 0 }, { name := "SECOND_MIX", type := .long, accessFlags := 26, slot := 2, constantValue := 0 }, { name := "state", type := .long, accessFlags := 2, slot := 0, constantValue := 0 }]
  methods := #[k2m0, k2m1]
  instanceTypes := #[.long]
  staticTypes := #[.long, .long, .long]
  resolved := Array.replicate 88 none
  statics := none }

def pool3 : Array CpInfo := pool [(1, u "java/lang/Cloneable"), (0, .class_ 1), (0, u "java/lang/Object"), (0, .class_ 3)] 3

/-- java/lang/Cloneable -/
def k3 : Class := { plain "java/lang/Cloneable" (some 0) with
  accessFlags := 1537
  interfaces := #[]
  cf := some (fileOf pool3 2 #[] #[] 1537 4 #[] #[])
  fields := #[]
  methods := #[]
  instanceTypes := #[]
  staticTypes := #[]
  resolved := Array.replicate 8 none
  statics := none }

def pool4 : Array CpInfo := pool [(1, u "java/io/Serializable"), (0, .class_ 1), (0, u "java/lang/Object"), (0, .class_ 3)] 3

/-- java/io/Serializable -/
def k4 : Class := { plain "java/io/Serializable" (some 0) with
  accessFlags := 1537
  interfaces := #[]
  cf := some (fileOf pool4 2 #[] #[] 1537 4 #[] #[])
  fields := #[]
  methods := #[]
  instanceTypes := #[]
  staticTypes := #[]
  resolved := Array.replicate 8 none
  statics := none }

/-- the primitive byte -/
def k5 : Class := { plain "byte" none with kind := .primitive 'B', accessFlags := 0x411 }
/-- [B -/
def k6 : Class := { plain "[B" (some 0) with kind := .array 5 .byte, interfaces := #[3, 4], accessFlags := 1041 }

/-- the primitive int -/
def k7 : Class := { plain "int" none with kind := .primitive 'I', accessFlags := 0x411 }
/-- [I -/
def k8 : Class := { plain "[I" (some 0) with kind := .array 7 .int, interfaces := #[3, 4], accessFlags := 1041 }

def heap : Heap := #[]
def classes : Array Class := #[k0, k1, k2, k3, k4, k5, k6, k7, k8]
def interned : List (Array UInt16 × Addr) := []
def slotsUsed : Nat := 0
def theMethod : MethodId := ⟨1, 3⟩
def args0 : Array Value := #[.long 5]
def aboutOver (below : List Frame) : State where
  vm := { classes := classes, interned := interned.toArray }
  heap := heap
  slotsUsed := slotsUsed
  threads := #[{ frames := .invoking theMethod args0 :: below }]
def below0 : List Frame := [.native { method := ⟨0, 0⟩, args := #[] }]
def about1 : State := aboutOver below0
def p0 : Program := .bare "" "" ""
def e0 : Env := launch0.env 0 0 0
theorem w_frames : about1.frames = Frame.invoking theMethod args0 :: below0 := rfl
set_option maxRecDepth 65536 in
theorem w_args : argsFit about1.vm theMethod args0 = true := by decide +kernel
set_option maxRecDepth 65536 in
theorem w_heap : heapFits about1 = true := by decide +kernel
set_option maxRecDepth 65536 in
theorem w_runnable : about1.curStatus? = some .runnable := by decide +kernel
set_option maxRecDepth 65536 in
theorem w_alone : about1.alone = true := by decide +kernel
set_option maxRecDepth 65536 in
theorem w_named : about1.methodNamed? x = some theMethod := by decide +kernel
set_option maxRecDepth 65536 in
theorem w_hears : about1.hears theMethod below0 = true := by decide +kernel
set_option maxRecDepth 65536 in
theorem w_ripe : about1.ripe theMethod args0 below0 = true := by decide +kernel
theorem w_running : about1.status = .running := rfl
set_option maxRecDepth 65536 in
theorem w_room : about1.hasRoom e0.platform room_1 = true :=
  launch0.hasRoom_least _ room_1 (by decide +kernel) (by decide +kernel) (by decide +kernel) (by decide +kernel) (by decide +kernel) (by decide +kernel)
theorem allAtoms_all (ts : List Jvm.Cond) (a : Array Jvm.Value) (st : Jvm.State) : (allAtoms ts).before a st = ts.all (fun c => c.before a st) := by
  induction ts with
  | nil => rfl
  | cons c t ih =>
    show (Jvm.Cond.and c (allAtoms t)).before a st = _
    rw [Jvm.Cond.before_and, ih, List.all_cons]
def words1 : List Jvm.Cond := Jvm.Cond.code x code maxLocals ret :: tables_1
/-- a 'code' word, met by the world's own term for the bytes: nothing is compared byte by byte -/
theorem code_word {y : MethodName} {bytes : ByteArray} {mx : Nat} {rt : Option FieldType} {a : Array Value} {s : State} {m : MethodId} {meth : Method} {c : Code} (h1 : s.methodNamed? y = some m) (h2 : s.vm.method? m = some meth) (h3 : meth.code = some c) (h4 : c.code = bytes)
    (h5 : (c.maxLocals == mx && c.exceptionTable.isEmpty && decide (c.maxStack ≤ mostOperands) && decide (meth.sig.returnType = rt) && !meth.locks && decide (parseMethodDescriptor y.desc = some meth.sig)) = true) : (Jvm.Cond.code y bytes mx rt).before a s = true := by
  simp only [Bool.and_eq_true, beq_iff_eq, Bool.not_eq_true', decide_eq_true_eq] at h5
  obtain ⟨⟨⟨⟨⟨g1, g2⟩, g3⟩, g4⟩, g5⟩, g6⟩ := h5
  simp [Cond.before, Cond.holds, Cond.value, h1, h2, h3, h4, g1, g2, g3, g4, g5, g6]
def isCode : Jvm.Cond → Bool
  | .code _ _ _ _ => true
  | _ => false
theorem all_split {L : List Jvm.Cond} {P : Jvm.Cond → Bool} (h1 : L.all (fun c => isCode c || P c) = true) (h2 : ∀ c ∈ L.filter isCode, P c = true) : L.all P = true := by
  refine List.all_eq_true.mpr fun c hc => ?_
  have h := List.all_eq_true.mp h1 c hc
  rcases Bool.eq_false_or_eq_true (isCode c) with hi | hi
  · exact h2 c (List.mem_filter.mpr ⟨hc, hi⟩)
  · simpa [hi] using h
set_option maxRecDepth 65536 in
theorem w_c0 : (Jvm.Cond.code x code maxLocals ret).before args0 about1 = true := code_word (m := ⟨1, 3⟩) (meth := k1m3) (c := k1c3) (by decide +kernel) rfl rfl rfl (by decide +kernel)
set_option maxRecDepth 65536 in
theorem w_c1 : (Jvm.Cond.code ({ cls := "com/example/role_conflict_finder/roleconflictfinder/SeededRandom", name := "<init>", desc := "(J)V" } : Jvm.MethodName) prog_21_method_1_code (3 : Nat) (Option.none : Option Jvm.ClassFile.FieldType)).before args0 about1 = true := code_word (m := ⟨2, 0⟩) (meth := k2m0) (c := k2c0) (by decide +kernel) rfl rfl rfl (by decide +kernel)
set_option maxRecDepth 65536 in
theorem w_c2 : (Jvm.Cond.code ({ cls := "java/lang/Object", name := "<init>", desc := "()V" } : Jvm.MethodName) object_method_1_code (1 : Nat) (Option.none : Option Jvm.ClassFile.FieldType)).before args0 about1 = true := code_word (m := ⟨0, 0⟩) (meth := k0m0) (c := k0c0) (by decide +kernel) rfl rfl rfl (by decide +kernel)
set_option maxRecDepth 65536 in
theorem w_c3 : (Jvm.Cond.code ({ cls := "com/example/role_conflict_finder/roleconflictfinder/SeededRandom", name := "nextLong", desc := "()J" } : Jvm.MethodName) prog_21_method_2_code (3 : Nat) (Option.some Jvm.ClassFile.FieldType.long)).before args0 about1 = true := code_word (m := ⟨2, 1⟩) (meth := k2m1) (c := k2c1) (by decide +kernel) rfl rfl rfl (by decide +kernel)
set_option maxRecDepth 65536 in
theorem w_c4 : (Jvm.Cond.code ({ cls := "com/example/role_conflict_finder/roleconflictfinder/SeededRandomNextLongPinLaw", name := "inverse", desc := "(J)J" } : Jvm.MethodName) method_2_code (4 : Nat) (Option.some Jvm.ClassFile.FieldType.long)).before args0 about1 = true := code_word (m := ⟨1, 1⟩) (meth := k1m1) (c := k1c1) (by decide +kernel) rfl rfl rfl (by decide +kernel)
set_option maxRecDepth 65536 in
theorem w_c5 : (Jvm.Cond.code ({ cls := "com/example/role_conflict_finder/roleconflictfinder/SeededRandomNextLongPinLaw", name := "unmix", desc := "(J)J" } : Jvm.MethodName) method_3_code (4 : Nat) (Option.some Jvm.ClassFile.FieldType.long)).before args0 about1 = true := code_word (m := ⟨1, 2⟩) (meth := k1m2) (c := k1c2) (by decide +kernel) rfl rfl rfl (by decide +kernel)
def codes1 : List Jvm.Cond := [Jvm.Cond.code x code maxLocals ret, Jvm.Cond.code ({ cls := "com/example/role_conflict_finder/roleconflictfinder/SeededRandom", name := "<init>", desc := "(J)V" } : Jvm.MethodName) prog_21_method_1_code (3 : Nat) (Option.none : Option Jvm.ClassFile.FieldType), Jvm.Cond.code ({ cls := "java/lang/Object", name := "<init>", desc := "()V" } : Jvm.MethodName) object_method_1_code (1 : Nat) (Option.none : Option Jvm.ClassFile.FieldType), Jvm.Cond.code ({ cls := "com/example/role_conflict_finder/roleconflictfinder/SeededRandom", name := "nextLong", desc := "()J" } : Jvm.MethodName) prog_21_method_2_code (3 : Nat) (Option.some Jvm.ClassFile.FieldType.long), Jvm.Cond.code ({ cls := "com/example/role_conflict_finder/roleconflictfinder/SeededRandomNextLongPinLaw", name := "inverse", desc := "(J)J" } : Jvm.MethodName) method_2_code (4 : Nat) (Option.some Jvm.ClassFile.FieldType.long), Jvm.Cond.code ({ cls := "com/example/role_conflict_finder/roleconflictfinder/SeededRandomNextLongPinLaw", name := "unmix", desc := "(J)J" } : Jvm.MethodName) method_3_code (4 : Nat) (Option.some Jvm.ClassFile.FieldType.long)]
set_option maxRecDepth 65536 in
theorem codes_eq : words1.filter isCode = codes1 := rfl
theorem w_codes : ∀ c ∈ words1.filter isCode, c.before args0 about1 = true := by
  rw [codes_eq]
  intro c hc
  simp only [codes1, List.mem_cons, List.not_mem_nil, or_false] at hc
  rcases hc with rfl | rfl | rfl | rfl | rfl | rfl
  · exact w_c0
  · exact w_c1
  · exact w_c2
  · exact w_c3
  · exact w_c4
  · exact w_c5
set_option maxRecDepth 65536 in
theorem w_t1 : (words1.take 24).all (fun c => isCode c || c.before args0 about1) = true := by decide +kernel
set_option maxRecDepth 65536 in
theorem w_t2 : (words1.drop 24).all (fun c => isCode c || c.before args0 about1) = true := by decide +kernel
theorem w_tables : (allAtoms (Jvm.Cond.code x code maxLocals ret :: tables_1)).before args0 about1 = true := by
  rw [allAtoms_all]
  show words1.all (fun c => c.before args0 about1) = true
  refine all_split ?_ w_codes
  rw [← List.take_append_drop 24 words1, List.all_append, w_t1, w_t2]
  rfl
set_option maxRecDepth 65536 in
theorem w_case : (Jvm.Cond.and given_1 narrow_1).before args0 about1 = true := by decide +kernel
theorem w_applies : (headSpec (Jvm.Cond.code x code maxLocals ret :: tables_1) room_1).applies x e0.platform about1 = true :=
  (Spec.applies_iff w_frames).mpr ⟨w_running, w_runnable, w_alone, w_named, w_hears, w_ripe, w_room, w_tables⟩
theorem atStart : AtStart classFile x code maxLocals ret World_1 tables_1 room_1 Calls_1 rest_1 Pre_1 launch0 p0 e0 about1 theMethod args0 below0 :=
  ⟨lists_1, trivial, launch0.admits_env _ _ _, launch0.least_env, fairChoices_fair.cas, fairChoices_fair.clock, w_frames, w_args, w_heap, w_applies, trivial, trivial, w_case⟩
end start1
theorem witness_1 : WitnessClaimed_1 := ⟨start1.p0, start1.e0, start1.about1, start1.theMethod, start1.args0, start1.below0, start1.atStart⟩
end Jvm.Pilot.@@N@@
