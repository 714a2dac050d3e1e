import JvmDerived
import JvmDerived.Pilot.@@N@@Statement
import JvmDerived.Pilot.@@N@@Code
set_option linter.unusedVariables false
set_option linter.unusedSimpArgs false
namespace Jvm.RoadKit
open Sem ClassFile Op Lib Jvm.Stand Jvm.Free Jvm.LawKit
abbrev Go (tb : Tables) (e : Env) (below : List Frame) (A B : State) : Prop := ∀ t, Steps tb e below B t → Steps tb e below A t
theorem goT {tb : Tables} {e : Env} {below : List Frame} {A B C : State} (f : Go tb e below A B) (g : Go tb e below B C) : Go tb e below A C := fun t h => f t (g t h)
section New
variable {p : Program} {l : Launch} {e : Env} {R : Room} {s : State} {m : MethodId} {args : Array Value} {below : List Frame} {meth : Method} {c : Code} {T : State} {locs : List Loc} {cells slots : Nat}
theorem retI (X : Stand p l e R s m args below meth c T locs cells slots) (hx : p.tables.exec = Jvm.exec) {pc : Nat} {Ls : Array Slot} {z : Int32} {rest : List Value} (hret : meth.sig.returnType = some .int) (hd : decode c.code pc = .ok (.ireturn, 1)) {fs : List Frame}
    (hl : ∀ (f : JFrame) (acts : List Action), f.method = m → f.locked = none → f.entered = [] → (doReturn e (T.setTop f) acts (some (.int z))).1 = T.setFrames fs) : Steps p.tables e below (T.setTop (mkF m pc Ls (.int z :: rest))) (T.setFrames fs) := by
  have hm' : T.vm.method? m = some meth := X.method'
  have hn : narrow .int (.int z) = .int z := rfl
  show Steps p.tables e below (T.setTop { method := m, pc := pc, locals := Ls, stack := _ :: rest, locked := none }) _
  jvm_step X.here [X.here.top, hx, hd, hm', hret, hn]
  first | (intro acts; rw [hl _ acts rfl rfl rfl]) | rw [hl _ _ rfl rfl rfl]
  exact Steps.refl _
theorem retJ (X : Stand p l e R s m args below meth c T locs cells slots) (hx : p.tables.exec = Jvm.exec) {pc : Nat} {Ls : Array Slot} {z : Int64} {rest : List Value} (hret : meth.sig.returnType = some .long) (hd : decode c.code pc = .ok (.lreturn, 1)) {fs : List Frame}
    (hl : ∀ (f : JFrame) (acts : List Action), f.method = m → f.locked = none → f.entered = [] → (doReturn e (T.setTop f) acts (some (.long z))).1 = T.setFrames fs) : Steps p.tables e below (T.setTop (mkF m pc Ls (.long z :: rest))) (T.setFrames fs) := by
  have hm' : T.vm.method? m = some meth := X.method'
  have hn : narrow .long (.long z) = .long z := rfl
  show Steps p.tables e below (T.setTop { method := m, pc := pc, locals := Ls, stack := _ :: rest, locked := none }) _
  jvm_step X.here [X.here.top, hx, hd, hm', hret, hn]
  first | (intro acts; rw [hl _ acts rfl rfl rfl]) | rw [hl _ _ rfl rfl rfl]
  exact Steps.refl _
theorem retR (X : Stand p l e R s m args below meth c T locs cells slots) (hx : p.tables.exec = Jvm.exec) {pc : Nat} {Ls : Array Slot} {z : Addr} {rest : List Value} {C : String} (hret : meth.sig.returnType = some (.object C)) (hd : decode c.code pc = .ok (.areturn, 1)) {fs : List Frame}
    (hl : ∀ (f : JFrame) (acts : List Action), f.method = m → f.locked = none → f.entered = [] → (doReturn e (T.setTop f) acts (some (.ref z))).1 = T.setFrames fs) : Steps p.tables e below (T.setTop (mkF m pc Ls (.ref z :: rest))) (T.setFrames fs) := by
  have hm' : T.vm.method? m = some meth := X.method'
  show Steps p.tables e below (T.setTop { method := m, pc := pc, locals := Ls, stack := _ :: rest, locked := none }) _
  jvm_step X.here [X.here.top, hx, hd, hm', hret, Value.isRef, FieldType.isReference]
  first | (intro acts; rw [hl _ acts rfl rfl rfl]) | rw [hl _ _ rfl rfl rfl]
  exact Steps.refl _
end New
theorem own_sta_keep {Z : State} {h h' : Heap} {b : Addr} {C n d K : String} {v : Value} (F : Sta Z h C n d v) (E : Exa Z h b K) (Kp : Keep h h' [b]) : Sta Z h' C n d v := by
  obtain ⟨cf, i, k, f, st, cell, h1, h2, h3, h4, h5, h6, h7⟩ := F
  obtain ⟨c2, _, g1, -, -, g4, -⟩ := E
  have ne : st ∉ [b] := fun q => by
    cases List.mem_singleton.mp q
    cases h5.symm.trans g1
    rw [g4] at h6; cases h6
  exact ⟨cf, i, k, f, st, cell, h1, h2, h3, h4, Kp.2.1 st cell h5 ne, h6, h7⟩
theorem own_mvM {Z s : State} {a0 args : Array Value} {own host : String} {index : Nat} {y : MethodName} (hZ : Z.Warmed39 s.vm) (w : (Cond.methodLinkNest own index y host).before a0 Z = true) : (Cond.methodLinkNest own index y host).before args s = true := (Cond.methodLinkNest_wide hZ w :)
theorem own_fld_ne {Z : State} {h : Heap} {a : Addr} {C n d : String} {v w : Value} (F : Fld Z h a C n d v) (G : Fld Z h a C n d w) (ne : v ≠ w) : False := by
  obtain ⟨cell, cf, k, i, f, h1, h2, -, -, -, -, h7⟩ := F
  obtain ⟨cell', cf', k', i', f', g1, g2, -, -, -, -, g7⟩ := G
  cases h1.symm.trans g1
  cases h2.symm.trans g2
  cases h7.symm.trans g7
  exact ne rfl
theorem own_eq_i {args : Array Value} {first s : State} {o : Option Outcome} {idx : List Nat} {a : Term} {z : Int32} (h : (Cond.eq a (.int z)).value args first o s idx = some true) : a.eval args first o idx s = some (.int z) := by
  cases ha : a.eval args first o idx s with
  | none => simp [Cond.value, Term.eval, ha] at h
  | some x => cases x <;> simp [Cond.value, Term.eval, ha] at h ⊢; exact h
theorem own_eq_l {args : Array Value} {first s : State} {o : Option Outcome} {idx : List Nat} {a : Term} {z : Int64} (h : (Cond.eq a (.long z)).value args first o s idx = some true) : a.eval args first o idx s = some (.long z) := by
  cases ha : a.eval args first o idx s with
  | none => simp [Cond.value, Term.eval, ha] at h
  | some x => cases x <;> simp [Cond.value, Term.eval, ha] at h ⊢; exact h
theorem own_ltL {x y : Int64} (h : x < y) : lcmpW x y < 0 := (lw_lt x y).mpr h
theorem own_nltL {x y : Int64} (h : ¬ x < y) : ¬ lcmpW x y < 0 := fun q => h ((lw_lt x y).mp q)
theorem own_gtL {x y : Int64} (h : y < x) : 0 < lcmpW x y := (lw_gt x y).mpr h
theorem own_ngtL {x y : Int64} (h : ¬ y < x) : ¬ 0 < lcmpW x y := fun q => h ((lw_gt x y).mp q)
theorem own_eqL {x y : Int64} (h : x = y) : lcmpW x y = 0 := (lw_eq x y).mpr h
theorem own_neqL {x y : Int64} (h : ¬ x = y) : ¬ lcmpW x y = 0 := fun q => h ((lw_eq x y).mp q)
end Jvm.RoadKit
namespace Jvm.Pilot.@@N@@
open Jvm Jvm.ClassFile Sem Op Lib Jvm.Free Jvm.Stand Jvm.LawKit Jvm.RoadKit Bundle Jvm.Pilot.@@N@@.Jvm.D
theorem own_and (x m : Int32) (k : Nat) (hk : k < 32) (hm : m.toBitVec.toNat = 2 ^ k - 1) : x &&& m = Int32.ofNat (x.toBitVec.toNat % 2 ^ k) := by
  apply Int32.toBitVec_inj.mp
  apply BitVec.eq_of_toNat_eq
  show (x.toBitVec &&& m.toBitVec).toNat = (x.toBitVec.toNat % 2 ^ k) % 2 ^ 32
  have hp : 2 ^ k ≤ 2 ^ 32 := Nat.pow_le_pow_right (by decide) (by omega)
  have hq : x.toBitVec.toNat % 2 ^ k < 2 ^ k := Nat.mod_lt _ (Nat.two_pow_pos k)
  rw [BitVec.toNat_and, hm, Nat.and_two_pow_sub_one_eq_mod, Nat.mod_eq_of_lt (Nat.lt_of_lt_of_le hq hp)]
theorem own_ofNat {n : Nat} (h : n < 2 ^ 31) : (Int32.ofNat n).toInt = n := Int32.toInt_ofNat_of_lt h
theorem own_rem {n k : Nat} (h : n < 2 ^ 31) (hk : 0 < k) (hk2 : k < 2 ^ 31) : Int32.ofNat n % Int32.ofNat k = Int32.ofNat (n % k) := by
  apply Int32.toInt_inj.mp
  have : n % k < k := Nat.mod_lt _ hk
  rw [Int32.toInt_mod, own_ofNat h, own_ofNat hk2, own_ofNat (by omega), Int.tmod_eq_emod_of_nonneg (by omega)]
  rfl
theorem d_recordInit_0 : decode jdk_30_method_1_code 0 = .ok (.aload_n 0, 1) := by decide +kernel
theorem d_recordInit_1 : decode jdk_30_method_1_code 1 = .ok (.invokespecial 1, 3) := by decide +kernel
theorem d_recordInit_4 : decode jdk_30_method_1_code 4 = .ok (.return_, 1) := by decide +kernel
theorem pn_0 : plainName "java/lang/Record" = true := by first | (simp [plainName, overriddenIn]; done) | decide +kernel
theorem ef_recordInit (m : MethodId) (x0 : Addr) : entryFrame m #[(.ref x0)] 1 = mkF m 0 #[.val (.ref x0)] [] := by first | (simp [entryFrame, mkF, argsToLocals, Value.category]; done) | rfl
def Q_recordInit (Z : State) (r0 : Addr) (h0 : Heap) (n0 : Nat) (v : Option Value) (h : Heap) (L : List Loc) : Prop := v = none ∧ Fr n0 L ∧ h = h0
set_option maxRecDepth 65536 in
set_option maxHeartbeats 40000000 in
theorem rm_recordInit (l : Launch) (Z : State) (a0 : Array Value) (hw : ∀ d ∈ tables_1, d.before a0 Z = true) (ws : List Jvm.Cond) (r0 : Addr) (h0 : Heap) (n0 : Nat) (Z0 : n0 ≤ h0.size) :
    MetFree l (⟨"java/lang/Record", "<init>", "()V"⟩ : MethodName) (head1 (Jvm.Cond.code (⟨"java/lang/Record", "<init>", "()V"⟩ : MethodName) jdk_30_method_1_code 1 none :: ws) ({ frames := 1, cells := 0, slots := 0, locals := 12 } : Room)) (fun a U => a = #[(.ref r0)] ∧ Z.Warmed39 U.vm ∧ U.heap = h0) (fun _ _ _ _ _ => True) (fun _ U o U' => ∃ v L, o = .returned v ∧ Q_recordInit Z r0 h0 n0 v U'.heap L ∧ FrameEnd U o U' L ({ frames := 1, cells := 0, slots := 0, locals := 12 } : Room).cells ({ frames := 1, cells := 0, slots := 0, locals := 12 } : Room).slots) := by
  refine MetFree.of_bodySF (plainFor_of_name pn_0) hisR ?_
  intro p e s m args below meth c s₁ Bd hml0 hP hK
  obtain ⟨rfl, hZ, hh⟩ := hP
  have hx := Bd.exec
  have hby := Bd.bytes
  have hml : c.maxLocals = 1 := hml0
  have hown : s.vm.findClass "java/lang/Record" = some m.cls := findClass_of_methodNamed Bd.named
  have hnm := (name_of_methodNamed Bd.named Bd.method).1
  have X0 : Stand p l e ({ frames := 1, cells := 0, slots := 0, locals := 12 } : Room) s m #[(.ref r0)] below meth c s₁ [] 0 0 := Stand.of_body Bd
  have e0 : s₁.heap = h0 := by rw [← hh, Bd.state]; rfl
  have N0 := Fr.nil n0
  have pre0 : ∀ t, Steps p.tables e below (s₁.setTop (mkF m 0 #[.val (.ref r0)] [])) t → Steps p.tables e below (s₁.setTop (entryFrame m #[(.ref r0)] 1)) t := fun t k => castTop (ef_recordInit m r0) k
  have k1 : Go p.tables e below (s₁.setTop (mkF m 0 #[.val (.ref r0)] [])) (s₁.setTop (mkF m 1 #[.val (.ref r0)] [(.ref r0)])) := by
    intro t ht
    refine XS.aloadN X0.here hx rfl (hb hby d_recordInit_0) rfl rfl ?_
    exact ht
  obtain ⟨T2, X2, e2, st2⟩ := initO X0 hx hZ hown (hw _ (List.mem_of_getElem? (i := 12) rfl)) (hw _ (List.mem_of_getElem? (i := 13) rfl)) (hw _ (List.mem_of_getElem? (i := 14) rfl)) e0 (g := (mkF m 1 #[.val (.ref r0)] [(.ref r0)])) rfl (by rw [hml]; rfl) rfl (hb hby d_recordInit_1) (by decide) (W := 0) (by show 2 * 0 + _ ≤ _; exact Nat.le_of_eq rfl) (by decide)
  have k2 : Go p.tables e below (s₁.setTop (mkF m 1 #[.val (.ref r0)] [(.ref r0)])) (T2.setTop (mkF m 4 #[.val (.ref r0)] [])) := st2
  obtain ⟨fs, hr, hrun, hended, hW, hsame⟩ := X2.leave (v := none) (fun _ => rfl)
  refine ⟨_, _, pre0 _ ((goT k1 k2) _ (X2.returnOut hx Bd.returns (hb hby d_recordInit_4) hr)), hrun, hended, _, _, rfl, ?_, ⟨_, rfl⟩, hW, hsame.mono (by decide) (by decide)⟩
  show Q_recordInit Z r0 h0 n0 _ T2.heap _
  rw [e2]
  exact ⟨rfl, N0, rfl⟩
theorem pd_0 : parseMethodDescriptor "()V" = some ⟨[], none⟩ := by decide +kernel
theorem d_init_0 : decode prog_98_method_1_code 0 = .ok (.aload_n 0, 1) := by decide +kernel
theorem d_init_1 : decode prog_98_method_1_code 1 = .ok (.invokespecial 1, 3) := by decide +kernel
theorem d_init_4 : decode prog_98_method_1_code 4 = .ok (.aload_n 0, 1) := by decide +kernel
theorem d_init_5 : decode prog_98_method_1_code 5 = .ok (.lload_n 1, 1) := by decide +kernel
theorem d_init_6 : decode prog_98_method_1_code 6 = .ok (.putfield 7, 3) := by decide +kernel
theorem d_init_9 : decode prog_98_method_1_code 9 = .ok (.aload_n 0, 1) := by decide +kernel
theorem d_init_10 : decode prog_98_method_1_code 10 = .ok (.iload_n 3, 1) := by decide +kernel
theorem d_init_11 : decode prog_98_method_1_code 11 = .ok (.putfield 13, 3) := by decide +kernel
theorem d_init_14 : decode prog_98_method_1_code 14 = .ok (.aload_n 0, 1) := by decide +kernel
theorem d_init_15 : decode prog_98_method_1_code 15 = .ok (.lload 4, 2) := by decide +kernel
theorem d_init_17 : decode prog_98_method_1_code 17 = .ok (.putfield 17, 3) := by decide +kernel
theorem d_init_20 : decode prog_98_method_1_code 20 = .ok (.return_, 1) := by decide +kernel
theorem pn_1 : plainName "com/example/auspex/auspex/store/StoredVersion" = true := by first | (simp [plainName, overriddenIn]; done) | decide +kernel
theorem ef_init (m : MethodId) (x0 : Addr) (x1 : Int64) (x2 : Int32) (x3 : Int64) : entryFrame m #[(.ref x0), (.long x1), (.int x2), (.long x3)] 6 = mkF m 0 #[.val (.ref x0), .val (.long x1), .second, .val (.int x2), .val (.long x3), .second] [] := by first | (simp [entryFrame, mkF, argsToLocals, Value.category]; done) | rfl
def Q_init (Z : State) (r0 : Addr) (q1 : Int64) (p2 : Int32) (q3 : Int64) (h0 : Heap) (n0 : Nat) (v : Option Value) (h : Heap) (L : List Loc) : Prop := v = none ∧ Fr n0 L ∧ Keep h0 h [r0] ∧ Exa Z h r0 "com/example/auspex/auspex/store/StoredVersion" ∧ Fld Z h r0 "com/example/auspex/auspex/store/StoredVersion" "version" "J" (.long q1) ∧ Fld Z h r0 "com/example/auspex/auspex/store/StoredVersion" "tombstone" "Z" (.int (nar .boolean p2)) ∧ Fld Z h r0 "com/example/auspex/auspex/store/StoredVersion" "stamp" "J" (.long q3)
set_option maxRecDepth 65536 in
set_option maxHeartbeats 40000000 in
theorem rm_init (l : Launch) (Z : State) (a0 : Array Value) (hw : ∀ d ∈ tables_1, d.before a0 Z = true) (ws : List Jvm.Cond) (r0 : Addr) (q1 : Int64) (p2 : Int32) (q3 : Int64) (h0 : Heap) (n0 : Nat) (Z0 : n0 ≤ h0.size) (F_version : Fld Z h0 r0 "com/example/auspex/auspex/store/StoredVersion" "version" "J" (.long (0 : Int64))) (F_tombstone : Fld Z h0 r0 "com/example/auspex/auspex/store/StoredVersion" "tombstone" "Z" (.int (0 : Int32))) (F_stamp : Fld Z h0 r0 "com/example/auspex/auspex/store/StoredVersion" "stamp" "J" (.long (0 : Int64))) (E_r0 : Exa Z h0 r0 "com/example/auspex/auspex/store/StoredVersion") (g_r0 : n0 ≤ r0) :
    MetFree l (⟨"com/example/auspex/auspex/store/StoredVersion", "<init>", "(JZJ)V"⟩ : MethodName) (head1 (Jvm.Cond.code (⟨"com/example/auspex/auspex/store/StoredVersion", "<init>", "(JZJ)V"⟩ : MethodName) prog_98_method_1_code 6 none :: ws) ({ frames := 2, cells := 0, slots := 0, locals := 24 } : Room)) (fun a U => a = #[(.ref r0), (.long q1), (.int p2), (.long q3)] ∧ Z.Warmed39 U.vm ∧ U.heap = h0) (fun _ _ _ _ _ => True) (fun _ U o U' => ∃ v L, o = .returned v ∧ Q_init Z r0 q1 p2 q3 h0 n0 v U'.heap L ∧ FrameEnd U o U' L ({ frames := 2, cells := 0, slots := 0, locals := 24 } : Room).cells ({ frames := 2, cells := 0, slots := 0, locals := 24 } : Room).slots) := by
  refine MetFree.of_bodySF (plainFor_of_name pn_1) hisR ?_
  intro p e s m args below meth c s₁ Bd hml0 hP hK
  obtain ⟨rfl, hZ, hh⟩ := hP
  have hx := Bd.exec
  have hby := Bd.bytes
  have hml : c.maxLocals = 6 := hml0
  have hown : s.vm.findClass "com/example/auspex/auspex/store/StoredVersion" = some m.cls := findClass_of_methodNamed Bd.named
  have hnm := (name_of_methodNamed Bd.named Bd.method).1
  have X0 : Stand p l e ({ frames := 2, cells := 0, slots := 0, locals := 24 } : Room) s m #[(.ref r0), (.long q1), (.int p2), (.long q3)] below meth c s₁ [] 0 0 := Stand.of_body Bd
  have e0 : s₁.heap = h0 := by rw [← hh, Bd.state]; rfl
  have N0 := Fr.nil n0
  have pre0 : ∀ t, Steps p.tables e below (s₁.setTop (mkF m 0 #[.val (.ref r0), .val (.long q1), .second, .val (.int p2), .val (.long q3), .second] [])) t → Steps p.tables e below (s₁.setTop (entryFrame m #[(.ref r0), (.long q1), (.int p2), (.long q3)] 6)) t := fun t k => castTop (ef_init m r0 q1 p2 q3) k
  have k1 : Go p.tables e below (s₁.setTop (mkF m 0 #[.val (.ref r0), .val (.long q1), .second, .val (.int p2), .val (.long q3), .second] [])) (s₁.setTop (mkF m 1 #[.val (.ref r0), .val (.long q1), .second, .val (.int p2), .val (.long q3), .second] [(.ref r0)])) := by
    intro t ht
    refine XS.aloadN X0.here hx rfl (hb hby d_init_0) rfl rfl ?_
    exact ht
  obtain ⟨_, _, ⟨T2, L2, kq2, n2⟩, -, X2, ⟨Lc2, hQ2, l2, y2, z2⟩, st2⟩ := X0.specialBack hx (y := (⟨"java/lang/Record", "<init>", "()V"⟩ : MethodName)) rfl hown (mvT hZ (hw _ (List.mem_of_getElem? (i := 7) rfl))) (mvT hZ (hw _ (List.mem_of_getElem? (i := 8) rfl))) (mvT hZ (hw _ (List.mem_of_getElem? (i := 11) rfl))) (by decide) (backOf (W := 0) (rm_recordInit l Z a0 hw [] r0 h0 n0 Z0 ) hZ (hw _ (List.mem_of_getElem? (i := 11) rfl)) (hw _ (List.mem_of_getElem? (i := 10) rfl)) (by decide) (by decide)) (g := (mkF m 1 #[.val (.ref r0), .val (.long q1), .second, .val (.int p2), .val (.long q3), .second] [(.ref r0)])) rfl (by rw [hml]; rfl) (Steps.refl _) (a := r0) (argsL := []) (rest := []) (lenOf pd_0 rfl) rfl (by show 2 * 0 + _ ≤ _; exact Nat.le_of_eq rfl) (hb hby d_init_1) (fun _ _ => ⟨rfl, e0, (by decide : 0 + 0 ≤ _), (by decide : 0 + 0 ≤ _)⟩)
  dsimp only [Pt.U, Pt.locs, Pt.cells, Pt.slots] at X2 l2 y2 z2 st2 hQ2
  subst l2 y2 z2
  obtain ⟨rfl, N2q, eq2⟩ := hQ2
  have N2 := Fr.app N0 N2q
  have k2 : Go p.tables e below (s₁.setTop (mkF m 1 #[.val (.ref r0), .val (.long q1), .second, .val (.int p2), .val (.long q3), .second] [(.ref r0)])) (T2.setTop (mkF m 4 #[.val (.ref r0), .val (.long q1), .second, .val (.int p2), .val (.long q3), .second] [])) := fun _ ht => st2.trans ht
  have k3 : Go p.tables e below (T2.setTop (mkF m 4 #[.val (.ref r0), .val (.long q1), .second, .val (.int p2), .val (.long q3), .second] [])) (T2.setTop (mkF m 6 #[.val (.ref r0), .val (.long q1), .second, .val (.int p2), .val (.long q3), .second] [(.long q1), (.ref r0)])) := by
    intro t ht
    refine XS.aloadN X2.here hx rfl (hb hby d_init_4) rfl rfl ?_
    show Steps p.tables e below (T2.setTop (mkF m 5 #[.val (.ref r0), .val (.long q1), .second, .val (.int p2), .val (.long q3), .second] [(.ref r0)])) _
    refine XS.lloadN X2.here hx rfl (hb hby d_init_5) rfl ?_
    exact ht
  obtain ⟨T4, h4, X4, e4, W4, st4⟩ := putF X2 hx hZ hown (host := "") (Or.inl (hw _ (List.mem_of_getElem? (i := 15) rfl))) Via.refl eq2 F_version E_r0 (Or.inr ⟨(hw _ (List.mem_of_getElem? (i := 16) rfl)), rfl, hnm⟩) (hw _ (List.mem_of_getElem? (i := 2) rfl)) (ty := .long) (by decide) rfl rfl (g := (mkF m 6 #[.val (.ref r0), .val (.long q1), .second, .val (.int p2), .val (.long q3), .second] [(.long q1), (.ref r0)])) rfl rfl (hb hby d_init_6)
  have Kp4 : Keep h0 h4 [r0] := (Keep.refl h0 [r0]).wr W4 (Or.inl (by simp))
  have F_version_c_4 := F_version.same W4
  have F_tombstone_c_4 := F_tombstone.other W4 (Or.inr (slot_ne (Or.inr (hw _ (List.mem_of_getElem? (i := 18) rfl))) (Or.inr (hw _ (List.mem_of_getElem? (i := 16) rfl))) (by decide) (t := .boolean) (t' := .long) (by decide) (by decide)))
  have F_stamp_c_4 := F_stamp.other W4 (Or.inr (slot_ne (Or.inr (hw _ (List.mem_of_getElem? (i := 20) rfl))) (Or.inr (hw _ (List.mem_of_getElem? (i := 16) rfl))) (by decide) (t := .long) (t' := .long) (by decide) (by decide)))
  have E_r0_c_4 := E_r0.wr W4
  have k4 : Go p.tables e below (T2.setTop (mkF m 6 #[.val (.ref r0), .val (.long q1), .second, .val (.int p2), .val (.long q3), .second] [(.long q1), (.ref r0)])) (T4.setTop (mkF m 9 #[.val (.ref r0), .val (.long q1), .second, .val (.int p2), .val (.long q3), .second] [])) := st4
  have N4 := Fr.snoc X4 N2 g_r0
  have k5 : Go p.tables e below (T4.setTop (mkF m 9 #[.val (.ref r0), .val (.long q1), .second, .val (.int p2), .val (.long q3), .second] [])) (T4.setTop (mkF m 11 #[.val (.ref r0), .val (.long q1), .second, .val (.int p2), .val (.long q3), .second] [(.int p2), (.ref r0)])) := by
    intro t ht
    refine XS.aloadN X4.here hx rfl (hb hby d_init_9) rfl rfl ?_
    show Steps p.tables e below (T4.setTop (mkF m 10 #[.val (.ref r0), .val (.long q1), .second, .val (.int p2), .val (.long q3), .second] [(.ref r0)])) _
    refine XS.iloadN X4.here hx rfl (hb hby d_init_10) rfl ?_
    exact ht
  obtain ⟨T6, h6, X6, e6, W6, st6⟩ := putFN X4 hx hZ hown (hw _ (List.mem_of_getElem? (i := 17) rfl)) Via.refl e4 F_tombstone_c_4 E_r0_c_4 (Or.inr ⟨(hw _ (List.mem_of_getElem? (i := 18) rfl)), rfl, hnm⟩) (hw _ (List.mem_of_getElem? (i := 2) rfl)) (ty := .boolean) (v' := (.int (nar .boolean p2))) (by decide) rfl (fits_nar_bool _) (g := (mkF m 11 #[.val (.ref r0), .val (.long q1), .second, .val (.int p2), .val (.long q3), .second] [(.int p2), (.ref r0)])) rfl rfl (hb hby d_init_11)
  have Kp6 : Keep h0 h6 [r0] := Kp4.wr W6 (Or.inl (by simp))
  have F_version_c_6 := F_version_c_4.other W6 (Or.inr (slot_ne (Or.inr (hw _ (List.mem_of_getElem? (i := 16) rfl))) (Or.inr (hw _ (List.mem_of_getElem? (i := 18) rfl))) (by decide) (t := .long) (t' := .boolean) (by decide) (by decide)))
  have F_tombstone_c_6 := F_tombstone_c_4.same W6
  have F_stamp_c_6 := F_stamp_c_4.other W6 (Or.inr (slot_ne (Or.inr (hw _ (List.mem_of_getElem? (i := 20) rfl))) (Or.inr (hw _ (List.mem_of_getElem? (i := 18) rfl))) (by decide) (t := .long) (t' := .boolean) (by decide) (by decide)))
  have E_r0_c_6 := E_r0_c_4.wr W6
  have k6 : Go p.tables e below (T4.setTop (mkF m 11 #[.val (.ref r0), .val (.long q1), .second, .val (.int p2), .val (.long q3), .second] [(.int p2), (.ref r0)])) (T6.setTop (mkF m 14 #[.val (.ref r0), .val (.long q1), .second, .val (.int p2), .val (.long q3), .second] [])) := st6
  have N6 := Fr.snoc X6 N4 g_r0
  have k7 : Go p.tables e below (T6.setTop (mkF m 14 #[.val (.ref r0), .val (.long q1), .second, .val (.int p2), .val (.long q3), .second] [])) (T6.setTop (mkF m 17 #[.val (.ref r0), .val (.long q1), .second, .val (.int p2), .val (.long q3), .second] [(.long q3), (.ref r0)])) := by
    intro t ht
    refine XS.aloadN X6.here hx rfl (hb hby d_init_14) rfl rfl ?_
    show Steps p.tables e below (T6.setTop (mkF m 15 #[.val (.ref r0), .val (.long q1), .second, .val (.int p2), .val (.long q3), .second] [(.ref r0)])) _
    refine XS.lload X6.here hx rfl (hb hby d_init_15) rfl ?_
    exact ht
  obtain ⟨T8, h8, X8, e8, W8, st8⟩ := putF X6 hx hZ hown (host := "") (Or.inl (hw _ (List.mem_of_getElem? (i := 19) rfl))) Via.refl e6 F_stamp_c_6 E_r0_c_6 (Or.inr ⟨(hw _ (List.mem_of_getElem? (i := 20) rfl)), rfl, hnm⟩) (hw _ (List.mem_of_getElem? (i := 2) rfl)) (ty := .long) (by decide) rfl rfl (g := (mkF m 17 #[.val (.ref r0), .val (.long q1), .second, .val (.int p2), .val (.long q3), .second] [(.long q3), (.ref r0)])) rfl rfl (hb hby d_init_17)
  have Kp8 : Keep h0 h8 [r0] := Kp6.wr W8 (Or.inl (by simp))
  have F_version_c_8 := F_version_c_6.other W8 (Or.inr (slot_ne (Or.inr (hw _ (List.mem_of_getElem? (i := 16) rfl))) (Or.inr (hw _ (List.mem_of_getElem? (i := 20) rfl))) (by decide) (t := .long) (t' := .long) (by decide) (by decide)))
  have F_tombstone_c_8 := F_tombstone_c_6.other W8 (Or.inr (slot_ne (Or.inr (hw _ (List.mem_of_getElem? (i := 18) rfl))) (Or.inr (hw _ (List.mem_of_getElem? (i := 20) rfl))) (by decide) (t := .boolean) (t' := .long) (by decide) (by decide)))
  have F_stamp_c_8 := F_stamp_c_6.same W8
  have E_r0_c_8 := E_r0_c_6.wr W8
  have k8 : Go p.tables e below (T6.setTop (mkF m 17 #[.val (.ref r0), .val (.long q1), .second, .val (.int p2), .val (.long q3), .second] [(.long q3), (.ref r0)])) (T8.setTop (mkF m 20 #[.val (.ref r0), .val (.long q1), .second, .val (.int p2), .val (.long q3), .second] [])) := st8
  have N8 := Fr.snoc X8 N6 g_r0
  obtain ⟨fs, hr, hrun, hended, hW, hsame⟩ := X8.leave (v := none) (fun _ => rfl)
  refine ⟨_, _, pre0 _ ((goT k1 (goT k2 (goT k3 (goT k4 (goT k5 (goT k6 (goT k7 k8))))))) _ (X8.returnOut hx Bd.returns (hb hby d_init_20) hr)), hrun, hended, _, _, rfl, ?_, ⟨_, rfl⟩, hW, hsame.mono (by decide) (by decide)⟩
  show Q_init Z r0 q1 p2 q3 h0 n0 _ T8.heap _
  rw [e8]
  exact ⟨rfl, N8, Kp8, E_r0_c_8, F_version_c_8, F_tombstone_c_8, F_stamp_c_8⟩
theorem d_isStamped_0 : decode prog_98_method_2_code 0 = .ok (.aload_n 0, 1) := by decide +kernel
theorem d_isStamped_1 : decode prog_98_method_2_code 1 = .ok (.getfield 17, 3) := by decide +kernel
theorem d_isStamped_4 : decode prog_98_method_2_code 4 = .ok (.ldc2_w 22, 3) := by decide +kernel
theorem d_isStamped_7 : decode prog_98_method_2_code 7 = .ok (.lcmp, 1) := by decide +kernel
theorem d_isStamped_8 : decode prog_98_method_2_code 8 = .ok (.ifCond .eq 7, 3) := by decide +kernel
theorem d_isStamped_11 : decode prog_98_method_2_code 11 = .ok (.iconst 1, 1) := by decide +kernel
theorem d_isStamped_12 : decode prog_98_method_2_code 12 = .ok (.goto 4, 3) := by decide +kernel
theorem d_isStamped_15 : decode prog_98_method_2_code 15 = .ok (.iconst 0, 1) := by decide +kernel
theorem d_isStamped_16 : decode prog_98_method_2_code 16 = .ok (.ireturn, 1) := by decide +kernel
theorem ef_isStamped (m : MethodId) (x0 : Addr) : entryFrame m #[(.ref x0)] 1 = mkF m 0 #[.val (.ref x0)] [] := by first | (simp [entryFrame, mkF, argsToLocals, Value.category]; done) | rfl
def f_isStamped (q : Int64) : Int32 := (if q = (9223372036854775807 : Int64) then (0 : Int32) else (1 : Int32))
def Q_isStamped (Z : State) (r0 : Addr) (q : Int64) (h0 : Heap) (n0 : Nat) (v : Option Value) (h : Heap) (L : List Loc) : Prop := v = some (.int (f_isStamped q)) ∧ Fr n0 L ∧ h = h0
set_option maxRecDepth 65536 in
set_option maxHeartbeats 40000000 in
theorem rm_isStamped (l : Launch) (Z : State) (a0 : Array Value) (hw : ∀ d ∈ tables_1, d.before a0 Z = true) (ws : List Jvm.Cond) (r0 : Addr) (q : Int64) (h0 : Heap) (n0 : Nat) (Z0 : n0 ≤ h0.size) (F_stamp : Fld Z h0 r0 "com/example/auspex/auspex/store/StoredVersion" "stamp" "J" (.long q)) :
    MetFree l (⟨"com/example/auspex/auspex/store/StoredVersion", "isStamped", "()Z"⟩ : MethodName) (head1 (Jvm.Cond.code (⟨"com/example/auspex/auspex/store/StoredVersion", "isStamped", "()Z"⟩ : MethodName) prog_98_method_2_code 1 (some .boolean) :: ws) ({ frames := 0, cells := 0, slots := 0, locals := 0 } : Room)) (fun a U => a = #[(.ref r0)] ∧ Z.Warmed39 U.vm ∧ U.heap = h0) (fun _ _ _ _ _ => True) (fun _ U o U' => ∃ v L, o = .returned v ∧ Q_isStamped Z r0 q h0 n0 v U'.heap L ∧ FrameEnd U o U' L ({ frames := 0, cells := 0, slots := 0, locals := 0 } : Room).cells ({ frames := 0, cells := 0, slots := 0, locals := 0 } : Room).slots) := by
  refine MetFree.of_bodySF (plainFor_of_name pn_1) hisR ?_
  intro p e s m args below meth c s₁ Bd hml0 hP hK
  obtain ⟨rfl, hZ, hh⟩ := hP
  have hx := Bd.exec
  have hby := Bd.bytes
  have hml : c.maxLocals = 1 := hml0
  have hown : s.vm.findClass "com/example/auspex/auspex/store/StoredVersion" = some m.cls := findClass_of_methodNamed Bd.named
  have hnm := (name_of_methodNamed Bd.named Bd.method).1
  have X0 : Stand p l e ({ frames := 0, cells := 0, slots := 0, locals := 0 } : Room) s m #[(.ref r0)] below meth c s₁ [] 0 0 := Stand.of_body Bd
  have e0 : s₁.heap = h0 := by rw [← hh, Bd.state]; rfl
  have N0 := Fr.nil n0
  have pre0 : ∀ t, Steps p.tables e below (s₁.setTop (mkF m 0 #[.val (.ref r0)] [])) t → Steps p.tables e below (s₁.setTop (entryFrame m #[(.ref r0)] 1)) t := fun t k => castTop (ef_isStamped m r0) k
  have k1 : Go p.tables e below (s₁.setTop (mkF m 0 #[.val (.ref r0)] [])) (s₁.setTop (mkF m 1 #[.val (.ref r0)] [(.ref r0)])) := by
    intro t ht
    refine XS.aloadN X0.here hx rfl (hb hby d_isStamped_0) rfl rfl ?_
    exact ht
  obtain ⟨T2, X2, e2, st2⟩ := getF X0 hx hZ hown (host := "") (Or.inl (hw _ (List.mem_of_getElem? (i := 19) rfl))) Via.refl e0 F_stamp (g := (mkF m 1 #[.val (.ref r0)] [(.ref r0)])) rfl rfl (hb hby d_isStamped_1)
  have k2 : Go p.tables e below (s₁.setTop (mkF m 1 #[.val (.ref r0)] [(.ref r0)])) (T2.setTop (mkF m 4 #[.val (.ref r0)] [(.long q)])) := st2
  have k3 : Go p.tables e below (T2.setTop (mkF m 4 #[.val (.ref r0)] [(.long q)])) (T2.setTop (mkF m 8 #[.val (.ref r0)] [(.int (lcmpW q (9223372036854775807 : Int64)))])) := by
    intro t ht
    refine X2.ldc2Long hx hown (mvT hZ (hw _ (List.mem_of_getElem? (i := 26) rfl))) (g := (mkF m 4 #[.val (.ref r0)] [(.long q)])) rfl (hb hby d_isStamped_4) _ ?_
    show Steps p.tables e below (T2.setTop (mkF m 7 #[.val (.ref r0)] [(.long (9223372036854775807 : Int64)), (.long q)])) _
    refine XS.lcmp X2.here hx rfl (hb hby d_isStamped_7) rfl ?_
    exact ht
  by_cases hc4 : q = (9223372036854775807 : Int64)
  · have k5 : Go p.tables e below (T2.setTop (mkF m 8 #[.val (.ref r0)] [(.int (lcmpW q (9223372036854775807 : Int64)))])) (T2.setTop (mkF m 16 #[.val (.ref r0)] [(.int (0 : Int32))])) := by
      intro t ht
      refine XS.ifYes X2.here hx rfl (pc0 := 8) (pc' := 15) rfl (hb hby d_isStamped_8) rfl ((if0 _ _).trans (teq (own_eqL hc4)).1) (by decide) (by decide) ?_
      show Steps p.tables e below (T2.setTop (mkF m 15 #[.val (.ref r0)] [])) _
      refine XS.iconst X2.here hx rfl (hb hby d_isStamped_15) ?_
      exact ht
    obtain ⟨fs, hr, hrun, hended, hW, hsame⟩ := X2.leave (v := some (.int (0 : Int32))) (fun h => by rw [Bd.returns] at h; cases h)
    refine ⟨_, _, pre0 _ ((goT k1 (goT k2 (goT k3 k5))) _ (retN X2 hx (t := .boolean) Bd.returns (by simp) (hb hby d_isStamped_16) hr)), hrun, hended, _, _, rfl, ?_, ⟨_, rfl⟩, hW, hsame.mono (by decide) (by decide)⟩
    show Q_isStamped Z r0 q h0 n0 _ T2.heap _
    rw [e2]
    exact ⟨by simp only [f_isStamped, if_pos hc4], N0, rfl⟩
  · have k6 : Go p.tables e below (T2.setTop (mkF m 8 #[.val (.ref r0)] [(.int (lcmpW q (9223372036854775807 : Int64)))])) (T2.setTop (mkF m 16 #[.val (.ref r0)] [(.int (1 : Int32))])) := by
      intro t ht
      refine XS.ifNo X2.here hx rfl (hb hby d_isStamped_8) rfl ((if0 _ _).trans (feq (own_neqL hc4)).1) ?_
      show Steps p.tables e below (T2.setTop (mkF m 11 #[.val (.ref r0)] [])) _
      refine XS.iconst X2.here hx rfl (hb hby d_isStamped_11) ?_
      show Steps p.tables e below (T2.setTop (mkF m 12 #[.val (.ref r0)] [(.int (1 : Int32))])) _
      refine XS.goto X2.here hx rfl (pc0 := 12) (pc' := 16) rfl (hb hby d_isStamped_12) (by decide) (by decide) ?_
      exact ht
    obtain ⟨fs, hr, hrun, hended, hW, hsame⟩ := X2.leave (v := some (.int (1 : Int32))) (fun h => by rw [Bd.returns] at h; cases h)
    refine ⟨_, _, pre0 _ ((goT k1 (goT k2 (goT k3 k6))) _ (retN X2 hx (t := .boolean) Bd.returns (by simp) (hb hby d_isStamped_16) hr)), hrun, hended, _, _, rfl, ?_, ⟨_, rfl⟩, hW, hsame.mono (by decide) (by decide)⟩
    show Q_isStamped Z r0 q h0 n0 _ T2.heap _
    rw [e2]
    exact ⟨by simp only [f_isStamped, if_neg hc4], N0, rfl⟩
theorem own_law (q : Int64) : f_isStamped q = (if q < (9223372036854775807 : Int64) then (1 : Int32) else (0 : Int32)) := by
  have c1 : (9223372036854775807 : Int64).toInt = 9223372036854775807 := rfl
  have h := q.toInt_lt
  simp only [f_isStamped, Int64.lt_iff_toInt_lt, ← Int64.toInt_inj, c1]
  by_cases e : q.toInt = 9223372036854775807
  · rw [if_pos e, if_neg (by omega)]
  · rw [if_neg e, if_pos (by omega)]
theorem pd_1 : parseMethodDescriptor "(JZJ)V" = some ⟨[.long, .boolean, .long], none⟩ := by decide +kernel
theorem pd_2 : parseMethodDescriptor "()Z" = some ⟨[], some .boolean⟩ := by decide +kernel
theorem pn_2 : plainName "com/example/auspex/auspex/store/StoredVersionIsStampedPinLaw" = true := by first | (simp [plainName, overriddenIn]; done) | decide +kernel
theorem ef_law (m : MethodId) (x0 : Int64) (x1 : Int32) (x2 : Int64) (x3 : Int32) : entryFrame m #[(.long x0), (.int x1), (.long x2), (.int x3)] maxLocals = mkF m 0 #[.val (.long x0), .second, .val (.int x1), .val (.long x2), .second, .val (.int x3), .unset, .unset, .unset, .unset, .unset, .unset] [] := by first | (simp [entryFrame, mkF, argsToLocals, Value.category, maxLocals]; done) | rfl
def Q_law (Z : State) (q0 : Int64) (p1 : Int32) (q2 : Int64) (p3 : Int32) (h0 : Heap) (n0 : Nat) (v : Option Value) (h : Heap) (L : List Loc) : Prop := v = some (.int (1 : Int32)) ∧ Fr n0 L
set_option maxRecDepth 65536 in
set_option maxHeartbeats 40000000 in
theorem rm_law (l : Launch) (Z : State) (a0 : Array Value) (hw : ∀ d ∈ tables_1, d.before a0 Z = true) (ws : List Jvm.Cond) (q0 : Int64) (p1 : Int32) (q2 : Int64) (p3 : Int32) (h0 : Heap) (n0 : Nat) (Z0 : n0 ≤ h0.size) :
    MetFree l x (head1 (Jvm.Cond.code x code maxLocals ret :: ws) room_1) (fun a U => a = #[(.long q0), (.int p1), (.long q2), (.int p3)] ∧ Z.Warmed39 U.vm ∧ U.heap = h0) (fun _ _ _ _ _ => True) (fun _ U o U' => ∃ v L, o = .returned v ∧ Q_law Z q0 p1 q2 p3 h0 n0 v U'.heap L ∧ FrameEnd U o U' L room_1.cells room_1.slots) := by
  refine MetFree.of_bodySF (plainFor_of_name pn_2) hisR ?_
  intro p e s m args below meth c s₁ Bd hml0 hP hK
  obtain ⟨rfl, hZ, hh⟩ := hP
  have hx := Bd.exec
  have hby := Bd.bytes
  have hml : c.maxLocals = 12 := hml0
  have hown : s.vm.findClass "com/example/auspex/auspex/store/StoredVersionIsStampedPinLaw" = some m.cls := findClass_of_methodNamed Bd.named
  have hnm := (name_of_methodNamed Bd.named Bd.method).1
  have X0 : Stand p l e room_1 s m #[(.long q0), (.int p1), (.long q2), (.int p3)] below meth c s₁ [] 0 0 := Stand.of_body Bd
  have e0 : s₁.heap = h0 := by rw [← hh, Bd.state]; rfl
  have N0 := Fr.nil n0
  have pre0 : ∀ t, Steps p.tables e below (s₁.setTop (mkF m 0 #[.val (.long q0), .second, .val (.int p1), .val (.long q2), .second, .val (.int p3), .unset, .unset, .unset, .unset, .unset, .unset] [])) t → Steps p.tables e below (s₁.setTop (entryFrame m #[(.long q0), (.int p1), (.long q2), (.int p3)] maxLocals)) t := fun t k => castTop (ef_law m q0 p1 q2 p3) k
  have k1 : Go p.tables e below (s₁.setTop (mkF m 0 #[.val (.long q0), .second, .val (.int p1), .val (.long q2), .second, .val (.int p3), .unset, .unset, .unset, .unset, .unset, .unset] [])) (s₁.setTop (mkF m 3 #[.val (.long q0), .second, .val (.int p1), .val (.long q2), .second, .val (.int p3), .unset, .unset, .unset, .unset, .unset, .unset] [(.int (p1 &&& (1 : Int32)))])) := by
    intro t ht
    refine XS.iloadN X0.here hx rfl (hb hby at_0) rfl ?_
    show Steps p.tables e below (s₁.setTop (mkF m 1 #[.val (.long q0), .second, .val (.int p1), .val (.long q2), .second, .val (.int p3), .unset, .unset, .unset, .unset, .unset, .unset] [(.int p1)])) _
    refine XS.iconst X0.here hx rfl (hb hby at_1) ?_
    show Steps p.tables e below (s₁.setTop (mkF m 2 #[.val (.long q0), .second, .val (.int p1), .val (.long q2), .second, .val (.int p3), .unset, .unset, .unset, .unset, .unset, .unset] [(.int (1 : Int32)), (.int p1)])) _
    refine XS.iand X0.here hx rfl (hb hby at_2) rfl ?_
    exact ht
  have k2 : Go p.tables e below (s₁.setTop (mkF m 3 #[.val (.long q0), .second, .val (.int p1), .val (.long q2), .second, .val (.int p3), .unset, .unset, .unset, .unset, .unset, .unset] [(.int (p1 &&& (1 : Int32)))])) (s₁.setTop (mkF m 11 #[.val (.long q0), .second, .val (.int p1), .val (.long q2), .second, .val (.int p3), .unset, .unset, .unset, .unset, .unset, .unset] [(.int (if (p1 &&& (1 : Int32)) = (0 : Int32) then (0 : Int32) else (1 : Int32)))])) := by
    by_cases hc3 : (p1 &&& (1 : Int32)) = (0 : Int32)
    · have k4 : Go p.tables e below (s₁.setTop (mkF m 3 #[.val (.long q0), .second, .val (.int p1), .val (.long q2), .second, .val (.int p3), .unset, .unset, .unset, .unset, .unset, .unset] [(.int (p1 &&& (1 : Int32)))])) (s₁.setTop (mkF m 11 #[.val (.long q0), .second, .val (.int p1), .val (.long q2), .second, .val (.int p3), .unset, .unset, .unset, .unset, .unset, .unset] [(.int (0 : Int32))])) := by
        intro t ht
        refine XS.ifYes X0.here hx rfl (pc0 := 3) (pc' := 10) rfl (hb hby at_3) rfl ((if0 _ _).trans (teq hc3).1) (by decide) (by decide) ?_
        show Steps p.tables e below (s₁.setTop (mkF m 10 #[.val (.long q0), .second, .val (.int p1), .val (.long q2), .second, .val (.int p3), .unset, .unset, .unset, .unset, .unset, .unset] [])) _
        refine XS.iconst X0.here hx rfl (hb hby at_10) ?_
        exact ht
      have kk := k4
      simpa only [if_pos hc3] using kk
    · have k5 : Go p.tables e below (s₁.setTop (mkF m 3 #[.val (.long q0), .second, .val (.int p1), .val (.long q2), .second, .val (.int p3), .unset, .unset, .unset, .unset, .unset, .unset] [(.int (p1 &&& (1 : Int32)))])) (s₁.setTop (mkF m 11 #[.val (.long q0), .second, .val (.int p1), .val (.long q2), .second, .val (.int p3), .unset, .unset, .unset, .unset, .unset, .unset] [(.int (1 : Int32))])) := by
        intro t ht
        refine XS.ifNo X0.here hx rfl (hb hby at_3) rfl ((if0 _ _).trans (feq hc3).1) ?_
        show Steps p.tables e below (s₁.setTop (mkF m 6 #[.val (.long q0), .second, .val (.int p1), .val (.long q2), .second, .val (.int p3), .unset, .unset, .unset, .unset, .unset, .unset] [])) _
        refine XS.iconst X0.here hx rfl (hb hby at_6) ?_
        show Steps p.tables e below (s₁.setTop (mkF m 7 #[.val (.long q0), .second, .val (.int p1), .val (.long q2), .second, .val (.int p3), .unset, .unset, .unset, .unset, .unset, .unset] [(.int (1 : Int32))])) _
        refine XS.goto X0.here hx rfl (pc0 := 7) (pc' := 11) rfl (hb hby at_7) (by decide) (by decide) ?_
        exact ht
      have kk := k5
      simpa only [if_neg hc3] using kk
  have k6 : Go p.tables e below (s₁.setTop (mkF m 11 #[.val (.long q0), .second, .val (.int p1), .val (.long q2), .second, .val (.int p3), .unset, .unset, .unset, .unset, .unset, .unset] [(.int (if (p1 &&& (1 : Int32)) = (0 : Int32) then (0 : Int32) else (1 : Int32)))])) (s₁.setTop (mkF m 21 #[.val (.long q0), .second, .val (.int p1), .val (.long q2), .second, .val (.int p3), .val (.int (if (p1 &&& (1 : Int32)) = (0 : Int32) then (0 : Int32) else (1 : Int32))), .val (.int (p3 &&& (3 : Int32))), .unset, .unset, .unset, .unset] [(.int (p3 &&& (3 : Int32)))])) := by
    intro t ht
    refine XS.istore X0.here hx rfl (hb hby at_11) rfl (l' := #[.val (.long q0), .second, .val (.int p1), .val (.long q2), .second, .val (.int p3), .val (.int (if (p1 &&& (1 : Int32)) = (0 : Int32) then (0 : Int32) else (1 : Int32))), .unset, .unset, .unset, .unset, .unset]) rfl ?_
    show Steps p.tables e below (s₁.setTop (mkF m 13 #[.val (.long q0), .second, .val (.int p1), .val (.long q2), .second, .val (.int p3), .val (.int (if (p1 &&& (1 : Int32)) = (0 : Int32) then (0 : Int32) else (1 : Int32))), .unset, .unset, .unset, .unset, .unset] [])) _
    refine XS.iload X0.here hx rfl (hb hby at_13) rfl ?_
    show Steps p.tables e below (s₁.setTop (mkF m 15 #[.val (.long q0), .second, .val (.int p1), .val (.long q2), .second, .val (.int p3), .val (.int (if (p1 &&& (1 : Int32)) = (0 : Int32) then (0 : Int32) else (1 : Int32))), .unset, .unset, .unset, .unset, .unset] [(.int p3)])) _
    refine XS.iconst X0.here hx rfl (hb hby at_15) ?_
    show Steps p.tables e below (s₁.setTop (mkF m 16 #[.val (.long q0), .second, .val (.int p1), .val (.long q2), .second, .val (.int p3), .val (.int (if (p1 &&& (1 : Int32)) = (0 : Int32) then (0 : Int32) else (1 : Int32))), .unset, .unset, .unset, .unset, .unset] [(.int (3 : Int32)), (.int p3)])) _
    refine XS.iand X0.here hx rfl (hb hby at_16) rfl ?_
    show Steps p.tables e below (s₁.setTop (mkF m 17 #[.val (.long q0), .second, .val (.int p1), .val (.long q2), .second, .val (.int p3), .val (.int (if (p1 &&& (1 : Int32)) = (0 : Int32) then (0 : Int32) else (1 : Int32))), .unset, .unset, .unset, .unset, .unset] [(.int (p3 &&& (3 : Int32)))])) _
    refine XS.istore X0.here hx rfl (hb hby at_17) rfl (l' := #[.val (.long q0), .second, .val (.int p1), .val (.long q2), .second, .val (.int p3), .val (.int (if (p1 &&& (1 : Int32)) = (0 : Int32) then (0 : Int32) else (1 : Int32))), .val (.int (p3 &&& (3 : Int32))), .unset, .unset, .unset, .unset]) rfl ?_
    show Steps p.tables e below (s₁.setTop (mkF m 19 #[.val (.long q0), .second, .val (.int p1), .val (.long q2), .second, .val (.int p3), .val (.int (if (p1 &&& (1 : Int32)) = (0 : Int32) then (0 : Int32) else (1 : Int32))), .val (.int (p3 &&& (3 : Int32))), .unset, .unset, .unset, .unset] [])) _
    refine XS.iload X0.here hx rfl (hb hby at_19) rfl ?_
    exact ht
  have k7 : Go p.tables e below (s₁.setTop (mkF m 21 #[.val (.long q0), .second, .val (.int p1), .val (.long q2), .second, .val (.int p3), .val (.int (if (p1 &&& (1 : Int32)) = (0 : Int32) then (0 : Int32) else (1 : Int32))), .val (.int (p3 &&& (3 : Int32))), .unset, .unset, .unset, .unset] [(.int (p3 &&& (3 : Int32)))])) (s₁.setTop (mkF m 63 #[.val (.long q0), .second, .val (.int p1), .val (.long q2), .second, .val (.int p3), .val (.int (if (p1 &&& (1 : Int32)) = (0 : Int32) then (0 : Int32) else (1 : Int32))), .val (.int (p3 &&& (3 : Int32))), .val (.long (if (p3 &&& (3 : Int32)) = (0 : Int32) then (9223372036854775807 : Int64) else (if (p3 &&& (3 : Int32)) = (1 : Int32) then (9223372036854775806 : Int64) else (if (p3 &&& (3 : Int32)) = (2 : Int32) then (-9223372036854775808 : Int64) else q2)))), .second, .unset, .unset] [])) := by
    by_cases hc8 : (p3 &&& (3 : Int32)) = (0 : Int32)
    · have k9 : Go p.tables e below (s₁.setTop (mkF m 21 #[.val (.long q0), .second, .val (.int p1), .val (.long q2), .second, .val (.int p3), .val (.int (if (p1 &&& (1 : Int32)) = (0 : Int32) then (0 : Int32) else (1 : Int32))), .val (.int (p3 &&& (3 : Int32))), .unset, .unset, .unset, .unset] [(.int (p3 &&& (3 : Int32)))])) (s₁.setTop (mkF m 63 #[.val (.long q0), .second, .val (.int p1), .val (.long q2), .second, .val (.int p3), .val (.int (if (p1 &&& (1 : Int32)) = (0 : Int32) then (0 : Int32) else (1 : Int32))), .val (.int (p3 &&& (3 : Int32))), .val (.long (9223372036854775807 : Int64)), .second, .unset, .unset] [])) := by
        intro t ht
        refine XS.ifNo X0.here hx rfl (hb hby at_21) rfl ((if0 _ _).trans (teq hc8).2) ?_
        show Steps p.tables e below (s₁.setTop (mkF m 24 #[.val (.long q0), .second, .val (.int p1), .val (.long q2), .second, .val (.int p3), .val (.int (if (p1 &&& (1 : Int32)) = (0 : Int32) then (0 : Int32) else (1 : Int32))), .val (.int (p3 &&& (3 : Int32))), .unset, .unset, .unset, .unset] [])) _
        refine X0.ldc2Long hx hown (mvT hZ (hw _ (List.mem_of_getElem? (i := 0) rfl))) (g := (mkF m 24 #[.val (.long q0), .second, .val (.int p1), .val (.long q2), .second, .val (.int p3), .val (.int (if (p1 &&& (1 : Int32)) = (0 : Int32) then (0 : Int32) else (1 : Int32))), .val (.int (p3 &&& (3 : Int32))), .unset, .unset, .unset, .unset] [])) rfl (hb hby at_24) _ ?_
        show Steps p.tables e below (s₁.setTop (mkF m 27 #[.val (.long q0), .second, .val (.int p1), .val (.long q2), .second, .val (.int p3), .val (.int (if (p1 &&& (1 : Int32)) = (0 : Int32) then (0 : Int32) else (1 : Int32))), .val (.int (p3 &&& (3 : Int32))), .unset, .unset, .unset, .unset] [(.long (9223372036854775807 : Int64))])) _
        refine XS.lstore X0.here hx rfl (hb hby at_27) rfl (l' := #[.val (.long q0), .second, .val (.int p1), .val (.long q2), .second, .val (.int p3), .val (.int (if (p1 &&& (1 : Int32)) = (0 : Int32) then (0 : Int32) else (1 : Int32))), .val (.int (p3 &&& (3 : Int32))), .val (.long (9223372036854775807 : Int64)), .second, .unset, .unset]) rfl ?_
        show Steps p.tables e below (s₁.setTop (mkF m 29 #[.val (.long q0), .second, .val (.int p1), .val (.long q2), .second, .val (.int p3), .val (.int (if (p1 &&& (1 : Int32)) = (0 : Int32) then (0 : Int32) else (1 : Int32))), .val (.int (p3 &&& (3 : Int32))), .val (.long (9223372036854775807 : Int64)), .second, .unset, .unset] [])) _
        refine XS.goto X0.here hx rfl (pc0 := 29) (pc' := 63) rfl (hb hby at_29) (by decide) (by decide) ?_
        exact ht
      have kk := k9
      simpa only [if_pos hc8] using kk
    · have k10 : Go p.tables e below (s₁.setTop (mkF m 21 #[.val (.long q0), .second, .val (.int p1), .val (.long q2), .second, .val (.int p3), .val (.int (if (p1 &&& (1 : Int32)) = (0 : Int32) then (0 : Int32) else (1 : Int32))), .val (.int (p3 &&& (3 : Int32))), .unset, .unset, .unset, .unset] [(.int (p3 &&& (3 : Int32)))])) (s₁.setTop (mkF m 35 #[.val (.long q0), .second, .val (.int p1), .val (.long q2), .second, .val (.int p3), .val (.int (if (p1 &&& (1 : Int32)) = (0 : Int32) then (0 : Int32) else (1 : Int32))), .val (.int (p3 &&& (3 : Int32))), .unset, .unset, .unset, .unset] [(.int (1 : Int32)), (.int (p3 &&& (3 : Int32)))])) := by
        intro t ht
        refine XS.ifYes X0.here hx rfl (pc0 := 21) (pc' := 32) rfl (hb hby at_21) rfl ((if0 _ _).trans (feq hc8).2) (by decide) (by decide) ?_
        show Steps p.tables e below (s₁.setTop (mkF m 32 #[.val (.long q0), .second, .val (.int p1), .val (.long q2), .second, .val (.int p3), .val (.int (if (p1 &&& (1 : Int32)) = (0 : Int32) then (0 : Int32) else (1 : Int32))), .val (.int (p3 &&& (3 : Int32))), .unset, .unset, .unset, .unset] [])) _
        refine XS.iload X0.here hx rfl (hb hby at_32) rfl ?_
        show Steps p.tables e below (s₁.setTop (mkF m 34 #[.val (.long q0), .second, .val (.int p1), .val (.long q2), .second, .val (.int p3), .val (.int (if (p1 &&& (1 : Int32)) = (0 : Int32) then (0 : Int32) else (1 : Int32))), .val (.int (p3 &&& (3 : Int32))), .unset, .unset, .unset, .unset] [(.int (p3 &&& (3 : Int32)))])) _
        refine XS.iconst X0.here hx rfl (hb hby at_34) ?_
        exact ht
      by_cases hc11 : (p3 &&& (3 : Int32)) = (1 : Int32)
      · have k12 : Go p.tables e below (s₁.setTop (mkF m 35 #[.val (.long q0), .second, .val (.int p1), .val (.long q2), .second, .val (.int p3), .val (.int (if (p1 &&& (1 : Int32)) = (0 : Int32) then (0 : Int32) else (1 : Int32))), .val (.int (p3 &&& (3 : Int32))), .unset, .unset, .unset, .unset] [(.int (1 : Int32)), (.int (p3 &&& (3 : Int32)))])) (s₁.setTop (mkF m 63 #[.val (.long q0), .second, .val (.int p1), .val (.long q2), .second, .val (.int p3), .val (.int (if (p1 &&& (1 : Int32)) = (0 : Int32) then (0 : Int32) else (1 : Int32))), .val (.int (p3 &&& (3 : Int32))), .val (.long (9223372036854775806 : Int64)), .second, .unset, .unset] [])) := by
          intro t ht
          refine XS.icmpNo X0.here hx rfl (hb hby at_35) rfl (teq hc11).2 ?_
          show Steps p.tables e below (s₁.setTop (mkF m 38 #[.val (.long q0), .second, .val (.int p1), .val (.long q2), .second, .val (.int p3), .val (.int (if (p1 &&& (1 : Int32)) = (0 : Int32) then (0 : Int32) else (1 : Int32))), .val (.int (p3 &&& (3 : Int32))), .unset, .unset, .unset, .unset] [])) _
          refine X0.ldc2Long hx hown (mvT hZ (hw _ (List.mem_of_getElem? (i := 27) rfl))) (g := (mkF m 38 #[.val (.long q0), .second, .val (.int p1), .val (.long q2), .second, .val (.int p3), .val (.int (if (p1 &&& (1 : Int32)) = (0 : Int32) then (0 : Int32) else (1 : Int32))), .val (.int (p3 &&& (3 : Int32))), .unset, .unset, .unset, .unset] [])) rfl (hb hby at_38) _ ?_
          show Steps p.tables e below (s₁.setTop (mkF m 41 #[.val (.long q0), .second, .val (.int p1), .val (.long q2), .second, .val (.int p3), .val (.int (if (p1 &&& (1 : Int32)) = (0 : Int32) then (0 : Int32) else (1 : Int32))), .val (.int (p3 &&& (3 : Int32))), .unset, .unset, .unset, .unset] [(.long (9223372036854775806 : Int64))])) _
          refine XS.lstore X0.here hx rfl (hb hby at_41) rfl (l' := #[.val (.long q0), .second, .val (.int p1), .val (.long q2), .second, .val (.int p3), .val (.int (if (p1 &&& (1 : Int32)) = (0 : Int32) then (0 : Int32) else (1 : Int32))), .val (.int (p3 &&& (3 : Int32))), .val (.long (9223372036854775806 : Int64)), .second, .unset, .unset]) rfl ?_
          show Steps p.tables e below (s₁.setTop (mkF m 43 #[.val (.long q0), .second, .val (.int p1), .val (.long q2), .second, .val (.int p3), .val (.int (if (p1 &&& (1 : Int32)) = (0 : Int32) then (0 : Int32) else (1 : Int32))), .val (.int (p3 &&& (3 : Int32))), .val (.long (9223372036854775806 : Int64)), .second, .unset, .unset] [])) _
          refine XS.goto X0.here hx rfl (pc0 := 43) (pc' := 63) rfl (hb hby at_43) (by decide) (by decide) ?_
          exact ht
        have kk := (goT k10 k12)
        simpa only [if_neg hc8, if_pos hc11] using kk
      · have k13 : Go p.tables e below (s₁.setTop (mkF m 35 #[.val (.long q0), .second, .val (.int p1), .val (.long q2), .second, .val (.int p3), .val (.int (if (p1 &&& (1 : Int32)) = (0 : Int32) then (0 : Int32) else (1 : Int32))), .val (.int (p3 &&& (3 : Int32))), .unset, .unset, .unset, .unset] [(.int (1 : Int32)), (.int (p3 &&& (3 : Int32)))])) (s₁.setTop (mkF m 49 #[.val (.long q0), .second, .val (.int p1), .val (.long q2), .second, .val (.int p3), .val (.int (if (p1 &&& (1 : Int32)) = (0 : Int32) then (0 : Int32) else (1 : Int32))), .val (.int (p3 &&& (3 : Int32))), .unset, .unset, .unset, .unset] [(.int (2 : Int32)), (.int (p3 &&& (3 : Int32)))])) := by
          intro t ht
          refine XS.icmpYes X0.here hx rfl (pc0 := 35) (pc' := 46) rfl (hb hby at_35) rfl (feq hc11).2 (by decide) (by decide) ?_
          show Steps p.tables e below (s₁.setTop (mkF m 46 #[.val (.long q0), .second, .val (.int p1), .val (.long q2), .second, .val (.int p3), .val (.int (if (p1 &&& (1 : Int32)) = (0 : Int32) then (0 : Int32) else (1 : Int32))), .val (.int (p3 &&& (3 : Int32))), .unset, .unset, .unset, .unset] [])) _
          refine XS.iload X0.here hx rfl (hb hby at_46) rfl ?_
          show Steps p.tables e below (s₁.setTop (mkF m 48 #[.val (.long q0), .second, .val (.int p1), .val (.long q2), .second, .val (.int p3), .val (.int (if (p1 &&& (1 : Int32)) = (0 : Int32) then (0 : Int32) else (1 : Int32))), .val (.int (p3 &&& (3 : Int32))), .unset, .unset, .unset, .unset] [(.int (p3 &&& (3 : Int32)))])) _
          refine XS.iconst X0.here hx rfl (hb hby at_48) ?_
          exact ht
        by_cases hc14 : (p3 &&& (3 : Int32)) = (2 : Int32)
        · have k15 : Go p.tables e below (s₁.setTop (mkF m 49 #[.val (.long q0), .second, .val (.int p1), .val (.long q2), .second, .val (.int p3), .val (.int (if (p1 &&& (1 : Int32)) = (0 : Int32) then (0 : Int32) else (1 : Int32))), .val (.int (p3 &&& (3 : Int32))), .unset, .unset, .unset, .unset] [(.int (2 : Int32)), (.int (p3 &&& (3 : Int32)))])) (s₁.setTop (mkF m 63 #[.val (.long q0), .second, .val (.int p1), .val (.long q2), .second, .val (.int p3), .val (.int (if (p1 &&& (1 : Int32)) = (0 : Int32) then (0 : Int32) else (1 : Int32))), .val (.int (p3 &&& (3 : Int32))), .val (.long (-9223372036854775808 : Int64)), .second, .unset, .unset] [])) := by
            intro t ht
            refine XS.icmpNo X0.here hx rfl (hb hby at_49) rfl (teq hc14).2 ?_
            show Steps p.tables e below (s₁.setTop (mkF m 52 #[.val (.long q0), .second, .val (.int p1), .val (.long q2), .second, .val (.int p3), .val (.int (if (p1 &&& (1 : Int32)) = (0 : Int32) then (0 : Int32) else (1 : Int32))), .val (.int (p3 &&& (3 : Int32))), .unset, .unset, .unset, .unset] [])) _
            refine X0.ldc2Long hx hown (mvT hZ (hw _ (List.mem_of_getElem? (i := 28) rfl))) (g := (mkF m 52 #[.val (.long q0), .second, .val (.int p1), .val (.long q2), .second, .val (.int p3), .val (.int (if (p1 &&& (1 : Int32)) = (0 : Int32) then (0 : Int32) else (1 : Int32))), .val (.int (p3 &&& (3 : Int32))), .unset, .unset, .unset, .unset] [])) rfl (hb hby at_52) _ ?_
            show Steps p.tables e below (s₁.setTop (mkF m 55 #[.val (.long q0), .second, .val (.int p1), .val (.long q2), .second, .val (.int p3), .val (.int (if (p1 &&& (1 : Int32)) = (0 : Int32) then (0 : Int32) else (1 : Int32))), .val (.int (p3 &&& (3 : Int32))), .unset, .unset, .unset, .unset] [(.long (-9223372036854775808 : Int64))])) _
            refine XS.lstore X0.here hx rfl (hb hby at_55) rfl (l' := #[.val (.long q0), .second, .val (.int p1), .val (.long q2), .second, .val (.int p3), .val (.int (if (p1 &&& (1 : Int32)) = (0 : Int32) then (0 : Int32) else (1 : Int32))), .val (.int (p3 &&& (3 : Int32))), .val (.long (-9223372036854775808 : Int64)), .second, .unset, .unset]) rfl ?_
            show Steps p.tables e below (s₁.setTop (mkF m 57 #[.val (.long q0), .second, .val (.int p1), .val (.long q2), .second, .val (.int p3), .val (.int (if (p1 &&& (1 : Int32)) = (0 : Int32) then (0 : Int32) else (1 : Int32))), .val (.int (p3 &&& (3 : Int32))), .val (.long (-9223372036854775808 : Int64)), .second, .unset, .unset] [])) _
            refine XS.goto X0.here hx rfl (pc0 := 57) (pc' := 63) rfl (hb hby at_57) (by decide) (by decide) ?_
            exact ht
          have kk := (goT k10 (goT k13 k15))
          simpa only [if_neg hc8, if_neg hc11, if_pos hc14] using kk
        · have k16 : Go p.tables e below (s₁.setTop (mkF m 49 #[.val (.long q0), .second, .val (.int p1), .val (.long q2), .second, .val (.int p3), .val (.int (if (p1 &&& (1 : Int32)) = (0 : Int32) then (0 : Int32) else (1 : Int32))), .val (.int (p3 &&& (3 : Int32))), .unset, .unset, .unset, .unset] [(.int (2 : Int32)), (.int (p3 &&& (3 : Int32)))])) (s₁.setTop (mkF m 63 #[.val (.long q0), .second, .val (.int p1), .val (.long q2), .second, .val (.int p3), .val (.int (if (p1 &&& (1 : Int32)) = (0 : Int32) then (0 : Int32) else (1 : Int32))), .val (.int (p3 &&& (3 : Int32))), .val (.long q2), .second, .unset, .unset] [])) := by
            intro t ht
            refine XS.icmpYes X0.here hx rfl (pc0 := 49) (pc' := 60) rfl (hb hby at_49) rfl (feq hc14).2 (by decide) (by decide) ?_
            show Steps p.tables e below (s₁.setTop (mkF m 60 #[.val (.long q0), .second, .val (.int p1), .val (.long q2), .second, .val (.int p3), .val (.int (if (p1 &&& (1 : Int32)) = (0 : Int32) then (0 : Int32) else (1 : Int32))), .val (.int (p3 &&& (3 : Int32))), .unset, .unset, .unset, .unset] [])) _
            refine XS.lloadN X0.here hx rfl (hb hby at_60) rfl ?_
            show Steps p.tables e below (s₁.setTop (mkF m 61 #[.val (.long q0), .second, .val (.int p1), .val (.long q2), .second, .val (.int p3), .val (.int (if (p1 &&& (1 : Int32)) = (0 : Int32) then (0 : Int32) else (1 : Int32))), .val (.int (p3 &&& (3 : Int32))), .unset, .unset, .unset, .unset] [(.long q2)])) _
            refine XS.lstore X0.here hx rfl (hb hby at_61) rfl (l' := #[.val (.long q0), .second, .val (.int p1), .val (.long q2), .second, .val (.int p3), .val (.int (if (p1 &&& (1 : Int32)) = (0 : Int32) then (0 : Int32) else (1 : Int32))), .val (.int (p3 &&& (3 : Int32))), .val (.long q2), .second, .unset, .unset]) rfl ?_
            exact ht
          have kk := (goT k10 (goT k13 k16))
          simpa only [if_neg hc8, if_neg hc11, if_neg hc14] using kk
  obtain ⟨T17, h17, X17, e17, E17, A17, D17, -, st17⟩ := newO X0 hx hZ hown (hw _ (List.mem_of_getElem? (i := 1) rfl)) (hw _ (List.mem_of_getElem? (i := 2) rfl)) (hw _ (List.mem_of_getElem? (i := 3) rfl)) e0 (g := (mkF m 63 #[.val (.long q0), .second, .val (.int p1), .val (.long q2), .second, .val (.int p3), .val (.int (if (p1 &&& (1 : Int32)) = (0 : Int32) then (0 : Int32) else (1 : Int32))), .val (.int (p3 &&& (3 : Int32))), .val (.long (if (p3 &&& (3 : Int32)) = (0 : Int32) then (9223372036854775807 : Int64) else (if (p3 &&& (3 : Int32)) = (1 : Int32) then (9223372036854775806 : Int64) else (if (p3 &&& (3 : Int32)) = (2 : Int32) then (-9223372036854775808 : Int64) else q2)))), .second, .unset, .unset] [])) rfl (hb hby at_63) (by decide) (by decide)
  obtain ⟨b17, g17⟩ : ∃ z, z = h0.size := ⟨_, rfl⟩
  rw [← g17] at A17 D17 st17
  have g_b17 : n0 ≤ b17 := Nat.le_trans Z0 (Nat.le_of_eq g17.symm)
  have sz_b17 : h0.size ≤ b17 := Nat.le_trans (Keep.refl h0 []).1 (Nat.le_of_eq g17.symm)
  have Kp17 : Keep h0 h17 [] := (Keep.refl h0 []).ext E17
  have Z17 : n0 ≤ h17.size := Nat.le_trans Z0 E17.1
  have F_version_b17 : Fld Z h17 b17 "com/example/auspex/auspex/store/StoredVersion" "version" "J" (.long (0 : Int64)) := D17 (Or.inr (hw _ (List.mem_of_getElem? (i := 16) rfl))) (ty := .long) (by decide)
  have F_tombstone_b17 : Fld Z h17 b17 "com/example/auspex/auspex/store/StoredVersion" "tombstone" "Z" (.int (0 : Int32)) := D17 (Or.inr (hw _ (List.mem_of_getElem? (i := 18) rfl))) (ty := .boolean) (by decide)
  have F_stamp_b17 : Fld Z h17 b17 "com/example/auspex/auspex/store/StoredVersion" "stamp" "J" (.long (0 : Int64)) := D17 (Or.inr (hw _ (List.mem_of_getElem? (i := 20) rfl))) (ty := .long) (by decide)
  have k17 : Go p.tables e below (s₁.setTop (mkF m 63 #[.val (.long q0), .second, .val (.int p1), .val (.long q2), .second, .val (.int p3), .val (.int (if (p1 &&& (1 : Int32)) = (0 : Int32) then (0 : Int32) else (1 : Int32))), .val (.int (p3 &&& (3 : Int32))), .val (.long (if (p3 &&& (3 : Int32)) = (0 : Int32) then (9223372036854775807 : Int64) else (if (p3 &&& (3 : Int32)) = (1 : Int32) then (9223372036854775806 : Int64) else (if (p3 &&& (3 : Int32)) = (2 : Int32) then (-9223372036854775808 : Int64) else q2)))), .second, .unset, .unset] [])) (T17.setTop (mkF m 66 #[.val (.long q0), .second, .val (.int p1), .val (.long q2), .second, .val (.int p3), .val (.int (if (p1 &&& (1 : Int32)) = (0 : Int32) then (0 : Int32) else (1 : Int32))), .val (.int (p3 &&& (3 : Int32))), .val (.long (if (p3 &&& (3 : Int32)) = (0 : Int32) then (9223372036854775807 : Int64) else (if (p3 &&& (3 : Int32)) = (1 : Int32) then (9223372036854775806 : Int64) else (if (p3 &&& (3 : Int32)) = (2 : Int32) then (-9223372036854775808 : Int64) else q2)))), .second, .unset, .unset] [(.ref b17)])) := st17
  have k18 : Go p.tables e below (T17.setTop (mkF m 66 #[.val (.long q0), .second, .val (.int p1), .val (.long q2), .second, .val (.int p3), .val (.int (if (p1 &&& (1 : Int32)) = (0 : Int32) then (0 : Int32) else (1 : Int32))), .val (.int (p3 &&& (3 : Int32))), .val (.long (if (p3 &&& (3 : Int32)) = (0 : Int32) then (9223372036854775807 : Int64) else (if (p3 &&& (3 : Int32)) = (1 : Int32) then (9223372036854775806 : Int64) else (if (p3 &&& (3 : Int32)) = (2 : Int32) then (-9223372036854775808 : Int64) else q2)))), .second, .unset, .unset] [(.ref b17)])) (T17.setTop (mkF m 72 #[.val (.long q0), .second, .val (.int p1), .val (.long q2), .second, .val (.int p3), .val (.int (if (p1 &&& (1 : Int32)) = (0 : Int32) then (0 : Int32) else (1 : Int32))), .val (.int (p3 &&& (3 : Int32))), .val (.long (if (p3 &&& (3 : Int32)) = (0 : Int32) then (9223372036854775807 : Int64) else (if (p3 &&& (3 : Int32)) = (1 : Int32) then (9223372036854775806 : Int64) else (if (p3 &&& (3 : Int32)) = (2 : Int32) then (-9223372036854775808 : Int64) else q2)))), .second, .unset, .unset] [(.long (if (p3 &&& (3 : Int32)) = (0 : Int32) then (9223372036854775807 : Int64) else (if (p3 &&& (3 : Int32)) = (1 : Int32) then (9223372036854775806 : Int64) else (if (p3 &&& (3 : Int32)) = (2 : Int32) then (-9223372036854775808 : Int64) else q2)))), (.int (if (p1 &&& (1 : Int32)) = (0 : Int32) then (0 : Int32) else (1 : Int32))), (.long q0), (.ref b17), (.ref b17)])) := by
    intro t ht
    refine XS.dup X17.here hx rfl (hb hby at_66) rfl rfl ?_
    show Steps p.tables e below (T17.setTop (mkF m 67 #[.val (.long q0), .second, .val (.int p1), .val (.long q2), .second, .val (.int p3), .val (.int (if (p1 &&& (1 : Int32)) = (0 : Int32) then (0 : Int32) else (1 : Int32))), .val (.int (p3 &&& (3 : Int32))), .val (.long (if (p3 &&& (3 : Int32)) = (0 : Int32) then (9223372036854775807 : Int64) else (if (p3 &&& (3 : Int32)) = (1 : Int32) then (9223372036854775806 : Int64) else (if (p3 &&& (3 : Int32)) = (2 : Int32) then (-9223372036854775808 : Int64) else q2)))), .second, .unset, .unset] [(.ref b17), (.ref b17)])) _
    refine XS.lloadN X17.here hx rfl (hb hby at_67) rfl ?_
    show Steps p.tables e below (T17.setTop (mkF m 68 #[.val (.long q0), .second, .val (.int p1), .val (.long q2), .second, .val (.int p3), .val (.int (if (p1 &&& (1 : Int32)) = (0 : Int32) then (0 : Int32) else (1 : Int32))), .val (.int (p3 &&& (3 : Int32))), .val (.long (if (p3 &&& (3 : Int32)) = (0 : Int32) then (9223372036854775807 : Int64) else (if (p3 &&& (3 : Int32)) = (1 : Int32) then (9223372036854775806 : Int64) else (if (p3 &&& (3 : Int32)) = (2 : Int32) then (-9223372036854775808 : Int64) else q2)))), .second, .unset, .unset] [(.long q0), (.ref b17), (.ref b17)])) _
    refine XS.iload X17.here hx rfl (hb hby at_68) rfl ?_
    show Steps p.tables e below (T17.setTop (mkF m 70 #[.val (.long q0), .second, .val (.int p1), .val (.long q2), .second, .val (.int p3), .val (.int (if (p1 &&& (1 : Int32)) = (0 : Int32) then (0 : Int32) else (1 : Int32))), .val (.int (p3 &&& (3 : Int32))), .val (.long (if (p3 &&& (3 : Int32)) = (0 : Int32) then (9223372036854775807 : Int64) else (if (p3 &&& (3 : Int32)) = (1 : Int32) then (9223372036854775806 : Int64) else (if (p3 &&& (3 : Int32)) = (2 : Int32) then (-9223372036854775808 : Int64) else q2)))), .second, .unset, .unset] [(.int (if (p1 &&& (1 : Int32)) = (0 : Int32) then (0 : Int32) else (1 : Int32))), (.long q0), (.ref b17), (.ref b17)])) _
    refine XS.lload X17.here hx rfl (hb hby at_70) rfl ?_
    exact ht
  obtain ⟨_, _, ⟨T19, L19, kq19, n19⟩, -, X19, ⟨Lc19, hQ19, l19, y19, z19⟩, st19⟩ := X17.specialBack hx (y := (⟨"com/example/auspex/auspex/store/StoredVersion", "<init>", "(JZJ)V"⟩ : MethodName)) rfl hown (mvT hZ (hw _ (List.mem_of_getElem? (i := 4) rfl))) (mvT hZ (hw _ (List.mem_of_getElem? (i := 5) rfl))) (mvT hZ (hw _ (List.mem_of_getElem? (i := 6) rfl))) (by decide) (backOf (W := 1) (rm_init l Z a0 hw [] b17 q0 (if (p1 &&& (1 : Int32)) = (0 : Int32) then (0 : Int32) else (1 : Int32)) (if (p3 &&& (3 : Int32)) = (0 : Int32) then (9223372036854775807 : Int64) else (if (p3 &&& (3 : Int32)) = (1 : Int32) then (9223372036854775806 : Int64) else (if (p3 &&& (3 : Int32)) = (2 : Int32) then (-9223372036854775808 : Int64) else q2))) h17 n0 Z17 F_version_b17 F_tombstone_b17 F_stamp_b17 A17 g_b17) hZ (hw _ (List.mem_of_getElem? (i := 6) rfl)) (hw _ (List.mem_of_getElem? (i := 3) rfl)) (by decide) (by decide)) (g := (mkF m 72 #[.val (.long q0), .second, .val (.int p1), .val (.long q2), .second, .val (.int p3), .val (.int (if (p1 &&& (1 : Int32)) = (0 : Int32) then (0 : Int32) else (1 : Int32))), .val (.int (p3 &&& (3 : Int32))), .val (.long (if (p3 &&& (3 : Int32)) = (0 : Int32) then (9223372036854775807 : Int64) else (if (p3 &&& (3 : Int32)) = (1 : Int32) then (9223372036854775806 : Int64) else (if (p3 &&& (3 : Int32)) = (2 : Int32) then (-9223372036854775808 : Int64) else q2)))), .second, .unset, .unset] [(.long (if (p3 &&& (3 : Int32)) = (0 : Int32) then (9223372036854775807 : Int64) else (if (p3 &&& (3 : Int32)) = (1 : Int32) then (9223372036854775806 : Int64) else (if (p3 &&& (3 : Int32)) = (2 : Int32) then (-9223372036854775808 : Int64) else q2)))), (.int (if (p1 &&& (1 : Int32)) = (0 : Int32) then (0 : Int32) else (1 : Int32))), (.long q0), (.ref b17), (.ref b17)])) rfl (by rw [hml]; rfl) (Steps.refl _) (a := b17) (argsL := [(.long q0), (.int (if (p1 &&& (1 : Int32)) = (0 : Int32) then (0 : Int32) else (1 : Int32))), (.long (if (p3 &&& (3 : Int32)) = (0 : Int32) then (9223372036854775807 : Int64) else (if (p3 &&& (3 : Int32)) = (1 : Int32) then (9223372036854775806 : Int64) else (if (p3 &&& (3 : Int32)) = (2 : Int32) then (-9223372036854775808 : Int64) else q2))))]) (rest := [(.ref b17)]) (lenOf pd_1 rfl) rfl (by show 2 * 0 + _ ≤ _; exact Nat.le_of_eq rfl) (hb hby at_72) (fun _ _ => ⟨rfl, e17, (by decide : 1 + 0 ≤ _), (by decide : 3 + 0 ≤ _)⟩)
  dsimp only [Pt.U, Pt.locs, Pt.cells, Pt.slots] at X19 l19 y19 z19 st19 hQ19
  subst l19 y19 z19
  obtain ⟨rfl, N19q, K19, Fq19_0, Fq19_1, Fq19_2, Fq19_3⟩ := hQ19
  have N19 := Fr.app N0 N19q
  have k19 : Go p.tables e below (T17.setTop (mkF m 72 #[.val (.long q0), .second, .val (.int p1), .val (.long q2), .second, .val (.int p3), .val (.int (if (p1 &&& (1 : Int32)) = (0 : Int32) then (0 : Int32) else (1 : Int32))), .val (.int (p3 &&& (3 : Int32))), .val (.long (if (p3 &&& (3 : Int32)) = (0 : Int32) then (9223372036854775807 : Int64) else (if (p3 &&& (3 : Int32)) = (1 : Int32) then (9223372036854775806 : Int64) else (if (p3 &&& (3 : Int32)) = (2 : Int32) then (-9223372036854775808 : Int64) else q2)))), .second, .unset, .unset] [(.long (if (p3 &&& (3 : Int32)) = (0 : Int32) then (9223372036854775807 : Int64) else (if (p3 &&& (3 : Int32)) = (1 : Int32) then (9223372036854775806 : Int64) else (if (p3 &&& (3 : Int32)) = (2 : Int32) then (-9223372036854775808 : Int64) else q2)))), (.int (if (p1 &&& (1 : Int32)) = (0 : Int32) then (0 : Int32) else (1 : Int32))), (.long q0), (.ref b17), (.ref b17)])) (T19.setTop (mkF m 75 #[.val (.long q0), .second, .val (.int p1), .val (.long q2), .second, .val (.int p3), .val (.int (if (p1 &&& (1 : Int32)) = (0 : Int32) then (0 : Int32) else (1 : Int32))), .val (.int (p3 &&& (3 : Int32))), .val (.long (if (p3 &&& (3 : Int32)) = (0 : Int32) then (9223372036854775807 : Int64) else (if (p3 &&& (3 : Int32)) = (1 : Int32) then (9223372036854775806 : Int64) else (if (p3 &&& (3 : Int32)) = (2 : Int32) then (-9223372036854775808 : Int64) else q2)))), .second, .unset, .unset] [(.ref b17)])) := fun _ ht => st19.trans ht
  have Kp19 : Keep h0 T19.heap [] := Kp17.trans K19 (allS (Or.inr sz_b17) all0)
  have Z19 : n0 ≤ T19.heap.size := Nat.le_trans Z17 K19.1
  have A17_c_19 := A17.keep K19
  have k20 : Go p.tables e below (T19.setTop (mkF m 75 #[.val (.long q0), .second, .val (.int p1), .val (.long q2), .second, .val (.int p3), .val (.int (if (p1 &&& (1 : Int32)) = (0 : Int32) then (0 : Int32) else (1 : Int32))), .val (.int (p3 &&& (3 : Int32))), .val (.long (if (p3 &&& (3 : Int32)) = (0 : Int32) then (9223372036854775807 : Int64) else (if (p3 &&& (3 : Int32)) = (1 : Int32) then (9223372036854775806 : Int64) else (if (p3 &&& (3 : Int32)) = (2 : Int32) then (-9223372036854775808 : Int64) else q2)))), .second, .unset, .unset] [(.ref b17)])) (T19.setTop (mkF m 83 #[.val (.long q0), .second, .val (.int p1), .val (.long q2), .second, .val (.int p3), .val (.int (if (p1 &&& (1 : Int32)) = (0 : Int32) then (0 : Int32) else (1 : Int32))), .val (.int (p3 &&& (3 : Int32))), .val (.long (if (p3 &&& (3 : Int32)) = (0 : Int32) then (9223372036854775807 : Int64) else (if (p3 &&& (3 : Int32)) = (1 : Int32) then (9223372036854775806 : Int64) else (if (p3 &&& (3 : Int32)) = (2 : Int32) then (-9223372036854775808 : Int64) else q2)))), .second, .val (.ref b17), .unset] [(.int (lcmpW (if (p3 &&& (3 : Int32)) = (0 : Int32) then (9223372036854775807 : Int64) else (if (p3 &&& (3 : Int32)) = (1 : Int32) then (9223372036854775806 : Int64) else (if (p3 &&& (3 : Int32)) = (2 : Int32) then (-9223372036854775808 : Int64) else q2))) (9223372036854775807 : Int64)))])) := by
    intro t ht
    refine XS.astore X19.here hx rfl (hb hby at_75) rfl rfl (l' := #[.val (.long q0), .second, .val (.int p1), .val (.long q2), .second, .val (.int p3), .val (.int (if (p1 &&& (1 : Int32)) = (0 : Int32) then (0 : Int32) else (1 : Int32))), .val (.int (p3 &&& (3 : Int32))), .val (.long (if (p3 &&& (3 : Int32)) = (0 : Int32) then (9223372036854775807 : Int64) else (if (p3 &&& (3 : Int32)) = (1 : Int32) then (9223372036854775806 : Int64) else (if (p3 &&& (3 : Int32)) = (2 : Int32) then (-9223372036854775808 : Int64) else q2)))), .second, .val (.ref b17), .unset]) rfl ?_
    show Steps p.tables e below (T19.setTop (mkF m 77 #[.val (.long q0), .second, .val (.int p1), .val (.long q2), .second, .val (.int p3), .val (.int (if (p1 &&& (1 : Int32)) = (0 : Int32) then (0 : Int32) else (1 : Int32))), .val (.int (p3 &&& (3 : Int32))), .val (.long (if (p3 &&& (3 : Int32)) = (0 : Int32) then (9223372036854775807 : Int64) else (if (p3 &&& (3 : Int32)) = (1 : Int32) then (9223372036854775806 : Int64) else (if (p3 &&& (3 : Int32)) = (2 : Int32) then (-9223372036854775808 : Int64) else q2)))), .second, .val (.ref b17), .unset] [])) _
    refine XS.lload X19.here hx rfl (hb hby at_77) rfl ?_
    show Steps p.tables e below (T19.setTop (mkF m 79 #[.val (.long q0), .second, .val (.int p1), .val (.long q2), .second, .val (.int p3), .val (.int (if (p1 &&& (1 : Int32)) = (0 : Int32) then (0 : Int32) else (1 : Int32))), .val (.int (p3 &&& (3 : Int32))), .val (.long (if (p3 &&& (3 : Int32)) = (0 : Int32) then (9223372036854775807 : Int64) else (if (p3 &&& (3 : Int32)) = (1 : Int32) then (9223372036854775806 : Int64) else (if (p3 &&& (3 : Int32)) = (2 : Int32) then (-9223372036854775808 : Int64) else q2)))), .second, .val (.ref b17), .unset] [(.long (if (p3 &&& (3 : Int32)) = (0 : Int32) then (9223372036854775807 : Int64) else (if (p3 &&& (3 : Int32)) = (1 : Int32) then (9223372036854775806 : Int64) else (if (p3 &&& (3 : Int32)) = (2 : Int32) then (-9223372036854775808 : Int64) else q2))))])) _
    refine X19.ldc2Long hx hown (mvT hZ (hw _ (List.mem_of_getElem? (i := 0) rfl))) (g := (mkF m 79 #[.val (.long q0), .second, .val (.int p1), .val (.long q2), .second, .val (.int p3), .val (.int (if (p1 &&& (1 : Int32)) = (0 : Int32) then (0 : Int32) else (1 : Int32))), .val (.int (p3 &&& (3 : Int32))), .val (.long (if (p3 &&& (3 : Int32)) = (0 : Int32) then (9223372036854775807 : Int64) else (if (p3 &&& (3 : Int32)) = (1 : Int32) then (9223372036854775806 : Int64) else (if (p3 &&& (3 : Int32)) = (2 : Int32) then (-9223372036854775808 : Int64) else q2)))), .second, .val (.ref b17), .unset] [(.long (if (p3 &&& (3 : Int32)) = (0 : Int32) then (9223372036854775807 : Int64) else (if (p3 &&& (3 : Int32)) = (1 : Int32) then (9223372036854775806 : Int64) else (if (p3 &&& (3 : Int32)) = (2 : Int32) then (-9223372036854775808 : Int64) else q2))))])) rfl (hb hby at_79) _ ?_
    show Steps p.tables e below (T19.setTop (mkF m 82 #[.val (.long q0), .second, .val (.int p1), .val (.long q2), .second, .val (.int p3), .val (.int (if (p1 &&& (1 : Int32)) = (0 : Int32) then (0 : Int32) else (1 : Int32))), .val (.int (p3 &&& (3 : Int32))), .val (.long (if (p3 &&& (3 : Int32)) = (0 : Int32) then (9223372036854775807 : Int64) else (if (p3 &&& (3 : Int32)) = (1 : Int32) then (9223372036854775806 : Int64) else (if (p3 &&& (3 : Int32)) = (2 : Int32) then (-9223372036854775808 : Int64) else q2)))), .second, .val (.ref b17), .unset] [(.long (9223372036854775807 : Int64)), (.long (if (p3 &&& (3 : Int32)) = (0 : Int32) then (9223372036854775807 : Int64) else (if (p3 &&& (3 : Int32)) = (1 : Int32) then (9223372036854775806 : Int64) else (if (p3 &&& (3 : Int32)) = (2 : Int32) then (-9223372036854775808 : Int64) else q2))))])) _
    refine XS.lcmp X19.here hx rfl (hb hby at_82) rfl ?_
    exact ht
  have k21 : Go p.tables e below (T19.setTop (mkF m 83 #[.val (.long q0), .second, .val (.int p1), .val (.long q2), .second, .val (.int p3), .val (.int (if (p1 &&& (1 : Int32)) = (0 : Int32) then (0 : Int32) else (1 : Int32))), .val (.int (p3 &&& (3 : Int32))), .val (.long (if (p3 &&& (3 : Int32)) = (0 : Int32) then (9223372036854775807 : Int64) else (if (p3 &&& (3 : Int32)) = (1 : Int32) then (9223372036854775806 : Int64) else (if (p3 &&& (3 : Int32)) = (2 : Int32) then (-9223372036854775808 : Int64) else q2)))), .second, .val (.ref b17), .unset] [(.int (lcmpW (if (p3 &&& (3 : Int32)) = (0 : Int32) then (9223372036854775807 : Int64) else (if (p3 &&& (3 : Int32)) = (1 : Int32) then (9223372036854775806 : Int64) else (if (p3 &&& (3 : Int32)) = (2 : Int32) then (-9223372036854775808 : Int64) else q2))) (9223372036854775807 : Int64)))])) (T19.setTop (mkF m 91 #[.val (.long q0), .second, .val (.int p1), .val (.long q2), .second, .val (.int p3), .val (.int (if (p1 &&& (1 : Int32)) = (0 : Int32) then (0 : Int32) else (1 : Int32))), .val (.int (p3 &&& (3 : Int32))), .val (.long (if (p3 &&& (3 : Int32)) = (0 : Int32) then (9223372036854775807 : Int64) else (if (p3 &&& (3 : Int32)) = (1 : Int32) then (9223372036854775806 : Int64) else (if (p3 &&& (3 : Int32)) = (2 : Int32) then (-9223372036854775808 : Int64) else q2)))), .second, .val (.ref b17), .unset] [(.int (if (if (p3 &&& (3 : Int32)) = (0 : Int32) then (9223372036854775807 : Int64) else (if (p3 &&& (3 : Int32)) = (1 : Int32) then (9223372036854775806 : Int64) else (if (p3 &&& (3 : Int32)) = (2 : Int32) then (-9223372036854775808 : Int64) else q2))) < (9223372036854775807 : Int64) then (1 : Int32) else (0 : Int32)))])) := by
    by_cases hc22 : (if (p3 &&& (3 : Int32)) = (0 : Int32) then (9223372036854775807 : Int64) else (if (p3 &&& (3 : Int32)) = (1 : Int32) then (9223372036854775806 : Int64) else (if (p3 &&& (3 : Int32)) = (2 : Int32) then (-9223372036854775808 : Int64) else q2))) < (9223372036854775807 : Int64)
    · have k23 : Go p.tables e below (T19.setTop (mkF m 83 #[.val (.long q0), .second, .val (.int p1), .val (.long q2), .second, .val (.int p3), .val (.int (if (p1 &&& (1 : Int32)) = (0 : Int32) then (0 : Int32) else (1 : Int32))), .val (.int (p3 &&& (3 : Int32))), .val (.long (if (p3 &&& (3 : Int32)) = (0 : Int32) then (9223372036854775807 : Int64) else (if (p3 &&& (3 : Int32)) = (1 : Int32) then (9223372036854775806 : Int64) else (if (p3 &&& (3 : Int32)) = (2 : Int32) then (-9223372036854775808 : Int64) else q2)))), .second, .val (.ref b17), .unset] [(.int (lcmpW (if (p3 &&& (3 : Int32)) = (0 : Int32) then (9223372036854775807 : Int64) else (if (p3 &&& (3 : Int32)) = (1 : Int32) then (9223372036854775806 : Int64) else (if (p3 &&& (3 : Int32)) = (2 : Int32) then (-9223372036854775808 : Int64) else q2))) (9223372036854775807 : Int64)))])) (T19.setTop (mkF m 91 #[.val (.long q0), .second, .val (.int p1), .val (.long q2), .second, .val (.int p3), .val (.int (if (p1 &&& (1 : Int32)) = (0 : Int32) then (0 : Int32) else (1 : Int32))), .val (.int (p3 &&& (3 : Int32))), .val (.long (if (p3 &&& (3 : Int32)) = (0 : Int32) then (9223372036854775807 : Int64) else (if (p3 &&& (3 : Int32)) = (1 : Int32) then (9223372036854775806 : Int64) else (if (p3 &&& (3 : Int32)) = (2 : Int32) then (-9223372036854775808 : Int64) else q2)))), .second, .val (.ref b17), .unset] [(.int (1 : Int32))])) := by
        intro t ht
        refine XS.ifNo X19.here hx rfl (hb hby at_83) rfl ((if0 _ _).trans (tlt (own_ltL hc22)).2.1) ?_
        show Steps p.tables e below (T19.setTop (mkF m 86 #[.val (.long q0), .second, .val (.int p1), .val (.long q2), .second, .val (.int p3), .val (.int (if (p1 &&& (1 : Int32)) = (0 : Int32) then (0 : Int32) else (1 : Int32))), .val (.int (p3 &&& (3 : Int32))), .val (.long (if (p3 &&& (3 : Int32)) = (0 : Int32) then (9223372036854775807 : Int64) else (if (p3 &&& (3 : Int32)) = (1 : Int32) then (9223372036854775806 : Int64) else (if (p3 &&& (3 : Int32)) = (2 : Int32) then (-9223372036854775808 : Int64) else q2)))), .second, .val (.ref b17), .unset] [])) _
        refine XS.iconst X19.here hx rfl (hb hby at_86) ?_
        show Steps p.tables e below (T19.setTop (mkF m 87 #[.val (.long q0), .second, .val (.int p1), .val (.long q2), .second, .val (.int p3), .val (.int (if (p1 &&& (1 : Int32)) = (0 : Int32) then (0 : Int32) else (1 : Int32))), .val (.int (p3 &&& (3 : Int32))), .val (.long (if (p3 &&& (3 : Int32)) = (0 : Int32) then (9223372036854775807 : Int64) else (if (p3 &&& (3 : Int32)) = (1 : Int32) then (9223372036854775806 : Int64) else (if (p3 &&& (3 : Int32)) = (2 : Int32) then (-9223372036854775808 : Int64) else q2)))), .second, .val (.ref b17), .unset] [(.int (1 : Int32))])) _
        refine XS.goto X19.here hx rfl (pc0 := 87) (pc' := 91) rfl (hb hby at_87) (by decide) (by decide) ?_
        exact ht
      have kk := k23
      simpa only [if_pos hc22] using kk
    · have k24 : Go p.tables e below (T19.setTop (mkF m 83 #[.val (.long q0), .second, .val (.int p1), .val (.long q2), .second, .val (.int p3), .val (.int (if (p1 &&& (1 : Int32)) = (0 : Int32) then (0 : Int32) else (1 : Int32))), .val (.int (p3 &&& (3 : Int32))), .val (.long (if (p3 &&& (3 : Int32)) = (0 : Int32) then (9223372036854775807 : Int64) else (if (p3 &&& (3 : Int32)) = (1 : Int32) then (9223372036854775806 : Int64) else (if (p3 &&& (3 : Int32)) = (2 : Int32) then (-9223372036854775808 : Int64) else q2)))), .second, .val (.ref b17), .unset] [(.int (lcmpW (if (p3 &&& (3 : Int32)) = (0 : Int32) then (9223372036854775807 : Int64) else (if (p3 &&& (3 : Int32)) = (1 : Int32) then (9223372036854775806 : Int64) else (if (p3 &&& (3 : Int32)) = (2 : Int32) then (-9223372036854775808 : Int64) else q2))) (9223372036854775807 : Int64)))])) (T19.setTop (mkF m 91 #[.val (.long q0), .second, .val (.int p1), .val (.long q2), .second, .val (.int p3), .val (.int (if (p1 &&& (1 : Int32)) = (0 : Int32) then (0 : Int32) else (1 : Int32))), .val (.int (p3 &&& (3 : Int32))), .val (.long (if (p3 &&& (3 : Int32)) = (0 : Int32) then (9223372036854775807 : Int64) else (if (p3 &&& (3 : Int32)) = (1 : Int32) then (9223372036854775806 : Int64) else (if (p3 &&& (3 : Int32)) = (2 : Int32) then (-9223372036854775808 : Int64) else q2)))), .second, .val (.ref b17), .unset] [(.int (0 : Int32))])) := by
        intro t ht
        refine XS.ifYes X19.here hx rfl (pc0 := 83) (pc' := 90) rfl (hb hby at_83) rfl ((if0 _ _).trans (flt (own_nltL hc22)).2.1) (by decide) (by decide) ?_
        show Steps p.tables e below (T19.setTop (mkF m 90 #[.val (.long q0), .second, .val (.int p1), .val (.long q2), .second, .val (.int p3), .val (.int (if (p1 &&& (1 : Int32)) = (0 : Int32) then (0 : Int32) else (1 : Int32))), .val (.int (p3 &&& (3 : Int32))), .val (.long (if (p3 &&& (3 : Int32)) = (0 : Int32) then (9223372036854775807 : Int64) else (if (p3 &&& (3 : Int32)) = (1 : Int32) then (9223372036854775806 : Int64) else (if (p3 &&& (3 : Int32)) = (2 : Int32) then (-9223372036854775808 : Int64) else q2)))), .second, .val (.ref b17), .unset] [])) _
        refine XS.iconst X19.here hx rfl (hb hby at_90) ?_
        exact ht
      have kk := k24
      simpa only [if_neg hc22] using kk
  have k25 : Go p.tables e below (T19.setTop (mkF m 91 #[.val (.long q0), .second, .val (.int p1), .val (.long q2), .second, .val (.int p3), .val (.int (if (p1 &&& (1 : Int32)) = (0 : Int32) then (0 : Int32) else (1 : Int32))), .val (.int (p3 &&& (3 : Int32))), .val (.long (if (p3 &&& (3 : Int32)) = (0 : Int32) then (9223372036854775807 : Int64) else (if (p3 &&& (3 : Int32)) = (1 : Int32) then (9223372036854775806 : Int64) else (if (p3 &&& (3 : Int32)) = (2 : Int32) then (-9223372036854775808 : Int64) else q2)))), .second, .val (.ref b17), .unset] [(.int (if (if (p3 &&& (3 : Int32)) = (0 : Int32) then (9223372036854775807 : Int64) else (if (p3 &&& (3 : Int32)) = (1 : Int32) then (9223372036854775806 : Int64) else (if (p3 &&& (3 : Int32)) = (2 : Int32) then (-9223372036854775808 : Int64) else q2))) < (9223372036854775807 : Int64) then (1 : Int32) else (0 : Int32)))])) (T19.setTop (mkF m 95 #[.val (.long q0), .second, .val (.int p1), .val (.long q2), .second, .val (.int p3), .val (.int (if (p1 &&& (1 : Int32)) = (0 : Int32) then (0 : Int32) else (1 : Int32))), .val (.int (p3 &&& (3 : Int32))), .val (.long (if (p3 &&& (3 : Int32)) = (0 : Int32) then (9223372036854775807 : Int64) else (if (p3 &&& (3 : Int32)) = (1 : Int32) then (9223372036854775806 : Int64) else (if (p3 &&& (3 : Int32)) = (2 : Int32) then (-9223372036854775808 : Int64) else q2)))), .second, .val (.ref b17), .val (.int (if (if (p3 &&& (3 : Int32)) = (0 : Int32) then (9223372036854775807 : Int64) else (if (p3 &&& (3 : Int32)) = (1 : Int32) then (9223372036854775806 : Int64) else (if (p3 &&& (3 : Int32)) = (2 : Int32) then (-9223372036854775808 : Int64) else q2))) < (9223372036854775807 : Int64) then (1 : Int32) else (0 : Int32)))] [(.ref b17)])) := by
    intro t ht
    refine XS.istore X19.here hx rfl (hb hby at_91) rfl (l' := #[.val (.long q0), .second, .val (.int p1), .val (.long q2), .second, .val (.int p3), .val (.int (if (p1 &&& (1 : Int32)) = (0 : Int32) then (0 : Int32) else (1 : Int32))), .val (.int (p3 &&& (3 : Int32))), .val (.long (if (p3 &&& (3 : Int32)) = (0 : Int32) then (9223372036854775807 : Int64) else (if (p3 &&& (3 : Int32)) = (1 : Int32) then (9223372036854775806 : Int64) else (if (p3 &&& (3 : Int32)) = (2 : Int32) then (-9223372036854775808 : Int64) else q2)))), .second, .val (.ref b17), .val (.int (if (if (p3 &&& (3 : Int32)) = (0 : Int32) then (9223372036854775807 : Int64) else (if (p3 &&& (3 : Int32)) = (1 : Int32) then (9223372036854775806 : Int64) else (if (p3 &&& (3 : Int32)) = (2 : Int32) then (-9223372036854775808 : Int64) else q2))) < (9223372036854775807 : Int64) then (1 : Int32) else (0 : Int32)))]) rfl ?_
    show Steps p.tables e below (T19.setTop (mkF m 93 #[.val (.long q0), .second, .val (.int p1), .val (.long q2), .second, .val (.int p3), .val (.int (if (p1 &&& (1 : Int32)) = (0 : Int32) then (0 : Int32) else (1 : Int32))), .val (.int (p3 &&& (3 : Int32))), .val (.long (if (p3 &&& (3 : Int32)) = (0 : Int32) then (9223372036854775807 : Int64) else (if (p3 &&& (3 : Int32)) = (1 : Int32) then (9223372036854775806 : Int64) else (if (p3 &&& (3 : Int32)) = (2 : Int32) then (-9223372036854775808 : Int64) else q2)))), .second, .val (.ref b17), .val (.int (if (if (p3 &&& (3 : Int32)) = (0 : Int32) then (9223372036854775807 : Int64) else (if (p3 &&& (3 : Int32)) = (1 : Int32) then (9223372036854775806 : Int64) else (if (p3 &&& (3 : Int32)) = (2 : Int32) then (-9223372036854775808 : Int64) else q2))) < (9223372036854775807 : Int64) then (1 : Int32) else (0 : Int32)))] [])) _
    refine XS.aload X19.here hx rfl (hb hby at_93) rfl rfl ?_
    exact ht
  obtain ⟨cq26, kq26, q26a, q26b, q26c⟩ := isOf hZ rfl Fq19_0
  obtain ⟨_, _, ⟨T26, L26, kq26, n26⟩, -, X26, ⟨Lc26, hQ26, l26, y26, z26⟩, st26⟩ := X19.virtualBack hx (y := (⟨"com/example/auspex/auspex/store/StoredVersion", "isStamped", "()Z"⟩ : MethodName)) (z := (⟨"com/example/auspex/auspex/store/StoredVersion", "isStamped", "()Z"⟩ : MethodName)) hown (mvT hZ (hw _ (List.mem_of_getElem? (i := 21) rfl))) (mvT hZ (hw _ (List.mem_of_getElem? (i := 22) rfl))) (notFace_of_selects (args := #[]) (mvT hZ (hw _ (List.mem_of_getElem? (i := 24) rfl)))) (mvT hZ (hw _ (List.mem_of_getElem? (i := 24) rfl))) (mvT hZ (hw _ (List.mem_of_getElem? (i := 23) rfl))) (by decide) (backOf (W := 0) (rm_isStamped l Z a0 hw [] b17 (if (p3 &&& (3 : Int32)) = (0 : Int32) then (9223372036854775807 : Int64) else (if (p3 &&& (3 : Int32)) = (1 : Int32) then (9223372036854775806 : Int64) else (if (p3 &&& (3 : Int32)) = (2 : Int32) then (-9223372036854775808 : Int64) else q2))) T19.heap n0 Z19 Fq19_3) hZ (hw _ (List.mem_of_getElem? (i := 25) rfl)) (hw _ (List.mem_of_getElem? (i := 3) rfl)) (by decide) (by decide)) q26a q26c (g := (mkF m 95 #[.val (.long q0), .second, .val (.int p1), .val (.long q2), .second, .val (.int p3), .val (.int (if (p1 &&& (1 : Int32)) = (0 : Int32) then (0 : Int32) else (1 : Int32))), .val (.int (p3 &&& (3 : Int32))), .val (.long (if (p3 &&& (3 : Int32)) = (0 : Int32) then (9223372036854775807 : Int64) else (if (p3 &&& (3 : Int32)) = (1 : Int32) then (9223372036854775806 : Int64) else (if (p3 &&& (3 : Int32)) = (2 : Int32) then (-9223372036854775808 : Int64) else q2)))), .second, .val (.ref b17), .val (.int (if (if (p3 &&& (3 : Int32)) = (0 : Int32) then (9223372036854775807 : Int64) else (if (p3 &&& (3 : Int32)) = (1 : Int32) then (9223372036854775806 : Int64) else (if (p3 &&& (3 : Int32)) = (2 : Int32) then (-9223372036854775808 : Int64) else q2))) < (9223372036854775807 : Int64) then (1 : Int32) else (0 : Int32)))] [(.ref b17)])) rfl (by rw [hml]; rfl) (Steps.refl _) (argsL := []) (rest := []) (lenOf pd_2 rfl) rfl (by show 2 * 0 + _ ≤ _; exact Nat.le_of_eq rfl) (hb hby at_95) (fun _ _ => ⟨rfl, rfl, (by decide : 1 + 0 ≤ _), (by decide : 3 + 0 ≤ _)⟩)
  dsimp only [Pt.U, Pt.locs, Pt.cells, Pt.slots] at X26 l26 y26 z26 st26 hQ26
  subst l26 y26 z26
  obtain ⟨rfl, N26q, eq26⟩ := hQ26
  have N26 := Fr.app N19 N26q
  have k26 : Go p.tables e below (T19.setTop (mkF m 95 #[.val (.long q0), .second, .val (.int p1), .val (.long q2), .second, .val (.int p3), .val (.int (if (p1 &&& (1 : Int32)) = (0 : Int32) then (0 : Int32) else (1 : Int32))), .val (.int (p3 &&& (3 : Int32))), .val (.long (if (p3 &&& (3 : Int32)) = (0 : Int32) then (9223372036854775807 : Int64) else (if (p3 &&& (3 : Int32)) = (1 : Int32) then (9223372036854775806 : Int64) else (if (p3 &&& (3 : Int32)) = (2 : Int32) then (-9223372036854775808 : Int64) else q2)))), .second, .val (.ref b17), .val (.int (if (if (p3 &&& (3 : Int32)) = (0 : Int32) then (9223372036854775807 : Int64) else (if (p3 &&& (3 : Int32)) = (1 : Int32) then (9223372036854775806 : Int64) else (if (p3 &&& (3 : Int32)) = (2 : Int32) then (-9223372036854775808 : Int64) else q2))) < (9223372036854775807 : Int64) then (1 : Int32) else (0 : Int32)))] [(.ref b17)])) (T26.setTop (mkF m 98 #[.val (.long q0), .second, .val (.int p1), .val (.long q2), .second, .val (.int p3), .val (.int (if (p1 &&& (1 : Int32)) = (0 : Int32) then (0 : Int32) else (1 : Int32))), .val (.int (p3 &&& (3 : Int32))), .val (.long (if (p3 &&& (3 : Int32)) = (0 : Int32) then (9223372036854775807 : Int64) else (if (p3 &&& (3 : Int32)) = (1 : Int32) then (9223372036854775806 : Int64) else (if (p3 &&& (3 : Int32)) = (2 : Int32) then (-9223372036854775808 : Int64) else q2)))), .second, .val (.ref b17), .val (.int (if (if (p3 &&& (3 : Int32)) = (0 : Int32) then (9223372036854775807 : Int64) else (if (p3 &&& (3 : Int32)) = (1 : Int32) then (9223372036854775806 : Int64) else (if (p3 &&& (3 : Int32)) = (2 : Int32) then (-9223372036854775808 : Int64) else q2))) < (9223372036854775807 : Int64) then (1 : Int32) else (0 : Int32)))] [(.int (f_isStamped (if (p3 &&& (3 : Int32)) = (0 : Int32) then (9223372036854775807 : Int64) else (if (p3 &&& (3 : Int32)) = (1 : Int32) then (9223372036854775806 : Int64) else (if (p3 &&& (3 : Int32)) = (2 : Int32) then (-9223372036854775808 : Int64) else q2)))))])) := fun _ ht => st26.trans ht
  have k27 : Go p.tables e below (T26.setTop (mkF m 98 #[.val (.long q0), .second, .val (.int p1), .val (.long q2), .second, .val (.int p3), .val (.int (if (p1 &&& (1 : Int32)) = (0 : Int32) then (0 : Int32) else (1 : Int32))), .val (.int (p3 &&& (3 : Int32))), .val (.long (if (p3 &&& (3 : Int32)) = (0 : Int32) then (9223372036854775807 : Int64) else (if (p3 &&& (3 : Int32)) = (1 : Int32) then (9223372036854775806 : Int64) else (if (p3 &&& (3 : Int32)) = (2 : Int32) then (-9223372036854775808 : Int64) else q2)))), .second, .val (.ref b17), .val (.int (if (if (p3 &&& (3 : Int32)) = (0 : Int32) then (9223372036854775807 : Int64) else (if (p3 &&& (3 : Int32)) = (1 : Int32) then (9223372036854775806 : Int64) else (if (p3 &&& (3 : Int32)) = (2 : Int32) then (-9223372036854775808 : Int64) else q2))) < (9223372036854775807 : Int64) then (1 : Int32) else (0 : Int32)))] [(.int (f_isStamped (if (p3 &&& (3 : Int32)) = (0 : Int32) then (9223372036854775807 : Int64) else (if (p3 &&& (3 : Int32)) = (1 : Int32) then (9223372036854775806 : Int64) else (if (p3 &&& (3 : Int32)) = (2 : Int32) then (-9223372036854775808 : Int64) else q2)))))])) (T26.setTop (mkF m 108 #[.val (.long q0), .second, .val (.int p1), .val (.long q2), .second, .val (.int p3), .val (.int (if (p1 &&& (1 : Int32)) = (0 : Int32) then (0 : Int32) else (1 : Int32))), .val (.int (p3 &&& (3 : Int32))), .val (.long (if (p3 &&& (3 : Int32)) = (0 : Int32) then (9223372036854775807 : Int64) else (if (p3 &&& (3 : Int32)) = (1 : Int32) then (9223372036854775806 : Int64) else (if (p3 &&& (3 : Int32)) = (2 : Int32) then (-9223372036854775808 : Int64) else q2)))), .second, .val (.ref b17), .val (.int (if (if (p3 &&& (3 : Int32)) = (0 : Int32) then (9223372036854775807 : Int64) else (if (p3 &&& (3 : Int32)) = (1 : Int32) then (9223372036854775806 : Int64) else (if (p3 &&& (3 : Int32)) = (2 : Int32) then (-9223372036854775808 : Int64) else q2))) < (9223372036854775807 : Int64) then (1 : Int32) else (0 : Int32)))] [(.int (1 : Int32))])) := by
    intro t ht
    refine XS.iload X26.here hx rfl (hb hby at_98) rfl ?_
    show Steps p.tables e below (T26.setTop (mkF m 100 #[.val (.long q0), .second, .val (.int p1), .val (.long q2), .second, .val (.int p3), .val (.int (if (p1 &&& (1 : Int32)) = (0 : Int32) then (0 : Int32) else (1 : Int32))), .val (.int (p3 &&& (3 : Int32))), .val (.long (if (p3 &&& (3 : Int32)) = (0 : Int32) then (9223372036854775807 : Int64) else (if (p3 &&& (3 : Int32)) = (1 : Int32) then (9223372036854775806 : Int64) else (if (p3 &&& (3 : Int32)) = (2 : Int32) then (-9223372036854775808 : Int64) else q2)))), .second, .val (.ref b17), .val (.int (if (if (p3 &&& (3 : Int32)) = (0 : Int32) then (9223372036854775807 : Int64) else (if (p3 &&& (3 : Int32)) = (1 : Int32) then (9223372036854775806 : Int64) else (if (p3 &&& (3 : Int32)) = (2 : Int32) then (-9223372036854775808 : Int64) else q2))) < (9223372036854775807 : Int64) then (1 : Int32) else (0 : Int32)))] [(.int (if (if (p3 &&& (3 : Int32)) = (0 : Int32) then (9223372036854775807 : Int64) else (if (p3 &&& (3 : Int32)) = (1 : Int32) then (9223372036854775806 : Int64) else (if (p3 &&& (3 : Int32)) = (2 : Int32) then (-9223372036854775808 : Int64) else q2))) < (9223372036854775807 : Int64) then (1 : Int32) else (0 : Int32))), (.int (f_isStamped (if (p3 &&& (3 : Int32)) = (0 : Int32) then (9223372036854775807 : Int64) else (if (p3 &&& (3 : Int32)) = (1 : Int32) then (9223372036854775806 : Int64) else (if (p3 &&& (3 : Int32)) = (2 : Int32) then (-9223372036854775808 : Int64) else q2)))))])) _
    refine XS.icmpNo X26.here hx rfl (hb hby at_100) rfl (teq (own_law _ : (f_isStamped (if (p3 &&& (3 : Int32)) = (0 : Int32) then (9223372036854775807 : Int64) else (if (p3 &&& (3 : Int32)) = (1 : Int32) then (9223372036854775806 : Int64) else (if (p3 &&& (3 : Int32)) = (2 : Int32) then (-9223372036854775808 : Int64) else q2)))) = (if (if (p3 &&& (3 : Int32)) = (0 : Int32) then (9223372036854775807 : Int64) else (if (p3 &&& (3 : Int32)) = (1 : Int32) then (9223372036854775806 : Int64) else (if (p3 &&& (3 : Int32)) = (2 : Int32) then (-9223372036854775808 : Int64) else q2))) < (9223372036854775807 : Int64) then (1 : Int32) else (0 : Int32)))).2 ?_
    show Steps p.tables e below (T26.setTop (mkF m 103 #[.val (.long q0), .second, .val (.int p1), .val (.long q2), .second, .val (.int p3), .val (.int (if (p1 &&& (1 : Int32)) = (0 : Int32) then (0 : Int32) else (1 : Int32))), .val (.int (p3 &&& (3 : Int32))), .val (.long (if (p3 &&& (3 : Int32)) = (0 : Int32) then (9223372036854775807 : Int64) else (if (p3 &&& (3 : Int32)) = (1 : Int32) then (9223372036854775806 : Int64) else (if (p3 &&& (3 : Int32)) = (2 : Int32) then (-9223372036854775808 : Int64) else q2)))), .second, .val (.ref b17), .val (.int (if (if (p3 &&& (3 : Int32)) = (0 : Int32) then (9223372036854775807 : Int64) else (if (p3 &&& (3 : Int32)) = (1 : Int32) then (9223372036854775806 : Int64) else (if (p3 &&& (3 : Int32)) = (2 : Int32) then (-9223372036854775808 : Int64) else q2))) < (9223372036854775807 : Int64) then (1 : Int32) else (0 : Int32)))] [])) _
    refine XS.iconst X26.here hx rfl (hb hby at_103) ?_
    show Steps p.tables e below (T26.setTop (mkF m 104 #[.val (.long q0), .second, .val (.int p1), .val (.long q2), .second, .val (.int p3), .val (.int (if (p1 &&& (1 : Int32)) = (0 : Int32) then (0 : Int32) else (1 : Int32))), .val (.int (p3 &&& (3 : Int32))), .val (.long (if (p3 &&& (3 : Int32)) = (0 : Int32) then (9223372036854775807 : Int64) else (if (p3 &&& (3 : Int32)) = (1 : Int32) then (9223372036854775806 : Int64) else (if (p3 &&& (3 : Int32)) = (2 : Int32) then (-9223372036854775808 : Int64) else q2)))), .second, .val (.ref b17), .val (.int (if (if (p3 &&& (3 : Int32)) = (0 : Int32) then (9223372036854775807 : Int64) else (if (p3 &&& (3 : Int32)) = (1 : Int32) then (9223372036854775806 : Int64) else (if (p3 &&& (3 : Int32)) = (2 : Int32) then (-9223372036854775808 : Int64) else q2))) < (9223372036854775807 : Int64) then (1 : Int32) else (0 : Int32)))] [(.int (1 : Int32))])) _
    refine XS.goto X26.here hx rfl (pc0 := 104) (pc' := 108) rfl (hb hby at_104) (by decide) (by decide) ?_
    exact ht
  obtain ⟨fs, hr, hrun, hended, hW, hsame⟩ := X26.leave (v := some (.int (1 : Int32))) (fun h => by rw [Bd.returns] at h; cases h)
  refine ⟨_, _, pre0 _ ((goT k1 (goT k2 (goT k6 (goT k7 (goT k17 (goT k18 (goT k19 (goT k20 (goT k21 (goT k25 (goT k26 k27))))))))))) _ (retN X26 hx (t := .boolean) Bd.returns (by simp) (hb hby at_108) hr)), hrun, hended, _, _, rfl, ?_, ⟨_, rfl⟩, hW, hsame.mono (by decide) (by decide)⟩
  show Q_law Z q0 p1 q2 p3 h0 n0 _ T26.heap _
  rw [eq26]
  exact ⟨rfl, N26⟩
set_option maxRecDepth 65536 in
set_option maxHeartbeats 40000000 in
theorem comes_1 {Post : Tables → Env → Array Value → State → Outcome → State → Prop} (hpost : ∀ tb e args s v u, (limb_1_1.after args s (.returned v) u = true ∧ limb_1_2.after args s (.returned v) u = true ∧ True) → FrameEnd s (.returned v) u (Jvm.fieldLocs frame_1_writes args s ++ Jvm.arrayLocs frame_1_arrays args s ++ Jvm.staticLocs frame_1_statics s) 16 128 → Post tb e args s (.returned v) u) :
    ArmFor flags0 classFile x code maxLocals ret World_1 tables_1 room_1 Calls_1 rest_1 Pre_1 Post := by
  intro l hfl _ _ p e ha hc hk s m args below hf hA hF happ hP
  obtain ⟨hcalls, hrest, hpre⟩ := hP
  obtain ⟨-, -, -, hnamed, -, -, -, hat⟩ := (Spec.applies_iff hf).mp happ
  obtain ⟨hg, hn⟩ := and_e (Cond.before_iff.mp (show (Jvm.Cond.and given_1 narrow_1).before args s = true from hpre))
  obtain ⟨hcnt, hg⟩ := and_e hg
  obtain ⟨ha0, hg⟩ := and_e hg
  obtain ⟨ha1, hg⟩ := and_e hg
  obtain ⟨ha2, hg⟩ := and_e hg
  have ha3 := hg
  obtain ⟨w0, w1, w2, w3, rfl⟩ : ∃ w0 w1 w2 w3 : Value, args = #[w0, w1, w2, w3] := by
    have hs : args.size = 4 := by simpa [Cond.value, given_1] using hcnt
    obtain ⟨L⟩ := args
    match L, hs with
    | [w0, w1, w2, w3], _ => exact ⟨w0, w1, w2, w3, rfl⟩
  have hw := fun d (hd : d ∈ tables_1) => atoms_spec (ws := Jvm.Cond.code x code maxLocals ret :: tables_1) hat d (List.mem_cons_of_mem _ hd)
  have hfit : Fit s := fun {y c} hc i hi => by
    obtain ⟨ha, rfl⟩ := Array.getElem?_eq_some_iff.mp hc
    have q := List.all_eq_true.mp ((Array.all_eq_true_iff_forall_mem.mp hF) _ (Array.getElem_mem ha)) i (List.mem_range.mpr hi)
    simpa [Array.getElem?_eq_getElem hi] using q
  obtain ⟨i0, ei0⟩ := isL_v ha0
  obtain rfl : w0 = (.long i0) := Option.some.inj ei0
  obtain ⟨i1, ei1⟩ := is_v ha1
  obtain rfl : w1 = (.int i1) := Option.some.inj ei1
  obtain ⟨i2, ei2⟩ := isL_v ha2
  obtain rfl : w2 = (.long i2) := Option.some.inj ei2
  obtain ⟨i3, ei3⟩ := is_v ha3
  obtain rfl : w3 = (.int i3) := Option.some.inj ei3
  obtain ⟨n, o, h1, h2, h3, _, L, rfl, ⟨rfl, N⟩, hq⟩ := rm_law l s _ hw tables_1 i0 i1 i2 i3 s.heap s.heap.size (Nat.le_refl _)  p e ha hc hk s m _ below hf ((Spec.applies_iff_loose hf).mp happ).1 ⟨rfl, State.Warmed39.refl s, rfl⟩ trivial
  refine ⟨n, _, h1, h2, h3, hpost _ _ _ _ _ _ ⟨Cond.after_iff.mpr rfl, Cond.after_iff.mpr (eq_i res_at (Term.int_eval (1)) rfl), trivial⟩ ⟨hq.1, hq.2.1, (hq.2.2.sift fun y hy => Or.inr (N y hy)).mono (by decide) (by decide)⟩⟩
theorem main_1_1 : Claimed_1_1 := comes_1 fun _ _ _ _ _ _ h hF => ⟨h.1, hF⟩
theorem main_1_2 : Claimed_1_2 := comes_1 fun _ _ _ _ _ _ h hF => ⟨h.2.1, hF⟩
end Jvm.Pilot.@@N@@
namespace Jvm.Pilot.@@N@@
open Jvm Jvm.ClassFile Sem Op Lib Jvm.Free Jvm.Stand Jvm.Pilot.@@N@@.Jvm.D
/-! MADE BY PROGRAM (witnessworld.py) out of the Statement's table words and the real class files: 10 classes; the members and pool entries that the words name. The judged class is class 1, her method 1. -/
namespace start1
open Jvm.ClassFile
def u (s : String) : CpInfo := .utf8 (stringToUtf16 s)
/-- a pool by its gaps: so many unusable entries, then the entry; so many at the end -/
def gap : Nat → List CpInfo → List CpInfo
  | 0, r => r
  | n + 1, r => .unusable :: gap n r
def poolList (es : List (Nat × CpInfo)) (last : Nat) : List CpInfo := es.foldr (fun e r => gap e.1 (e.2 :: r)) (gap last [])
def pool (es : List (Nat × CpInfo)) (last : Nat) : Array CpInfo := ⟨poolList es last⟩
def fileOf (pool : Array CpInfo) (this : Nat) (attrs : Array Attribute := #[]) (ms : Array MethodInfo := #[]) (fl : Nat := 33) (sup : Nat := 0) (ifs : Array Nat := #[]) (fds : Array FieldInfo := #[]) : ClassFile where
  minorVersion := 0
  majorVersion := 65
  constantPool := pool
  accessFlags := fl
  thisClass := this
  superClass := sup
  interfaces := ifs
  fields := fds
  methods := ms
  attributes := attrs
def plain (name : String) (sup : Option ClassId) : Class where
  name := name
  kind := .ordinary
  loader := none
  accessFlags := 33
  super := sup
  interfaces := #[]
  cf := none
  fields := #[]
  methods := #[]
  instanceTypes := #[]
  staticTypes := #[]
  resolved := #[]
  callSites := []
  init := .initialized
  statics := none
  mirror := none

def pool0 : Array CpInfo := pool [(5, u "<init>"), (0, u "()V"), (1, .class_ 10), (1, u "java/lang/Object")] 113

def k0c0 : Code := { maxStack := 0, maxLocals := 1, code := object_method_1_code, exceptionTable := #[], attributes := #[] }
def k0m0 : Method := { name := "<init>", desc := "()V", sig := { parameters := [], returnType := none }, accessFlags := 1, code := some k0c0 }
/-- java/lang/Object -/
def k0 : Class := { plain "java/lang/Object" none with
  accessFlags := 33
  interfaces := #[]
  cf := some (fileOf pool0 8 #[] #[{ accessFlags := 1, nameIndex := 5, descriptorIndex := 6, attributes := #[] }] 33 0 #[] #[])
  fields := #[]
  methods := #[k0m0]
  instanceTypes := #[]
  staticTypes := #[]
  resolved := Array.replicate 124 none
  statics := none }

def pool1 : Array CpInfo := pool [(2, .class_ 4), (1, u "java/lang/Object"), (0, u "<init>"), (0, u "()V"), (2, .long 9223372036854775807), (1, .long 9223372036854775806), (1, .long 9223372036854775808), (1, .class_ 16), (0, u "com/example/auspex/auspex/store/StoredVersion"), (0, .methodref 15 18), (0, .nameAndType 5 19), (0, u "(JZJ)V"), (0, .methodref 15 21), (0, .nameAndType 22 23), (0, u "isStamped"), (0, u "()Z"), (0, .class_ 25), (0, u "com/example/auspex/auspex/store/StoredVersionIsStampedPinLaw"), (2, u "law"), (0, u "(JIJI)Z")] 3

def k1m0 : Method := { name := "<init>", desc := "()V", sig := { parameters := [], returnType := none }, accessFlags := 1, code := none }
def k1c1 : Code := { maxStack := 7, maxLocals := 12, code := code, exceptionTable := #[], attributes := #[] }
def k1m1 : Method := { name := "law", desc := "(JIJI)Z", sig := { parameters := [.long, .int, .long, .int], returnType := some .boolean }, accessFlags := 9, code := some k1c1 }
/-- com/example/auspex/auspex/store/StoredVersionIsStampedPinLaw -/
def k1 : Class := { plain "com/example/auspex/auspex/store/StoredVersionIsStampedPinLaw" (some 0) with
  accessFlags := 49
  interfaces := #[]
  cf := some (fileOf pool1 24 #[] #[{ accessFlags := 1, nameIndex := 5, descriptorIndex := 6, attributes := #[] }, { accessFlags := 9, nameIndex := 28, descriptorIndex := 29, attributes := #[] }] 49 2 #[] #[])
  fields := #[]
  methods := #[k1m0, k1m1]
  instanceTypes := #[]
  staticTypes := #[]
  resolved := Array.replicate 33 none
  statics := none }

def pool2 : Array CpInfo := pool [(1, .methodref 2 3), (0, .class_ 4), (0, .nameAndType 5 6), (0, u "java/lang/Object"), (0, u "<init>"), (0, u "()V"), (0, .class_ 8), (0, u "java/lang/Record")] 13

def k2c0 : Code := { maxStack := 1, maxLocals := 1, code := jdk_30_method_1_code, exceptionTable := #[], attributes := #[] }
def k2m0 : Method := { name := "<init>", desc := "()V", sig := { parameters := [], returnType := none }, accessFlags := 4, code := some k2c0 }
/-- java/lang/Record -/
def k2 : Class := { plain "java/lang/Record" (some 0) with
  accessFlags := 1057
  interfaces := #[]
  cf := some (fileOf pool2 7 #[] #[{ accessFlags := 4, nameIndex := 5, descriptorIndex := 6, attributes := #[] }] 1057 2 #[] #[])
  fields := #[]
  methods := #[k2m0]
  instanceTypes := #[]
  staticTypes := #[]
  resolved := Array.replicate 22 none
  statics := none }

def pool3 : Array CpInfo := pool [(1, .methodref 2 3), (0, .class_ 4), (0, .nameAndType 5 6), (0, u "java/lang/Record"), (0, u "<init>"), (0, u "()V"), (0, .fieldref 8 9), (0, .class_ 10), (0, .nameAndType 11 12), (0, u "com/example/auspex/auspex/store/StoredVersion"), (0, u "version"), (0, u "J"), (0, .fieldref 8 14), (0, .nameAndType 15 16), (0, u "tombstone"), (0, u "Z"), (0, .fieldref 8 18), (0, .nameAndType 19 12), (0, u "stamp"), (2, .long 9223372036854775807), (13, u "(JZJ)V"), (3, u "isStamped"), (0, u "()Z")] 27

def k3c0 : Code := { maxStack := 3, maxLocals := 6, code := prog_98_method_1_code, exceptionTable := #[], attributes := #[] }
def k3m0 : Method := { name := "<init>", desc := "(JZJ)V", sig := { parameters := [.long, .boolean, .long], returnType := none }, accessFlags := 1, code := some k3c0 }
def k3c1 : Code := { maxStack := 4, maxLocals := 1, code := prog_98_method_2_code, exceptionTable := #[], attributes := #[] }
def k3m1 : Method := { name := "isStamped", desc := "()Z", sig := { parameters := [], returnType := some .boolean }, accessFlags := 1, code := some k3c1 }
/-- com/example/auspex/auspex/store/StoredVersion -/
def k3 : Class := { plain "com/example/auspex/auspex/store/StoredVersion" (some 2) with
  accessFlags := 49
  interfaces := #[]
  cf := some (fileOf pool3 8 #[] #[{ accessFlags := 1, nameIndex := 5, descriptorIndex := 36, attributes := #[] }, { accessFlags := 1, nameIndex := 40, descriptorIndex := 41, attributes := #[] }] 49 2 #[] #[{ accessFlags := 18, nameIndex := 11, descriptorIndex := 12, attributes := #[] }, { accessFlags := 18, nameIndex := 15, descriptorIndex := 16, attributes := #[] }, { accessFlags := 18, nameIndex := 19, descriptorIndex := 12, attributes := #[] }])
  fields := #[{ name := "version", type := .long, accessFlags := 18, slot := 0, constantValue := 0 }, { name := "tombstone", type := .boolean, accessFlags := 18, slot := 1, constantValue := 0 }, { name := "stamp", type := .long, accessFlags := 18, slot := 2, constantValue := 0 }]
  methods := #[k3m0, k3m1]
  instanceTypes := #[.long, .boolean, .long]
  staticTypes := #[]
  resolved := Array.replicate 69 none
  statics := none }

def pool4 : Array CpInfo := pool [(1, u "java/lang/Cloneable"), (0, .class_ 1), (0, u "java/lang/Object"), (0, .class_ 3)] 3

/-- java/lang/Cloneable -/
def k4 : Class := { plain "java/lang/Cloneable" (some 0) with
  accessFlags := 1537
  interfaces := #[]
  cf := some (fileOf pool4 2 #[] #[] 1537 4 #[] #[])
  fields := #[]
  methods := #[]
  instanceTypes := #[]
  staticTypes := #[]
  resolved := Array.replicate 8 none
  statics := none }

def pool5 : Array CpInfo := pool [(1, u "java/io/Serializable"), (0, .class_ 1), (0, u "java/lang/Object"), (0, .class_ 3)] 3

/-- java/io/Serializable -/
def k5 : Class := { plain "java/io/Serializable" (some 0) with
  accessFlags := 1537
  interfaces := #[]
  cf := some (fileOf pool5 2 #[] #[] 1537 4 #[] #[])
  fields := #[]
  methods := #[]
  instanceTypes := #[]
  staticTypes := #[]
  resolved := Array.replicate 8 none
  statics := none }

/-- the primitive byte -/
def k6 : Class := { plain "byte" none with kind := .primitive 'B', accessFlags := 0x411 }
/-- [B -/
def k7 : Class := { plain "[B" (some 0) with kind := .array 6 .byte, interfaces := #[4, 5], accessFlags := 1041 }

/-- the primitive int -/
def k8 : Class := { plain "int" none with kind := .primitive 'I', accessFlags := 0x411 }
/-- [I -/
def k9 : Class := { plain "[I" (some 0) with kind := .array 8 .int, interfaces := #[4, 5], accessFlags := 1041 }

def heap : Heap := #[]
def classes : Array Class := #[k0, k1, k2, k3, k4, k5, k6, k7, k8, k9]
def interned : List (Array UInt16 × Addr) := []
def slotsUsed : Nat := 0
def theMethod : MethodId := ⟨1, 1⟩
def args0 : Array Value := #[.long 5, .int 1, .long 7, .int 3]
def aboutOver (below : List Frame) : State where
  vm := { classes := classes, interned := interned.toArray }
  heap := heap
  slotsUsed := slotsUsed
  threads := #[{ frames := .invoking theMethod args0 :: below }]
def below0 : List Frame := [.native { method := ⟨0, 0⟩, args := #[] }]
def about1 : State := aboutOver below0
def p0 : Program := .bare "" "" ""
def e0 : Env := launch0.env 0 0 0
theorem w_frames : about1.frames = Frame.invoking theMethod args0 :: below0 := rfl
set_option maxRecDepth 65536 in
theorem w_args : argsFit about1.vm theMethod args0 = true := by decide +kernel
set_option maxRecDepth 65536 in
theorem w_heap : heapFits about1 = true := by decide +kernel
set_option maxRecDepth 65536 in
theorem w_runnable : about1.curStatus? = some .runnable := by decide +kernel
set_option maxRecDepth 65536 in
theorem w_alone : about1.alone = true := by decide +kernel
set_option maxRecDepth 65536 in
theorem w_named : about1.methodNamed? x = some theMethod := by decide +kernel
set_option maxRecDepth 65536 in
theorem w_hears : about1.hears theMethod below0 = true := by decide +kernel
set_option maxRecDepth 65536 in
theorem w_ripe : about1.ripe theMethod args0 below0 = true := by decide +kernel
theorem w_running : about1.status = .running := rfl
set_option maxRecDepth 65536 in
theorem w_room : about1.hasRoom e0.platform room_1 = true :=
  launch0.hasRoom_least _ room_1 (by decide +kernel) (by decide +kernel) (by decide +kernel) (by decide +kernel) (by decide +kernel) (by decide +kernel)
theorem allAtoms_all (ts : List Jvm.Cond) (a : Array Jvm.Value) (st : Jvm.State) : (allAtoms ts).before a st = ts.all (fun c => c.before a st) := by
  induction ts with
  | nil => rfl
  | cons c t ih =>
    show (Jvm.Cond.and c (allAtoms t)).before a st = _
    rw [Jvm.Cond.before_and, ih, List.all_cons]
def words1 : List Jvm.Cond := Jvm.Cond.code x code maxLocals ret :: tables_1
/-- a 'code' word, met by the world's own term for the bytes: nothing is compared byte by byte -/
theorem code_word {y : MethodName} {bytes : ByteArray} {mx : Nat} {rt : Option FieldType} {a : Array Value} {s : State} {m : MethodId} {meth : Method} {c : Code} (h1 : s.methodNamed? y = some m) (h2 : s.vm.method? m = some meth) (h3 : meth.code = some c) (h4 : c.code = bytes)
    (h5 : (c.maxLocals == mx && c.exceptionTable.isEmpty && decide (c.maxStack ≤ mostOperands) && decide (meth.sig.returnType = rt) && !meth.locks && decide (parseMethodDescriptor y.desc = some meth.sig)) = true) : (Jvm.Cond.code y bytes mx rt).before a s = true := by
  simp only [Bool.and_eq_true, beq_iff_eq, Bool.not_eq_true', decide_eq_true_eq] at h5
  obtain ⟨⟨⟨⟨⟨g1, g2⟩, g3⟩, g4⟩, g5⟩, g6⟩ := h5
  simp [Cond.before, Cond.holds, Cond.value, h1, h2, h3, h4, g1, g2, g3, g4, g5, g6]
def isCode : Jvm.Cond → Bool
  | .code _ _ _ _ => true
  | _ => false
theorem all_split {L : List Jvm.Cond} {P : Jvm.Cond → Bool} (h1 : L.all (fun c => isCode c || P c) = true) (h2 : ∀ c ∈ L.filter isCode, P c = true) : L.all P = true := by
  refine List.all_eq_true.mpr fun c hc => ?_
  have h := List.all_eq_true.mp h1 c hc
  rcases Bool.eq_false_or_eq_true (isCode c) with hi | hi
  · exact h2 c (List.mem_filter.mpr ⟨hc, hi⟩)
  · simpa [hi] using h
set_option maxRecDepth 65536 in
theorem w_c0 : (Jvm.Cond.code x code maxLocals ret).before args0 about1 = true := code_word (m := ⟨1, 1⟩) (meth := k1m1) (c := k1c1) (by decide +kernel) rfl rfl rfl (by decide +kernel)
set_option maxRecDepth 65536 in
theorem w_c1 : (Jvm.Cond.code ({ cls := "com/example/auspex/auspex/store/StoredVersion", name := "<init>", desc := "(JZJ)V" } : Jvm.MethodName) prog_98_method_1_code (6 : Nat) (Option.none : Option Jvm.ClassFile.FieldType)).before args0 about1 = true := code_word (m := ⟨3, 0⟩) (meth := k3m0) (c := k3c0) (by decide +kernel) rfl rfl rfl (by decide +kernel)
set_option maxRecDepth 65536 in
theorem w_c2 : (Jvm.Cond.code ({ cls := "java/lang/Record", name := "<init>", desc := "()V" } : Jvm.MethodName) jdk_30_method_1_code (1 : Nat) (Option.none : Option Jvm.ClassFile.FieldType)).before args0 about1 = true := code_word (m := ⟨2, 0⟩) (meth := k2m0) (c := k2c0) (by decide +kernel) rfl rfl rfl (by decide +kernel)
set_option maxRecDepth 65536 in
theorem w_c3 : (Jvm.Cond.code ({ cls := "java/lang/Object", name := "<init>", desc := "()V" } : Jvm.MethodName) object_method_1_code (1 : Nat) (Option.none : Option Jvm.ClassFile.FieldType)).before args0 about1 = true := code_word (m := ⟨0, 0⟩) (meth := k0m0) (c := k0c0) (by decide +kernel) rfl rfl rfl (by decide +kernel)
set_option maxRecDepth 65536 in
theorem w_c4 : (Jvm.Cond.code ({ cls := "com/example/auspex/auspex/store/StoredVersion", name := "isStamped", desc := "()Z" } : Jvm.MethodName) prog_98_method_2_code (1 : Nat) (Option.some Jvm.ClassFile.FieldType.boolean)).before args0 about1 = true := code_word (m := ⟨3, 1⟩) (meth := k3m1) (c := k3c1) (by decide +kernel) rfl rfl rfl (by decide +kernel)
def codes1 : List Jvm.Cond := [Jvm.Cond.code x code maxLocals ret, Jvm.Cond.code ({ cls := "com/example/auspex/auspex/store/StoredVersion", name := "<init>", desc := "(JZJ)V" } : Jvm.MethodName) prog_98_method_1_code (6 : Nat) (Option.none : Option Jvm.ClassFile.FieldType), Jvm.Cond.code ({ cls := "java/lang/Record", name := "<init>", desc := "()V" } : Jvm.MethodName) jdk_30_method_1_code (1 : Nat) (Option.none : Option Jvm.ClassFile.FieldType), Jvm.Cond.code ({ cls := "java/lang/Object", name := "<init>", desc := "()V" } : Jvm.MethodName) object_method_1_code (1 : Nat) (Option.none : Option Jvm.ClassFile.FieldType), Jvm.Cond.code ({ cls := "com/example/auspex/auspex/store/StoredVersion", name := "isStamped", desc := "()Z" } : Jvm.MethodName) prog_98_method_2_code (1 : Nat) (Option.some Jvm.ClassFile.FieldType.boolean)]
set_option maxRecDepth 65536 in
theorem codes_eq : words1.filter isCode = codes1 := rfl
theorem w_codes : ∀ c ∈ words1.filter isCode, c.before args0 about1 = true := by
  rw [codes_eq]
  intro c hc
  simp only [codes1, List.mem_cons, List.not_mem_nil, or_false] at hc
  rcases hc with rfl | rfl | rfl | rfl | rfl
  · exact w_c0
  · exact w_c1
  · exact w_c2
  · exact w_c3
  · exact w_c4
set_option maxRecDepth 65536 in
theorem w_t1 : (words1.take 24).all (fun c => isCode c || c.before args0 about1) = true := by decide +kernel
set_option maxRecDepth 65536 in
theorem w_t2 : (words1.drop 24).all (fun c => isCode c || c.before args0 about1) = true := by decide +kernel
theorem w_tables : (allAtoms (Jvm.Cond.code x code maxLocals ret :: tables_1)).before args0 about1 = true := by
  rw [allAtoms_all]
  show words1.all (fun c => c.before args0 about1) = true
  refine all_split ?_ w_codes
  rw [← List.take_append_drop 24 words1, List.all_append, w_t1, w_t2]
  rfl
set_option maxRecDepth 65536 in
theorem w_case : (Jvm.Cond.and given_1 narrow_1).before args0 about1 = true := by decide +kernel
theorem w_applies : (headSpec (Jvm.Cond.code x code maxLocals ret :: tables_1) room_1).applies x e0.platform about1 = true :=
  (Spec.applies_iff w_frames).mpr ⟨w_running, w_runnable, w_alone, w_named, w_hears, w_ripe, w_room, w_tables⟩
theorem atStart : AtStart classFile x code maxLocals ret World_1 tables_1 room_1 Calls_1 rest_1 Pre_1 launch0 p0 e0 about1 theMethod args0 below0 :=
  ⟨lists_1, trivial, launch0.admits_env _ _ _, launch0.least_env, fairChoices_fair.cas, fairChoices_fair.clock, w_frames, w_args, w_heap, w_applies, trivial, trivial, w_case⟩
end start1
theorem witness_1 : WitnessClaimed_1 := ⟨start1.p0, start1.e0, start1.about1, start1.theMethod, start1.args0, start1.below0, start1.atStart⟩
end Jvm.Pilot.@@N@@
