import JvmDerived
import JvmDerived.Pilot.@@N@@Statement
import JvmDerived.Pilot.@@N@@Code
set_option linter.unusedVariables false
set_option linter.unusedSimpArgs false
namespace Jvm.RoadKit
open Sem ClassFile Op Lib Jvm.Stand Jvm.Free Jvm.LawKit
abbrev Go (tb : Tables) (e : Env) (below : List Frame) (A B : State) : Prop := ∀ t, Steps tb e below B t → Steps tb e below A t
theorem goT {tb : Tables} {e : Env} {below : List Frame} {A B C : State} (f : Go tb e below A B) (g : Go tb e below B C) : Go tb e below A C := fun t h => f t (g t h)
section New
variable {p : Program} {l : Launch} {e : Env} {R : Room} {s : State} {m : MethodId} {args : Array Value} {below : List Frame} {meth : Method} {c : Code} {T : State} {locs : List Loc} {cells slots : Nat}
theorem retI (X : Stand p l e R s m args below meth c T locs cells slots) (hx : p.tables.exec = Jvm.exec) {pc : Nat} {Ls : Array Slot} {z : Int32} {rest : List Value} (hret : meth.sig.returnType = some .int) (hd : decode c.code pc = .ok (.ireturn, 1)) {fs : List Frame}
    (hl : ∀ (f : JFrame) (acts : List Action), f.method = m → f.locked = none → f.entered = [] → (doReturn e (T.setTop f) acts (some (.int z))).1 = T.setFrames fs) : Steps p.tables e below (T.setTop (mkF m pc Ls (.int z :: rest))) (T.setFrames fs) := by
  have hm' : T.vm.method? m = some meth := X.method'
  have hn : narrow .int (.int z) = .int z := rfl
  show Steps p.tables e below (T.setTop { method := m, pc := pc, locals := Ls, stack := _ :: rest, locked := none }) _
  jvm_step X.here [X.here.top, hx, hd, hm', hret, hn]
  first | (intro acts; rw [hl _ acts rfl rfl rfl]) | rw [hl _ _ rfl rfl rfl]
  exact Steps.refl _
theorem retJ (X : Stand p l e R s m args below meth c T locs cells slots) (hx : p.tables.exec = Jvm.exec) {pc : Nat} {Ls : Array Slot} {z : Int64} {rest : List Value} (hret : meth.sig.returnType = some .long) (hd : decode c.code pc = .ok (.lreturn, 1)) {fs : List Frame}
    (hl : ∀ (f : JFrame) (acts : List Action), f.method = m → f.locked = none → f.entered = [] → (doReturn e (T.setTop f) acts (some (.long z))).1 = T.setFrames fs) : Steps p.tables e below (T.setTop (mkF m pc Ls (.long z :: rest))) (T.setFrames fs) := by
  have hm' : T.vm.method? m = some meth := X.method'
  have hn : narrow .long (.long z) = .long z := rfl
  show Steps p.tables e below (T.setTop { method := m, pc := pc, locals := Ls, stack := _ :: rest, locked := none }) _
  jvm_step X.here [X.here.top, hx, hd, hm', hret, hn]
  first | (intro acts; rw [hl _ acts rfl rfl rfl]) | rw [hl _ _ rfl rfl rfl]
  exact Steps.refl _
theorem retR (X : Stand p l e R s m args below meth c T locs cells slots) (hx : p.tables.exec = Jvm.exec) {pc : Nat} {Ls : Array Slot} {z : Addr} {rest : List Value} {C : String} (hret : meth.sig.returnType = some (.object C)) (hd : decode c.code pc = .ok (.areturn, 1)) {fs : List Frame}
    (hl : ∀ (f : JFrame) (acts : List Action), f.method = m → f.locked = none → f.entered = [] → (doReturn e (T.setTop f) acts (some (.ref z))).1 = T.setFrames fs) : Steps p.tables e below (T.setTop (mkF m pc Ls (.ref z :: rest))) (T.setFrames fs) := by
  have hm' : T.vm.method? m = some meth := X.method'
  show Steps p.tables e below (T.setTop { method := m, pc := pc, locals := Ls, stack := _ :: rest, locked := none }) _
  jvm_step X.here [X.here.top, hx, hd, hm', hret, Value.isRef, FieldType.isReference]
  first | (intro acts; rw [hl _ acts rfl rfl rfl]) | rw [hl _ _ rfl rfl rfl]
  exact Steps.refl _
end New
theorem own_sta_keep {Z : State} {h h' : Heap} {b : Addr} {C n d K : String} {v : Value} (F : Sta Z h C n d v) (E : Exa Z h b K) (Kp : Keep h h' [b]) : Sta Z h' C n d v := by
  obtain ⟨cf, i, k, f, st, cell, h1, h2, h3, h4, h5, h6, h7⟩ := F
  obtain ⟨c2, _, g1, -, -, g4, -⟩ := E
  have ne : st ∉ [b] := fun q => by
    cases List.mem_singleton.mp q
    cases h5.symm.trans g1
    rw [g4] at h6; cases h6
  exact ⟨cf, i, k, f, st, cell, h1, h2, h3, h4, Kp.2.1 st cell h5 ne, h6, h7⟩
theorem own_mvM {Z s : State} {a0 args : Array Value} {own host : String} {index : Nat} {y : MethodName} (hZ : Z.Warmed39 s.vm) (w : (Cond.methodLinkNest own index y host).before a0 Z = true) : (Cond.methodLinkNest own index y host).before args s = true := (Cond.methodLinkNest_wide hZ w :)
theorem own_fld_ne {Z : State} {h : Heap} {a : Addr} {C n d : String} {v w : Value} (F : Fld Z h a C n d v) (G : Fld Z h a C n d w) (ne : v ≠ w) : False := by
  obtain ⟨cell, cf, k, i, f, h1, h2, -, -, -, -, h7⟩ := F
  obtain ⟨cell', cf', k', i', f', g1, g2, -, -, -, -, g7⟩ := G
  cases h1.symm.trans g1
  cases h2.symm.trans g2
  cases h7.symm.trans g7
  exact ne rfl
theorem own_eq_i {args : Array Value} {first s : State} {o : Option Outcome} {idx : List Nat} {a : Term} {z : Int32} (h : (Cond.eq a (.int z)).value args first o s idx = some true) : a.eval args first o idx s = some (.int z) := by
  cases ha : a.eval args first o idx s with
  | none => simp [Cond.value, Term.eval, ha] at h
  | some x => cases x <;> simp [Cond.value, Term.eval, ha] at h ⊢; exact h
theorem own_eq_l {args : Array Value} {first s : State} {o : Option Outcome} {idx : List Nat} {a : Term} {z : Int64} (h : (Cond.eq a (.long z)).value args first o s idx = some true) : a.eval args first o idx s = some (.long z) := by
  cases ha : a.eval args first o idx s with
  | none => simp [Cond.value, Term.eval, ha] at h
  | some x => cases x <;> simp [Cond.value, Term.eval, ha] at h ⊢; exact h
theorem own_ltL {x y : Int64} (h : x < y) : lcmpW x y < 0 := (lw_lt x y).mpr h
theorem own_nltL {x y : Int64} (h : ¬ x < y) : ¬ lcmpW x y < 0 := fun q => h ((lw_lt x y).mp q)
theorem own_gtL {x y : Int64} (h : y < x) : 0 < lcmpW x y := (lw_gt x y).mpr h
theorem own_ngtL {x y : Int64} (h : ¬ y < x) : ¬ 0 < lcmpW x y := fun q => h ((lw_gt x y).mp q)
theorem own_eqL {x y : Int64} (h : x = y) : lcmpW x y = 0 := (lw_eq x y).mpr h
theorem own_neqL {x y : Int64} (h : ¬ x = y) : ¬ lcmpW x y = 0 := fun q => h ((lw_eq x y).mp q)
end Jvm.RoadKit
namespace Jvm.Pilot.@@N@@
open Jvm Jvm.ClassFile Sem Op Lib Jvm.Free Jvm.Stand Jvm.LawKit Jvm.RoadKit Bundle Jvm.Pilot.@@N@@.Jvm.D
theorem own_and (x m : Int32) (k : Nat) (hk : k < 32) (hm : m.toBitVec.toNat = 2 ^ k - 1) : x &&& m = Int32.ofNat (x.toBitVec.toNat % 2 ^ k) := by
  apply Int32.toBitVec_inj.mp
  apply BitVec.eq_of_toNat_eq
  show (x.toBitVec &&& m.toBitVec).toNat = (x.toBitVec.toNat % 2 ^ k) % 2 ^ 32
  have hp : 2 ^ k ≤ 2 ^ 32 := Nat.pow_le_pow_right (by decide) (by omega)
  have hq : x.toBitVec.toNat % 2 ^ k < 2 ^ k := Nat.mod_lt _ (Nat.two_pow_pos k)
  rw [BitVec.toNat_and, hm, Nat.and_two_pow_sub_one_eq_mod, Nat.mod_eq_of_lt (Nat.lt_of_lt_of_le hq hp)]
theorem own_ofNat {n : Nat} (h : n < 2 ^ 31) : (Int32.ofNat n).toInt = n := Int32.toInt_ofNat_of_lt h
theorem own_rem {n k : Nat} (h : n < 2 ^ 31) (hk : 0 < k) (hk2 : k < 2 ^ 31) : Int32.ofNat n % Int32.ofNat k = Int32.ofNat (n % k) := by
  apply Int32.toInt_inj.mp
  have : n % k < k := Nat.mod_lt _ hk
  rw [Int32.toInt_mod, own_ofNat h, own_ofNat hk2, own_ofNat (by omega), Int.tmod_eq_emod_of_nonneg (by omega)]
  rfl
theorem own_bmod {n : Int} (h1 : -2 ^ 31 ≤ n) (h2 : n < 2 ^ 31) : n.bmod (2 ^ 32) = n := by
  rw [Int.bmod_def]; omega
theorem own_remE {n k : Nat} (h : n < 2 ^ 31) (hk : 0 < k) (hk2 : k < 2 ^ 31) : Int32.ofNat n - ((Int32.ofNat n / Int32.ofNat k) * Int32.ofNat k) = Int32.ofNat (n % k) := by
  apply Int32.toInt_inj.mp
  have h3 : n % k < k := Nat.mod_lt _ hk
  have h4 : n / k ≤ n := Nat.div_le_self _ _
  have h5 : (n / k) * k + n % k = n := Nat.div_add_mod' n k
  have e0 : (n : Int).tdiv (k : Int) = ((n / k : Nat) : Int) := rfl
  generalize n / k = d at *
  generalize n % k = r at *
  have e1 : (Int32.ofNat n / Int32.ofNat k).toInt = (d : Int) := by
    rw [Int32.toInt_div, own_ofNat h, own_ofNat hk2, e0]
    exact own_bmod (by omega) (by omega)
  have e2 : ((Int32.ofNat n / Int32.ofNat k) * Int32.ofNat k).toInt = ((d * k : Nat) : Int) := by
    rw [Int32.toInt_mul, e1, own_ofNat hk2, ← Int.natCast_mul]
    exact own_bmod (by omega) (by omega)
  rw [Int32.toInt_sub, e2, own_ofNat h, own_ofNat (by omega), own_bmod (by omega) (by omega)]
  omega
theorem own_atoms {Z : State} {a0 : Array Value} (hw : ∀ d ∈ tables_1, d.before a0 Z = true) : ∀ a ∈ Bundle.stringAtoms, a.before a0 Z = true := fun d hd => by
  simp only [Bundle.stringAtoms, List.mem_cons, List.not_mem_nil, or_false] at hd
  rcases hd with rfl | rfl | rfl | rfl | rfl | rfl | rfl
  · exact (hw _ (List.mem_of_getElem? (i := 4) rfl))
  · exact (hw _ (List.mem_of_getElem? (i := 5) rfl))
  · exact (hw _ (List.mem_of_getElem? (i := 6) rfl))
  · exact (hw _ (List.mem_of_getElem? (i := 7) rfl))
  · exact (hw _ (List.mem_of_getElem? (i := 8) rfl))
  · exact (hw _ (List.mem_of_getElem? (i := 9) rfl))
  · exact (hw _ (List.mem_of_getElem? (i := 10) rfl))
theorem d_recordInit_0 : decode jdk_30_method_1_code 0 = .ok (.aload_n 0, 1) := by decide +kernel
theorem d_recordInit_1 : decode jdk_30_method_1_code 1 = .ok (.invokespecial 1, 3) := by decide +kernel
theorem d_recordInit_4 : decode jdk_30_method_1_code 4 = .ok (.return_, 1) := by decide +kernel
theorem pn_0 : plainName "java/lang/Record" = true := by first | (simp [plainName, overriddenIn]; done) | decide +kernel
theorem ef_recordInit (m : MethodId) (x0 : Addr) : entryFrame m #[(.ref x0)] 1 = mkF m 0 #[.val (.ref x0)] [] := by first | (simp [entryFrame, mkF, argsToLocals, Value.category]; done) | rfl
def Q_recordInit (Z : State) (r0 : Addr) (h0 : Heap) (n0 : Nat) (v : Option Value) (h : Heap) (L : List Loc) : Prop := v = none ∧ Fr n0 L ∧ h = h0
set_option maxRecDepth 65536 in
set_option maxHeartbeats 40000000 in
theorem rm_recordInit (l : Launch) (Z : State) (a0 : Array Value) (hw : ∀ d ∈ tables_1, d.before a0 Z = true) (ws : List Jvm.Cond) (r0 : Addr) (h0 : Heap) (n0 : Nat) (Z0 : n0 ≤ h0.size) :
    MetFree l (⟨"java/lang/Record", "<init>", "()V"⟩ : MethodName) (head1 (Jvm.Cond.code (⟨"java/lang/Record", "<init>", "()V"⟩ : MethodName) jdk_30_method_1_code 1 none :: ws) ({ frames := 1, cells := 0, slots := 0, locals := 12 } : Room)) (fun a U => a = #[(.ref r0)] ∧ Z.Warmed39 U.vm ∧ U.heap = h0) (fun _ _ _ _ _ => True) (fun _ U o U' => ∃ v L, o = .returned v ∧ Q_recordInit Z r0 h0 n0 v U'.heap L ∧ FrameEnd U o U' L ({ frames := 1, cells := 0, slots := 0, locals := 12 } : Room).cells ({ frames := 1, cells := 0, slots := 0, locals := 12 } : Room).slots) := by
  refine MetFree.of_bodySF (plainFor_of_name pn_0) hisR ?_
  intro p e s m args below meth c s₁ Bd hml0 hP hK
  obtain ⟨rfl, hZ, hh⟩ := hP
  have hx := Bd.exec
  have hby := Bd.bytes
  have hml : c.maxLocals = 1 := hml0
  have hown : s.vm.findClass "java/lang/Record" = some m.cls := findClass_of_methodNamed Bd.named
  have hnm := (name_of_methodNamed Bd.named Bd.method).1
  have X0 : Stand p l e ({ frames := 1, cells := 0, slots := 0, locals := 12 } : Room) s m #[(.ref r0)] below meth c s₁ [] 0 0 := Stand.of_body Bd
  have e0 : s₁.heap = h0 := by rw [← hh, Bd.state]; rfl
  have N0 := Fr.nil n0
  have pre0 : ∀ t, Steps p.tables e below (s₁.setTop (mkF m 0 #[.val (.ref r0)] [])) t → Steps p.tables e below (s₁.setTop (entryFrame m #[(.ref r0)] 1)) t := fun t k => castTop (ef_recordInit m r0) k
  have k1 : Go p.tables e below (s₁.setTop (mkF m 0 #[.val (.ref r0)] [])) (s₁.setTop (mkF m 1 #[.val (.ref r0)] [(.ref r0)])) := by
    intro t ht
    refine XS.aloadN X0.here hx rfl (hb hby d_recordInit_0) rfl rfl ?_
    exact ht
  obtain ⟨T2, X2, e2, st2⟩ := initO X0 hx hZ hown (hw _ (List.mem_of_getElem? (i := 20) rfl)) (hw _ (List.mem_of_getElem? (i := 21) rfl)) (hw _ (List.mem_of_getElem? (i := 22) rfl)) e0 (g := (mkF m 1 #[.val (.ref r0)] [(.ref r0)])) rfl (by rw [hml]; rfl) rfl (hb hby d_recordInit_1) (by decide) (W := 0) (by show 2 * 0 + _ ≤ _; exact Nat.le_of_eq rfl) (by decide)
  have k2 : Go p.tables e below (s₁.setTop (mkF m 1 #[.val (.ref r0)] [(.ref r0)])) (T2.setTop (mkF m 4 #[.val (.ref r0)] [])) := st2
  obtain ⟨fs, hr, hrun, hended, hW, hsame⟩ := X2.leave (v := none) (fun _ => rfl)
  refine ⟨_, _, pre0 _ ((goT k1 k2) _ (X2.returnOut hx Bd.returns (hb hby d_recordInit_4) hr)), hrun, hended, _, _, rfl, ?_, ⟨_, rfl⟩, hW, hsame.mono (by decide) (by decide)⟩
  show Q_recordInit Z r0 h0 n0 _ T2.heap _
  rw [e2]
  exact ⟨rfl, N0, rfl⟩
theorem pd_0 : parseMethodDescriptor "()V" = some ⟨[], none⟩ := by decide +kernel
theorem d_init_0 : decode prog_21_method_1_code 0 = .ok (.aload_n 0, 1) := by decide +kernel
theorem d_init_1 : decode prog_21_method_1_code 1 = .ok (.invokespecial 1, 3) := by decide +kernel
theorem d_init_4 : decode prog_21_method_1_code 4 = .ok (.aload_n 0, 1) := by decide +kernel
theorem d_init_5 : decode prog_21_method_1_code 5 = .ok (.aload_n 1, 1) := by decide +kernel
theorem d_init_6 : decode prog_21_method_1_code 6 = .ok (.putfield 7, 3) := by decide +kernel
theorem d_init_9 : decode prog_21_method_1_code 9 = .ok (.aload_n 0, 1) := by decide +kernel
theorem d_init_10 : decode prog_21_method_1_code 10 = .ok (.aload_n 2, 1) := by decide +kernel
theorem d_init_11 : decode prog_21_method_1_code 11 = .ok (.putfield 13, 3) := by decide +kernel
theorem d_init_14 : decode prog_21_method_1_code 14 = .ok (.aload_n 0, 1) := by decide +kernel
theorem d_init_15 : decode prog_21_method_1_code 15 = .ok (.iload_n 3, 1) := by decide +kernel
theorem d_init_16 : decode prog_21_method_1_code 16 = .ok (.putfield 16, 3) := by decide +kernel
theorem d_init_19 : decode prog_21_method_1_code 19 = .ok (.return_, 1) := by decide +kernel
theorem pn_1 : plainName "com/example/plain_keys/plainkeys/dialect/KeyTableLayout" = true := by first | (simp [plainName, overriddenIn]; done) | decide +kernel
theorem ef_init (m : MethodId) (x0 : Addr) (x1 : Addr) (x2 : Addr) (x3 : Int32) : entryFrame m #[(.ref x0), (.ref x1), (.ref x2), (.int x3)] 4 = mkF m 0 #[.val (.ref x0), .val (.ref x1), .val (.ref x2), .val (.int x3)] [] := by first | (simp [entryFrame, mkF, argsToLocals, Value.category]; done) | rfl
def Q_init (Z : State) (r0 : Addr) (r1 : Addr) (r2 : Addr) (p3 : Int32) (h0 : Heap) (n0 : Nat) (v : Option Value) (h : Heap) (L : List Loc) : Prop := v = none ∧ Fr n0 L ∧ Keep h0 h [r0] ∧ Exa Z h r0 "com/example/plain_keys/plainkeys/dialect/KeyTableLayout" ∧ Fld Z h r0 "com/example/plain_keys/plainkeys/dialect/KeyTableLayout" "nameColumn" "Ljava/lang/String;" (.ref r1) ∧ Fld Z h r0 "com/example/plain_keys/plainkeys/dialect/KeyTableLayout" "valueColumn" "Ljava/lang/String;" (.ref r2) ∧ Fld Z h r0 "com/example/plain_keys/plainkeys/dialect/KeyTableLayout" "valueIsLastKey" "Z" (.int (nar .boolean p3))
set_option maxRecDepth 65536 in
set_option maxHeartbeats 40000000 in
theorem rm_init (l : Launch) (Z : State) (a0 : Array Value) (hw : ∀ d ∈ tables_1, d.before a0 Z = true) (ws : List Jvm.Cond) (r0 : Addr) (r1 : Addr) (r2 : Addr) (p3 : Int32) (h0 : Heap) (n0 : Nat) (Z0 : n0 ≤ h0.size) (F_nameColumn : Fld Z h0 r0 "com/example/plain_keys/plainkeys/dialect/KeyTableLayout" "nameColumn" "Ljava/lang/String;" .null) (F_valueColumn : Fld Z h0 r0 "com/example/plain_keys/plainkeys/dialect/KeyTableLayout" "valueColumn" "Ljava/lang/String;" .null) (F_valueIsLastKey : Fld Z h0 r0 "com/example/plain_keys/plainkeys/dialect/KeyTableLayout" "valueIsLastKey" "Z" (.int (0 : Int32))) (E_r0 : Exa Z h0 r0 "com/example/plain_keys/plainkeys/dialect/KeyTableLayout") (g_r0 : n0 ≤ r0) :
    MetFree l (⟨"com/example/plain_keys/plainkeys/dialect/KeyTableLayout", "<init>", "(Ljava/lang/String;Ljava/lang/String;Z)V"⟩ : MethodName) (head1 (Jvm.Cond.code (⟨"com/example/plain_keys/plainkeys/dialect/KeyTableLayout", "<init>", "(Ljava/lang/String;Ljava/lang/String;Z)V"⟩ : MethodName) prog_21_method_1_code 4 none :: ws) ({ frames := 2, cells := 0, slots := 0, locals := 24 } : Room)) (fun a U => a = #[(.ref r0), (.ref r1), (.ref r2), (.int p3)] ∧ Z.Warmed39 U.vm ∧ U.heap = h0) (fun _ _ _ _ _ => True) (fun _ U o U' => ∃ v L, o = .returned v ∧ Q_init Z r0 r1 r2 p3 h0 n0 v U'.heap L ∧ FrameEnd U o U' L ({ frames := 2, cells := 0, slots := 0, locals := 24 } : Room).cells ({ frames := 2, cells := 0, slots := 0, locals := 24 } : Room).slots) := by
  refine MetFree.of_bodySF (plainFor_of_name pn_1) hisR ?_
  intro p e s m args below meth c s₁ Bd hml0 hP hK
  obtain ⟨rfl, hZ, hh⟩ := hP
  have hx := Bd.exec
  have hby := Bd.bytes
  have hml : c.maxLocals = 4 := hml0
  have hown : s.vm.findClass "com/example/plain_keys/plainkeys/dialect/KeyTableLayout" = some m.cls := findClass_of_methodNamed Bd.named
  have hnm := (name_of_methodNamed Bd.named Bd.method).1
  have X0 : Stand p l e ({ frames := 2, cells := 0, slots := 0, locals := 24 } : Room) s m #[(.ref r0), (.ref r1), (.ref r2), (.int p3)] below meth c s₁ [] 0 0 := Stand.of_body Bd
  have e0 : s₁.heap = h0 := by rw [← hh, Bd.state]; rfl
  have N0 := Fr.nil n0
  have pre0 : ∀ t, Steps p.tables e below (s₁.setTop (mkF m 0 #[.val (.ref r0), .val (.ref r1), .val (.ref r2), .val (.int p3)] [])) t → Steps p.tables e below (s₁.setTop (entryFrame m #[(.ref r0), (.ref r1), (.ref r2), (.int p3)] 4)) t := fun t k => castTop (ef_init m r0 r1 r2 p3) k
  have k1 : Go p.tables e below (s₁.setTop (mkF m 0 #[.val (.ref r0), .val (.ref r1), .val (.ref r2), .val (.int p3)] [])) (s₁.setTop (mkF m 1 #[.val (.ref r0), .val (.ref r1), .val (.ref r2), .val (.int p3)] [(.ref r0)])) := by
    intro t ht
    refine XS.aloadN X0.here hx rfl (hb hby d_init_0) rfl rfl ?_
    exact ht
  obtain ⟨_, _, ⟨T2, L2, kq2, n2⟩, -, X2, ⟨Lc2, hQ2, l2, y2, z2⟩, st2⟩ := X0.specialBack hx (y := (⟨"java/lang/Record", "<init>", "()V"⟩ : MethodName)) rfl hown (mvT hZ (hw _ (List.mem_of_getElem? (i := 15) rfl))) (mvT hZ (hw _ (List.mem_of_getElem? (i := 16) rfl))) (mvT hZ (hw _ (List.mem_of_getElem? (i := 19) rfl))) (by decide) (backOf (W := 0) (rm_recordInit l Z a0 hw [] r0 h0 n0 Z0 ) hZ (hw _ (List.mem_of_getElem? (i := 19) rfl)) (hw _ (List.mem_of_getElem? (i := 18) rfl)) (by decide) (by decide)) (g := (mkF m 1 #[.val (.ref r0), .val (.ref r1), .val (.ref r2), .val (.int p3)] [(.ref r0)])) rfl (by rw [hml]; rfl) (Steps.refl _) (a := r0) (argsL := []) (rest := []) (lenOf pd_0 rfl) rfl (by show 2 * 0 + _ ≤ _; exact Nat.le_of_eq rfl) (hb hby d_init_1) (fun _ _ => ⟨rfl, e0, (by decide : 0 + 0 ≤ _), (by decide : 0 + 0 ≤ _)⟩)
  dsimp only [Pt.U, Pt.locs, Pt.cells, Pt.slots] at X2 l2 y2 z2 st2 hQ2
  subst l2 y2 z2
  obtain ⟨rfl, N2q, eq2⟩ := hQ2
  have N2 := Fr.app N0 N2q
  have k2 : Go p.tables e below (s₁.setTop (mkF m 1 #[.val (.ref r0), .val (.ref r1), .val (.ref r2), .val (.int p3)] [(.ref r0)])) (T2.setTop (mkF m 4 #[.val (.ref r0), .val (.ref r1), .val (.ref r2), .val (.int p3)] [])) := fun _ ht => st2.trans ht
  have k3 : Go p.tables e below (T2.setTop (mkF m 4 #[.val (.ref r0), .val (.ref r1), .val (.ref r2), .val (.int p3)] [])) (T2.setTop (mkF m 6 #[.val (.ref r0), .val (.ref r1), .val (.ref r2), .val (.int p3)] [(.ref r1), (.ref r0)])) := by
    intro t ht
    refine XS.aloadN X2.here hx rfl (hb hby d_init_4) rfl rfl ?_
    show Steps p.tables e below (T2.setTop (mkF m 5 #[.val (.ref r0), .val (.ref r1), .val (.ref r2), .val (.int p3)] [(.ref r0)])) _
    refine XS.aloadN X2.here hx rfl (hb hby d_init_5) rfl rfl ?_
    exact ht
  obtain ⟨T4, h4, X4, e4, W4, st4⟩ := putF X2 hx hZ hown (host := "") (Or.inl (hw _ (List.mem_of_getElem? (i := 23) rfl))) Via.refl eq2 F_nameColumn E_r0 (Or.inr ⟨(hw _ (List.mem_of_getElem? (i := 24) rfl)), rfl, hnm⟩) (hw _ (List.mem_of_getElem? (i := 1) rfl)) (ty := (.object "java/lang/String")) (by decide) rfl rfl (g := (mkF m 6 #[.val (.ref r0), .val (.ref r1), .val (.ref r2), .val (.int p3)] [(.ref r1), (.ref r0)])) rfl rfl (hb hby d_init_6)
  have Kp4 : Keep h0 h4 [r0] := (Keep.refl h0 [r0]).wr W4 (Or.inl (by simp))
  have Z4 : n0 ≤ h4.size := Nat.le_trans Z0 (Keep.of_wr W4).1
  have F_nameColumn_c_4 := F_nameColumn.same W4
  have F_valueColumn_c_4 := F_valueColumn.other W4 (Or.inr (slot_ne (Or.inr (hw _ (List.mem_of_getElem? (i := 26) rfl))) (Or.inr (hw _ (List.mem_of_getElem? (i := 24) rfl))) (by decide) (t := (.object "java/lang/String")) (t' := (.object "java/lang/String")) (by decide) (by decide)))
  have F_valueIsLastKey_c_4 := F_valueIsLastKey.other W4 (Or.inr (slot_ne (Or.inr (hw _ (List.mem_of_getElem? (i := 28) rfl))) (Or.inr (hw _ (List.mem_of_getElem? (i := 24) rfl))) (by decide) (t := .boolean) (t' := (.object "java/lang/String")) (by decide) (by decide)))
  have E_r0_c_4 := E_r0.wr W4
  have k4 : Go p.tables e below (T2.setTop (mkF m 6 #[.val (.ref r0), .val (.ref r1), .val (.ref r2), .val (.int p3)] [(.ref r1), (.ref r0)])) (T4.setTop (mkF m 9 #[.val (.ref r0), .val (.ref r1), .val (.ref r2), .val (.int p3)] [])) := st4
  have N4 := Fr.snoc X4 N2 g_r0
  have k5 : Go p.tables e below (T4.setTop (mkF m 9 #[.val (.ref r0), .val (.ref r1), .val (.ref r2), .val (.int p3)] [])) (T4.setTop (mkF m 11 #[.val (.ref r0), .val (.ref r1), .val (.ref r2), .val (.int p3)] [(.ref r2), (.ref r0)])) := by
    intro t ht
    refine XS.aloadN X4.here hx rfl (hb hby d_init_9) rfl rfl ?_
    show Steps p.tables e below (T4.setTop (mkF m 10 #[.val (.ref r0), .val (.ref r1), .val (.ref r2), .val (.int p3)] [(.ref r0)])) _
    refine XS.aloadN X4.here hx rfl (hb hby d_init_10) rfl rfl ?_
    exact ht
  obtain ⟨T6, h6, X6, e6, W6, st6⟩ := putF X4 hx hZ hown (host := "") (Or.inl (hw _ (List.mem_of_getElem? (i := 25) rfl))) Via.refl e4 F_valueColumn_c_4 E_r0_c_4 (Or.inr ⟨(hw _ (List.mem_of_getElem? (i := 26) rfl)), rfl, hnm⟩) (hw _ (List.mem_of_getElem? (i := 1) rfl)) (ty := (.object "java/lang/String")) (by decide) rfl rfl (g := (mkF m 11 #[.val (.ref r0), .val (.ref r1), .val (.ref r2), .val (.int p3)] [(.ref r2), (.ref r0)])) rfl rfl (hb hby d_init_11)
  have Kp6 : Keep h0 h6 [r0] := Kp4.wr W6 (Or.inl (by simp))
  have Z6 : n0 ≤ h6.size := Nat.le_trans Z4 (Keep.of_wr W6).1
  have F_nameColumn_c_6 := F_nameColumn_c_4.other W6 (Or.inr (slot_ne (Or.inr (hw _ (List.mem_of_getElem? (i := 24) rfl))) (Or.inr (hw _ (List.mem_of_getElem? (i := 26) rfl))) (by decide) (t := (.object "java/lang/String")) (t' := (.object "java/lang/String")) (by decide) (by decide)))
  have F_valueColumn_c_6 := F_valueColumn_c_4.same W6
  have F_valueIsLastKey_c_6 := F_valueIsLastKey_c_4.other W6 (Or.inr (slot_ne (Or.inr (hw _ (List.mem_of_getElem? (i := 28) rfl))) (Or.inr (hw _ (List.mem_of_getElem? (i := 26) rfl))) (by decide) (t := .boolean) (t' := (.object "java/lang/String")) (by decide) (by decide)))
  have E_r0_c_6 := E_r0_c_4.wr W6
  have k6 : Go p.tables e below (T4.setTop (mkF m 11 #[.val (.ref r0), .val (.ref r1), .val (.ref r2), .val (.int p3)] [(.ref r2), (.ref r0)])) (T6.setTop (mkF m 14 #[.val (.ref r0), .val (.ref r1), .val (.ref r2), .val (.int p3)] [])) := st6
  have N6 := Fr.snoc X6 N4 g_r0
  have k7 : Go p.tables e below (T6.setTop (mkF m 14 #[.val (.ref r0), .val (.ref r1), .val (.ref r2), .val (.int p3)] [])) (T6.setTop (mkF m 16 #[.val (.ref r0), .val (.ref r1), .val (.ref r2), .val (.int p3)] [(.int p3), (.ref r0)])) := by
    intro t ht
    refine XS.aloadN X6.here hx rfl (hb hby d_init_14) rfl rfl ?_
    show Steps p.tables e below (T6.setTop (mkF m 15 #[.val (.ref r0), .val (.ref r1), .val (.ref r2), .val (.int p3)] [(.ref r0)])) _
    refine XS.iloadN X6.here hx rfl (hb hby d_init_15) rfl ?_
    exact ht
  obtain ⟨T8, h8, X8, e8, W8, st8⟩ := putFN X6 hx hZ hown (hw _ (List.mem_of_getElem? (i := 27) rfl)) Via.refl e6 F_valueIsLastKey_c_6 E_r0_c_6 (Or.inr ⟨(hw _ (List.mem_of_getElem? (i := 28) rfl)), rfl, hnm⟩) (hw _ (List.mem_of_getElem? (i := 1) rfl)) (ty := .boolean) (v' := (.int (nar .boolean p3))) (by decide) rfl (fits_nar_bool _) (g := (mkF m 16 #[.val (.ref r0), .val (.ref r1), .val (.ref r2), .val (.int p3)] [(.int p3), (.ref r0)])) rfl rfl (hb hby d_init_16)
  have Kp8 : Keep h0 h8 [r0] := Kp6.wr W8 (Or.inl (by simp))
  have Z8 : n0 ≤ h8.size := Nat.le_trans Z6 (Keep.of_wr W8).1
  have F_nameColumn_c_8 := F_nameColumn_c_6.other W8 (Or.inr (slot_ne (Or.inr (hw _ (List.mem_of_getElem? (i := 24) rfl))) (Or.inr (hw _ (List.mem_of_getElem? (i := 28) rfl))) (by decide) (t := (.object "java/lang/String")) (t' := .boolean) (by decide) (by decide)))
  have F_valueColumn_c_8 := F_valueColumn_c_6.other W8 (Or.inr (slot_ne (Or.inr (hw _ (List.mem_of_getElem? (i := 26) rfl))) (Or.inr (hw _ (List.mem_of_getElem? (i := 28) rfl))) (by decide) (t := (.object "java/lang/String")) (t' := .boolean) (by decide) (by decide)))
  have F_valueIsLastKey_c_8 := F_valueIsLastKey_c_6.same W8
  have E_r0_c_8 := E_r0_c_6.wr W8
  have k8 : Go p.tables e below (T6.setTop (mkF m 16 #[.val (.ref r0), .val (.ref r1), .val (.ref r2), .val (.int p3)] [(.int p3), (.ref r0)])) (T8.setTop (mkF m 19 #[.val (.ref r0), .val (.ref r1), .val (.ref r2), .val (.int p3)] [])) := st8
  have N8 := Fr.snoc X8 N6 g_r0
  obtain ⟨fs, hr, hrun, hended, hW, hsame⟩ := X8.leave (v := none) (fun _ => rfl)
  refine ⟨_, _, pre0 _ ((goT k1 (goT k2 (goT k3 (goT k4 (goT k5 (goT k6 (goT k7 k8))))))) _ (X8.returnOut hx Bd.returns (hb hby d_init_19) hr)), hrun, hended, _, _, rfl, ?_, ⟨_, rfl⟩, hW, hsame.mono (by decide) (by decide)⟩
  show Q_init Z r0 r1 r2 p3 h0 n0 _ T8.heap _
  rw [e8]
  exact ⟨rfl, N8, Kp8, E_r0_c_8, F_nameColumn_c_8, F_valueColumn_c_8, F_valueIsLastKey_c_8⟩
theorem d_first_0 : decode prog_21_method_5_code 0 = .ok (.lload_n 1, 1) := by decide +kernel
theorem d_first_1 : decode prog_21_method_5_code 1 = .ok (.iload_n 3, 1) := by decide +kernel
theorem d_first_2 : decode prog_21_method_5_code 2 = .ok (.i2l, 1) := by decide +kernel
theorem d_first_3 : decode prog_21_method_5_code 3 = .ok (.lsub, 1) := by decide +kernel
theorem d_first_4 : decode prog_21_method_5_code 4 = .ok (.lstore 4, 2) := by decide +kernel
theorem d_first_6 : decode prog_21_method_5_code 6 = .ok (.aload_n 0, 1) := by decide +kernel
theorem d_first_7 : decode prog_21_method_5_code 7 = .ok (.getfield 16, 3) := by decide +kernel
theorem d_first_10 : decode prog_21_method_5_code 10 = .ok (.ifCond .eq 10, 3) := by decide +kernel
theorem d_first_13 : decode prog_21_method_5_code 13 = .ok (.lload 4, 2) := by decide +kernel
theorem d_first_15 : decode prog_21_method_5_code 15 = .ok (.lconst 1, 1) := by decide +kernel
theorem d_first_16 : decode prog_21_method_5_code 16 = .ok (.ladd, 1) := by decide +kernel
theorem d_first_17 : decode prog_21_method_5_code 17 = .ok (.goto 5, 3) := by decide +kernel
theorem d_first_20 : decode prog_21_method_5_code 20 = .ok (.lload 4, 2) := by decide +kernel
theorem d_first_22 : decode prog_21_method_5_code 22 = .ok (.lreturn, 1) := by decide +kernel
theorem ef_first (m : MethodId) (x0 : Addr) (x1 : Int64) (x2 : Int32) : entryFrame m #[(.ref x0), (.long x1), (.int x2)] 6 = mkF m 0 #[.val (.ref x0), .val (.long x1), .second, .val (.int x2), .unset, .unset] [] := by first | (simp [entryFrame, mkF, argsToLocals, Value.category]; done) | rfl
def f_first (q1 : Int64) (p2 : Int32) (pF : Int32) : Int64 := (if pF = (0 : Int32) then (q1 - (p2.toInt64)) else ((q1 - (p2.toInt64)) + (1 : Int64)))
def Q_first (Z : State) (r0 : Addr) (q1 : Int64) (p2 : Int32) (pF : Int32) (h0 : Heap) (n0 : Nat) (v : Option Value) (h : Heap) (L : List Loc) : Prop := v = some (.long (f_first q1 p2 pF)) ∧ Fr n0 L ∧ h = h0
set_option maxRecDepth 65536 in
set_option maxHeartbeats 40000000 in
theorem rm_first (l : Launch) (Z : State) (a0 : Array Value) (hw : ∀ d ∈ tables_1, d.before a0 Z = true) (ws : List Jvm.Cond) (r0 : Addr) (q1 : Int64) (p2 : Int32) (pF : Int32) (h0 : Heap) (n0 : Nat) (Z0 : n0 ≤ h0.size) (F_l : Fld Z h0 r0 "com/example/plain_keys/plainkeys/dialect/KeyTableLayout" "valueIsLastKey" "Z" (.int pF)) :
    MetFree l (⟨"com/example/plain_keys/plainkeys/dialect/KeyTableLayout", "firstKeyBefore", "(JI)J"⟩ : MethodName) (head1 (Jvm.Cond.code (⟨"com/example/plain_keys/plainkeys/dialect/KeyTableLayout", "firstKeyBefore", "(JI)J"⟩ : MethodName) prog_21_method_5_code 6 (some .long) :: ws) ({ frames := 0, cells := 0, slots := 0, locals := 0 } : Room)) (fun a U => a = #[(.ref r0), (.long q1), (.int p2)] ∧ Z.Warmed39 U.vm ∧ U.heap = h0) (fun _ _ _ _ _ => True) (fun _ U o U' => ∃ v L, o = .returned v ∧ Q_first Z r0 q1 p2 pF h0 n0 v U'.heap L ∧ FrameEnd U o U' L ({ frames := 0, cells := 0, slots := 0, locals := 0 } : Room).cells ({ frames := 0, cells := 0, slots := 0, locals := 0 } : Room).slots) := by
  refine MetFree.of_bodySF (plainFor_of_name pn_1) hisR ?_
  intro p e s m args below meth c s₁ Bd hml0 hP hK
  obtain ⟨rfl, hZ, hh⟩ := hP
  have hx := Bd.exec
  have hby := Bd.bytes
  have hml : c.maxLocals = 6 := hml0
  have hown : s.vm.findClass "com/example/plain_keys/plainkeys/dialect/KeyTableLayout" = some m.cls := findClass_of_methodNamed Bd.named
  have hnm := (name_of_methodNamed Bd.named Bd.method).1
  have X0 : Stand p l e ({ frames := 0, cells := 0, slots := 0, locals := 0 } : Room) s m #[(.ref r0), (.long q1), (.int p2)] below meth c s₁ [] 0 0 := Stand.of_body Bd
  have e0 : s₁.heap = h0 := by rw [← hh, Bd.state]; rfl
  have N0 := Fr.nil n0
  have pre0 : ∀ t, Steps p.tables e below (s₁.setTop (mkF m 0 #[.val (.ref r0), .val (.long q1), .second, .val (.int p2), .unset, .unset] [])) t → Steps p.tables e below (s₁.setTop (entryFrame m #[(.ref r0), (.long q1), (.int p2)] 6)) t := fun t k => castTop (ef_first m r0 q1 p2) k
  have k1 : Go p.tables e below (s₁.setTop (mkF m 0 #[.val (.ref r0), .val (.long q1), .second, .val (.int p2), .unset, .unset] [])) (s₁.setTop (mkF m 7 #[.val (.ref r0), .val (.long q1), .second, .val (.int p2), .val (.long (q1 - (p2.toInt64))), .second] [(.ref r0)])) := by
    intro t ht
    refine XS.lloadN X0.here hx rfl (hb hby d_first_0) rfl ?_
    show Steps p.tables e below (s₁.setTop (mkF m 1 #[.val (.ref r0), .val (.long q1), .second, .val (.int p2), .unset, .unset] [(.long q1)])) _
    refine XS.iloadN X0.here hx rfl (hb hby d_first_1) rfl ?_
    show Steps p.tables e below (s₁.setTop (mkF m 2 #[.val (.ref r0), .val (.long q1), .second, .val (.int p2), .unset, .unset] [(.int p2), (.long q1)])) _
    refine XS.i2l X0.here hx rfl (hb hby d_first_2) rfl ?_
    show Steps p.tables e below (s₁.setTop (mkF m 3 #[.val (.ref r0), .val (.long q1), .second, .val (.int p2), .unset, .unset] [(.long (p2.toInt64)), (.long q1)])) _
    refine XS.lsub X0.here hx rfl (hb hby d_first_3) rfl ?_
    show Steps p.tables e below (s₁.setTop (mkF m 4 #[.val (.ref r0), .val (.long q1), .second, .val (.int p2), .unset, .unset] [(.long (q1 - (p2.toInt64)))])) _
    refine XS.lstore X0.here hx rfl (hb hby d_first_4) rfl (l' := #[.val (.ref r0), .val (.long q1), .second, .val (.int p2), .val (.long (q1 - (p2.toInt64))), .second]) rfl ?_
    show Steps p.tables e below (s₁.setTop (mkF m 6 #[.val (.ref r0), .val (.long q1), .second, .val (.int p2), .val (.long (q1 - (p2.toInt64))), .second] [])) _
    refine XS.aloadN X0.here hx rfl (hb hby d_first_6) rfl rfl ?_
    exact ht
  obtain ⟨T2, X2, e2, st2⟩ := getF X0 hx hZ hown (host := "") (Or.inl (hw _ (List.mem_of_getElem? (i := 27) rfl))) Via.refl e0 F_l (g := (mkF m 7 #[.val (.ref r0), .val (.long q1), .second, .val (.int p2), .val (.long (q1 - (p2.toInt64))), .second] [(.ref r0)])) rfl rfl (hb hby d_first_7)
  have k2 : Go p.tables e below (s₁.setTop (mkF m 7 #[.val (.ref r0), .val (.long q1), .second, .val (.int p2), .val (.long (q1 - (p2.toInt64))), .second] [(.ref r0)])) (T2.setTop (mkF m 10 #[.val (.ref r0), .val (.long q1), .second, .val (.int p2), .val (.long (q1 - (p2.toInt64))), .second] [(.int pF)])) := st2
  by_cases hc3 : pF = (0 : Int32)
  · have k4 : Go p.tables e below (T2.setTop (mkF m 10 #[.val (.ref r0), .val (.long q1), .second, .val (.int p2), .val (.long (q1 - (p2.toInt64))), .second] [(.int pF)])) (T2.setTop (mkF m 22 #[.val (.ref r0), .val (.long q1), .second, .val (.int p2), .val (.long (q1 - (p2.toInt64))), .second] [(.long (q1 - (p2.toInt64)))])) := by
      intro t ht
      refine XS.ifYes X2.here hx rfl (pc0 := 10) (pc' := 20) rfl (hb hby d_first_10) rfl ((if0 _ _).trans (teq hc3).1) (by decide) (by decide) ?_
      show Steps p.tables e below (T2.setTop (mkF m 20 #[.val (.ref r0), .val (.long q1), .second, .val (.int p2), .val (.long (q1 - (p2.toInt64))), .second] [])) _
      refine XS.lload X2.here hx rfl (hb hby d_first_20) rfl ?_
      exact ht
    obtain ⟨fs, hr, hrun, hended, hW, hsame⟩ := X2.leave (v := some (.long (q1 - (p2.toInt64)))) (fun h => by rw [Bd.returns] at h; cases h)
    refine ⟨_, _, pre0 _ ((goT k1 (goT k2 k4)) _ (retJ X2 hx Bd.returns (hb hby d_first_22) hr)), hrun, hended, _, _, rfl, ?_, ⟨_, rfl⟩, hW, hsame.mono (by decide) (by decide)⟩
    show Q_first Z r0 q1 p2 pF h0 n0 _ T2.heap _
    rw [e2]
    exact ⟨by simp only [f_first, if_pos hc3], N0, rfl⟩
  · have k5 : Go p.tables e below (T2.setTop (mkF m 10 #[.val (.ref r0), .val (.long q1), .second, .val (.int p2), .val (.long (q1 - (p2.toInt64))), .second] [(.int pF)])) (T2.setTop (mkF m 22 #[.val (.ref r0), .val (.long q1), .second, .val (.int p2), .val (.long (q1 - (p2.toInt64))), .second] [(.long ((q1 - (p2.toInt64)) + (1 : Int64)))])) := by
      intro t ht
      refine XS.ifNo X2.here hx rfl (hb hby d_first_10) rfl ((if0 _ _).trans (feq hc3).1) ?_
      show Steps p.tables e below (T2.setTop (mkF m 13 #[.val (.ref r0), .val (.long q1), .second, .val (.int p2), .val (.long (q1 - (p2.toInt64))), .second] [])) _
      refine XS.lload X2.here hx rfl (hb hby d_first_13) rfl ?_
      show Steps p.tables e below (T2.setTop (mkF m 15 #[.val (.ref r0), .val (.long q1), .second, .val (.int p2), .val (.long (q1 - (p2.toInt64))), .second] [(.long (q1 - (p2.toInt64)))])) _
      refine XS.lconst X2.here hx rfl (hb hby d_first_15) ?_
      show Steps p.tables e below (T2.setTop (mkF m 16 #[.val (.ref r0), .val (.long q1), .second, .val (.int p2), .val (.long (q1 - (p2.toInt64))), .second] [(.long (1 : Int64)), (.long (q1 - (p2.toInt64)))])) _
      refine XS.ladd X2.here hx rfl (hb hby d_first_16) rfl ?_
      show Steps p.tables e below (T2.setTop (mkF m 17 #[.val (.ref r0), .val (.long q1), .second, .val (.int p2), .val (.long (q1 - (p2.toInt64))), .second] [(.long ((q1 - (p2.toInt64)) + (1 : Int64)))])) _
      refine XS.goto X2.here hx rfl (pc0 := 17) (pc' := 22) rfl (hb hby d_first_17) (by decide) (by decide) ?_
      exact ht
    obtain ⟨fs, hr, hrun, hended, hW, hsame⟩ := X2.leave (v := some (.long ((q1 - (p2.toInt64)) + (1 : Int64)))) (fun h => by rw [Bd.returns] at h; cases h)
    refine ⟨_, _, pre0 _ ((goT k1 (goT k2 k5)) _ (retJ X2 hx Bd.returns (hb hby d_first_22) hr)), hrun, hended, _, _, rfl, ?_, ⟨_, rfl⟩, hW, hsame.mono (by decide) (by decide)⟩
    show Q_first Z r0 q1 p2 pF h0 n0 _ T2.heap _
    rw [e2]
    exact ⟨by simp only [f_first, if_neg hc3], N0, rfl⟩
theorem d_start_0 : decode prog_21_method_3_code 0 = .ok (.aload_n 0, 1) := by decide +kernel
theorem d_start_1 : decode prog_21_method_3_code 1 = .ok (.getfield 16, 3) := by decide +kernel
theorem d_start_4 : decode prog_21_method_3_code 4 = .ok (.ifCond .eq 7, 3) := by decide +kernel
theorem d_start_7 : decode prog_21_method_3_code 7 = .ok (.lconst 0, 1) := by decide +kernel
theorem d_start_8 : decode prog_21_method_3_code 8 = .ok (.goto 4, 3) := by decide +kernel
theorem d_start_11 : decode prog_21_method_3_code 11 = .ok (.lconst 1, 1) := by decide +kernel
theorem d_start_12 : decode prog_21_method_3_code 12 = .ok (.lreturn, 1) := by decide +kernel
theorem ef_start (m : MethodId) (x0 : Addr) : entryFrame m #[(.ref x0)] 1 = mkF m 0 #[.val (.ref x0)] [] := by first | (simp [entryFrame, mkF, argsToLocals, Value.category]; done) | rfl
def f_start (pF : Int32) : Int64 := (if pF = (0 : Int32) then (1 : Int64) else (0 : Int64))
def Q_start (Z : State) (r0 : Addr) (pF : Int32) (h0 : Heap) (n0 : Nat) (v : Option Value) (h : Heap) (L : List Loc) : Prop := v = some (.long (f_start pF)) ∧ Fr n0 L ∧ h = h0
set_option maxRecDepth 65536 in
set_option maxHeartbeats 40000000 in
theorem rm_start (l : Launch) (Z : State) (a0 : Array Value) (hw : ∀ d ∈ tables_1, d.before a0 Z = true) (ws : List Jvm.Cond) (r0 : Addr) (pF : Int32) (h0 : Heap) (n0 : Nat) (Z0 : n0 ≤ h0.size) (F_l : Fld Z h0 r0 "com/example/plain_keys/plainkeys/dialect/KeyTableLayout" "valueIsLastKey" "Z" (.int pF)) :
    MetFree l (⟨"com/example/plain_keys/plainkeys/dialect/KeyTableLayout", "startValue", "()J"⟩ : MethodName) (head1 (Jvm.Cond.code (⟨"com/example/plain_keys/plainkeys/dialect/KeyTableLayout", "startValue", "()J"⟩ : MethodName) prog_21_method_3_code 1 (some .long) :: ws) ({ frames := 0, cells := 0, slots := 0, locals := 0 } : Room)) (fun a U => a = #[(.ref r0)] ∧ Z.Warmed39 U.vm ∧ U.heap = h0) (fun _ _ _ _ _ => True) (fun _ U o U' => ∃ v L, o = .returned v ∧ Q_start Z r0 pF h0 n0 v U'.heap L ∧ FrameEnd U o U' L ({ frames := 0, cells := 0, slots := 0, locals := 0 } : Room).cells ({ frames := 0, cells := 0, slots := 0, locals := 0 } : Room).slots) := by
  refine MetFree.of_bodySF (plainFor_of_name pn_1) hisR ?_
  intro p e s m args below meth c s₁ Bd hml0 hP hK
  obtain ⟨rfl, hZ, hh⟩ := hP
  have hx := Bd.exec
  have hby := Bd.bytes
  have hml : c.maxLocals = 1 := hml0
  have hown : s.vm.findClass "com/example/plain_keys/plainkeys/dialect/KeyTableLayout" = some m.cls := findClass_of_methodNamed Bd.named
  have hnm := (name_of_methodNamed Bd.named Bd.method).1
  have X0 : Stand p l e ({ frames := 0, cells := 0, slots := 0, locals := 0 } : Room) s m #[(.ref r0)] below meth c s₁ [] 0 0 := Stand.of_body Bd
  have e0 : s₁.heap = h0 := by rw [← hh, Bd.state]; rfl
  have N0 := Fr.nil n0
  have pre0 : ∀ t, Steps p.tables e below (s₁.setTop (mkF m 0 #[.val (.ref r0)] [])) t → Steps p.tables e below (s₁.setTop (entryFrame m #[(.ref r0)] 1)) t := fun t k => castTop (ef_start m r0) k
  have k1 : Go p.tables e below (s₁.setTop (mkF m 0 #[.val (.ref r0)] [])) (s₁.setTop (mkF m 1 #[.val (.ref r0)] [(.ref r0)])) := by
    intro t ht
    refine XS.aloadN X0.here hx rfl (hb hby d_start_0) rfl rfl ?_
    exact ht
  obtain ⟨T2, X2, e2, st2⟩ := getF X0 hx hZ hown (host := "") (Or.inl (hw _ (List.mem_of_getElem? (i := 27) rfl))) Via.refl e0 F_l (g := (mkF m 1 #[.val (.ref r0)] [(.ref r0)])) rfl rfl (hb hby d_start_1)
  have k2 : Go p.tables e below (s₁.setTop (mkF m 1 #[.val (.ref r0)] [(.ref r0)])) (T2.setTop (mkF m 4 #[.val (.ref r0)] [(.int pF)])) := st2
  by_cases hc3 : pF = (0 : Int32)
  · have k4 : Go p.tables e below (T2.setTop (mkF m 4 #[.val (.ref r0)] [(.int pF)])) (T2.setTop (mkF m 12 #[.val (.ref r0)] [(.long (1 : Int64))])) := by
      intro t ht
      refine XS.ifYes X2.here hx rfl (pc0 := 4) (pc' := 11) rfl (hb hby d_start_4) rfl ((if0 _ _).trans (teq hc3).1) (by decide) (by decide) ?_
      show Steps p.tables e below (T2.setTop (mkF m 11 #[.val (.ref r0)] [])) _
      refine XS.lconst X2.here hx rfl (hb hby d_start_11) ?_
      exact ht
    obtain ⟨fs, hr, hrun, hended, hW, hsame⟩ := X2.leave (v := some (.long (1 : Int64))) (fun h => by rw [Bd.returns] at h; cases h)
    refine ⟨_, _, pre0 _ ((goT k1 (goT k2 k4)) _ (retJ X2 hx Bd.returns (hb hby d_start_12) hr)), hrun, hended, _, _, rfl, ?_, ⟨_, rfl⟩, hW, hsame.mono (by decide) (by decide)⟩
    show Q_start Z r0 pF h0 n0 _ T2.heap _
    rw [e2]
    exact ⟨by simp only [f_start, if_pos hc3], N0, rfl⟩
  · have k5 : Go p.tables e below (T2.setTop (mkF m 4 #[.val (.ref r0)] [(.int pF)])) (T2.setTop (mkF m 12 #[.val (.ref r0)] [(.long (0 : Int64))])) := by
      intro t ht
      refine XS.ifNo X2.here hx rfl (hb hby d_start_4) rfl ((if0 _ _).trans (feq hc3).1) ?_
      show Steps p.tables e below (T2.setTop (mkF m 7 #[.val (.ref r0)] [])) _
      refine XS.lconst X2.here hx rfl (hb hby d_start_7) ?_
      show Steps p.tables e below (T2.setTop (mkF m 8 #[.val (.ref r0)] [(.long (0 : Int64))])) _
      refine XS.goto X2.here hx rfl (pc0 := 8) (pc' := 12) rfl (hb hby d_start_8) (by decide) (by decide) ?_
      exact ht
    obtain ⟨fs, hr, hrun, hended, hW, hsame⟩ := X2.leave (v := some (.long (0 : Int64))) (fun h => by rw [Bd.returns] at h; cases h)
    refine ⟨_, _, pre0 _ ((goT k1 (goT k2 k5)) _ (retJ X2 hx Bd.returns (hb hby d_start_12) hr)), hrun, hended, _, _, rfl, ?_, ⟨_, rfl⟩, hW, hsame.mono (by decide) (by decide)⟩
    show Q_start Z r0 pF h0 n0 _ T2.heap _
    rw [e2]
    exact ⟨by simp only [f_start, if_neg hc3], N0, rfl⟩
theorem pd_1 : parseMethodDescriptor "()J" = some ⟨[], some .long⟩ := by decide +kernel
theorem d_newRow_0 : decode prog_21_method_4_code 0 = .ok (.aload_n 0, 1) := by decide +kernel
theorem d_newRow_1 : decode prog_21_method_4_code 1 = .ok (.invokevirtual 20, 3) := by decide +kernel
theorem d_newRow_4 : decode prog_21_method_4_code 4 = .ok (.iload_n 1, 1) := by decide +kernel
theorem d_newRow_5 : decode prog_21_method_4_code 5 = .ok (.i2l, 1) := by decide +kernel
theorem d_newRow_6 : decode prog_21_method_4_code 6 = .ok (.ladd, 1) := by decide +kernel
theorem d_newRow_7 : decode prog_21_method_4_code 7 = .ok (.lreturn, 1) := by decide +kernel
theorem ef_newRow (m : MethodId) (x0 : Addr) (x1 : Int32) : entryFrame m #[(.ref x0), (.int x1)] 2 = mkF m 0 #[.val (.ref x0), .val (.int x1)] [] := by first | (simp [entryFrame, mkF, argsToLocals, Value.category]; done) | rfl
def Q_newRow (Z : State) (r0 : Addr) (p1 : Int32) (pF : Int32) (h0 : Heap) (n0 : Nat) (v : Option Value) (h : Heap) (L : List Loc) : Prop := v = some (.long ((f_start pF) + (p1.toInt64))) ∧ Fr n0 L ∧ h = h0
set_option maxRecDepth 65536 in
set_option maxHeartbeats 40000000 in
theorem rm_newRow (l : Launch) (Z : State) (a0 : Array Value) (hw : ∀ d ∈ tables_1, d.before a0 Z = true) (ws : List Jvm.Cond) (r0 : Addr) (p1 : Int32) (pF : Int32) (h0 : Heap) (n0 : Nat) (Z0 : n0 ≤ h0.size) (F_l : Fld Z h0 r0 "com/example/plain_keys/plainkeys/dialect/KeyTableLayout" "valueIsLastKey" "Z" (.int pF)) (E_r0 : Exa Z h0 r0 "com/example/plain_keys/plainkeys/dialect/KeyTableLayout") :
    MetFree l (⟨"com/example/plain_keys/plainkeys/dialect/KeyTableLayout", "newRowValue", "(I)J"⟩ : MethodName) (head1 (Jvm.Cond.code (⟨"com/example/plain_keys/plainkeys/dialect/KeyTableLayout", "newRowValue", "(I)J"⟩ : MethodName) prog_21_method_4_code 2 (some .long) :: ws) ({ frames := 1, cells := 0, slots := 0, locals := 12 } : Room)) (fun a U => a = #[(.ref r0), (.int p1)] ∧ Z.Warmed39 U.vm ∧ U.heap = h0) (fun _ _ _ _ _ => True) (fun _ U o U' => ∃ v L, o = .returned v ∧ Q_newRow Z r0 p1 pF h0 n0 v U'.heap L ∧ FrameEnd U o U' L ({ frames := 1, cells := 0, slots := 0, locals := 12 } : Room).cells ({ frames := 1, cells := 0, slots := 0, locals := 12 } : Room).slots) := by
  refine MetFree.of_bodySF (plainFor_of_name pn_1) hisR ?_
  intro p e s m args below meth c s₁ Bd hml0 hP hK
  obtain ⟨rfl, hZ, hh⟩ := hP
  have hx := Bd.exec
  have hby := Bd.bytes
  have hml : c.maxLocals = 2 := hml0
  have hown : s.vm.findClass "com/example/plain_keys/plainkeys/dialect/KeyTableLayout" = some m.cls := findClass_of_methodNamed Bd.named
  have hnm := (name_of_methodNamed Bd.named Bd.method).1
  have X0 : Stand p l e ({ frames := 1, cells := 0, slots := 0, locals := 12 } : Room) s m #[(.ref r0), (.int p1)] below meth c s₁ [] 0 0 := Stand.of_body Bd
  have e0 : s₁.heap = h0 := by rw [← hh, Bd.state]; rfl
  have N0 := Fr.nil n0
  have pre0 : ∀ t, Steps p.tables e below (s₁.setTop (mkF m 0 #[.val (.ref r0), .val (.int p1)] [])) t → Steps p.tables e below (s₁.setTop (entryFrame m #[(.ref r0), (.int p1)] 2)) t := fun t k => castTop (ef_newRow m r0 p1) k
  have k1 : Go p.tables e below (s₁.setTop (mkF m 0 #[.val (.ref r0), .val (.int p1)] [])) (s₁.setTop (mkF m 1 #[.val (.ref r0), .val (.int p1)] [(.ref r0)])) := by
    intro t ht
    refine XS.aloadN X0.here hx rfl (hb hby d_newRow_0) rfl rfl ?_
    exact ht
  obtain ⟨cq2, kq2, q2a, q2b, q2c⟩ := isOf hZ e0 E_r0
  obtain ⟨_, _, ⟨T2, L2, kq2, n2⟩, -, X2, ⟨Lc2, hQ2, l2, y2, z2⟩, st2⟩ := X0.virtualBack hx (y := (⟨"com/example/plain_keys/plainkeys/dialect/KeyTableLayout", "startValue", "()J"⟩ : MethodName)) (z := (⟨"com/example/plain_keys/plainkeys/dialect/KeyTableLayout", "startValue", "()J"⟩ : MethodName)) hown (mvT hZ (hw _ (List.mem_of_getElem? (i := 39) rfl))) (mvT hZ (hw _ (List.mem_of_getElem? (i := 40) rfl))) (notFace_of_selects (args := #[]) (mvT hZ (hw _ (List.mem_of_getElem? (i := 42) rfl)))) (mvT hZ (hw _ (List.mem_of_getElem? (i := 42) rfl))) (mvT hZ (hw _ (List.mem_of_getElem? (i := 41) rfl))) (by decide) (backOf (W := 0) (rm_start l Z a0 hw [] r0 pF h0 n0 Z0 F_l) hZ (hw _ (List.mem_of_getElem? (i := 43) rfl)) (hw _ (List.mem_of_getElem? (i := 2) rfl)) (by decide) (by decide)) q2a q2c (g := (mkF m 1 #[.val (.ref r0), .val (.int p1)] [(.ref r0)])) rfl (by rw [hml]; rfl) (Steps.refl _) (argsL := []) (rest := []) (lenOf pd_1 rfl) rfl (by show 2 * 0 + _ ≤ _; exact Nat.le_of_eq rfl) (hb hby d_newRow_1) (fun _ _ => ⟨rfl, e0, (by decide : 0 + 0 ≤ _), (by decide : 0 + 0 ≤ _)⟩)
  dsimp only [Pt.U, Pt.locs, Pt.cells, Pt.slots] at X2 l2 y2 z2 st2 hQ2
  subst l2 y2 z2
  obtain ⟨rfl, N2q, eq2⟩ := hQ2
  have N2 := Fr.app N0 N2q
  have k2 : Go p.tables e below (s₁.setTop (mkF m 1 #[.val (.ref r0), .val (.int p1)] [(.ref r0)])) (T2.setTop (mkF m 4 #[.val (.ref r0), .val (.int p1)] [(.long (f_start pF))])) := fun _ ht => st2.trans ht
  have k3 : Go p.tables e below (T2.setTop (mkF m 4 #[.val (.ref r0), .val (.int p1)] [(.long (f_start pF))])) (T2.setTop (mkF m 7 #[.val (.ref r0), .val (.int p1)] [(.long ((f_start pF) + (p1.toInt64)))])) := by
    intro t ht
    refine XS.iloadN X2.here hx rfl (hb hby d_newRow_4) rfl ?_
    show Steps p.tables e below (T2.setTop (mkF m 5 #[.val (.ref r0), .val (.int p1)] [(.int p1), (.long (f_start pF))])) _
    refine XS.i2l X2.here hx rfl (hb hby d_newRow_5) rfl ?_
    show Steps p.tables e below (T2.setTop (mkF m 6 #[.val (.ref r0), .val (.int p1)] [(.long (p1.toInt64)), (.long (f_start pF))])) _
    refine XS.ladd X2.here hx rfl (hb hby d_newRow_6) rfl ?_
    exact ht
  obtain ⟨fs, hr, hrun, hended, hW, hsame⟩ := X2.leave (v := some (.long ((f_start pF) + (p1.toInt64)))) (fun h => by rw [Bd.returns] at h; cases h)
  refine ⟨_, _, pre0 _ ((goT k1 (goT k2 k3)) _ (retJ X2 hx Bd.returns (hb hby d_newRow_7) hr)), hrun, hended, _, _, rfl, ?_, ⟨_, rfl⟩, hW, hsame.mono (by decide) (by decide)⟩
  show Q_newRow Z r0 p1 pF h0 n0 _ T2.heap _
  rw [eq2]
  exact ⟨rfl, N2, rfl⟩
theorem own_r1 (q a : Int64) : ((q - a) + a) - 1 = q - 1 := by rw [Int64.sub_add_cancel]
theorem own_r2 (q a : Int64) : (((q - a) + 1) + a) - 1 = q := by
  rw [Int64.add_assoc, Int64.add_comm 1 a, ← Int64.add_assoc, Int64.sub_add_cancel, Int64.add_sub_cancel]
theorem own_r3 (a : Int64) : (1 + a) - a = 1 := by rw [Int64.add_sub_cancel]
theorem own_r4 (a : Int64) : ((0 + a) - a) + 1 = 1 := by rw [Int64.add_sub_cancel]; rfl
theorem own_law1 (q : Int64) (a p : Int32) : (((f_first q a (nar .boolean (if (p &&& (1 : Int32)) = (0 : Int32) then (0 : Int32) else (1 : Int32)))) + (a.toInt64)) - (1 : Int64)) = (if (p &&& (1 : Int32)) = (0 : Int32) then (q - (1 : Int64)) else q) := by
  by_cases h : (p &&& (1 : Int32)) = (0 : Int32)
  · rw [if_pos h, if_pos h, f_first, if_pos (by decide)]; exact own_r1 _ _
  · rw [if_neg h, if_neg h, f_first, if_neg (by decide)]; exact own_r2 _ _
theorem own_law2 (a p : Int32) : (f_first ((f_start (nar .boolean (if (p &&& (1 : Int32)) = (0 : Int32) then (0 : Int32) else (1 : Int32)))) + (a.toInt64)) a (nar .boolean (if (p &&& (1 : Int32)) = (0 : Int32) then (0 : Int32) else (1 : Int32)))) = (1 : Int64) := by
  by_cases h : (p &&& (1 : Int32)) = (0 : Int32)
  · rw [if_pos h, f_first, if_pos (by decide), f_start, if_pos (by decide)]; exact own_r3 _
  · rw [if_neg h, f_first, if_neg (by decide), f_start, if_neg (by decide)]; exact own_r4 _
theorem pd_2 : parseMethodDescriptor "(Ljava/lang/String;Ljava/lang/String;Z)V" = some ⟨[(.object "java/lang/String"), (.object "java/lang/String"), .boolean], none⟩ := by decide +kernel
theorem pd_3 : parseMethodDescriptor "(JI)J" = some ⟨[.long, .int], some .long⟩ := by decide +kernel
theorem pd_4 : parseMethodDescriptor "(I)J" = some ⟨[.int], some .long⟩ := by decide +kernel
theorem pn_2 : plainName "com/example/plain_keys/plainkeys/dialect/KeyTableLayoutFirstKeyBeforePinLaw" = true := by first | (simp [plainName, overriddenIn]; done) | decide +kernel
theorem ef_law (m : MethodId) (x0 : Int64) (x1 : Int32) (x2 : Int32) : entryFrame m #[(.long x0), (.int x1), (.int x2)] maxLocals = mkF m 0 #[.val (.long x0), .second, .val (.int x1), .val (.int x2), .unset, .unset, .unset, .unset, .unset, .unset, .unset, .unset, .unset, .unset, .unset, .unset] [] := by first | (simp [entryFrame, mkF, argsToLocals, Value.category, maxLocals]; done) | rfl
def Q_law (Z : State) (q0 : Int64) (p1 : Int32) (p2 : Int32) (h0 : Heap) (n0 : Nat) (v : Option Value) (h : Heap) (L : List Loc) : Prop := v = some (.int (1 : Int32)) ∧ Fr n0 L
set_option maxRecDepth 65536 in
set_option maxHeartbeats 40000000 in
theorem rm_law (l : Launch) (Z : State) (a0 : Array Value) (hw : ∀ d ∈ tables_1, d.before a0 Z = true) (ws : List Jvm.Cond) (q0 : Int64) (p1 : Int32) (p2 : Int32) (h0 : Heap) (n0 : Nat) (Z0 : n0 ≤ h0.size) :
    MetFree l x (head1 (Jvm.Cond.code x code maxLocals ret :: ws) room_1) (fun a U => a = #[(.long q0), (.int p1), (.int p2)] ∧ Z.Warmed39 U.vm ∧ U.heap = h0) (fun _ _ _ _ _ => True) (fun _ U o U' => ∃ v L, o = .returned v ∧ Q_law Z q0 p1 p2 h0 n0 v U'.heap L ∧ ReturnedEndW U o U' L room_1.cells room_1.slots) := by
  refine MetFree.of_bodySF (plainFor_of_name pn_2) hisR ?_
  intro p e s m args below meth c s₁ Bd hml0 hP hK
  obtain ⟨rfl, hZ, hh⟩ := hP
  have hx := Bd.exec
  have hby := Bd.bytes
  have hml : c.maxLocals = 16 := hml0
  have hown : s.vm.findClass "com/example/plain_keys/plainkeys/dialect/KeyTableLayoutFirstKeyBeforePinLaw" = some m.cls := findClass_of_methodNamed Bd.named
  have hnm := (name_of_methodNamed Bd.named Bd.method).1
  have X0 : Stand p l e room_1 s m #[(.long q0), (.int p1), (.int p2)] below meth c s₁ [] 0 0 := Stand.of_body Bd
  have e0 : s₁.heap = h0 := by rw [← hh, Bd.state]; rfl
  have N0 := Fr.nil n0
  have pre0 : ∀ t, Steps p.tables e below (s₁.setTop (mkF m 0 #[.val (.long q0), .second, .val (.int p1), .val (.int p2), .unset, .unset, .unset, .unset, .unset, .unset, .unset, .unset, .unset, .unset, .unset, .unset] [])) t → Steps p.tables e below (s₁.setTop (entryFrame m #[(.long q0), (.int p1), (.int p2)] maxLocals)) t := fun t k => castTop (ef_law m q0 p1 p2) k
  have k1 : Go p.tables e below (s₁.setTop (mkF m 0 #[.val (.long q0), .second, .val (.int p1), .val (.int p2), .unset, .unset, .unset, .unset, .unset, .unset, .unset, .unset, .unset, .unset, .unset, .unset] [])) (s₁.setTop (mkF m 3 #[.val (.long q0), .second, .val (.int p1), .val (.int p2), .unset, .unset, .unset, .unset, .unset, .unset, .unset, .unset, .unset, .unset, .unset, .unset] [(.int (p2 &&& (1 : Int32)))])) := by
    intro t ht
    refine XS.iloadN X0.here hx rfl (hb hby at_0) rfl ?_
    show Steps p.tables e below (s₁.setTop (mkF m 1 #[.val (.long q0), .second, .val (.int p1), .val (.int p2), .unset, .unset, .unset, .unset, .unset, .unset, .unset, .unset, .unset, .unset, .unset, .unset] [(.int p2)])) _
    refine XS.iconst X0.here hx rfl (hb hby at_1) ?_
    show Steps p.tables e below (s₁.setTop (mkF m 2 #[.val (.long q0), .second, .val (.int p1), .val (.int p2), .unset, .unset, .unset, .unset, .unset, .unset, .unset, .unset, .unset, .unset, .unset, .unset] [(.int (1 : Int32)), (.int p2)])) _
    refine XS.iand X0.here hx rfl (hb hby at_2) rfl ?_
    exact ht
  have k2 : Go p.tables e below (s₁.setTop (mkF m 3 #[.val (.long q0), .second, .val (.int p1), .val (.int p2), .unset, .unset, .unset, .unset, .unset, .unset, .unset, .unset, .unset, .unset, .unset, .unset] [(.int (p2 &&& (1 : Int32)))])) (s₁.setTop (mkF m 11 #[.val (.long q0), .second, .val (.int p1), .val (.int p2), .unset, .unset, .unset, .unset, .unset, .unset, .unset, .unset, .unset, .unset, .unset, .unset] [(.int (if (p2 &&& (1 : Int32)) = (0 : Int32) then (0 : Int32) else (1 : Int32)))])) := by
    by_cases hc3 : (p2 &&& (1 : Int32)) = (0 : Int32)
    · have k4 : Go p.tables e below (s₁.setTop (mkF m 3 #[.val (.long q0), .second, .val (.int p1), .val (.int p2), .unset, .unset, .unset, .unset, .unset, .unset, .unset, .unset, .unset, .unset, .unset, .unset] [(.int (p2 &&& (1 : Int32)))])) (s₁.setTop (mkF m 11 #[.val (.long q0), .second, .val (.int p1), .val (.int p2), .unset, .unset, .unset, .unset, .unset, .unset, .unset, .unset, .unset, .unset, .unset, .unset] [(.int (0 : Int32))])) := by
        intro t ht
        refine XS.ifYes X0.here hx rfl (pc0 := 3) (pc' := 10) rfl (hb hby at_3) rfl ((if0 _ _).trans (teq hc3).1) (by decide) (by decide) ?_
        show Steps p.tables e below (s₁.setTop (mkF m 10 #[.val (.long q0), .second, .val (.int p1), .val (.int p2), .unset, .unset, .unset, .unset, .unset, .unset, .unset, .unset, .unset, .unset, .unset, .unset] [])) _
        refine XS.iconst X0.here hx rfl (hb hby at_10) ?_
        exact ht
      have kk := k4
      simpa only [if_pos hc3] using kk
    · have k5 : Go p.tables e below (s₁.setTop (mkF m 3 #[.val (.long q0), .second, .val (.int p1), .val (.int p2), .unset, .unset, .unset, .unset, .unset, .unset, .unset, .unset, .unset, .unset, .unset, .unset] [(.int (p2 &&& (1 : Int32)))])) (s₁.setTop (mkF m 11 #[.val (.long q0), .second, .val (.int p1), .val (.int p2), .unset, .unset, .unset, .unset, .unset, .unset, .unset, .unset, .unset, .unset, .unset, .unset] [(.int (1 : Int32))])) := by
        intro t ht
        refine XS.ifNo X0.here hx rfl (hb hby at_3) rfl ((if0 _ _).trans (feq hc3).1) ?_
        show Steps p.tables e below (s₁.setTop (mkF m 6 #[.val (.long q0), .second, .val (.int p1), .val (.int p2), .unset, .unset, .unset, .unset, .unset, .unset, .unset, .unset, .unset, .unset, .unset, .unset] [])) _
        refine XS.iconst X0.here hx rfl (hb hby at_6) ?_
        show Steps p.tables e below (s₁.setTop (mkF m 7 #[.val (.long q0), .second, .val (.int p1), .val (.int p2), .unset, .unset, .unset, .unset, .unset, .unset, .unset, .unset, .unset, .unset, .unset, .unset] [(.int (1 : Int32))])) _
        refine XS.goto X0.here hx rfl (pc0 := 7) (pc' := 11) rfl (hb hby at_7) (by decide) (by decide) ?_
        exact ht
      have kk := k5
      simpa only [if_neg hc3] using kk
  have k6 : Go p.tables e below (s₁.setTop (mkF m 11 #[.val (.long q0), .second, .val (.int p1), .val (.int p2), .unset, .unset, .unset, .unset, .unset, .unset, .unset, .unset, .unset, .unset, .unset, .unset] [(.int (if (p2 &&& (1 : Int32)) = (0 : Int32) then (0 : Int32) else (1 : Int32)))])) (s₁.setTop (mkF m 13 #[.val (.long q0), .second, .val (.int p1), .val (.int p2), .val (.int (if (p2 &&& (1 : Int32)) = (0 : Int32) then (0 : Int32) else (1 : Int32))), .unset, .unset, .unset, .unset, .unset, .unset, .unset, .unset, .unset, .unset, .unset] [])) := by
    intro t ht
    refine XS.istore X0.here hx rfl (hb hby at_11) rfl (l' := #[.val (.long q0), .second, .val (.int p1), .val (.int p2), .val (.int (if (p2 &&& (1 : Int32)) = (0 : Int32) then (0 : Int32) else (1 : Int32))), .unset, .unset, .unset, .unset, .unset, .unset, .unset, .unset, .unset, .unset, .unset]) rfl ?_
    exact ht
  obtain ⟨T7, h7, X7, e7, E7, A7, D7, -, st7⟩ := newO X0 hx hZ hown (hw _ (List.mem_of_getElem? (i := 0) rfl)) (hw _ (List.mem_of_getElem? (i := 1) rfl)) (hw _ (List.mem_of_getElem? (i := 2) rfl)) e0 (g := (mkF m 13 #[.val (.long q0), .second, .val (.int p1), .val (.int p2), .val (.int (if (p2 &&& (1 : Int32)) = (0 : Int32) then (0 : Int32) else (1 : Int32))), .unset, .unset, .unset, .unset, .unset, .unset, .unset, .unset, .unset, .unset, .unset] [])) rfl (hb hby at_13) (by decide) (by decide)
  obtain ⟨b7, g7⟩ : ∃ z, z = h0.size := ⟨_, rfl⟩
  rw [← g7] at A7 D7 st7
  have g_b7 : n0 ≤ b7 := Nat.le_trans Z0 (Nat.le_of_eq g7.symm)
  have sz_b7 : h0.size ≤ b7 := Nat.le_trans (Keep.refl h0 []).1 (Nat.le_of_eq g7.symm)
  have Kp7 : Keep h0 h7 [] := (Keep.refl h0 []).ext E7
  have Z7 : n0 ≤ h7.size := Nat.le_trans Z0 E7.1
  have F_nameColumn_b7 : Fld Z h7 b7 "com/example/plain_keys/plainkeys/dialect/KeyTableLayout" "nameColumn" "Ljava/lang/String;" .null := D7 (Or.inr (hw _ (List.mem_of_getElem? (i := 24) rfl))) (ty := (.object "java/lang/String")) (by decide)
  have F_valueColumn_b7 : Fld Z h7 b7 "com/example/plain_keys/plainkeys/dialect/KeyTableLayout" "valueColumn" "Ljava/lang/String;" .null := D7 (Or.inr (hw _ (List.mem_of_getElem? (i := 26) rfl))) (ty := (.object "java/lang/String")) (by decide)
  have F_valueIsLastKey_b7 : Fld Z h7 b7 "com/example/plain_keys/plainkeys/dialect/KeyTableLayout" "valueIsLastKey" "Z" (.int (0 : Int32)) := D7 (Or.inr (hw _ (List.mem_of_getElem? (i := 28) rfl))) (ty := .boolean) (by decide)
  have k7 : Go p.tables e below (s₁.setTop (mkF m 13 #[.val (.long q0), .second, .val (.int p1), .val (.int p2), .val (.int (if (p2 &&& (1 : Int32)) = (0 : Int32) then (0 : Int32) else (1 : Int32))), .unset, .unset, .unset, .unset, .unset, .unset, .unset, .unset, .unset, .unset, .unset] [])) (T7.setTop (mkF m 16 #[.val (.long q0), .second, .val (.int p1), .val (.int p2), .val (.int (if (p2 &&& (1 : Int32)) = (0 : Int32) then (0 : Int32) else (1 : Int32))), .unset, .unset, .unset, .unset, .unset, .unset, .unset, .unset, .unset, .unset, .unset] [(.ref b7)])) := st7
  have k8 : Go p.tables e below (T7.setTop (mkF m 16 #[.val (.long q0), .second, .val (.int p1), .val (.int p2), .val (.int (if (p2 &&& (1 : Int32)) = (0 : Int32) then (0 : Int32) else (1 : Int32))), .unset, .unset, .unset, .unset, .unset, .unset, .unset, .unset, .unset, .unset, .unset] [(.ref b7)])) (T7.setTop (mkF m 17 #[.val (.long q0), .second, .val (.int p1), .val (.int p2), .val (.int (if (p2 &&& (1 : Int32)) = (0 : Int32) then (0 : Int32) else (1 : Int32))), .unset, .unset, .unset, .unset, .unset, .unset, .unset, .unset, .unset, .unset, .unset] [(.ref b7), (.ref b7)])) := by
    intro t ht
    refine XS.dup X7.here hx rfl (hb hby at_16) rfl rfl ?_
    exact ht
  have hS0 : s.Since s.vm 0 := (State.WarmedH.refl s).since 0
  obtain ⟨c9, T9, h9, kk9, X9, e9, E9, hS9, hk9, hZ, hown, st9⟩ := ldcS (s := s) (vm0 := s.vm) X7 hx hZ hown (hw _ (List.mem_of_getElem? (i := 3) rfl)) (own_atoms hw) e7 hS0 (Nat.zero_le _) (g := (mkF m 17 #[.val (.long q0), .second, .val (.int p1), .val (.int p2), .val (.int (if (p2 &&& (1 : Int32)) = (0 : Int32) then (0 : Int32) else (1 : Int32))), .unset, .unset, .unset, .unset, .unset, .unset, .unset, .unset, .unset, .unset, .unset] [(.ref b7), (.ref b7)])) rfl (hb hby at_17) (n := 52) (by decide) (by decide) (by decide) (by decide)
  have Kp9 : Keep h0 h9 [] := Kp7.ext E9
  have Z9 : n0 ≤ h9.size := Nat.le_trans Z7 E9.1
  have A7_c_9 := A7.ext E9
  have F_nameColumn_b7_c_9 := F_nameColumn_b7.ext E9
  have F_valueColumn_b7_c_9 := F_valueColumn_b7.ext E9
  have F_valueIsLastKey_b7_c_9 := F_valueIsLastKey_b7.ext E9
  have k9 : Go p.tables e below (T7.setTop (mkF m 17 #[.val (.long q0), .second, .val (.int p1), .val (.int p2), .val (.int (if (p2 &&& (1 : Int32)) = (0 : Int32) then (0 : Int32) else (1 : Int32))), .unset, .unset, .unset, .unset, .unset, .unset, .unset, .unset, .unset, .unset, .unset] [(.ref b7), (.ref b7)])) (T9.setTop (mkF m 19 #[.val (.long q0), .second, .val (.int p1), .val (.int p2), .val (.int (if (p2 &&& (1 : Int32)) = (0 : Int32) then (0 : Int32) else (1 : Int32))), .unset, .unset, .unset, .unset, .unset, .unset, .unset, .unset, .unset, .unset, .unset] [(.ref c9), (.ref b7), (.ref b7)])) := st9
  obtain ⟨c10, T10, h10, kk10, X10, e10, E10, hS10, hk10, hZ, hown, st10⟩ := ldcS (s := s) X9 hx hZ hown (hw _ (List.mem_of_getElem? (i := 11) rfl)) (own_atoms hw) e9 hS9 hk9 (g := (mkF m 19 #[.val (.long q0), .second, .val (.int p1), .val (.int p2), .val (.int (if (p2 &&& (1 : Int32)) = (0 : Int32) then (0 : Int32) else (1 : Int32))), .unset, .unset, .unset, .unset, .unset, .unset, .unset, .unset, .unset, .unset, .unset] [(.ref c9), (.ref b7), (.ref b7)])) rfl (hb hby at_19) (n := 32) (by decide) (by decide) (by decide) (by decide)
  have Kp10 : Keep h0 h10 [] := Kp9.ext E10
  have Z10 : n0 ≤ h10.size := Nat.le_trans Z9 E10.1
  have A7_c_10 := A7_c_9.ext E10
  have F_nameColumn_b7_c_10 := F_nameColumn_b7_c_9.ext E10
  have F_valueColumn_b7_c_10 := F_valueColumn_b7_c_9.ext E10
  have F_valueIsLastKey_b7_c_10 := F_valueIsLastKey_b7_c_9.ext E10
  have k10 : Go p.tables e below (T9.setTop (mkF m 19 #[.val (.long q0), .second, .val (.int p1), .val (.int p2), .val (.int (if (p2 &&& (1 : Int32)) = (0 : Int32) then (0 : Int32) else (1 : Int32))), .unset, .unset, .unset, .unset, .unset, .unset, .unset, .unset, .unset, .unset, .unset] [(.ref c9), (.ref b7), (.ref b7)])) (T10.setTop (mkF m 21 #[.val (.long q0), .second, .val (.int p1), .val (.int p2), .val (.int (if (p2 &&& (1 : Int32)) = (0 : Int32) then (0 : Int32) else (1 : Int32))), .unset, .unset, .unset, .unset, .unset, .unset, .unset, .unset, .unset, .unset, .unset] [(.ref c10), (.ref c9), (.ref b7), (.ref b7)])) := st10
  have k11 : Go p.tables e below (T10.setTop (mkF m 21 #[.val (.long q0), .second, .val (.int p1), .val (.int p2), .val (.int (if (p2 &&& (1 : Int32)) = (0 : Int32) then (0 : Int32) else (1 : Int32))), .unset, .unset, .unset, .unset, .unset, .unset, .unset, .unset, .unset, .unset, .unset] [(.ref c10), (.ref c9), (.ref b7), (.ref b7)])) (T10.setTop (mkF m 23 #[.val (.long q0), .second, .val (.int p1), .val (.int p2), .val (.int (if (p2 &&& (1 : Int32)) = (0 : Int32) then (0 : Int32) else (1 : Int32))), .unset, .unset, .unset, .unset, .unset, .unset, .unset, .unset, .unset, .unset, .unset] [(.int (if (p2 &&& (1 : Int32)) = (0 : Int32) then (0 : Int32) else (1 : Int32))), (.ref c10), (.ref c9), (.ref b7), (.ref b7)])) := by
    intro t ht
    refine XS.iload X10.here hx rfl (hb hby at_21) rfl ?_
    exact ht
  obtain ⟨_, _, ⟨T12, L12, kq12, n12⟩, -, X12, ⟨Lc12, hQ12, l12, y12, z12⟩, st12⟩ := X10.specialBack hx (y := (⟨"com/example/plain_keys/plainkeys/dialect/KeyTableLayout", "<init>", "(Ljava/lang/String;Ljava/lang/String;Z)V"⟩ : MethodName)) rfl hown (mvT hZ (hw _ (List.mem_of_getElem? (i := 12) rfl))) (mvT hZ (hw _ (List.mem_of_getElem? (i := 13) rfl))) (mvT hZ (hw _ (List.mem_of_getElem? (i := 14) rfl))) (by decide) (backOf (W := 1) (rm_init l Z a0 hw [] b7 c9 c10 (if (p2 &&& (1 : Int32)) = (0 : Int32) then (0 : Int32) else (1 : Int32)) h10 n0 Z10 F_nameColumn_b7_c_10 F_valueColumn_b7_c_10 F_valueIsLastKey_b7_c_10 A7_c_10 g_b7) hZ (hw _ (List.mem_of_getElem? (i := 14) rfl)) (hw _ (List.mem_of_getElem? (i := 2) rfl)) (by decide) (by decide)) (g := (mkF m 23 #[.val (.long q0), .second, .val (.int p1), .val (.int p2), .val (.int (if (p2 &&& (1 : Int32)) = (0 : Int32) then (0 : Int32) else (1 : Int32))), .unset, .unset, .unset, .unset, .unset, .unset, .unset, .unset, .unset, .unset, .unset] [(.int (if (p2 &&& (1 : Int32)) = (0 : Int32) then (0 : Int32) else (1 : Int32))), (.ref c10), (.ref c9), (.ref b7), (.ref b7)])) rfl (by rw [hml]; rfl) (Steps.refl _) (a := b7) (argsL := [(.ref c9), (.ref c10), (.int (if (p2 &&& (1 : Int32)) = (0 : Int32) then (0 : Int32) else (1 : Int32)))]) (rest := [(.ref b7)]) (lenOf pd_2 rfl) rfl (by show 2 * 0 + _ ≤ _; exact Nat.le_of_eq rfl) (hb hby at_23) (fun _ _ => ⟨rfl, e10, (by decide : 5 + 0 ≤ _), (by decide : 95 + 0 ≤ _)⟩)
  dsimp only [Pt.U, Pt.locs, Pt.cells, Pt.slots] at X12 l12 y12 z12 st12 hQ12
  subst l12 y12 z12
  obtain ⟨rfl, N12q, K12, Fq12_0, Fq12_1, Fq12_2, Fq12_3⟩ := hQ12
  have N12 := Fr.app N0 N12q
  have k12 : Go p.tables e below (T10.setTop (mkF m 23 #[.val (.long q0), .second, .val (.int p1), .val (.int p2), .val (.int (if (p2 &&& (1 : Int32)) = (0 : Int32) then (0 : Int32) else (1 : Int32))), .unset, .unset, .unset, .unset, .unset, .unset, .unset, .unset, .unset, .unset, .unset] [(.int (if (p2 &&& (1 : Int32)) = (0 : Int32) then (0 : Int32) else (1 : Int32))), (.ref c10), (.ref c9), (.ref b7), (.ref b7)])) (T12.setTop (mkF m 26 #[.val (.long q0), .second, .val (.int p1), .val (.int p2), .val (.int (if (p2 &&& (1 : Int32)) = (0 : Int32) then (0 : Int32) else (1 : Int32))), .unset, .unset, .unset, .unset, .unset, .unset, .unset, .unset, .unset, .unset, .unset] [(.ref b7)])) := fun _ ht => st12.trans ht
  have Kp12 : Keep h0 T12.heap [] := Kp10.trans K12 (allS (Or.inr sz_b7) all0)
  have Z12 : n0 ≤ T12.heap.size := Nat.le_trans Z10 K12.1
  have A7_c_12 := A7_c_10.keep K12
  have k13 : Go p.tables e below (T12.setTop (mkF m 26 #[.val (.long q0), .second, .val (.int p1), .val (.int p2), .val (.int (if (p2 &&& (1 : Int32)) = (0 : Int32) then (0 : Int32) else (1 : Int32))), .unset, .unset, .unset, .unset, .unset, .unset, .unset, .unset, .unset, .unset, .unset] [(.ref b7)])) (T12.setTop (mkF m 32 #[.val (.long q0), .second, .val (.int p1), .val (.int p2), .val (.int (if (p2 &&& (1 : Int32)) = (0 : Int32) then (0 : Int32) else (1 : Int32))), .val (.ref b7), .unset, .unset, .unset, .unset, .unset, .unset, .unset, .unset, .unset, .unset] [(.int p1), (.long q0), (.ref b7)])) := by
    intro t ht
    refine XS.astore X12.here hx rfl (hb hby at_26) rfl rfl (l' := #[.val (.long q0), .second, .val (.int p1), .val (.int p2), .val (.int (if (p2 &&& (1 : Int32)) = (0 : Int32) then (0 : Int32) else (1 : Int32))), .val (.ref b7), .unset, .unset, .unset, .unset, .unset, .unset, .unset, .unset, .unset, .unset]) rfl ?_
    show Steps p.tables e below (T12.setTop (mkF m 28 #[.val (.long q0), .second, .val (.int p1), .val (.int p2), .val (.int (if (p2 &&& (1 : Int32)) = (0 : Int32) then (0 : Int32) else (1 : Int32))), .val (.ref b7), .unset, .unset, .unset, .unset, .unset, .unset, .unset, .unset, .unset, .unset] [])) _
    refine XS.aload X12.here hx rfl (hb hby at_28) rfl rfl ?_
    show Steps p.tables e below (T12.setTop (mkF m 30 #[.val (.long q0), .second, .val (.int p1), .val (.int p2), .val (.int (if (p2 &&& (1 : Int32)) = (0 : Int32) then (0 : Int32) else (1 : Int32))), .val (.ref b7), .unset, .unset, .unset, .unset, .unset, .unset, .unset, .unset, .unset, .unset] [(.ref b7)])) _
    refine XS.lloadN X12.here hx rfl (hb hby at_30) rfl ?_
    show Steps p.tables e below (T12.setTop (mkF m 31 #[.val (.long q0), .second, .val (.int p1), .val (.int p2), .val (.int (if (p2 &&& (1 : Int32)) = (0 : Int32) then (0 : Int32) else (1 : Int32))), .val (.ref b7), .unset, .unset, .unset, .unset, .unset, .unset, .unset, .unset, .unset, .unset] [(.long q0), (.ref b7)])) _
    refine XS.iloadN X12.here hx rfl (hb hby at_31) rfl ?_
    exact ht
  obtain ⟨cq14, kq14, q14a, q14b, q14c⟩ := isOf hZ rfl Fq12_0
  obtain ⟨_, _, ⟨T14, L14, kq14, n14⟩, -, X14, ⟨Lc14, hQ14, l14, y14, z14⟩, st14⟩ := X12.virtualBack hx (y := (⟨"com/example/plain_keys/plainkeys/dialect/KeyTableLayout", "firstKeyBefore", "(JI)J"⟩ : MethodName)) (z := (⟨"com/example/plain_keys/plainkeys/dialect/KeyTableLayout", "firstKeyBefore", "(JI)J"⟩ : MethodName)) hown (mvT hZ (hw _ (List.mem_of_getElem? (i := 29) rfl))) (mvT hZ (hw _ (List.mem_of_getElem? (i := 30) rfl))) (notFace_of_selects (args := #[]) (mvT hZ (hw _ (List.mem_of_getElem? (i := 32) rfl)))) (mvT hZ (hw _ (List.mem_of_getElem? (i := 32) rfl))) (mvT hZ (hw _ (List.mem_of_getElem? (i := 31) rfl))) (by decide) (backOf (W := 0) (rm_first l Z a0 hw [] b7 q0 p1 (nar .boolean (if (p2 &&& (1 : Int32)) = (0 : Int32) then (0 : Int32) else (1 : Int32))) T12.heap n0 Z12 Fq12_3) hZ (hw _ (List.mem_of_getElem? (i := 33) rfl)) (hw _ (List.mem_of_getElem? (i := 2) rfl)) (by decide) (by decide)) q14a q14c (g := (mkF m 32 #[.val (.long q0), .second, .val (.int p1), .val (.int p2), .val (.int (if (p2 &&& (1 : Int32)) = (0 : Int32) then (0 : Int32) else (1 : Int32))), .val (.ref b7), .unset, .unset, .unset, .unset, .unset, .unset, .unset, .unset, .unset, .unset] [(.int p1), (.long q0), (.ref b7)])) rfl (by rw [hml]; rfl) (Steps.refl _) (argsL := [(.long q0), (.int p1)]) (rest := []) (lenOf pd_3 rfl) rfl (by show 2 * 0 + _ ≤ _; exact Nat.le_of_eq rfl) (hb hby at_32) (fun _ _ => ⟨rfl, rfl, (by decide : 5 + 0 ≤ _), (by decide : 95 + 0 ≤ _)⟩)
  dsimp only [Pt.U, Pt.locs, Pt.cells, Pt.slots] at X14 l14 y14 z14 st14 hQ14
  subst l14 y14 z14
  obtain ⟨rfl, N14q, eq14⟩ := hQ14
  have N14 := Fr.app N12 N14q
  have k14 : Go p.tables e below (T12.setTop (mkF m 32 #[.val (.long q0), .second, .val (.int p1), .val (.int p2), .val (.int (if (p2 &&& (1 : Int32)) = (0 : Int32) then (0 : Int32) else (1 : Int32))), .val (.ref b7), .unset, .unset, .unset, .unset, .unset, .unset, .unset, .unset, .unset, .unset] [(.int p1), (.long q0), (.ref b7)])) (T14.setTop (mkF m 35 #[.val (.long q0), .second, .val (.int p1), .val (.int p2), .val (.int (if (p2 &&& (1 : Int32)) = (0 : Int32) then (0 : Int32) else (1 : Int32))), .val (.ref b7), .unset, .unset, .unset, .unset, .unset, .unset, .unset, .unset, .unset, .unset] [(.long (f_first q0 p1 (nar .boolean (if (p2 &&& (1 : Int32)) = (0 : Int32) then (0 : Int32) else (1 : Int32)))))])) := fun _ ht => st14.trans ht
  have k15 : Go p.tables e below (T14.setTop (mkF m 35 #[.val (.long q0), .second, .val (.int p1), .val (.int p2), .val (.int (if (p2 &&& (1 : Int32)) = (0 : Int32) then (0 : Int32) else (1 : Int32))), .val (.ref b7), .unset, .unset, .unset, .unset, .unset, .unset, .unset, .unset, .unset, .unset] [(.long (f_first q0 p1 (nar .boolean (if (p2 &&& (1 : Int32)) = (0 : Int32) then (0 : Int32) else (1 : Int32)))))])) (T14.setTop (mkF m 48 #[.val (.long q0), .second, .val (.int p1), .val (.int p2), .val (.int (if (p2 &&& (1 : Int32)) = (0 : Int32) then (0 : Int32) else (1 : Int32))), .val (.ref b7), .val (.long (f_first q0 p1 (nar .boolean (if (p2 &&& (1 : Int32)) = (0 : Int32) then (0 : Int32) else (1 : Int32))))), .second, .val (.long (((f_first q0 p1 (nar .boolean (if (p2 &&& (1 : Int32)) = (0 : Int32) then (0 : Int32) else (1 : Int32)))) + (p1.toInt64)) - (1 : Int64))), .second, .unset, .unset, .unset, .unset, .unset, .unset] [(.int (if (p2 &&& (1 : Int32)) = (0 : Int32) then (0 : Int32) else (1 : Int32)))])) := by
    intro t ht
    refine XS.lstore X14.here hx rfl (hb hby at_35) rfl (l' := #[.val (.long q0), .second, .val (.int p1), .val (.int p2), .val (.int (if (p2 &&& (1 : Int32)) = (0 : Int32) then (0 : Int32) else (1 : Int32))), .val (.ref b7), .val (.long (f_first q0 p1 (nar .boolean (if (p2 &&& (1 : Int32)) = (0 : Int32) then (0 : Int32) else (1 : Int32))))), .second, .unset, .unset, .unset, .unset, .unset, .unset, .unset, .unset]) rfl ?_
    show Steps p.tables e below (T14.setTop (mkF m 37 #[.val (.long q0), .second, .val (.int p1), .val (.int p2), .val (.int (if (p2 &&& (1 : Int32)) = (0 : Int32) then (0 : Int32) else (1 : Int32))), .val (.ref b7), .val (.long (f_first q0 p1 (nar .boolean (if (p2 &&& (1 : Int32)) = (0 : Int32) then (0 : Int32) else (1 : Int32))))), .second, .unset, .unset, .unset, .unset, .unset, .unset, .unset, .unset] [])) _
    refine XS.lload X14.here hx rfl (hb hby at_37) rfl ?_
    show Steps p.tables e below (T14.setTop (mkF m 39 #[.val (.long q0), .second, .val (.int p1), .val (.int p2), .val (.int (if (p2 &&& (1 : Int32)) = (0 : Int32) then (0 : Int32) else (1 : Int32))), .val (.ref b7), .val (.long (f_first q0 p1 (nar .boolean (if (p2 &&& (1 : Int32)) = (0 : Int32) then (0 : Int32) else (1 : Int32))))), .second, .unset, .unset, .unset, .unset, .unset, .unset, .unset, .unset] [(.long (f_first q0 p1 (nar .boolean (if (p2 &&& (1 : Int32)) = (0 : Int32) then (0 : Int32) else (1 : Int32)))))])) _
    refine XS.iloadN X14.here hx rfl (hb hby at_39) rfl ?_
    show Steps p.tables e below (T14.setTop (mkF m 40 #[.val (.long q0), .second, .val (.int p1), .val (.int p2), .val (.int (if (p2 &&& (1 : Int32)) = (0 : Int32) then (0 : Int32) else (1 : Int32))), .val (.ref b7), .val (.long (f_first q0 p1 (nar .boolean (if (p2 &&& (1 : Int32)) = (0 : Int32) then (0 : Int32) else (1 : Int32))))), .second, .unset, .unset, .unset, .unset, .unset, .unset, .unset, .unset] [(.int p1), (.long (f_first q0 p1 (nar .boolean (if (p2 &&& (1 : Int32)) = (0 : Int32) then (0 : Int32) else (1 : Int32)))))])) _
    refine XS.i2l X14.here hx rfl (hb hby at_40) rfl ?_
    show Steps p.tables e below (T14.setTop (mkF m 41 #[.val (.long q0), .second, .val (.int p1), .val (.int p2), .val (.int (if (p2 &&& (1 : Int32)) = (0 : Int32) then (0 : Int32) else (1 : Int32))), .val (.ref b7), .val (.long (f_first q0 p1 (nar .boolean (if (p2 &&& (1 : Int32)) = (0 : Int32) then (0 : Int32) else (1 : Int32))))), .second, .unset, .unset, .unset, .unset, .unset, .unset, .unset, .unset] [(.long (p1.toInt64)), (.long (f_first q0 p1 (nar .boolean (if (p2 &&& (1 : Int32)) = (0 : Int32) then (0 : Int32) else (1 : Int32)))))])) _
    refine XS.ladd X14.here hx rfl (hb hby at_41) rfl ?_
    show Steps p.tables e below (T14.setTop (mkF m 42 #[.val (.long q0), .second, .val (.int p1), .val (.int p2), .val (.int (if (p2 &&& (1 : Int32)) = (0 : Int32) then (0 : Int32) else (1 : Int32))), .val (.ref b7), .val (.long (f_first q0 p1 (nar .boolean (if (p2 &&& (1 : Int32)) = (0 : Int32) then (0 : Int32) else (1 : Int32))))), .second, .unset, .unset, .unset, .unset, .unset, .unset, .unset, .unset] [(.long ((f_first q0 p1 (nar .boolean (if (p2 &&& (1 : Int32)) = (0 : Int32) then (0 : Int32) else (1 : Int32)))) + (p1.toInt64)))])) _
    refine XS.lconst X14.here hx rfl (hb hby at_42) ?_
    show Steps p.tables e below (T14.setTop (mkF m 43 #[.val (.long q0), .second, .val (.int p1), .val (.int p2), .val (.int (if (p2 &&& (1 : Int32)) = (0 : Int32) then (0 : Int32) else (1 : Int32))), .val (.ref b7), .val (.long (f_first q0 p1 (nar .boolean (if (p2 &&& (1 : Int32)) = (0 : Int32) then (0 : Int32) else (1 : Int32))))), .second, .unset, .unset, .unset, .unset, .unset, .unset, .unset, .unset] [(.long (1 : Int64)), (.long ((f_first q0 p1 (nar .boolean (if (p2 &&& (1 : Int32)) = (0 : Int32) then (0 : Int32) else (1 : Int32)))) + (p1.toInt64)))])) _
    refine XS.lsub X14.here hx rfl (hb hby at_43) rfl ?_
    show Steps p.tables e below (T14.setTop (mkF m 44 #[.val (.long q0), .second, .val (.int p1), .val (.int p2), .val (.int (if (p2 &&& (1 : Int32)) = (0 : Int32) then (0 : Int32) else (1 : Int32))), .val (.ref b7), .val (.long (f_first q0 p1 (nar .boolean (if (p2 &&& (1 : Int32)) = (0 : Int32) then (0 : Int32) else (1 : Int32))))), .second, .unset, .unset, .unset, .unset, .unset, .unset, .unset, .unset] [(.long (((f_first q0 p1 (nar .boolean (if (p2 &&& (1 : Int32)) = (0 : Int32) then (0 : Int32) else (1 : Int32)))) + (p1.toInt64)) - (1 : Int64)))])) _
    refine XS.lstore X14.here hx rfl (hb hby at_44) rfl (l' := #[.val (.long q0), .second, .val (.int p1), .val (.int p2), .val (.int (if (p2 &&& (1 : Int32)) = (0 : Int32) then (0 : Int32) else (1 : Int32))), .val (.ref b7), .val (.long (f_first q0 p1 (nar .boolean (if (p2 &&& (1 : Int32)) = (0 : Int32) then (0 : Int32) else (1 : Int32))))), .second, .val (.long (((f_first q0 p1 (nar .boolean (if (p2 &&& (1 : Int32)) = (0 : Int32) then (0 : Int32) else (1 : Int32)))) + (p1.toInt64)) - (1 : Int64))), .second, .unset, .unset, .unset, .unset, .unset, .unset]) rfl ?_
    show Steps p.tables e below (T14.setTop (mkF m 46 #[.val (.long q0), .second, .val (.int p1), .val (.int p2), .val (.int (if (p2 &&& (1 : Int32)) = (0 : Int32) then (0 : Int32) else (1 : Int32))), .val (.ref b7), .val (.long (f_first q0 p1 (nar .boolean (if (p2 &&& (1 : Int32)) = (0 : Int32) then (0 : Int32) else (1 : Int32))))), .second, .val (.long (((f_first q0 p1 (nar .boolean (if (p2 &&& (1 : Int32)) = (0 : Int32) then (0 : Int32) else (1 : Int32)))) + (p1.toInt64)) - (1 : Int64))), .second, .unset, .unset, .unset, .unset, .unset, .unset] [])) _
    refine XS.iload X14.here hx rfl (hb hby at_46) rfl ?_
    exact ht
  have k16 : Go p.tables e below (T14.setTop (mkF m 48 #[.val (.long q0), .second, .val (.int p1), .val (.int p2), .val (.int (if (p2 &&& (1 : Int32)) = (0 : Int32) then (0 : Int32) else (1 : Int32))), .val (.ref b7), .val (.long (f_first q0 p1 (nar .boolean (if (p2 &&& (1 : Int32)) = (0 : Int32) then (0 : Int32) else (1 : Int32))))), .second, .val (.long (((f_first q0 p1 (nar .boolean (if (p2 &&& (1 : Int32)) = (0 : Int32) then (0 : Int32) else (1 : Int32)))) + (p1.toInt64)) - (1 : Int64))), .second, .unset, .unset, .unset, .unset, .unset, .unset] [(.int (if (p2 &&& (1 : Int32)) = (0 : Int32) then (0 : Int32) else (1 : Int32)))])) (T14.setTop (mkF m 58 #[.val (.long q0), .second, .val (.int p1), .val (.int p2), .val (.int (if (p2 &&& (1 : Int32)) = (0 : Int32) then (0 : Int32) else (1 : Int32))), .val (.ref b7), .val (.long (f_first q0 p1 (nar .boolean (if (p2 &&& (1 : Int32)) = (0 : Int32) then (0 : Int32) else (1 : Int32))))), .second, .val (.long (((f_first q0 p1 (nar .boolean (if (p2 &&& (1 : Int32)) = (0 : Int32) then (0 : Int32) else (1 : Int32)))) + (p1.toInt64)) - (1 : Int64))), .second, .unset, .unset, .unset, .unset, .unset, .unset] [(.long (if (p2 &&& (1 : Int32)) = (0 : Int32) then (q0 - (1 : Int64)) else q0))])) := by
    by_cases hc17 : (p2 &&& (1 : Int32)) = (0 : Int32)
    · have k18 : Go p.tables e below (T14.setTop (mkF m 48 #[.val (.long q0), .second, .val (.int p1), .val (.int p2), .val (.int (if (p2 &&& (1 : Int32)) = (0 : Int32) then (0 : Int32) else (1 : Int32))), .val (.ref b7), .val (.long (f_first q0 p1 (nar .boolean (if (p2 &&& (1 : Int32)) = (0 : Int32) then (0 : Int32) else (1 : Int32))))), .second, .val (.long (((f_first q0 p1 (nar .boolean (if (p2 &&& (1 : Int32)) = (0 : Int32) then (0 : Int32) else (1 : Int32)))) + (p1.toInt64)) - (1 : Int64))), .second, .unset, .unset, .unset, .unset, .unset, .unset] [(.int (if (p2 &&& (1 : Int32)) = (0 : Int32) then (0 : Int32) else (1 : Int32)))])) (T14.setTop (mkF m 48 #[.val (.long q0), .second, .val (.int p1), .val (.int p2), .val (.int (0 : Int32)), .val (.ref b7), .val (.long (f_first q0 p1 (nar .boolean (if (p2 &&& (1 : Int32)) = (0 : Int32) then (0 : Int32) else (1 : Int32))))), .second, .val (.long (((f_first q0 p1 (nar .boolean (if (p2 &&& (1 : Int32)) = (0 : Int32) then (0 : Int32) else (1 : Int32)))) + (p1.toInt64)) - (1 : Int64))), .second, .unset, .unset, .unset, .unset, .unset, .unset] [(.int (0 : Int32))])) := by
        simp only [if_pos hc17]; exact fun _ h => h
      have k19 : Go p.tables e below (T14.setTop (mkF m 48 #[.val (.long q0), .second, .val (.int p1), .val (.int p2), .val (.int (0 : Int32)), .val (.ref b7), .val (.long (f_first q0 p1 (nar .boolean (if (p2 &&& (1 : Int32)) = (0 : Int32) then (0 : Int32) else (1 : Int32))))), .second, .val (.long (((f_first q0 p1 (nar .boolean (if (p2 &&& (1 : Int32)) = (0 : Int32) then (0 : Int32) else (1 : Int32)))) + (p1.toInt64)) - (1 : Int64))), .second, .unset, .unset, .unset, .unset, .unset, .unset] [(.int (0 : Int32))])) (T14.setTop (mkF m 58 #[.val (.long q0), .second, .val (.int p1), .val (.int p2), .val (.int (0 : Int32)), .val (.ref b7), .val (.long (f_first q0 p1 (nar .boolean (if (p2 &&& (1 : Int32)) = (0 : Int32) then (0 : Int32) else (1 : Int32))))), .second, .val (.long (((f_first q0 p1 (nar .boolean (if (p2 &&& (1 : Int32)) = (0 : Int32) then (0 : Int32) else (1 : Int32)))) + (p1.toInt64)) - (1 : Int64))), .second, .unset, .unset, .unset, .unset, .unset, .unset] [(.long (q0 - (1 : Int64)))])) := by
        intro t ht
        refine XS.ifYes X14.here hx rfl (pc0 := 48) (pc' := 55) rfl (hb hby at_48) rfl ((if0 _ _).trans (teq (by decide : (0 : Int32) = (0 : Int32))).1) (by decide) (by decide) ?_
        show Steps p.tables e below (T14.setTop (mkF m 55 #[.val (.long q0), .second, .val (.int p1), .val (.int p2), .val (.int (0 : Int32)), .val (.ref b7), .val (.long (f_first q0 p1 (nar .boolean (if (p2 &&& (1 : Int32)) = (0 : Int32) then (0 : Int32) else (1 : Int32))))), .second, .val (.long (((f_first q0 p1 (nar .boolean (if (p2 &&& (1 : Int32)) = (0 : Int32) then (0 : Int32) else (1 : Int32)))) + (p1.toInt64)) - (1 : Int64))), .second, .unset, .unset, .unset, .unset, .unset, .unset] [])) _
        refine XS.lloadN X14.here hx rfl (hb hby at_55) rfl ?_
        show Steps p.tables e below (T14.setTop (mkF m 56 #[.val (.long q0), .second, .val (.int p1), .val (.int p2), .val (.int (0 : Int32)), .val (.ref b7), .val (.long (f_first q0 p1 (nar .boolean (if (p2 &&& (1 : Int32)) = (0 : Int32) then (0 : Int32) else (1 : Int32))))), .second, .val (.long (((f_first q0 p1 (nar .boolean (if (p2 &&& (1 : Int32)) = (0 : Int32) then (0 : Int32) else (1 : Int32)))) + (p1.toInt64)) - (1 : Int64))), .second, .unset, .unset, .unset, .unset, .unset, .unset] [(.long q0)])) _
        refine XS.lconst X14.here hx rfl (hb hby at_56) ?_
        show Steps p.tables e below (T14.setTop (mkF m 57 #[.val (.long q0), .second, .val (.int p1), .val (.int p2), .val (.int (0 : Int32)), .val (.ref b7), .val (.long (f_first q0 p1 (nar .boolean (if (p2 &&& (1 : Int32)) = (0 : Int32) then (0 : Int32) else (1 : Int32))))), .second, .val (.long (((f_first q0 p1 (nar .boolean (if (p2 &&& (1 : Int32)) = (0 : Int32) then (0 : Int32) else (1 : Int32)))) + (p1.toInt64)) - (1 : Int64))), .second, .unset, .unset, .unset, .unset, .unset, .unset] [(.long (1 : Int64)), (.long q0)])) _
        refine XS.lsub X14.here hx rfl (hb hby at_57) rfl ?_
        exact ht
      have kk := (goT k18 k19)
      simpa only [if_pos hc17] using kk
    · have k20 : Go p.tables e below (T14.setTop (mkF m 48 #[.val (.long q0), .second, .val (.int p1), .val (.int p2), .val (.int (if (p2 &&& (1 : Int32)) = (0 : Int32) then (0 : Int32) else (1 : Int32))), .val (.ref b7), .val (.long (f_first q0 p1 (nar .boolean (if (p2 &&& (1 : Int32)) = (0 : Int32) then (0 : Int32) else (1 : Int32))))), .second, .val (.long (((f_first q0 p1 (nar .boolean (if (p2 &&& (1 : Int32)) = (0 : Int32) then (0 : Int32) else (1 : Int32)))) + (p1.toInt64)) - (1 : Int64))), .second, .unset, .unset, .unset, .unset, .unset, .unset] [(.int (if (p2 &&& (1 : Int32)) = (0 : Int32) then (0 : Int32) else (1 : Int32)))])) (T14.setTop (mkF m 48 #[.val (.long q0), .second, .val (.int p1), .val (.int p2), .val (.int (1 : Int32)), .val (.ref b7), .val (.long (f_first q0 p1 (nar .boolean (if (p2 &&& (1 : Int32)) = (0 : Int32) then (0 : Int32) else (1 : Int32))))), .second, .val (.long (((f_first q0 p1 (nar .boolean (if (p2 &&& (1 : Int32)) = (0 : Int32) then (0 : Int32) else (1 : Int32)))) + (p1.toInt64)) - (1 : Int64))), .second, .unset, .unset, .unset, .unset, .unset, .unset] [(.int (1 : Int32))])) := by
        simp only [if_neg hc17]; exact fun _ h => h
      have k21 : Go p.tables e below (T14.setTop (mkF m 48 #[.val (.long q0), .second, .val (.int p1), .val (.int p2), .val (.int (1 : Int32)), .val (.ref b7), .val (.long (f_first q0 p1 (nar .boolean (if (p2 &&& (1 : Int32)) = (0 : Int32) then (0 : Int32) else (1 : Int32))))), .second, .val (.long (((f_first q0 p1 (nar .boolean (if (p2 &&& (1 : Int32)) = (0 : Int32) then (0 : Int32) else (1 : Int32)))) + (p1.toInt64)) - (1 : Int64))), .second, .unset, .unset, .unset, .unset, .unset, .unset] [(.int (1 : Int32))])) (T14.setTop (mkF m 58 #[.val (.long q0), .second, .val (.int p1), .val (.int p2), .val (.int (1 : Int32)), .val (.ref b7), .val (.long (f_first q0 p1 (nar .boolean (if (p2 &&& (1 : Int32)) = (0 : Int32) then (0 : Int32) else (1 : Int32))))), .second, .val (.long (((f_first q0 p1 (nar .boolean (if (p2 &&& (1 : Int32)) = (0 : Int32) then (0 : Int32) else (1 : Int32)))) + (p1.toInt64)) - (1 : Int64))), .second, .unset, .unset, .unset, .unset, .unset, .unset] [(.long q0)])) := by
        intro t ht
        refine XS.ifNo X14.here hx rfl (hb hby at_48) rfl ((if0 _ _).trans (feq (by decide : ¬ ((1 : Int32) = (0 : Int32)))).1) ?_
        show Steps p.tables e below (T14.setTop (mkF m 51 #[.val (.long q0), .second, .val (.int p1), .val (.int p2), .val (.int (1 : Int32)), .val (.ref b7), .val (.long (f_first q0 p1 (nar .boolean (if (p2 &&& (1 : Int32)) = (0 : Int32) then (0 : Int32) else (1 : Int32))))), .second, .val (.long (((f_first q0 p1 (nar .boolean (if (p2 &&& (1 : Int32)) = (0 : Int32) then (0 : Int32) else (1 : Int32)))) + (p1.toInt64)) - (1 : Int64))), .second, .unset, .unset, .unset, .unset, .unset, .unset] [])) _
        refine XS.lloadN X14.here hx rfl (hb hby at_51) rfl ?_
        show Steps p.tables e below (T14.setTop (mkF m 52 #[.val (.long q0), .second, .val (.int p1), .val (.int p2), .val (.int (1 : Int32)), .val (.ref b7), .val (.long (f_first q0 p1 (nar .boolean (if (p2 &&& (1 : Int32)) = (0 : Int32) then (0 : Int32) else (1 : Int32))))), .second, .val (.long (((f_first q0 p1 (nar .boolean (if (p2 &&& (1 : Int32)) = (0 : Int32) then (0 : Int32) else (1 : Int32)))) + (p1.toInt64)) - (1 : Int64))), .second, .unset, .unset, .unset, .unset, .unset, .unset] [(.long q0)])) _
        refine XS.goto X14.here hx rfl (pc0 := 52) (pc' := 58) rfl (hb hby at_52) (by decide) (by decide) ?_
        exact ht
      have kk := (goT k20 k21)
      simpa only [if_neg hc17] using kk
  have k22 : Go p.tables e below (T14.setTop (mkF m 58 #[.val (.long q0), .second, .val (.int p1), .val (.int p2), .val (.int (if (p2 &&& (1 : Int32)) = (0 : Int32) then (0 : Int32) else (1 : Int32))), .val (.ref b7), .val (.long (f_first q0 p1 (nar .boolean (if (p2 &&& (1 : Int32)) = (0 : Int32) then (0 : Int32) else (1 : Int32))))), .second, .val (.long (((f_first q0 p1 (nar .boolean (if (p2 &&& (1 : Int32)) = (0 : Int32) then (0 : Int32) else (1 : Int32)))) + (p1.toInt64)) - (1 : Int64))), .second, .unset, .unset, .unset, .unset, .unset, .unset] [(.long (if (p2 &&& (1 : Int32)) = (0 : Int32) then (q0 - (1 : Int64)) else q0))])) (T14.setTop (mkF m 78 #[.val (.long q0), .second, .val (.int p1), .val (.int p2), .val (.int (if (p2 &&& (1 : Int32)) = (0 : Int32) then (0 : Int32) else (1 : Int32))), .val (.ref b7), .val (.long (f_first q0 p1 (nar .boolean (if (p2 &&& (1 : Int32)) = (0 : Int32) then (0 : Int32) else (1 : Int32))))), .second, .val (.long (((f_first q0 p1 (nar .boolean (if (p2 &&& (1 : Int32)) = (0 : Int32) then (0 : Int32) else (1 : Int32)))) + (p1.toInt64)) - (1 : Int64))), .second, .val (.long (if (p2 &&& (1 : Int32)) = (0 : Int32) then (q0 - (1 : Int64)) else q0)), .second, .val (.int (1 : Int32)), .unset, .unset, .unset] [(.int p1), (.ref b7)])) := by
    intro t ht
    refine XS.lstore X14.here hx rfl (hb hby at_58) rfl (l' := #[.val (.long q0), .second, .val (.int p1), .val (.int p2), .val (.int (if (p2 &&& (1 : Int32)) = (0 : Int32) then (0 : Int32) else (1 : Int32))), .val (.ref b7), .val (.long (f_first q0 p1 (nar .boolean (if (p2 &&& (1 : Int32)) = (0 : Int32) then (0 : Int32) else (1 : Int32))))), .second, .val (.long (((f_first q0 p1 (nar .boolean (if (p2 &&& (1 : Int32)) = (0 : Int32) then (0 : Int32) else (1 : Int32)))) + (p1.toInt64)) - (1 : Int64))), .second, .val (.long (if (p2 &&& (1 : Int32)) = (0 : Int32) then (q0 - (1 : Int64)) else q0)), .second, .unset, .unset, .unset, .unset]) rfl ?_
    show Steps p.tables e below (T14.setTop (mkF m 60 #[.val (.long q0), .second, .val (.int p1), .val (.int p2), .val (.int (if (p2 &&& (1 : Int32)) = (0 : Int32) then (0 : Int32) else (1 : Int32))), .val (.ref b7), .val (.long (f_first q0 p1 (nar .boolean (if (p2 &&& (1 : Int32)) = (0 : Int32) then (0 : Int32) else (1 : Int32))))), .second, .val (.long (((f_first q0 p1 (nar .boolean (if (p2 &&& (1 : Int32)) = (0 : Int32) then (0 : Int32) else (1 : Int32)))) + (p1.toInt64)) - (1 : Int64))), .second, .val (.long (if (p2 &&& (1 : Int32)) = (0 : Int32) then (q0 - (1 : Int64)) else q0)), .second, .unset, .unset, .unset, .unset] [])) _
    refine XS.lload X14.here hx rfl (hb hby at_60) rfl ?_
    show Steps p.tables e below (T14.setTop (mkF m 62 #[.val (.long q0), .second, .val (.int p1), .val (.int p2), .val (.int (if (p2 &&& (1 : Int32)) = (0 : Int32) then (0 : Int32) else (1 : Int32))), .val (.ref b7), .val (.long (f_first q0 p1 (nar .boolean (if (p2 &&& (1 : Int32)) = (0 : Int32) then (0 : Int32) else (1 : Int32))))), .second, .val (.long (((f_first q0 p1 (nar .boolean (if (p2 &&& (1 : Int32)) = (0 : Int32) then (0 : Int32) else (1 : Int32)))) + (p1.toInt64)) - (1 : Int64))), .second, .val (.long (if (p2 &&& (1 : Int32)) = (0 : Int32) then (q0 - (1 : Int64)) else q0)), .second, .unset, .unset, .unset, .unset] [(.long (((f_first q0 p1 (nar .boolean (if (p2 &&& (1 : Int32)) = (0 : Int32) then (0 : Int32) else (1 : Int32)))) + (p1.toInt64)) - (1 : Int64)))])) _
    refine XS.lload X14.here hx rfl (hb hby at_62) rfl ?_
    show Steps p.tables e below (T14.setTop (mkF m 64 #[.val (.long q0), .second, .val (.int p1), .val (.int p2), .val (.int (if (p2 &&& (1 : Int32)) = (0 : Int32) then (0 : Int32) else (1 : Int32))), .val (.ref b7), .val (.long (f_first q0 p1 (nar .boolean (if (p2 &&& (1 : Int32)) = (0 : Int32) then (0 : Int32) else (1 : Int32))))), .second, .val (.long (((f_first q0 p1 (nar .boolean (if (p2 &&& (1 : Int32)) = (0 : Int32) then (0 : Int32) else (1 : Int32)))) + (p1.toInt64)) - (1 : Int64))), .second, .val (.long (if (p2 &&& (1 : Int32)) = (0 : Int32) then (q0 - (1 : Int64)) else q0)), .second, .unset, .unset, .unset, .unset] [(.long (if (p2 &&& (1 : Int32)) = (0 : Int32) then (q0 - (1 : Int64)) else q0)), (.long (((f_first q0 p1 (nar .boolean (if (p2 &&& (1 : Int32)) = (0 : Int32) then (0 : Int32) else (1 : Int32)))) + (p1.toInt64)) - (1 : Int64)))])) _
    refine XS.lcmp X14.here hx rfl (hb hby at_64) rfl ?_
    show Steps p.tables e below (T14.setTop (mkF m 65 #[.val (.long q0), .second, .val (.int p1), .val (.int p2), .val (.int (if (p2 &&& (1 : Int32)) = (0 : Int32) then (0 : Int32) else (1 : Int32))), .val (.ref b7), .val (.long (f_first q0 p1 (nar .boolean (if (p2 &&& (1 : Int32)) = (0 : Int32) then (0 : Int32) else (1 : Int32))))), .second, .val (.long (((f_first q0 p1 (nar .boolean (if (p2 &&& (1 : Int32)) = (0 : Int32) then (0 : Int32) else (1 : Int32)))) + (p1.toInt64)) - (1 : Int64))), .second, .val (.long (if (p2 &&& (1 : Int32)) = (0 : Int32) then (q0 - (1 : Int64)) else q0)), .second, .unset, .unset, .unset, .unset] [(.int (lcmpW (((f_first q0 p1 (nar .boolean (if (p2 &&& (1 : Int32)) = (0 : Int32) then (0 : Int32) else (1 : Int32)))) + (p1.toInt64)) - (1 : Int64)) (if (p2 &&& (1 : Int32)) = (0 : Int32) then (q0 - (1 : Int64)) else q0)))])) _
    refine XS.ifNo X14.here hx rfl (hb hby at_65) rfl ((if0 _ _).trans (teq (own_eqL (own_law1 _ _ _ : (((f_first q0 p1 (nar .boolean (if (p2 &&& (1 : Int32)) = (0 : Int32) then (0 : Int32) else (1 : Int32)))) + (p1.toInt64)) - (1 : Int64)) = (if (p2 &&& (1 : Int32)) = (0 : Int32) then (q0 - (1 : Int64)) else q0)))).2) ?_
    show Steps p.tables e below (T14.setTop (mkF m 68 #[.val (.long q0), .second, .val (.int p1), .val (.int p2), .val (.int (if (p2 &&& (1 : Int32)) = (0 : Int32) then (0 : Int32) else (1 : Int32))), .val (.ref b7), .val (.long (f_first q0 p1 (nar .boolean (if (p2 &&& (1 : Int32)) = (0 : Int32) then (0 : Int32) else (1 : Int32))))), .second, .val (.long (((f_first q0 p1 (nar .boolean (if (p2 &&& (1 : Int32)) = (0 : Int32) then (0 : Int32) else (1 : Int32)))) + (p1.toInt64)) - (1 : Int64))), .second, .val (.long (if (p2 &&& (1 : Int32)) = (0 : Int32) then (q0 - (1 : Int64)) else q0)), .second, .unset, .unset, .unset, .unset] [])) _
    refine XS.iconst X14.here hx rfl (hb hby at_68) ?_
    show Steps p.tables e below (T14.setTop (mkF m 69 #[.val (.long q0), .second, .val (.int p1), .val (.int p2), .val (.int (if (p2 &&& (1 : Int32)) = (0 : Int32) then (0 : Int32) else (1 : Int32))), .val (.ref b7), .val (.long (f_first q0 p1 (nar .boolean (if (p2 &&& (1 : Int32)) = (0 : Int32) then (0 : Int32) else (1 : Int32))))), .second, .val (.long (((f_first q0 p1 (nar .boolean (if (p2 &&& (1 : Int32)) = (0 : Int32) then (0 : Int32) else (1 : Int32)))) + (p1.toInt64)) - (1 : Int64))), .second, .val (.long (if (p2 &&& (1 : Int32)) = (0 : Int32) then (q0 - (1 : Int64)) else q0)), .second, .unset, .unset, .unset, .unset] [(.int (1 : Int32))])) _
    refine XS.goto X14.here hx rfl (pc0 := 69) (pc' := 73) rfl (hb hby at_69) (by decide) (by decide) ?_
    show Steps p.tables e below (T14.setTop (mkF m 73 #[.val (.long q0), .second, .val (.int p1), .val (.int p2), .val (.int (if (p2 &&& (1 : Int32)) = (0 : Int32) then (0 : Int32) else (1 : Int32))), .val (.ref b7), .val (.long (f_first q0 p1 (nar .boolean (if (p2 &&& (1 : Int32)) = (0 : Int32) then (0 : Int32) else (1 : Int32))))), .second, .val (.long (((f_first q0 p1 (nar .boolean (if (p2 &&& (1 : Int32)) = (0 : Int32) then (0 : Int32) else (1 : Int32)))) + (p1.toInt64)) - (1 : Int64))), .second, .val (.long (if (p2 &&& (1 : Int32)) = (0 : Int32) then (q0 - (1 : Int64)) else q0)), .second, .unset, .unset, .unset, .unset] [(.int (1 : Int32))])) _
    refine XS.istore X14.here hx rfl (hb hby at_73) rfl (l' := #[.val (.long q0), .second, .val (.int p1), .val (.int p2), .val (.int (if (p2 &&& (1 : Int32)) = (0 : Int32) then (0 : Int32) else (1 : Int32))), .val (.ref b7), .val (.long (f_first q0 p1 (nar .boolean (if (p2 &&& (1 : Int32)) = (0 : Int32) then (0 : Int32) else (1 : Int32))))), .second, .val (.long (((f_first q0 p1 (nar .boolean (if (p2 &&& (1 : Int32)) = (0 : Int32) then (0 : Int32) else (1 : Int32)))) + (p1.toInt64)) - (1 : Int64))), .second, .val (.long (if (p2 &&& (1 : Int32)) = (0 : Int32) then (q0 - (1 : Int64)) else q0)), .second, .val (.int (1 : Int32)), .unset, .unset, .unset]) rfl ?_
    show Steps p.tables e below (T14.setTop (mkF m 75 #[.val (.long q0), .second, .val (.int p1), .val (.int p2), .val (.int (if (p2 &&& (1 : Int32)) = (0 : Int32) then (0 : Int32) else (1 : Int32))), .val (.ref b7), .val (.long (f_first q0 p1 (nar .boolean (if (p2 &&& (1 : Int32)) = (0 : Int32) then (0 : Int32) else (1 : Int32))))), .second, .val (.long (((f_first q0 p1 (nar .boolean (if (p2 &&& (1 : Int32)) = (0 : Int32) then (0 : Int32) else (1 : Int32)))) + (p1.toInt64)) - (1 : Int64))), .second, .val (.long (if (p2 &&& (1 : Int32)) = (0 : Int32) then (q0 - (1 : Int64)) else q0)), .second, .val (.int (1 : Int32)), .unset, .unset, .unset] [])) _
    refine XS.aload X14.here hx rfl (hb hby at_75) rfl rfl ?_
    show Steps p.tables e below (T14.setTop (mkF m 77 #[.val (.long q0), .second, .val (.int p1), .val (.int p2), .val (.int (if (p2 &&& (1 : Int32)) = (0 : Int32) then (0 : Int32) else (1 : Int32))), .val (.ref b7), .val (.long (f_first q0 p1 (nar .boolean (if (p2 &&& (1 : Int32)) = (0 : Int32) then (0 : Int32) else (1 : Int32))))), .second, .val (.long (((f_first q0 p1 (nar .boolean (if (p2 &&& (1 : Int32)) = (0 : Int32) then (0 : Int32) else (1 : Int32)))) + (p1.toInt64)) - (1 : Int64))), .second, .val (.long (if (p2 &&& (1 : Int32)) = (0 : Int32) then (q0 - (1 : Int64)) else q0)), .second, .val (.int (1 : Int32)), .unset, .unset, .unset] [(.ref b7)])) _
    refine XS.iloadN X14.here hx rfl (hb hby at_77) rfl ?_
    exact ht
  obtain ⟨cq23, kq23, q23a, q23b, q23c⟩ := isOf hZ eq14 Fq12_0
  obtain ⟨_, _, ⟨T23, L23, kq23, n23⟩, -, X23, ⟨Lc23, hQ23, l23, y23, z23⟩, st23⟩ := X14.virtualBack hx (y := (⟨"com/example/plain_keys/plainkeys/dialect/KeyTableLayout", "newRowValue", "(I)J"⟩ : MethodName)) (z := (⟨"com/example/plain_keys/plainkeys/dialect/KeyTableLayout", "newRowValue", "(I)J"⟩ : MethodName)) hown (mvT hZ (hw _ (List.mem_of_getElem? (i := 34) rfl))) (mvT hZ (hw _ (List.mem_of_getElem? (i := 35) rfl))) (notFace_of_selects (args := #[]) (mvT hZ (hw _ (List.mem_of_getElem? (i := 37) rfl)))) (mvT hZ (hw _ (List.mem_of_getElem? (i := 37) rfl))) (mvT hZ (hw _ (List.mem_of_getElem? (i := 36) rfl))) (by decide) (backOf (W := 0) (rm_newRow l Z a0 hw [] b7 p1 (nar .boolean (if (p2 &&& (1 : Int32)) = (0 : Int32) then (0 : Int32) else (1 : Int32))) T12.heap n0 Z12 Fq12_3 Fq12_0) hZ (hw _ (List.mem_of_getElem? (i := 38) rfl)) (hw _ (List.mem_of_getElem? (i := 2) rfl)) (by decide) (by decide)) q23a q23c (g := (mkF m 78 #[.val (.long q0), .second, .val (.int p1), .val (.int p2), .val (.int (if (p2 &&& (1 : Int32)) = (0 : Int32) then (0 : Int32) else (1 : Int32))), .val (.ref b7), .val (.long (f_first q0 p1 (nar .boolean (if (p2 &&& (1 : Int32)) = (0 : Int32) then (0 : Int32) else (1 : Int32))))), .second, .val (.long (((f_first q0 p1 (nar .boolean (if (p2 &&& (1 : Int32)) = (0 : Int32) then (0 : Int32) else (1 : Int32)))) + (p1.toInt64)) - (1 : Int64))), .second, .val (.long (if (p2 &&& (1 : Int32)) = (0 : Int32) then (q0 - (1 : Int64)) else q0)), .second, .val (.int (1 : Int32)), .unset, .unset, .unset] [(.int p1), (.ref b7)])) rfl (by rw [hml]; rfl) (Steps.refl _) (argsL := [(.int p1)]) (rest := []) (lenOf pd_4 rfl) rfl (by show 2 * 0 + _ ≤ _; exact Nat.le_of_eq rfl) (hb hby at_78) (fun _ _ => ⟨rfl, eq14, (by decide : 5 + 0 ≤ _), (by decide : 95 + 0 ≤ _)⟩)
  dsimp only [Pt.U, Pt.locs, Pt.cells, Pt.slots] at X23 l23 y23 z23 st23 hQ23
  subst l23 y23 z23
  obtain ⟨rfl, N23q, eq23⟩ := hQ23
  have N23 := Fr.app N14 N23q
  have k23 : Go p.tables e below (T14.setTop (mkF m 78 #[.val (.long q0), .second, .val (.int p1), .val (.int p2), .val (.int (if (p2 &&& (1 : Int32)) = (0 : Int32) then (0 : Int32) else (1 : Int32))), .val (.ref b7), .val (.long (f_first q0 p1 (nar .boolean (if (p2 &&& (1 : Int32)) = (0 : Int32) then (0 : Int32) else (1 : Int32))))), .second, .val (.long (((f_first q0 p1 (nar .boolean (if (p2 &&& (1 : Int32)) = (0 : Int32) then (0 : Int32) else (1 : Int32)))) + (p1.toInt64)) - (1 : Int64))), .second, .val (.long (if (p2 &&& (1 : Int32)) = (0 : Int32) then (q0 - (1 : Int64)) else q0)), .second, .val (.int (1 : Int32)), .unset, .unset, .unset] [(.int p1), (.ref b7)])) (T23.setTop (mkF m 81 #[.val (.long q0), .second, .val (.int p1), .val (.int p2), .val (.int (if (p2 &&& (1 : Int32)) = (0 : Int32) then (0 : Int32) else (1 : Int32))), .val (.ref b7), .val (.long (f_first q0 p1 (nar .boolean (if (p2 &&& (1 : Int32)) = (0 : Int32) then (0 : Int32) else (1 : Int32))))), .second, .val (.long (((f_first q0 p1 (nar .boolean (if (p2 &&& (1 : Int32)) = (0 : Int32) then (0 : Int32) else (1 : Int32)))) + (p1.toInt64)) - (1 : Int64))), .second, .val (.long (if (p2 &&& (1 : Int32)) = (0 : Int32) then (q0 - (1 : Int64)) else q0)), .second, .val (.int (1 : Int32)), .unset, .unset, .unset] [(.long ((f_start (nar .boolean (if (p2 &&& (1 : Int32)) = (0 : Int32) then (0 : Int32) else (1 : Int32)))) + (p1.toInt64)))])) := fun _ ht => st23.trans ht
  have k24 : Go p.tables e below (T23.setTop (mkF m 81 #[.val (.long q0), .second, .val (.int p1), .val (.int p2), .val (.int (if (p2 &&& (1 : Int32)) = (0 : Int32) then (0 : Int32) else (1 : Int32))), .val (.ref b7), .val (.long (f_first q0 p1 (nar .boolean (if (p2 &&& (1 : Int32)) = (0 : Int32) then (0 : Int32) else (1 : Int32))))), .second, .val (.long (((f_first q0 p1 (nar .boolean (if (p2 &&& (1 : Int32)) = (0 : Int32) then (0 : Int32) else (1 : Int32)))) + (p1.toInt64)) - (1 : Int64))), .second, .val (.long (if (p2 &&& (1 : Int32)) = (0 : Int32) then (q0 - (1 : Int64)) else q0)), .second, .val (.int (1 : Int32)), .unset, .unset, .unset] [(.long ((f_start (nar .boolean (if (p2 &&& (1 : Int32)) = (0 : Int32) then (0 : Int32) else (1 : Int32)))) + (p1.toInt64)))])) (T23.setTop (mkF m 88 #[.val (.long q0), .second, .val (.int p1), .val (.int p2), .val (.int (if (p2 &&& (1 : Int32)) = (0 : Int32) then (0 : Int32) else (1 : Int32))), .val (.ref b7), .val (.long (f_first q0 p1 (nar .boolean (if (p2 &&& (1 : Int32)) = (0 : Int32) then (0 : Int32) else (1 : Int32))))), .second, .val (.long (((f_first q0 p1 (nar .boolean (if (p2 &&& (1 : Int32)) = (0 : Int32) then (0 : Int32) else (1 : Int32)))) + (p1.toInt64)) - (1 : Int64))), .second, .val (.long (if (p2 &&& (1 : Int32)) = (0 : Int32) then (q0 - (1 : Int64)) else q0)), .second, .val (.int (1 : Int32)), .val (.long ((f_start (nar .boolean (if (p2 &&& (1 : Int32)) = (0 : Int32) then (0 : Int32) else (1 : Int32)))) + (p1.toInt64))), .second, .unset] [(.int p1), (.long ((f_start (nar .boolean (if (p2 &&& (1 : Int32)) = (0 : Int32) then (0 : Int32) else (1 : Int32)))) + (p1.toInt64))), (.ref b7)])) := by
    intro t ht
    refine XS.lstore X23.here hx rfl (hb hby at_81) rfl (l' := #[.val (.long q0), .second, .val (.int p1), .val (.int p2), .val (.int (if (p2 &&& (1 : Int32)) = (0 : Int32) then (0 : Int32) else (1 : Int32))), .val (.ref b7), .val (.long (f_first q0 p1 (nar .boolean (if (p2 &&& (1 : Int32)) = (0 : Int32) then (0 : Int32) else (1 : Int32))))), .second, .val (.long (((f_first q0 p1 (nar .boolean (if (p2 &&& (1 : Int32)) = (0 : Int32) then (0 : Int32) else (1 : Int32)))) + (p1.toInt64)) - (1 : Int64))), .second, .val (.long (if (p2 &&& (1 : Int32)) = (0 : Int32) then (q0 - (1 : Int64)) else q0)), .second, .val (.int (1 : Int32)), .val (.long ((f_start (nar .boolean (if (p2 &&& (1 : Int32)) = (0 : Int32) then (0 : Int32) else (1 : Int32)))) + (p1.toInt64))), .second, .unset]) rfl ?_
    show Steps p.tables e below (T23.setTop (mkF m 83 #[.val (.long q0), .second, .val (.int p1), .val (.int p2), .val (.int (if (p2 &&& (1 : Int32)) = (0 : Int32) then (0 : Int32) else (1 : Int32))), .val (.ref b7), .val (.long (f_first q0 p1 (nar .boolean (if (p2 &&& (1 : Int32)) = (0 : Int32) then (0 : Int32) else (1 : Int32))))), .second, .val (.long (((f_first q0 p1 (nar .boolean (if (p2 &&& (1 : Int32)) = (0 : Int32) then (0 : Int32) else (1 : Int32)))) + (p1.toInt64)) - (1 : Int64))), .second, .val (.long (if (p2 &&& (1 : Int32)) = (0 : Int32) then (q0 - (1 : Int64)) else q0)), .second, .val (.int (1 : Int32)), .val (.long ((f_start (nar .boolean (if (p2 &&& (1 : Int32)) = (0 : Int32) then (0 : Int32) else (1 : Int32)))) + (p1.toInt64))), .second, .unset] [])) _
    refine XS.aload X23.here hx rfl (hb hby at_83) rfl rfl ?_
    show Steps p.tables e below (T23.setTop (mkF m 85 #[.val (.long q0), .second, .val (.int p1), .val (.int p2), .val (.int (if (p2 &&& (1 : Int32)) = (0 : Int32) then (0 : Int32) else (1 : Int32))), .val (.ref b7), .val (.long (f_first q0 p1 (nar .boolean (if (p2 &&& (1 : Int32)) = (0 : Int32) then (0 : Int32) else (1 : Int32))))), .second, .val (.long (((f_first q0 p1 (nar .boolean (if (p2 &&& (1 : Int32)) = (0 : Int32) then (0 : Int32) else (1 : Int32)))) + (p1.toInt64)) - (1 : Int64))), .second, .val (.long (if (p2 &&& (1 : Int32)) = (0 : Int32) then (q0 - (1 : Int64)) else q0)), .second, .val (.int (1 : Int32)), .val (.long ((f_start (nar .boolean (if (p2 &&& (1 : Int32)) = (0 : Int32) then (0 : Int32) else (1 : Int32)))) + (p1.toInt64))), .second, .unset] [(.ref b7)])) _
    refine XS.lload X23.here hx rfl (hb hby at_85) rfl ?_
    show Steps p.tables e below (T23.setTop (mkF m 87 #[.val (.long q0), .second, .val (.int p1), .val (.int p2), .val (.int (if (p2 &&& (1 : Int32)) = (0 : Int32) then (0 : Int32) else (1 : Int32))), .val (.ref b7), .val (.long (f_first q0 p1 (nar .boolean (if (p2 &&& (1 : Int32)) = (0 : Int32) then (0 : Int32) else (1 : Int32))))), .second, .val (.long (((f_first q0 p1 (nar .boolean (if (p2 &&& (1 : Int32)) = (0 : Int32) then (0 : Int32) else (1 : Int32)))) + (p1.toInt64)) - (1 : Int64))), .second, .val (.long (if (p2 &&& (1 : Int32)) = (0 : Int32) then (q0 - (1 : Int64)) else q0)), .second, .val (.int (1 : Int32)), .val (.long ((f_start (nar .boolean (if (p2 &&& (1 : Int32)) = (0 : Int32) then (0 : Int32) else (1 : Int32)))) + (p1.toInt64))), .second, .unset] [(.long ((f_start (nar .boolean (if (p2 &&& (1 : Int32)) = (0 : Int32) then (0 : Int32) else (1 : Int32)))) + (p1.toInt64))), (.ref b7)])) _
    refine XS.iloadN X23.here hx rfl (hb hby at_87) rfl ?_
    exact ht
  obtain ⟨cq25, kq25, q25a, q25b, q25c⟩ := isOf hZ eq23 Fq12_0
  obtain ⟨_, _, ⟨T25, L25, kq25, n25⟩, -, X25, ⟨Lc25, hQ25, l25, y25, z25⟩, st25⟩ := X23.virtualBack hx (y := (⟨"com/example/plain_keys/plainkeys/dialect/KeyTableLayout", "firstKeyBefore", "(JI)J"⟩ : MethodName)) (z := (⟨"com/example/plain_keys/plainkeys/dialect/KeyTableLayout", "firstKeyBefore", "(JI)J"⟩ : MethodName)) hown (mvT hZ (hw _ (List.mem_of_getElem? (i := 29) rfl))) (mvT hZ (hw _ (List.mem_of_getElem? (i := 30) rfl))) (notFace_of_selects (args := #[]) (mvT hZ (hw _ (List.mem_of_getElem? (i := 32) rfl)))) (mvT hZ (hw _ (List.mem_of_getElem? (i := 32) rfl))) (mvT hZ (hw _ (List.mem_of_getElem? (i := 31) rfl))) (by decide) (backOf (W := 0) (rm_first l Z a0 hw [] b7 ((f_start (nar .boolean (if (p2 &&& (1 : Int32)) = (0 : Int32) then (0 : Int32) else (1 : Int32)))) + (p1.toInt64)) p1 (nar .boolean (if (p2 &&& (1 : Int32)) = (0 : Int32) then (0 : Int32) else (1 : Int32))) T12.heap n0 Z12 Fq12_3) hZ (hw _ (List.mem_of_getElem? (i := 33) rfl)) (hw _ (List.mem_of_getElem? (i := 2) rfl)) (by decide) (by decide)) q25a q25c (g := (mkF m 88 #[.val (.long q0), .second, .val (.int p1), .val (.int p2), .val (.int (if (p2 &&& (1 : Int32)) = (0 : Int32) then (0 : Int32) else (1 : Int32))), .val (.ref b7), .val (.long (f_first q0 p1 (nar .boolean (if (p2 &&& (1 : Int32)) = (0 : Int32) then (0 : Int32) else (1 : Int32))))), .second, .val (.long (((f_first q0 p1 (nar .boolean (if (p2 &&& (1 : Int32)) = (0 : Int32) then (0 : Int32) else (1 : Int32)))) + (p1.toInt64)) - (1 : Int64))), .second, .val (.long (if (p2 &&& (1 : Int32)) = (0 : Int32) then (q0 - (1 : Int64)) else q0)), .second, .val (.int (1 : Int32)), .val (.long ((f_start (nar .boolean (if (p2 &&& (1 : Int32)) = (0 : Int32) then (0 : Int32) else (1 : Int32)))) + (p1.toInt64))), .second, .unset] [(.int p1), (.long ((f_start (nar .boolean (if (p2 &&& (1 : Int32)) = (0 : Int32) then (0 : Int32) else (1 : Int32)))) + (p1.toInt64))), (.ref b7)])) rfl (by rw [hml]; rfl) (Steps.refl _) (argsL := [(.long ((f_start (nar .boolean (if (p2 &&& (1 : Int32)) = (0 : Int32) then (0 : Int32) else (1 : Int32)))) + (p1.toInt64))), (.int p1)]) (rest := []) (lenOf pd_3 rfl) rfl (by show 2 * 0 + _ ≤ _; exact Nat.le_of_eq rfl) (hb hby at_88) (fun _ _ => ⟨rfl, eq23, (by decide : 5 + 0 ≤ _), (by decide : 95 + 0 ≤ _)⟩)
  dsimp only [Pt.U, Pt.locs, Pt.cells, Pt.slots] at X25 l25 y25 z25 st25 hQ25
  subst l25 y25 z25
  obtain ⟨rfl, N25q, eq25⟩ := hQ25
  have N25 := Fr.app N23 N25q
  have k25 : Go p.tables e below (T23.setTop (mkF m 88 #[.val (.long q0), .second, .val (.int p1), .val (.int p2), .val (.int (if (p2 &&& (1 : Int32)) = (0 : Int32) then (0 : Int32) else (1 : Int32))), .val (.ref b7), .val (.long (f_first q0 p1 (nar .boolean (if (p2 &&& (1 : Int32)) = (0 : Int32) then (0 : Int32) else (1 : Int32))))), .second, .val (.long (((f_first q0 p1 (nar .boolean (if (p2 &&& (1 : Int32)) = (0 : Int32) then (0 : Int32) else (1 : Int32)))) + (p1.toInt64)) - (1 : Int64))), .second, .val (.long (if (p2 &&& (1 : Int32)) = (0 : Int32) then (q0 - (1 : Int64)) else q0)), .second, .val (.int (1 : Int32)), .val (.long ((f_start (nar .boolean (if (p2 &&& (1 : Int32)) = (0 : Int32) then (0 : Int32) else (1 : Int32)))) + (p1.toInt64))), .second, .unset] [(.int p1), (.long ((f_start (nar .boolean (if (p2 &&& (1 : Int32)) = (0 : Int32) then (0 : Int32) else (1 : Int32)))) + (p1.toInt64))), (.ref b7)])) (T25.setTop (mkF m 91 #[.val (.long q0), .second, .val (.int p1), .val (.int p2), .val (.int (if (p2 &&& (1 : Int32)) = (0 : Int32) then (0 : Int32) else (1 : Int32))), .val (.ref b7), .val (.long (f_first q0 p1 (nar .boolean (if (p2 &&& (1 : Int32)) = (0 : Int32) then (0 : Int32) else (1 : Int32))))), .second, .val (.long (((f_first q0 p1 (nar .boolean (if (p2 &&& (1 : Int32)) = (0 : Int32) then (0 : Int32) else (1 : Int32)))) + (p1.toInt64)) - (1 : Int64))), .second, .val (.long (if (p2 &&& (1 : Int32)) = (0 : Int32) then (q0 - (1 : Int64)) else q0)), .second, .val (.int (1 : Int32)), .val (.long ((f_start (nar .boolean (if (p2 &&& (1 : Int32)) = (0 : Int32) then (0 : Int32) else (1 : Int32)))) + (p1.toInt64))), .second, .unset] [(.long (f_first ((f_start (nar .boolean (if (p2 &&& (1 : Int32)) = (0 : Int32) then (0 : Int32) else (1 : Int32)))) + (p1.toInt64)) p1 (nar .boolean (if (p2 &&& (1 : Int32)) = (0 : Int32) then (0 : Int32) else (1 : Int32)))))])) := fun _ ht => st25.trans ht
  have k26 : Go p.tables e below (T25.setTop (mkF m 91 #[.val (.long q0), .second, .val (.int p1), .val (.int p2), .val (.int (if (p2 &&& (1 : Int32)) = (0 : Int32) then (0 : Int32) else (1 : Int32))), .val (.ref b7), .val (.long (f_first q0 p1 (nar .boolean (if (p2 &&& (1 : Int32)) = (0 : Int32) then (0 : Int32) else (1 : Int32))))), .second, .val (.long (((f_first q0 p1 (nar .boolean (if (p2 &&& (1 : Int32)) = (0 : Int32) then (0 : Int32) else (1 : Int32)))) + (p1.toInt64)) - (1 : Int64))), .second, .val (.long (if (p2 &&& (1 : Int32)) = (0 : Int32) then (q0 - (1 : Int64)) else q0)), .second, .val (.int (1 : Int32)), .val (.long ((f_start (nar .boolean (if (p2 &&& (1 : Int32)) = (0 : Int32) then (0 : Int32) else (1 : Int32)))) + (p1.toInt64))), .second, .unset] [(.long (f_first ((f_start (nar .boolean (if (p2 &&& (1 : Int32)) = (0 : Int32) then (0 : Int32) else (1 : Int32)))) + (p1.toInt64)) p1 (nar .boolean (if (p2 &&& (1 : Int32)) = (0 : Int32) then (0 : Int32) else (1 : Int32)))))])) (T25.setTop (mkF m 118 #[.val (.long q0), .second, .val (.int p1), .val (.int p2), .val (.int (if (p2 &&& (1 : Int32)) = (0 : Int32) then (0 : Int32) else (1 : Int32))), .val (.ref b7), .val (.long (f_first q0 p1 (nar .boolean (if (p2 &&& (1 : Int32)) = (0 : Int32) then (0 : Int32) else (1 : Int32))))), .second, .val (.long (((f_first q0 p1 (nar .boolean (if (p2 &&& (1 : Int32)) = (0 : Int32) then (0 : Int32) else (1 : Int32)))) + (p1.toInt64)) - (1 : Int64))), .second, .val (.long (if (p2 &&& (1 : Int32)) = (0 : Int32) then (q0 - (1 : Int64)) else q0)), .second, .val (.int (1 : Int32)), .val (.long ((f_start (nar .boolean (if (p2 &&& (1 : Int32)) = (0 : Int32) then (0 : Int32) else (1 : Int32)))) + (p1.toInt64))), .second, .val (.int (1 : Int32))] [(.int (1 : Int32))])) := by
    intro t ht
    refine XS.lconst X25.here hx rfl (hb hby at_91) ?_
    show Steps p.tables e below (T25.setTop (mkF m 92 #[.val (.long q0), .second, .val (.int p1), .val (.int p2), .val (.int (if (p2 &&& (1 : Int32)) = (0 : Int32) then (0 : Int32) else (1 : Int32))), .val (.ref b7), .val (.long (f_first q0 p1 (nar .boolean (if (p2 &&& (1 : Int32)) = (0 : Int32) then (0 : Int32) else (1 : Int32))))), .second, .val (.long (((f_first q0 p1 (nar .boolean (if (p2 &&& (1 : Int32)) = (0 : Int32) then (0 : Int32) else (1 : Int32)))) + (p1.toInt64)) - (1 : Int64))), .second, .val (.long (if (p2 &&& (1 : Int32)) = (0 : Int32) then (q0 - (1 : Int64)) else q0)), .second, .val (.int (1 : Int32)), .val (.long ((f_start (nar .boolean (if (p2 &&& (1 : Int32)) = (0 : Int32) then (0 : Int32) else (1 : Int32)))) + (p1.toInt64))), .second, .unset] [(.long (1 : Int64)), (.long (f_first ((f_start (nar .boolean (if (p2 &&& (1 : Int32)) = (0 : Int32) then (0 : Int32) else (1 : Int32)))) + (p1.toInt64)) p1 (nar .boolean (if (p2 &&& (1 : Int32)) = (0 : Int32) then (0 : Int32) else (1 : Int32)))))])) _
    refine XS.lcmp X25.here hx rfl (hb hby at_92) rfl ?_
    show Steps p.tables e below (T25.setTop (mkF m 93 #[.val (.long q0), .second, .val (.int p1), .val (.int p2), .val (.int (if (p2 &&& (1 : Int32)) = (0 : Int32) then (0 : Int32) else (1 : Int32))), .val (.ref b7), .val (.long (f_first q0 p1 (nar .boolean (if (p2 &&& (1 : Int32)) = (0 : Int32) then (0 : Int32) else (1 : Int32))))), .second, .val (.long (((f_first q0 p1 (nar .boolean (if (p2 &&& (1 : Int32)) = (0 : Int32) then (0 : Int32) else (1 : Int32)))) + (p1.toInt64)) - (1 : Int64))), .second, .val (.long (if (p2 &&& (1 : Int32)) = (0 : Int32) then (q0 - (1 : Int64)) else q0)), .second, .val (.int (1 : Int32)), .val (.long ((f_start (nar .boolean (if (p2 &&& (1 : Int32)) = (0 : Int32) then (0 : Int32) else (1 : Int32)))) + (p1.toInt64))), .second, .unset] [(.int (lcmpW (f_first ((f_start (nar .boolean (if (p2 &&& (1 : Int32)) = (0 : Int32) then (0 : Int32) else (1 : Int32)))) + (p1.toInt64)) p1 (nar .boolean (if (p2 &&& (1 : Int32)) = (0 : Int32) then (0 : Int32) else (1 : Int32)))) (1 : Int64)))])) _
    refine XS.ifNo X25.here hx rfl (hb hby at_93) rfl ((if0 _ _).trans (teq (own_eqL (own_law2 _ _ : (f_first ((f_start (nar .boolean (if (p2 &&& (1 : Int32)) = (0 : Int32) then (0 : Int32) else (1 : Int32)))) + (p1.toInt64)) p1 (nar .boolean (if (p2 &&& (1 : Int32)) = (0 : Int32) then (0 : Int32) else (1 : Int32)))) = (1 : Int64)))).2) ?_
    show Steps p.tables e below (T25.setTop (mkF m 96 #[.val (.long q0), .second, .val (.int p1), .val (.int p2), .val (.int (if (p2 &&& (1 : Int32)) = (0 : Int32) then (0 : Int32) else (1 : Int32))), .val (.ref b7), .val (.long (f_first q0 p1 (nar .boolean (if (p2 &&& (1 : Int32)) = (0 : Int32) then (0 : Int32) else (1 : Int32))))), .second, .val (.long (((f_first q0 p1 (nar .boolean (if (p2 &&& (1 : Int32)) = (0 : Int32) then (0 : Int32) else (1 : Int32)))) + (p1.toInt64)) - (1 : Int64))), .second, .val (.long (if (p2 &&& (1 : Int32)) = (0 : Int32) then (q0 - (1 : Int64)) else q0)), .second, .val (.int (1 : Int32)), .val (.long ((f_start (nar .boolean (if (p2 &&& (1 : Int32)) = (0 : Int32) then (0 : Int32) else (1 : Int32)))) + (p1.toInt64))), .second, .unset] [])) _
    refine XS.iconst X25.here hx rfl (hb hby at_96) ?_
    show Steps p.tables e below (T25.setTop (mkF m 97 #[.val (.long q0), .second, .val (.int p1), .val (.int p2), .val (.int (if (p2 &&& (1 : Int32)) = (0 : Int32) then (0 : Int32) else (1 : Int32))), .val (.ref b7), .val (.long (f_first q0 p1 (nar .boolean (if (p2 &&& (1 : Int32)) = (0 : Int32) then (0 : Int32) else (1 : Int32))))), .second, .val (.long (((f_first q0 p1 (nar .boolean (if (p2 &&& (1 : Int32)) = (0 : Int32) then (0 : Int32) else (1 : Int32)))) + (p1.toInt64)) - (1 : Int64))), .second, .val (.long (if (p2 &&& (1 : Int32)) = (0 : Int32) then (q0 - (1 : Int64)) else q0)), .second, .val (.int (1 : Int32)), .val (.long ((f_start (nar .boolean (if (p2 &&& (1 : Int32)) = (0 : Int32) then (0 : Int32) else (1 : Int32)))) + (p1.toInt64))), .second, .unset] [(.int (1 : Int32))])) _
    refine XS.goto X25.here hx rfl (pc0 := 97) (pc' := 101) rfl (hb hby at_97) (by decide) (by decide) ?_
    show Steps p.tables e below (T25.setTop (mkF m 101 #[.val (.long q0), .second, .val (.int p1), .val (.int p2), .val (.int (if (p2 &&& (1 : Int32)) = (0 : Int32) then (0 : Int32) else (1 : Int32))), .val (.ref b7), .val (.long (f_first q0 p1 (nar .boolean (if (p2 &&& (1 : Int32)) = (0 : Int32) then (0 : Int32) else (1 : Int32))))), .second, .val (.long (((f_first q0 p1 (nar .boolean (if (p2 &&& (1 : Int32)) = (0 : Int32) then (0 : Int32) else (1 : Int32)))) + (p1.toInt64)) - (1 : Int64))), .second, .val (.long (if (p2 &&& (1 : Int32)) = (0 : Int32) then (q0 - (1 : Int64)) else q0)), .second, .val (.int (1 : Int32)), .val (.long ((f_start (nar .boolean (if (p2 &&& (1 : Int32)) = (0 : Int32) then (0 : Int32) else (1 : Int32)))) + (p1.toInt64))), .second, .unset] [(.int (1 : Int32))])) _
    refine XS.istore X25.here hx rfl (hb hby at_101) rfl (l' := #[.val (.long q0), .second, .val (.int p1), .val (.int p2), .val (.int (if (p2 &&& (1 : Int32)) = (0 : Int32) then (0 : Int32) else (1 : Int32))), .val (.ref b7), .val (.long (f_first q0 p1 (nar .boolean (if (p2 &&& (1 : Int32)) = (0 : Int32) then (0 : Int32) else (1 : Int32))))), .second, .val (.long (((f_first q0 p1 (nar .boolean (if (p2 &&& (1 : Int32)) = (0 : Int32) then (0 : Int32) else (1 : Int32)))) + (p1.toInt64)) - (1 : Int64))), .second, .val (.long (if (p2 &&& (1 : Int32)) = (0 : Int32) then (q0 - (1 : Int64)) else q0)), .second, .val (.int (1 : Int32)), .val (.long ((f_start (nar .boolean (if (p2 &&& (1 : Int32)) = (0 : Int32) then (0 : Int32) else (1 : Int32)))) + (p1.toInt64))), .second, .val (.int (1 : Int32))]) rfl ?_
    show Steps p.tables e below (T25.setTop (mkF m 103 #[.val (.long q0), .second, .val (.int p1), .val (.int p2), .val (.int (if (p2 &&& (1 : Int32)) = (0 : Int32) then (0 : Int32) else (1 : Int32))), .val (.ref b7), .val (.long (f_first q0 p1 (nar .boolean (if (p2 &&& (1 : Int32)) = (0 : Int32) then (0 : Int32) else (1 : Int32))))), .second, .val (.long (((f_first q0 p1 (nar .boolean (if (p2 &&& (1 : Int32)) = (0 : Int32) then (0 : Int32) else (1 : Int32)))) + (p1.toInt64)) - (1 : Int64))), .second, .val (.long (if (p2 &&& (1 : Int32)) = (0 : Int32) then (q0 - (1 : Int64)) else q0)), .second, .val (.int (1 : Int32)), .val (.long ((f_start (nar .boolean (if (p2 &&& (1 : Int32)) = (0 : Int32) then (0 : Int32) else (1 : Int32)))) + (p1.toInt64))), .second, .val (.int (1 : Int32))] [])) _
    refine XS.iload X25.here hx rfl (hb hby at_103) rfl ?_
    show Steps p.tables e below (T25.setTop (mkF m 105 #[.val (.long q0), .second, .val (.int p1), .val (.int p2), .val (.int (if (p2 &&& (1 : Int32)) = (0 : Int32) then (0 : Int32) else (1 : Int32))), .val (.ref b7), .val (.long (f_first q0 p1 (nar .boolean (if (p2 &&& (1 : Int32)) = (0 : Int32) then (0 : Int32) else (1 : Int32))))), .second, .val (.long (((f_first q0 p1 (nar .boolean (if (p2 &&& (1 : Int32)) = (0 : Int32) then (0 : Int32) else (1 : Int32)))) + (p1.toInt64)) - (1 : Int64))), .second, .val (.long (if (p2 &&& (1 : Int32)) = (0 : Int32) then (q0 - (1 : Int64)) else q0)), .second, .val (.int (1 : Int32)), .val (.long ((f_start (nar .boolean (if (p2 &&& (1 : Int32)) = (0 : Int32) then (0 : Int32) else (1 : Int32)))) + (p1.toInt64))), .second, .val (.int (1 : Int32))] [(.int (1 : Int32))])) _
    refine XS.ifNo X25.here hx rfl (hb hby at_105) rfl ((if0 _ _).trans (feq (by decide : ¬ ((1 : Int32) = (0 : Int32)))).1) ?_
    show Steps p.tables e below (T25.setTop (mkF m 108 #[.val (.long q0), .second, .val (.int p1), .val (.int p2), .val (.int (if (p2 &&& (1 : Int32)) = (0 : Int32) then (0 : Int32) else (1 : Int32))), .val (.ref b7), .val (.long (f_first q0 p1 (nar .boolean (if (p2 &&& (1 : Int32)) = (0 : Int32) then (0 : Int32) else (1 : Int32))))), .second, .val (.long (((f_first q0 p1 (nar .boolean (if (p2 &&& (1 : Int32)) = (0 : Int32) then (0 : Int32) else (1 : Int32)))) + (p1.toInt64)) - (1 : Int64))), .second, .val (.long (if (p2 &&& (1 : Int32)) = (0 : Int32) then (q0 - (1 : Int64)) else q0)), .second, .val (.int (1 : Int32)), .val (.long ((f_start (nar .boolean (if (p2 &&& (1 : Int32)) = (0 : Int32) then (0 : Int32) else (1 : Int32)))) + (p1.toInt64))), .second, .val (.int (1 : Int32))] [])) _
    refine XS.iload X25.here hx rfl (hb hby at_108) rfl ?_
    show Steps p.tables e below (T25.setTop (mkF m 110 #[.val (.long q0), .second, .val (.int p1), .val (.int p2), .val (.int (if (p2 &&& (1 : Int32)) = (0 : Int32) then (0 : Int32) else (1 : Int32))), .val (.ref b7), .val (.long (f_first q0 p1 (nar .boolean (if (p2 &&& (1 : Int32)) = (0 : Int32) then (0 : Int32) else (1 : Int32))))), .second, .val (.long (((f_first q0 p1 (nar .boolean (if (p2 &&& (1 : Int32)) = (0 : Int32) then (0 : Int32) else (1 : Int32)))) + (p1.toInt64)) - (1 : Int64))), .second, .val (.long (if (p2 &&& (1 : Int32)) = (0 : Int32) then (q0 - (1 : Int64)) else q0)), .second, .val (.int (1 : Int32)), .val (.long ((f_start (nar .boolean (if (p2 &&& (1 : Int32)) = (0 : Int32) then (0 : Int32) else (1 : Int32)))) + (p1.toInt64))), .second, .val (.int (1 : Int32))] [(.int (1 : Int32))])) _
    refine XS.ifNo X25.here hx rfl (hb hby at_110) rfl ((if0 _ _).trans (feq (by decide : ¬ ((1 : Int32) = (0 : Int32)))).1) ?_
    show Steps p.tables e below (T25.setTop (mkF m 113 #[.val (.long q0), .second, .val (.int p1), .val (.int p2), .val (.int (if (p2 &&& (1 : Int32)) = (0 : Int32) then (0 : Int32) else (1 : Int32))), .val (.ref b7), .val (.long (f_first q0 p1 (nar .boolean (if (p2 &&& (1 : Int32)) = (0 : Int32) then (0 : Int32) else (1 : Int32))))), .second, .val (.long (((f_first q0 p1 (nar .boolean (if (p2 &&& (1 : Int32)) = (0 : Int32) then (0 : Int32) else (1 : Int32)))) + (p1.toInt64)) - (1 : Int64))), .second, .val (.long (if (p2 &&& (1 : Int32)) = (0 : Int32) then (q0 - (1 : Int64)) else q0)), .second, .val (.int (1 : Int32)), .val (.long ((f_start (nar .boolean (if (p2 &&& (1 : Int32)) = (0 : Int32) then (0 : Int32) else (1 : Int32)))) + (p1.toInt64))), .second, .val (.int (1 : Int32))] [])) _
    refine XS.iconst X25.here hx rfl (hb hby at_113) ?_
    show Steps p.tables e below (T25.setTop (mkF m 114 #[.val (.long q0), .second, .val (.int p1), .val (.int p2), .val (.int (if (p2 &&& (1 : Int32)) = (0 : Int32) then (0 : Int32) else (1 : Int32))), .val (.ref b7), .val (.long (f_first q0 p1 (nar .boolean (if (p2 &&& (1 : Int32)) = (0 : Int32) then (0 : Int32) else (1 : Int32))))), .second, .val (.long (((f_first q0 p1 (nar .boolean (if (p2 &&& (1 : Int32)) = (0 : Int32) then (0 : Int32) else (1 : Int32)))) + (p1.toInt64)) - (1 : Int64))), .second, .val (.long (if (p2 &&& (1 : Int32)) = (0 : Int32) then (q0 - (1 : Int64)) else q0)), .second, .val (.int (1 : Int32)), .val (.long ((f_start (nar .boolean (if (p2 &&& (1 : Int32)) = (0 : Int32) then (0 : Int32) else (1 : Int32)))) + (p1.toInt64))), .second, .val (.int (1 : Int32))] [(.int (1 : Int32))])) _
    refine XS.goto X25.here hx rfl (pc0 := 114) (pc' := 118) rfl (hb hby at_114) (by decide) (by decide) ?_
    exact ht
  obtain ⟨fs, hr, hrun, hended, hW⟩ := X25.leaveW (s := s) hS10 (by rw [eq25]; exact (Nat.le_trans hk10 K12.1)) (v := some (.int (1 : Int32))) (fun h => by rw [Bd.returns] at h; cases h)
  refine ⟨_, _, pre0 _ ((goT k1 (goT k2 (goT k6 (goT k7 (goT k8 (goT k9 (goT k10 (goT k11 (goT k12 (goT k13 (goT k14 (goT k15 (goT k16 (goT k22 (goT k23 (goT k24 (goT k25 k26))))))))))))))))) _ (retN X25 hx (t := .boolean) Bd.returns (by simp) (hb hby at_118) hr)), hrun, hended, _, _, rfl, ?_, hW.1, hW.2.1, hW.2.2.1, hW.2.2.2.mono (by decide) (by decide)⟩
  show Q_law Z q0 p1 p2 h0 n0 _ T25.heap _
  rw [eq25]
  exact ⟨rfl, N25⟩
set_option maxRecDepth 65536 in
set_option maxHeartbeats 40000000 in
theorem comes_1 {Post : Tables → Env → Array Value → State → Outcome → State → Prop} (hpost : ∀ tb e args s v u, (limb_1_1.after args s (.returned v) u = true ∧ limb_1_2.after args s (.returned v) u = true ∧ True) → ReturnedEndW s (.returned v) u (Jvm.fieldLocs frame_1_writes args s ++ Jvm.arrayLocs frame_1_arrays args s ++ Jvm.staticLocs frame_1_statics s) 16 2176 → Post tb e args s (.returned v) u) :
    ArmFor flags0 classFile x code maxLocals ret World_1 tables_1 room_1 Calls_1 rest_1 Pre_1 Post := by
  intro l hfl _ _ p e ha hc hk s m args below hf hA hF happ hP
  obtain ⟨hcalls, hrest, hpre⟩ := hP
  obtain ⟨-, -, -, hnamed, -, -, -, hat⟩ := (Spec.applies_iff hf).mp happ
  obtain ⟨hg, hn⟩ := and_e (Cond.before_iff.mp (show (Jvm.Cond.and given_1 narrow_1).before args s = true from hpre))
  obtain ⟨hcnt, hg⟩ := and_e hg
  obtain ⟨ha0, hg⟩ := and_e hg
  obtain ⟨ha1, hg⟩ := and_e hg
  have ha2 := hg
  obtain ⟨w0, w1, w2, rfl⟩ : ∃ w0 w1 w2 : Value, args = #[w0, w1, w2] := by
    have hs : args.size = 3 := by simpa [Cond.value, given_1] using hcnt
    obtain ⟨L⟩ := args
    match L, hs with
    | [w0, w1, w2], _ => exact ⟨w0, w1, w2, rfl⟩
  have hw := fun d (hd : d ∈ tables_1) => atoms_spec (ws := Jvm.Cond.code x code maxLocals ret :: tables_1) hat d (List.mem_cons_of_mem _ hd)
  have hfit : Fit s := fun {y c} hc i hi => by
    obtain ⟨ha, rfl⟩ := Array.getElem?_eq_some_iff.mp hc
    have q := List.all_eq_true.mp ((Array.all_eq_true_iff_forall_mem.mp hF) _ (Array.getElem_mem ha)) i (List.mem_range.mpr hi)
    simpa [Array.getElem?_eq_getElem hi] using q
  obtain ⟨i0, ei0⟩ := isL_v ha0
  obtain rfl : w0 = (.long i0) := Option.some.inj ei0
  obtain ⟨i1, ei1⟩ := is_v ha1
  obtain rfl : w1 = (.int i1) := Option.some.inj ei1
  obtain ⟨i2, ei2⟩ := is_v ha2
  obtain rfl : w2 = (.int i2) := Option.some.inj ei2
  obtain ⟨n, o, h1, h2, h3, _, L, rfl, ⟨rfl, N⟩, hq⟩ := rm_law l s _ hw tables_1 i0 i1 i2 s.heap s.heap.size (Nat.le_refl _)  p e ha hc hk s m _ below hf ((Spec.applies_iff_loose hf).mp happ).1 ⟨rfl, State.Warmed39.refl s, rfl⟩ trivial
  refine ⟨n, _, h1, h2, h3, hpost _ _ _ _ _ _ ⟨Cond.after_iff.mpr rfl, Cond.after_iff.mpr (eq_i res_at (Term.int_eval (1)) rfl), trivial⟩ ⟨hq.1, hq.2.1, hq.2.2.1, (hq.2.2.2.sift fun y hy => Or.inr (N y hy)).mono (by decide) (by decide)⟩⟩
theorem main_1_1 : Claimed_1_1 := comes_1 fun _ _ _ _ _ _ h hF => ⟨h.1, hF⟩
theorem main_1_2 : Claimed_1_2 := comes_1 fun _ _ _ _ _ _ h hF => ⟨h.2.1, hF⟩
end Jvm.Pilot.@@N@@
namespace Jvm.Pilot.@@N@@
open Jvm Jvm.ClassFile Sem Op Lib Jvm.Free Jvm.Stand Jvm.Pilot.@@N@@.Jvm.D
/-! MADE BY PROGRAM (witnessworld.py) out of the Statement's table words and the real class files: 15 classes; the members and pool entries that the words name. The judged class is class 1, her method 1. -/
namespace start1
open Jvm.ClassFile
def u (s : String) : CpInfo := .utf8 (stringToUtf16 s)
/-- a pool by its gaps: so many unusable entries, then the entry; so many at the end -/
def gap : Nat → List CpInfo → List CpInfo
  | 0, r => r
  | n + 1, r => .unusable :: gap n r
def poolList (es : List (Nat × CpInfo)) (last : Nat) : List CpInfo := es.foldr (fun e r => gap e.1 (e.2 :: r)) (gap last [])
def pool (es : List (Nat × CpInfo)) (last : Nat) : Array CpInfo := ⟨poolList es last⟩
def fileOf (pool : Array CpInfo) (this : Nat) (attrs : Array Attribute := #[]) (ms : Array MethodInfo := #[]) (fl : Nat := 33) (sup : Nat := 0) (ifs : Array Nat := #[]) (fds : Array FieldInfo := #[]) : ClassFile where
  minorVersion := 0
  majorVersion := 65
  constantPool := pool
  accessFlags := fl
  thisClass := this
  superClass := sup
  interfaces := ifs
  fields := fds
  methods := ms
  attributes := attrs
def plain (name : String) (sup : Option ClassId) : Class where
  name := name
  kind := .ordinary
  loader := none
  accessFlags := 33
  super := sup
  interfaces := #[]
  cf := none
  fields := #[]
  methods := #[]
  instanceTypes := #[]
  staticTypes := #[]
  resolved := #[]
  callSites := []
  init := .initialized
  statics := none
  mirror := none

def pool0 : Array CpInfo := pool [(5, u "<init>"), (0, u "()V"), (1, .class_ 10), (1, u "java/lang/Object")] 113

def k0c0 : Code := { maxStack := 0, maxLocals := 1, code := object_method_1_code, exceptionTable := #[], attributes := #[] }
def k0m0 : Method := { name := "<init>", desc := "()V", sig := { parameters := [], returnType := none }, accessFlags := 1, code := some k0c0 }
/-- java/lang/Object -/
def k0 : Class := { plain "java/lang/Object" none with
  accessFlags := 33
  interfaces := #[]
  cf := some (fileOf pool0 8 #[] #[{ accessFlags := 1, nameIndex := 5, descriptorIndex := 6, attributes := #[] }] 33 0 #[] #[])
  fields := #[]
  methods := #[k0m0]
  instanceTypes := #[]
  staticTypes := #[]
  resolved := Array.replicate 124 none
  statics := none }

def pool1 : Array CpInfo := pool [(2, .class_ 4), (1, u "java/lang/Object"), (0, u "<init>"), (0, u "()V"), (0, .class_ 8), (0, u "com/example/plain_keys/plainkeys/dialect/KeyTableLayout"), (0, .string 10), (0, u "sequence_name"), (0, .string 12), (0, u "next_val"), (0, .methodref 7 14), (0, .nameAndType 5 15), (0, u "(Ljava/lang/String;Ljava/lang/String;Z)V"), (0, .methodref 7 17), (0, .nameAndType 18 19), (0, u "firstKeyBefore"), (0, u "(JI)J"), (0, .methodref 7 21), (0, .nameAndType 22 23), (0, u "newRowValue"), (0, u "(I)J"), (0, .class_ 25), (0, u "com/example/plain_keys/plainkeys/dialect/KeyTableLayoutFirstKeyBeforePinLaw"), (2, u "law"), (0, u "(JII)Z")] 3

def k1m0 : Method := { name := "<init>", desc := "()V", sig := { parameters := [], returnType := none }, accessFlags := 1, code := none }
def k1c1 : Code := { maxStack := 5, maxLocals := 16, code := code, exceptionTable := #[], attributes := #[] }
def k1m1 : Method := { name := "law", desc := "(JII)Z", sig := { parameters := [.long, .int, .int], returnType := some .boolean }, accessFlags := 9, code := some k1c1 }
/-- com/example/plain_keys/plainkeys/dialect/KeyTableLayoutFirstKeyBeforePinLaw -/
def k1 : Class := { plain "com/example/plain_keys/plainkeys/dialect/KeyTableLayoutFirstKeyBeforePinLaw" (some 0) with
  accessFlags := 49
  interfaces := #[]
  cf := some (fileOf pool1 24 #[] #[{ accessFlags := 1, nameIndex := 5, descriptorIndex := 6, attributes := #[] }, { accessFlags := 9, nameIndex := 28, descriptorIndex := 29, attributes := #[] }] 49 2 #[] #[])
  fields := #[]
  methods := #[k1m0, k1m1]
  instanceTypes := #[]
  staticTypes := #[]
  resolved := Array.replicate 33 none
  statics := none }

def pool2 : Array CpInfo := pool [(1, .methodref 2 3), (0, .class_ 4), (0, .nameAndType 5 6), (0, u "java/lang/Object"), (0, u "<init>"), (0, u "()V"), (0, .class_ 8), (0, u "java/lang/Record")] 13

def k2c0 : Code := { maxStack := 1, maxLocals := 1, code := jdk_30_method_1_code, exceptionTable := #[], attributes := #[] }
def k2m0 : Method := { name := "<init>", desc := "()V", sig := { parameters := [], returnType := none }, accessFlags := 4, code := some k2c0 }
/-- java/lang/Record -/
def k2 : Class := { plain "java/lang/Record" (some 0) with
  accessFlags := 1057
  interfaces := #[]
  cf := some (fileOf pool2 7 #[] #[{ accessFlags := 4, nameIndex := 5, descriptorIndex := 6, attributes := #[] }] 1057 2 #[] #[])
  fields := #[]
  methods := #[k2m0]
  instanceTypes := #[]
  staticTypes := #[]
  resolved := Array.replicate 22 none
  statics := none }

def pool3 : Array CpInfo := pool [(1, .methodref 2 3), (0, .class_ 4), (0, .nameAndType 5 6), (0, u "java/lang/Record"), (0, u "<init>"), (0, u "()V"), (0, .fieldref 8 9), (0, .class_ 10), (0, .nameAndType 11 12), (0, u "com/example/plain_keys/plainkeys/dialect/KeyTableLayout"), (0, u "nameColumn"), (0, u "Ljava/lang/String;"), (0, .fieldref 8 14), (0, .nameAndType 15 12), (0, u "valueColumn"), (0, .fieldref 8 17), (0, .nameAndType 18 19), (0, u "valueIsLastKey"), (0, u "Z"), (0, .methodref 8 21), (0, .nameAndType 22 23), (0, u "startValue"), (0, u "()J"), (18, u "(Ljava/lang/String;Ljava/lang/String;Z)V"), (2, u "DEFAULT"), (0, u "Lcom/example/plain_keys/plainkeys/dialect/KeyTableLayout;"), (0, u "FIRST_KEY"), (0, u "J"), (9, u "newRowValue"), (0, u "(I)J"), (0, u "firstKeyBefore"), (0, u "(JI)J")] 26

def k3c0 : Code := { maxStack := 2, maxLocals := 4, code := prog_21_method_1_code, exceptionTable := #[], attributes := #[] }
def k3m0 : Method := { name := "<init>", desc := "(Ljava/lang/String;Ljava/lang/String;Z)V", sig := { parameters := [(.object "java/lang/String"), (.object "java/lang/String"), .boolean], returnType := none }, accessFlags := 1, code := some k3c0 }
def k3c1 : Code := { maxStack := 2, maxLocals := 1, code := prog_21_method_3_code, exceptionTable := #[], attributes := #[] }
def k3m1 : Method := { name := "startValue", desc := "()J", sig := { parameters := [], returnType := some .long }, accessFlags := 1, code := some k3c1 }
def k3c2 : Code := { maxStack := 4, maxLocals := 2, code := prog_21_method_4_code, exceptionTable := #[], attributes := #[] }
def k3m2 : Method := { name := "newRowValue", desc := "(I)J", sig := { parameters := [.int], returnType := some .long }, accessFlags := 1, code := some k3c2 }
def k3c3 : Code := { maxStack := 4, maxLocals := 6, code := prog_21_method_5_code, exceptionTable := #[], attributes := #[] }
def k3m3 : Method := { name := "firstKeyBefore", desc := "(JI)J", sig := { parameters := [.long, .int], returnType := some .long }, accessFlags := 1, code := some k3c3 }
/-- com/example/plain_keys/plainkeys/dialect/KeyTableLayout -/
def k3 : Class := { plain "com/example/plain_keys/plainkeys/dialect/KeyTableLayout" (some 2) with
  accessFlags := 49
  interfaces := #[]
  cf := some (fileOf pool3 8 #[] #[{ accessFlags := 1, nameIndex := 5, descriptorIndex := 42, attributes := #[] }, { accessFlags := 1, nameIndex := 22, descriptorIndex := 23, attributes := #[] }, { accessFlags := 1, nameIndex := 58, descriptorIndex := 59, attributes := #[] }, { accessFlags := 1, nameIndex := 60, descriptorIndex := 61, attributes := #[] }] 49 2 #[] #[{ accessFlags := 18, nameIndex := 11, descriptorIndex := 12, attributes := #[] }, { accessFlags := 18, nameIndex := 15, descriptorIndex := 12, attributes := #[] }, { accessFlags := 18, nameIndex := 18, descriptorIndex := 19, attributes := #[] }, { accessFlags := 25, nameIndex := 45, descriptorIndex := 46, attributes := #[] }, { accessFlags := 26, nameIndex := 47, descriptorIndex := 48, attributes := #[] }])
  fields := #[{ name := "nameColumn", type := (.object "java/lang/String"), accessFlags := 18, slot := 0, constantValue := 0 }, { name := "valueColumn", type := (.object "java/lang/String"), accessFlags := 18, slot := 1, constantValue := 0 }, { name := "valueIsLastKey", type := .boolean, accessFlags := 18, slot := 2, constantValue := 0 }, { name := "DEFAULT", type := (.object "com/example/plain_keys/plainkeys/dialect/KeyTableLayout"), accessFlags := 25, slot := 0, constantValue := 0 }, { name := "FIRST_KEY", type := .long, accessFlags := 26, slot := 1, constantValue := 0 }]
  methods := #[k3m0, k3m1, k3m2, k3m3]
  instanceTypes := #[(.object "java/lang/String"), (.object "java/lang/String"), .boolean]
  staticTypes := #[(.object "com/example/plain_keys/plainkeys/dialect/KeyTableLayout"), .long]
  resolved := Array.replicate 88 none
  statics := none }

def pool4 : Array CpInfo := pool [(1, .class_ 2), (0, u "java/io/Serializable"), (0, .class_ 4), (0, u "java/lang/Object")] 2

/-- java/io/Serializable -/
def k4 : Class := { plain "java/io/Serializable" (some 0) with
  accessFlags := 1537
  interfaces := #[]
  cf := some (fileOf pool4 1 #[] #[] 1537 3 #[] #[])
  fields := #[]
  methods := #[]
  instanceTypes := #[]
  staticTypes := #[]
  resolved := Array.replicate 7 none
  statics := none }

def pool5 : Array CpInfo := pool [(1, .class_ 2), (0, u "java/lang/Comparable"), (0, .class_ 4), (0, u "java/lang/Object")] 7

/-- java/lang/Comparable -/
def k5 : Class := { plain "java/lang/Comparable" (some 0) with
  accessFlags := 1537
  interfaces := #[]
  cf := some (fileOf pool5 1 #[] #[] 1537 3 #[] #[])
  fields := #[]
  methods := #[]
  instanceTypes := #[]
  staticTypes := #[]
  resolved := Array.replicate 12 none
  statics := none }

def pool6 : Array CpInfo := pool [(2, .class_ 4), (1, u "java/lang/CharSequence"), (42, .class_ 48), (0, u "java/lang/CharSequence$1CodePointIterator"), (10, .class_ 60), (0, u "java/lang/CharSequence$1CharIterator"), (5, .class_ 67), (0, u "java/lang/Object")] 63

/-- java/lang/CharSequence -/
def k6 : Class := { plain "java/lang/CharSequence" (some 0) with
  accessFlags := 1537
  interfaces := #[]
  cf := some (fileOf pool6 2 #[.nestMembers #[47, 59]] #[] 1537 66 #[] #[])
  fields := #[]
  methods := #[]
  instanceTypes := #[]
  staticTypes := #[]
  resolved := Array.replicate 131 none
  statics := none }

def pool7 : Array CpInfo := pool [(1, .class_ 2), (0, u "java/lang/constant/Constable"), (0, .class_ 4), (0, u "java/lang/Object")] 6

/-- java/lang/constant/Constable -/
def k7 : Class := { plain "java/lang/constant/Constable" (some 0) with
  accessFlags := 1537
  interfaces := #[]
  cf := some (fileOf pool7 1 #[] #[] 1537 3 #[] #[])
  fields := #[]
  methods := #[]
  instanceTypes := #[]
  staticTypes := #[]
  resolved := Array.replicate 11 none
  statics := none }

def pool8 : Array CpInfo := pool [(1, .class_ 2), (0, u "java/lang/constant/ConstantDesc"), (0, .class_ 4), (0, u "java/lang/Object")] 32

/-- java/lang/constant/ConstantDesc -/
def k8 : Class := { plain "java/lang/constant/ConstantDesc" (some 0) with
  accessFlags := 1537
  interfaces := #[]
  cf := some (fileOf pool8 1 #[] #[] 1537 3 #[] #[])
  fields := #[]
  methods := #[]
  instanceTypes := #[]
  staticTypes := #[]
  resolved := Array.replicate 37 none
  statics := none }

def pool9 : Array CpInfo := pool [(2, .class_ 4), (1, u "java/lang/Object"), (0, u "<init>"), (0, u "()V"), (3, .class_ 12), (1, u "java/lang/String"), (0, u "value"), (0, u "[B"), (2, u "coder"), (0, u "B"), (2, u "hash"), (0, u "I"), (2, u "hashIsZero"), (0, u "Z"), (13, u "COMPACT_STRINGS"), (534, .class_ 576), (0, u "java/lang/CharSequence"), (22, u "CASE_INSENSITIVE_ORDER"), (0, u "Ljava/util/Comparator;"), (500, u "serialPersistentFields"), (0, u "[Ljava/io/ObjectStreamField;"), (0, .class_ 1104), (0, u "java/lang/String$CaseInsensitiveComparator"), (1, .class_ 1107), (0, u "java/io/Serializable"), (0, .class_ 1109), (0, u "java/lang/Comparable"), (0, .class_ 1111), (0, u "java/lang/constant/Constable"), (0, .class_ 1113), (0, u "java/lang/constant/ConstantDesc"), (2, u "serialVersionUID"), (0, u "J"), (3, u "REPL"), (0, u "C"), (2, u "LATIN1"), (1, u "UTF16")] 323

def k9m0 : Method := { name := "<init>", desc := "()V", sig := { parameters := [], returnType := none }, accessFlags := 1, code := none }
/-- java/lang/String -/
def k9 : Class := { plain "java/lang/String" (some 0) with
  accessFlags := 49
  interfaces := #[4, 5, 6, 7, 8]
  cf := some (fileOf pool9 10 #[.nestMembers #[1103]] #[{ accessFlags := 1, nameIndex := 5, descriptorIndex := 6, attributes := #[] }] 49 2 #[1106, 1108, 575, 1110, 1112] #[{ accessFlags := 18, nameIndex := 13, descriptorIndex := 14, attributes := #[] }, { accessFlags := 18, nameIndex := 17, descriptorIndex := 18, attributes := #[] }, { accessFlags := 2, nameIndex := 21, descriptorIndex := 22, attributes := #[] }, { accessFlags := 2, nameIndex := 25, descriptorIndex := 26, attributes := #[] }, { accessFlags := 26, nameIndex := 1116, descriptorIndex := 1117, attributes := #[] }, { accessFlags := 24, nameIndex := 40, descriptorIndex := 26, attributes := #[] }, { accessFlags := 26, nameIndex := 1101, descriptorIndex := 1102, attributes := #[] }, { accessFlags := 26, nameIndex := 1121, descriptorIndex := 1122, attributes := #[] }, { accessFlags := 25, nameIndex := 599, descriptorIndex := 600, attributes := #[] }, { accessFlags := 24, nameIndex := 1125, descriptorIndex := 18, attributes := #[] }, { accessFlags := 24, nameIndex := 1127, descriptorIndex := 18, attributes := #[] }])
  fields := #[{ name := "value", type := (.array .byte), accessFlags := 18, slot := 0, constantValue := 0 }, { name := "coder", type := .byte, accessFlags := 18, slot := 1, constantValue := 0 }, { name := "hash", type := .int, accessFlags := 2, slot := 2, constantValue := 0 }, { name := "hashIsZero", type := .boolean, accessFlags := 2, slot := 3, constantValue := 0 }, { name := "serialVersionUID", type := .long, accessFlags := 26, slot := 0, constantValue := 0 }, { name := "COMPACT_STRINGS", type := .boolean, accessFlags := 24, slot := 1, constantValue := 0 }, { name := "serialPersistentFields", type := (.array (.object "java/io/ObjectStreamField")), accessFlags := 26, slot := 2, constantValue := 0 }, { name := "REPL", type := .char, accessFlags := 26, slot := 3, constantValue := 0 }, { name := "CASE_INSENSITIVE_ORDER", type := (.object "java/util/Comparator"), accessFlags := 25, slot := 4, constantValue := 0 }, { name := "LATIN1", type := .byte, accessFlags := 24, slot := 5, constantValue := 0 }, { name := "UTF16", type := .byte, accessFlags := 24, slot := 6, constantValue := 0 }]
  methods := #[k9m0]
  instanceTypes := #[(.array .byte), .byte, .int, .boolean]
  staticTypes := #[.long, .boolean, (.array (.object "java/io/ObjectStreamField")), .char, (.object "java/util/Comparator"), .byte, .byte]
  resolved := Array.replicate 1451 none
  statics := none }

def pool10 : Array CpInfo := pool [(1, u "java/lang/Cloneable"), (0, .class_ 1), (0, u "java/lang/Object"), (0, .class_ 3)] 3

/-- java/lang/Cloneable -/
def k10 : Class := { plain "java/lang/Cloneable" (some 0) with
  accessFlags := 1537
  interfaces := #[]
  cf := some (fileOf pool10 2 #[] #[] 1537 4 #[] #[])
  fields := #[]
  methods := #[]
  instanceTypes := #[]
  staticTypes := #[]
  resolved := Array.replicate 8 none
  statics := none }

/-- the primitive byte -/
def k11 : Class := { plain "byte" none with kind := .primitive 'B', accessFlags := 0x411 }
/-- [B -/
def k12 : Class := { plain "[B" (some 0) with kind := .array 11 .byte, interfaces := #[10, 4], accessFlags := 1041 }

/-- the primitive int -/
def k13 : Class := { plain "int" none with kind := .primitive 'I', accessFlags := 0x411 }
/-- [I -/
def k14 : Class := { plain "[I" (some 0) with kind := .array 13 .int, interfaces := #[10, 4], accessFlags := 1041 }

def heap : Heap := #[]
def classes : Array Class := #[k0, k1, k2, k3, k4, k5, k6, k7, k8, k9, k10, k11, k12, k13, k14]
def interned : List (Array UInt16 × Addr) := []
def slotsUsed : Nat := 0
def theMethod : MethodId := ⟨1, 1⟩
def args0 : Array Value := #[.long 5, .int 1, .int 1]
def aboutOver (below : List Frame) : State where
  vm := { classes := classes, interned := interned.toArray }
  heap := heap
  slotsUsed := slotsUsed
  threads := #[{ frames := .invoking theMethod args0 :: below }]
def below0 : List Frame := [.native { method := ⟨0, 0⟩, args := #[] }]
def about1 : State := aboutOver below0
def p0 : Program := .bare "" "" ""
def e0 : Env := launch0.env 0 0 0
theorem w_frames : about1.frames = Frame.invoking theMethod args0 :: below0 := rfl
set_option maxRecDepth 65536 in
theorem w_args : argsFit about1.vm theMethod args0 = true := by decide +kernel
set_option maxRecDepth 65536 in
theorem w_heap : heapFits about1 = true := by decide +kernel
set_option maxRecDepth 65536 in
theorem w_runnable : about1.curStatus? = some .runnable := by decide +kernel
set_option maxRecDepth 65536 in
theorem w_alone : about1.alone = true := by decide +kernel
set_option maxRecDepth 65536 in
theorem w_named : about1.methodNamed? x = some theMethod := by decide +kernel
set_option maxRecDepth 65536 in
theorem w_hears : about1.hears theMethod below0 = true := by decide +kernel
set_option maxRecDepth 65536 in
theorem w_ripe : about1.ripe theMethod args0 below0 = true := by decide +kernel
theorem w_running : about1.status = .running := rfl
set_option maxRecDepth 65536 in
theorem w_room : about1.hasRoom e0.platform room_1 = true :=
  launch0.hasRoom_least _ room_1 (by decide +kernel) (by decide +kernel) (by decide +kernel) (by decide +kernel) (by decide +kernel) (by decide +kernel)
theorem allAtoms_all (ts : List Jvm.Cond) (a : Array Jvm.Value) (st : Jvm.State) : (allAtoms ts).before a st = ts.all (fun c => c.before a st) := by
  induction ts with
  | nil => rfl
  | cons c t ih =>
    show (Jvm.Cond.and c (allAtoms t)).before a st = _
    rw [Jvm.Cond.before_and, ih, List.all_cons]
def words1 : List Jvm.Cond := Jvm.Cond.code x code maxLocals ret :: tables_1
/-- a 'code' word, met by the world's own term for the bytes: nothing is compared byte by byte -/
theorem code_word {y : MethodName} {bytes : ByteArray} {mx : Nat} {rt : Option FieldType} {a : Array Value} {s : State} {m : MethodId} {meth : Method} {c : Code} (h1 : s.methodNamed? y = some m) (h2 : s.vm.method? m = some meth) (h3 : meth.code = some c) (h4 : c.code = bytes)
    (h5 : (c.maxLocals == mx && c.exceptionTable.isEmpty && decide (c.maxStack ≤ mostOperands) && decide (meth.sig.returnType = rt) && !meth.locks && decide (parseMethodDescriptor y.desc = some meth.sig)) = true) : (Jvm.Cond.code y bytes mx rt).before a s = true := by
  simp only [Bool.and_eq_true, beq_iff_eq, Bool.not_eq_true', decide_eq_true_eq] at h5
  obtain ⟨⟨⟨⟨⟨g1, g2⟩, g3⟩, g4⟩, g5⟩, g6⟩ := h5
  simp [Cond.before, Cond.holds, Cond.value, h1, h2, h3, h4, g1, g2, g3, g4, g5, g6]
def isCode : Jvm.Cond → Bool
  | .code _ _ _ _ => true
  | _ => false
theorem all_split {L : List Jvm.Cond} {P : Jvm.Cond → Bool} (h1 : L.all (fun c => isCode c || P c) = true) (h2 : ∀ c ∈ L.filter isCode, P c = true) : L.all P = true := by
  refine List.all_eq_true.mpr fun c hc => ?_
  have h := List.all_eq_true.mp h1 c hc
  rcases Bool.eq_false_or_eq_true (isCode c) with hi | hi
  · exact h2 c (List.mem_filter.mpr ⟨hc, hi⟩)
  · simpa [hi] using h
set_option maxRecDepth 65536 in
theorem w_c0 : (Jvm.Cond.code x code maxLocals ret).before args0 about1 = true := code_word (m := ⟨1, 1⟩) (meth := k1m1) (c := k1c1) (by decide +kernel) rfl rfl rfl (by decide +kernel)
set_option maxRecDepth 65536 in
theorem w_c1 : (Jvm.Cond.code ({ cls := "com/example/plain_keys/plainkeys/dialect/KeyTableLayout", name := "<init>", desc := "(Ljava/lang/String;Ljava/lang/String;Z)V" } : Jvm.MethodName) prog_21_method_1_code (4 : Nat) (Option.none : Option Jvm.ClassFile.FieldType)).before args0 about1 = true := code_word (m := ⟨3, 0⟩) (meth := k3m0) (c := k3c0) (by decide +kernel) rfl rfl rfl (by decide +kernel)
set_option maxRecDepth 65536 in
theorem w_c2 : (Jvm.Cond.code ({ cls := "java/lang/Record", name := "<init>", desc := "()V" } : Jvm.MethodName) jdk_30_method_1_code (1 : Nat) (Option.none : Option Jvm.ClassFile.FieldType)).before args0 about1 = true := code_word (m := ⟨2, 0⟩) (meth := k2m0) (c := k2c0) (by decide +kernel) rfl rfl rfl (by decide +kernel)
set_option maxRecDepth 65536 in
theorem w_c3 : (Jvm.Cond.code ({ cls := "java/lang/Object", name := "<init>", desc := "()V" } : Jvm.MethodName) object_method_1_code (1 : Nat) (Option.none : Option Jvm.ClassFile.FieldType)).before args0 about1 = true := code_word (m := ⟨0, 0⟩) (meth := k0m0) (c := k0c0) (by decide +kernel) rfl rfl rfl (by decide +kernel)
set_option maxRecDepth 65536 in
theorem w_c4 : (Jvm.Cond.code ({ cls := "com/example/plain_keys/plainkeys/dialect/KeyTableLayout", name := "firstKeyBefore", desc := "(JI)J" } : Jvm.MethodName) prog_21_method_5_code (6 : Nat) (Option.some Jvm.ClassFile.FieldType.long)).before args0 about1 = true := code_word (m := ⟨3, 3⟩) (meth := k3m3) (c := k3c3) (by decide +kernel) rfl rfl rfl (by decide +kernel)
set_option maxRecDepth 65536 in
theorem w_c5 : (Jvm.Cond.code ({ cls := "com/example/plain_keys/plainkeys/dialect/KeyTableLayout", name := "newRowValue", desc := "(I)J" } : Jvm.MethodName) prog_21_method_4_code (2 : Nat) (Option.some Jvm.ClassFile.FieldType.long)).before args0 about1 = true := code_word (m := ⟨3, 2⟩) (meth := k3m2) (c := k3c2) (by decide +kernel) rfl rfl rfl (by decide +kernel)
set_option maxRecDepth 65536 in
theorem w_c6 : (Jvm.Cond.code ({ cls := "com/example/plain_keys/plainkeys/dialect/KeyTableLayout", name := "startValue", desc := "()J" } : Jvm.MethodName) prog_21_method_3_code (1 : Nat) (Option.some Jvm.ClassFile.FieldType.long)).before args0 about1 = true := code_word (m := ⟨3, 1⟩) (meth := k3m1) (c := k3c1) (by decide +kernel) rfl rfl rfl (by decide +kernel)
def codes1 : List Jvm.Cond := [Jvm.Cond.code x code maxLocals ret, Jvm.Cond.code ({ cls := "com/example/plain_keys/plainkeys/dialect/KeyTableLayout", name := "<init>", desc := "(Ljava/lang/String;Ljava/lang/String;Z)V" } : Jvm.MethodName) prog_21_method_1_code (4 : Nat) (Option.none : Option Jvm.ClassFile.FieldType), Jvm.Cond.code ({ cls := "java/lang/Record", name := "<init>", desc := "()V" } : Jvm.MethodName) jdk_30_method_1_code (1 : Nat) (Option.none : Option Jvm.ClassFile.FieldType), Jvm.Cond.code ({ cls := "java/lang/Object", name := "<init>", desc := "()V" } : Jvm.MethodName) object_method_1_code (1 : Nat) (Option.none : Option Jvm.ClassFile.FieldType), Jvm.Cond.code ({ cls := "com/example/plain_keys/plainkeys/dialect/KeyTableLayout", name := "firstKeyBefore", desc := "(JI)J" } : Jvm.MethodName) prog_21_method_5_code (6 : Nat) (Option.some Jvm.ClassFile.FieldType.long), Jvm.Cond.code ({ cls := "com/example/plain_keys/plainkeys/dialect/KeyTableLayout", name := "newRowValue", desc := "(I)J" } : Jvm.MethodName) prog_21_method_4_code (2 : Nat) (Option.some Jvm.ClassFile.FieldType.long), Jvm.Cond.code ({ cls := "com/example/plain_keys/plainkeys/dialect/KeyTableLayout", name := "startValue", desc := "()J" } : Jvm.MethodName) prog_21_method_3_code (1 : Nat) (Option.some Jvm.ClassFile.FieldType.long)]
set_option maxRecDepth 65536 in
theorem codes_eq : words1.filter isCode = codes1 := rfl
theorem w_codes : ∀ c ∈ words1.filter isCode, c.before args0 about1 = true := by
  rw [codes_eq]
  intro c hc
  simp only [codes1, List.mem_cons, List.not_mem_nil, or_false] at hc
  rcases hc with rfl | rfl | rfl | rfl | rfl | rfl | rfl
  · exact w_c0
  · exact w_c1
  · exact w_c2
  · exact w_c3
  · exact w_c4
  · exact w_c5
  · exact w_c6
set_option maxRecDepth 65536 in
theorem w_t1 : (words1.take 24).all (fun c => isCode c || c.before args0 about1) = true := by decide +kernel
set_option maxRecDepth 65536 in
theorem w_t2 : (words1.drop 24).all (fun c => isCode c || c.before args0 about1) = true := by decide +kernel
theorem w_tables : (allAtoms (Jvm.Cond.code x code maxLocals ret :: tables_1)).before args0 about1 = true := by
  rw [allAtoms_all]
  show words1.all (fun c => c.before args0 about1) = true
  refine all_split ?_ w_codes
  rw [← List.take_append_drop 24 words1, List.all_append, w_t1, w_t2]
  rfl
set_option maxRecDepth 65536 in
theorem w_case : (Jvm.Cond.and given_1 narrow_1).before args0 about1 = true := by decide +kernel
theorem w_applies : (headSpec (Jvm.Cond.code x code maxLocals ret :: tables_1) room_1).applies x e0.platform about1 = true :=
  (Spec.applies_iff w_frames).mpr ⟨w_running, w_runnable, w_alone, w_named, w_hears, w_ripe, w_room, w_tables⟩
theorem atStart : AtStart classFile x code maxLocals ret World_1 tables_1 room_1 Calls_1 rest_1 Pre_1 launch0 p0 e0 about1 theMethod args0 below0 :=
  ⟨lists_1, trivial, launch0.admits_env _ _ _, launch0.least_env, fairChoices_fair.cas, fairChoices_fair.clock, w_frames, w_args, w_heap, w_applies, trivial, trivial, w_case⟩
end start1
theorem witness_1 : WitnessClaimed_1 := ⟨start1.p0, start1.e0, start1.about1, start1.theMethod, start1.args0, start1.below0, start1.atStart⟩
end Jvm.Pilot.@@N@@
