import JvmDerived
import JvmDerived.Pilot.@@N@@Statement
import JvmDerived.Pilot.@@N@@Code
set_option linter.unusedVariables false
set_option linter.unusedSimpArgs false
namespace Jvm.RoadKit
open Sem ClassFile Op Lib Jvm.Stand Jvm.Free Jvm.LawKit
abbrev Go (tb : Tables) (e : Env) (below : List Frame) (A B : State) : Prop := ∀ t, Steps tb e below B t → Steps tb e below A t
theorem goT {tb : Tables} {e : Env} {below : List Frame} {A B C : State} (f : Go tb e below A B) (g : Go tb e below B C) : Go tb e below A C := fun t h => f t (g t h)
section New
variable {p : Program} {l : Launch} {e : Env} {R : Room} {s : State} {m : MethodId} {args : Array Value} {below : List Frame} {meth : Method} {c : Code} {T : State} {locs : List Loc} {cells slots : Nat}
theorem retI (X : Stand p l e R s m args below meth c T locs cells slots) (hx : p.tables.exec = Jvm.exec) {pc : Nat} {Ls : Array Slot} {z : Int32} {rest : List Value} (hret : meth.sig.returnType = some .int) (hd : decode c.code pc = .ok (.ireturn, 1)) {fs : List Frame}
    (hl : ∀ (f : JFrame) (acts : List Action), f.method = m → f.locked = none → f.entered = [] → (doReturn e (T.setTop f) acts (some (.int z))).1 = T.setFrames fs) : Steps p.tables e below (T.setTop (mkF m pc Ls (.int z :: rest))) (T.setFrames fs) := by
  have hm' : T.vm.method? m = some meth := X.method'
  have hn : narrow .int (.int z) = .int z := rfl
  show Steps p.tables e below (T.setTop { method := m, pc := pc, locals := Ls, stack := _ :: rest, locked := none }) _
  jvm_step X.here [X.here.top, hx, hd, hm', hret, hn]
  first | (intro acts; rw [hl _ acts rfl rfl rfl]) | rw [hl _ _ rfl rfl rfl]
  exact Steps.refl _
theorem retJ (X : Stand p l e R s m args below meth c T locs cells slots) (hx : p.tables.exec = Jvm.exec) {pc : Nat} {Ls : Array Slot} {z : Int64} {rest : List Value} (hret : meth.sig.returnType = some .long) (hd : decode c.code pc = .ok (.lreturn, 1)) {fs : List Frame}
    (hl : ∀ (f : JFrame) (acts : List Action), f.method = m → f.locked = none → f.entered = [] → (doReturn e (T.setTop f) acts (some (.long z))).1 = T.setFrames fs) : Steps p.tables e below (T.setTop (mkF m pc Ls (.long z :: rest))) (T.setFrames fs) := by
  have hm' : T.vm.method? m = some meth := X.method'
  have hn : narrow .long (.long z) = .long z := rfl
  show Steps p.tables e below (T.setTop { method := m, pc := pc, locals := Ls, stack := _ :: rest, locked := none }) _
  jvm_step X.here [X.here.top, hx, hd, hm', hret, hn]
  first | (intro acts; rw [hl _ acts rfl rfl rfl]) | rw [hl _ _ rfl rfl rfl]
  exact Steps.refl _
theorem retR (X : Stand p l e R s m args below meth c T locs cells slots) (hx : p.tables.exec = Jvm.exec) {pc : Nat} {Ls : Array Slot} {z : Addr} {rest : List Value} {C : String} (hret : meth.sig.returnType = some (.object C)) (hd : decode c.code pc = .ok (.areturn, 1)) {fs : List Frame}
    (hl : ∀ (f : JFrame) (acts : List Action), f.method = m → f.locked = none → f.entered = [] → (doReturn e (T.setTop f) acts (some (.ref z))).1 = T.setFrames fs) : Steps p.tables e below (T.setTop (mkF m pc Ls (.ref z :: rest))) (T.setFrames fs) := by
  have hm' : T.vm.method? m = some meth := X.method'
  show Steps p.tables e below (T.setTop { method := m, pc := pc, locals := Ls, stack := _ :: rest, locked := none }) _
  jvm_step X.here [X.here.top, hx, hd, hm', hret, Value.isRef, FieldType.isReference]
  first | (intro acts; rw [hl _ acts rfl rfl rfl]) | rw [hl _ _ rfl rfl rfl]
  exact Steps.refl _
end New
theorem own_sta_keep {Z : State} {h h' : Heap} {b : Addr} {C n d K : String} {v : Value} (F : Sta Z h C n d v) (E : Exa Z h b K) (Kp : Keep h h' [b]) : Sta Z h' C n d v := by
  obtain ⟨cf, i, k, f, st, cell, h1, h2, h3, h4, h5, h6, h7⟩ := F
  obtain ⟨c2, _, g1, -, -, g4, -⟩ := E
  have ne : st ∉ [b] := fun q => by
    cases List.mem_singleton.mp q
    cases h5.symm.trans g1
    rw [g4] at h6; cases h6
  exact ⟨cf, i, k, f, st, cell, h1, h2, h3, h4, Kp.2.1 st cell h5 ne, h6, h7⟩
theorem own_mvM {Z s : State} {a0 args : Array Value} {own host : String} {index : Nat} {y : MethodName} (hZ : Z.Warmed39 s.vm) (w : (Cond.methodLinkNest own index y host).before a0 Z = true) : (Cond.methodLinkNest own index y host).before args s = true := (Cond.methodLinkNest_wide hZ w :)
theorem own_fld_ne {Z : State} {h : Heap} {a : Addr} {C n d : String} {v w : Value} (F : Fld Z h a C n d v) (G : Fld Z h a C n d w) (ne : v ≠ w) : False := by
  obtain ⟨cell, cf, k, i, f, h1, h2, -, -, -, -, h7⟩ := F
  obtain ⟨cell', cf', k', i', f', g1, g2, -, -, -, -, g7⟩ := G
  cases h1.symm.trans g1
  cases h2.symm.trans g2
  cases h7.symm.trans g7
  exact ne rfl
theorem own_eq_i {args : Array Value} {first s : State} {o : Option Outcome} {idx : List Nat} {a : Term} {z : Int32} (h : (Cond.eq a (.int z)).value args first o s idx = some true) : a.eval args first o idx s = some (.int z) := by
  cases ha : a.eval args first o idx s with
  | none => simp [Cond.value, Term.eval, ha] at h
  | some x => cases x <;> simp [Cond.value, Term.eval, ha] at h ⊢; exact h
theorem own_eq_l {args : Array Value} {first s : State} {o : Option Outcome} {idx : List Nat} {a : Term} {z : Int64} (h : (Cond.eq a (.long z)).value args first o s idx = some true) : a.eval args first o idx s = some (.long z) := by
  cases ha : a.eval args first o idx s with
  | none => simp [Cond.value, Term.eval, ha] at h
  | some x => cases x <;> simp [Cond.value, Term.eval, ha] at h ⊢; exact h
theorem own_ltL {x y : Int64} (h : x < y) : lcmpW x y < 0 := (lw_lt x y).mpr h
theorem own_nltL {x y : Int64} (h : ¬ x < y) : ¬ lcmpW x y < 0 := fun q => h ((lw_lt x y).mp q)
theorem own_gtL {x y : Int64} (h : y < x) : 0 < lcmpW x y := (lw_gt x y).mpr h
theorem own_ngtL {x y : Int64} (h : ¬ y < x) : ¬ 0 < lcmpW x y := fun q => h ((lw_gt x y).mp q)
theorem own_eqL {x y : Int64} (h : x = y) : lcmpW x y = 0 := (lw_eq x y).mpr h
theorem own_neqL {x y : Int64} (h : ¬ x = y) : ¬ lcmpW x y = 0 := fun q => h ((lw_eq x y).mp q)
end Jvm.RoadKit
namespace Jvm.Pilot.@@N@@
open Jvm Jvm.ClassFile Sem Op Lib Jvm.Free Jvm.Stand Jvm.LawKit Jvm.RoadKit Bundle Jvm.Pilot.@@N@@.Jvm.D
theorem own_and (x m : Int32) (k : Nat) (hk : k < 32) (hm : m.toBitVec.toNat = 2 ^ k - 1) : x &&& m = Int32.ofNat (x.toBitVec.toNat % 2 ^ k) := by
  apply Int32.toBitVec_inj.mp
  apply BitVec.eq_of_toNat_eq
  show (x.toBitVec &&& m.toBitVec).toNat = (x.toBitVec.toNat % 2 ^ k) % 2 ^ 32
  have hp : 2 ^ k ≤ 2 ^ 32 := Nat.pow_le_pow_right (by decide) (by omega)
  have hq : x.toBitVec.toNat % 2 ^ k < 2 ^ k := Nat.mod_lt _ (Nat.two_pow_pos k)
  rw [BitVec.toNat_and, hm, Nat.and_two_pow_sub_one_eq_mod, Nat.mod_eq_of_lt (Nat.lt_of_lt_of_le hq hp)]
theorem own_ofNat {n : Nat} (h : n < 2 ^ 31) : (Int32.ofNat n).toInt = n := Int32.toInt_ofNat_of_lt h
theorem own_rem {n k : Nat} (h : n < 2 ^ 31) (hk : 0 < k) (hk2 : k < 2 ^ 31) : Int32.ofNat n % Int32.ofNat k = Int32.ofNat (n % k) := by
  apply Int32.toInt_inj.mp
  have : n % k < k := Nat.mod_lt _ hk
  rw [Int32.toInt_mod, own_ofNat h, own_ofNat hk2, own_ofNat (by omega), Int.tmod_eq_emod_of_nonneg (by omega)]
  rfl
theorem own_bmod {n : Int} (h1 : -2 ^ 31 ≤ n) (h2 : n < 2 ^ 31) : n.bmod (2 ^ 32) = n := by
  rw [Int.bmod_def]; omega
theorem own_remE {n k : Nat} (h : n < 2 ^ 31) (hk : 0 < k) (hk2 : k < 2 ^ 31) : Int32.ofNat n - ((Int32.ofNat n / Int32.ofNat k) * Int32.ofNat k) = Int32.ofNat (n % k) := by
  apply Int32.toInt_inj.mp
  have h3 : n % k < k := Nat.mod_lt _ hk
  have h4 : n / k ≤ n := Nat.div_le_self _ _
  have h5 : (n / k) * k + n % k = n := Nat.div_add_mod' n k
  have e0 : (n : Int).tdiv (k : Int) = ((n / k : Nat) : Int) := rfl
  generalize n / k = d at *
  generalize n % k = r at *
  have e1 : (Int32.ofNat n / Int32.ofNat k).toInt = (d : Int) := by
    rw [Int32.toInt_div, own_ofNat h, own_ofNat hk2, e0]
    exact own_bmod (by omega) (by omega)
  have e2 : ((Int32.ofNat n / Int32.ofNat k) * Int32.ofNat k).toInt = ((d * k : Nat) : Int) := by
    rw [Int32.toInt_mul, e1, own_ofNat hk2, ← Int.natCast_mul]
    exact own_bmod (by omega) (by omega)
  rw [Int32.toInt_sub, e2, own_ofNat h, own_ofNat (by omega), own_bmod (by omega) (by omega)]
  omega
theorem own_atoms {Z : State} {a0 : Array Value} (hw : ∀ d ∈ tables_1, d.before a0 Z = true) : ∀ a ∈ Bundle.stringAtoms, a.before a0 Z = true := fun d hd => by
  simp only [Bundle.stringAtoms, List.mem_cons, List.not_mem_nil, or_false] at hd
  rcases hd with rfl | rfl | rfl | rfl | rfl | rfl | rfl
  · exact (hw _ (List.mem_of_getElem? (i := 29) rfl))
  · exact (hw _ (List.mem_of_getElem? (i := 30) rfl))
  · exact (hw _ (List.mem_of_getElem? (i := 31) rfl))
  · exact (hw _ (List.mem_of_getElem? (i := 32) rfl))
  · exact (hw _ (List.mem_of_getElem? (i := 33) rfl))
  · exact (hw _ (List.mem_of_getElem? (i := 34) rfl))
  · exact (hw _ (List.mem_of_getElem? (i := 35) rfl))
theorem d_recordInit_0 : decode jdk_30_method_1_code 0 = .ok (.aload_n 0, 1) := by decide +kernel
theorem d_recordInit_1 : decode jdk_30_method_1_code 1 = .ok (.invokespecial 1, 3) := by decide +kernel
theorem d_recordInit_4 : decode jdk_30_method_1_code 4 = .ok (.return_, 1) := by decide +kernel
theorem pn_0 : plainName "java/lang/Record" = true := by first | (simp [plainName, overriddenIn]; done) | decide +kernel
theorem ef_recordInit (m : MethodId) (x0 : Addr) : entryFrame m #[(.ref x0)] 1 = mkF m 0 #[.val (.ref x0)] [] := by first | (simp [entryFrame, mkF, argsToLocals, Value.category]; done) | rfl
def Q_recordInit (Z : State) (r0 : Addr) (h0 : Heap) (n0 : Nat) (v : Option Value) (h : Heap) (L : List Loc) : Prop := v = none ∧ Fr n0 L ∧ h = h0
set_option maxRecDepth 65536 in
set_option maxHeartbeats 40000000 in
theorem rm_recordInit (l : Launch) (Z : State) (a0 : Array Value) (hw : ∀ d ∈ tables_1, d.before a0 Z = true) (ws : List Jvm.Cond) (r0 : Addr) (h0 : Heap) (n0 : Nat) (Z0 : n0 ≤ h0.size) :
    MetFree l (⟨"java/lang/Record", "<init>", "()V"⟩ : MethodName) (head1 (Jvm.Cond.code (⟨"java/lang/Record", "<init>", "()V"⟩ : MethodName) jdk_30_method_1_code 1 none :: ws) ({ frames := 1, cells := 0, slots := 0, locals := 12 } : Room)) (fun a U => a = #[(.ref r0)] ∧ Z.Warmed39 U.vm ∧ U.heap = h0) (fun _ _ _ _ _ => True) (fun _ U o U' => ∃ v L, o = .returned v ∧ Q_recordInit Z r0 h0 n0 v U'.heap L ∧ FrameEnd U o U' L ({ frames := 1, cells := 0, slots := 0, locals := 12 } : Room).cells ({ frames := 1, cells := 0, slots := 0, locals := 12 } : Room).slots) := by
  refine MetFree.of_bodySF (plainFor_of_name pn_0) hisR ?_
  intro p e s m args below meth c s₁ Bd hml0 hP hK
  obtain ⟨rfl, hZ, hh⟩ := hP
  have hx := Bd.exec
  have hby := Bd.bytes
  have hml : c.maxLocals = 1 := hml0
  have hown : s.vm.findClass "java/lang/Record" = some m.cls := findClass_of_methodNamed Bd.named
  have hnm := (name_of_methodNamed Bd.named Bd.method).1
  have X0 : Stand p l e ({ frames := 1, cells := 0, slots := 0, locals := 12 } : Room) s m #[(.ref r0)] below meth c s₁ [] 0 0 := Stand.of_body Bd
  have e0 : s₁.heap = h0 := by rw [← hh, Bd.state]; rfl
  have N0 := Fr.nil n0
  have pre0 : ∀ t, Steps p.tables e below (s₁.setTop (mkF m 0 #[.val (.ref r0)] [])) t → Steps p.tables e below (s₁.setTop (entryFrame m #[(.ref r0)] 1)) t := fun t k => castTop (ef_recordInit m r0) k
  have k1 : Go p.tables e below (s₁.setTop (mkF m 0 #[.val (.ref r0)] [])) (s₁.setTop (mkF m 1 #[.val (.ref r0)] [(.ref r0)])) := by
    intro t ht
    refine XS.aloadN X0.here hx rfl (hb hby d_recordInit_0) rfl rfl ?_
    exact ht
  obtain ⟨T2, X2, e2, st2⟩ := initO X0 hx hZ hown (hw _ (List.mem_of_getElem? (i := 25) rfl)) (hw _ (List.mem_of_getElem? (i := 26) rfl)) (hw _ (List.mem_of_getElem? (i := 27) rfl)) e0 (g := (mkF m 1 #[.val (.ref r0)] [(.ref r0)])) rfl (by rw [hml]; rfl) rfl (hb hby d_recordInit_1) (by decide) (W := 0) (by show 2 * 0 + _ ≤ _; exact Nat.le_of_eq rfl) (by decide)
  have k2 : Go p.tables e below (s₁.setTop (mkF m 1 #[.val (.ref r0)] [(.ref r0)])) (T2.setTop (mkF m 4 #[.val (.ref r0)] [])) := st2
  obtain ⟨fs, hr, hrun, hended, hW, hsame⟩ := X2.leave (v := none) (fun _ => rfl)
  refine ⟨_, _, pre0 _ ((goT k1 k2) _ (X2.returnOut hx Bd.returns (hb hby d_recordInit_4) hr)), hrun, hended, _, _, rfl, ?_, ⟨_, rfl⟩, hW, hsame.mono (by decide) (by decide)⟩
  show Q_recordInit Z r0 h0 n0 _ T2.heap _
  rw [e2]
  exact ⟨rfl, N0, rfl⟩
theorem d_outcome_0 : decode method_2_code 0 = .ok (.iload_n 0, 1) := by decide +kernel
theorem d_outcome_1 : decode method_2_code 1 = .ok (.ldc 7, 2) := by decide +kernel
theorem d_outcome_3 : decode method_2_code 3 = .ok (.iand, 1) := by decide +kernel
theorem d_outcome_4 : decode method_2_code 4 = .ok (.iconst 3, 1) := by decide +kernel
theorem d_outcome_5 : decode method_2_code 5 = .ok (.irem, 1) := by decide +kernel
theorem d_outcome_6 : decode method_2_code 6 = .ok (.istore_n 1, 1) := by decide +kernel
theorem d_outcome_7 : decode method_2_code 7 = .ok (.iload_n 1, 1) := by decide +kernel
theorem d_outcome_8 : decode method_2_code 8 = .ok (.ifCond .ne 10, 3) := by decide +kernel
theorem d_outcome_11 : decode method_2_code 11 = .ok (.getstatic 8, 3) := by decide +kernel
theorem d_outcome_14 : decode method_2_code 14 = .ok (.astore_n 2, 1) := by decide +kernel
theorem d_outcome_15 : decode method_2_code 15 = .ok (.goto 19, 3) := by decide +kernel
theorem d_outcome_18 : decode method_2_code 18 = .ok (.iload_n 1, 1) := by decide +kernel
theorem d_outcome_19 : decode method_2_code 19 = .ok (.iconst 1, 1) := by decide +kernel
theorem d_outcome_20 : decode method_2_code 20 = .ok (.if_icmp .ne 10, 3) := by decide +kernel
theorem d_outcome_23 : decode method_2_code 23 = .ok (.getstatic 14, 3) := by decide +kernel
theorem d_outcome_26 : decode method_2_code 26 = .ok (.astore_n 2, 1) := by decide +kernel
theorem d_outcome_27 : decode method_2_code 27 = .ok (.goto 7, 3) := by decide +kernel
theorem d_outcome_30 : decode method_2_code 30 = .ok (.getstatic 17, 3) := by decide +kernel
theorem d_outcome_33 : decode method_2_code 33 = .ok (.astore_n 2, 1) := by decide +kernel
theorem d_outcome_34 : decode method_2_code 34 = .ok (.aload_n 2, 1) := by decide +kernel
theorem d_outcome_35 : decode method_2_code 35 = .ok (.areturn, 1) := by decide +kernel
theorem pn_1 : plainName "ninepoint/BeadColumnPinLaw" = true := by first | (simp [plainName, overriddenIn]; done) | decide +kernel
theorem ef_outcome (m : MethodId) (x0 : Int32) : entryFrame m #[(.int x0)] 3 = mkF m 0 #[.val (.int x0), .unset, .unset] [] := by first | (simp [entryFrame, mkF, argsToLocals, Value.category]; done) | rfl
def f_outcome (p0 : Int32) (wP : Addr) (wB : Addr) (wT : Addr) : Addr := (if ((p0 &&& (2147483647 : Int32)) - (((p0 &&& (2147483647 : Int32)) / (3 : Int32)) * (3 : Int32))) = (0 : Int32) then wP else (if ((p0 &&& (2147483647 : Int32)) - (((p0 &&& (2147483647 : Int32)) / (3 : Int32)) * (3 : Int32))) = (1 : Int32) then wB else wT))
def Q_outcome (Z : State) (p0 : Int32) (wP : Addr) (wB : Addr) (wT : Addr) (h0 : Heap) (n0 : Nat) (v : Option Value) (h : Heap) (L : List Loc) : Prop := v = some (.ref (f_outcome p0 wP wB wT)) ∧ Fr n0 L ∧ h = h0
set_option maxRecDepth 65536 in
set_option maxHeartbeats 40000000 in
theorem rm_outcome (l : Launch) (Z : State) (a0 : Array Value) (hw : ∀ d ∈ tables_1, d.before a0 Z = true) (ws : List Jvm.Cond) (p0 : Int32) (wP : Addr) (wB : Addr) (wT : Addr) (h0 : Heap) (n0 : Nat) (Z0 : n0 ≤ h0.size) (S_PLAYER : Sta Z h0 "ninepoint/Outcome" "PLAYER" "Lninepoint/Outcome;" (.ref wP)) (S_BANKER : Sta Z h0 "ninepoint/Outcome" "BANKER" "Lninepoint/Outcome;" (.ref wB)) (S_TIE : Sta Z h0 "ninepoint/Outcome" "TIE" "Lninepoint/Outcome;" (.ref wT)) :
    MetFree l (⟨"ninepoint/BeadColumnPinLaw", "outcomeOf", "(I)Lninepoint/Outcome;"⟩ : MethodName) (head1 (Jvm.Cond.code (⟨"ninepoint/BeadColumnPinLaw", "outcomeOf", "(I)Lninepoint/Outcome;"⟩ : MethodName) method_2_code 3 (some (.object "ninepoint/Outcome")) :: ws) ({ frames := 0, cells := 0, slots := 0, locals := 0 } : Room)) (fun a U => a = #[(.int p0)] ∧ Z.Warmed39 U.vm ∧ U.heap = h0) (fun _ _ _ _ _ => True) (fun _ U o U' => ∃ v L, o = .returned v ∧ Q_outcome Z p0 wP wB wT h0 n0 v U'.heap L ∧ FrameEnd U o U' L ({ frames := 0, cells := 0, slots := 0, locals := 0 } : Room).cells ({ frames := 0, cells := 0, slots := 0, locals := 0 } : Room).slots) := by
  refine MetFree.of_bodySF (plainFor_of_name pn_1) hisR ?_
  intro p e s m args below meth c s₁ Bd hml0 hP hK
  obtain ⟨rfl, hZ, hh⟩ := hP
  have hx := Bd.exec
  have hby := Bd.bytes
  have hml : c.maxLocals = 3 := hml0
  have hown : s.vm.findClass "ninepoint/BeadColumnPinLaw" = some m.cls := findClass_of_methodNamed Bd.named
  have hnm := (name_of_methodNamed Bd.named Bd.method).1
  have X0 : Stand p l e ({ frames := 0, cells := 0, slots := 0, locals := 0 } : Room) s m #[(.int p0)] below meth c s₁ [] 0 0 := Stand.of_body Bd
  have e0 : s₁.heap = h0 := by rw [← hh, Bd.state]; rfl
  have N0 := Fr.nil n0
  have pre0 : ∀ t, Steps p.tables e below (s₁.setTop (mkF m 0 #[.val (.int p0), .unset, .unset] [])) t → Steps p.tables e below (s₁.setTop (entryFrame m #[(.int p0)] 3)) t := fun t k => castTop (ef_outcome m p0) k
  have k1 : Go p.tables e below (s₁.setTop (mkF m 0 #[.val (.int p0), .unset, .unset] [])) (s₁.setTop (mkF m 8 #[.val (.int p0), .val (.int ((p0 &&& (2147483647 : Int32)) - (((p0 &&& (2147483647 : Int32)) / (3 : Int32)) * (3 : Int32)))), .unset] [(.int ((p0 &&& (2147483647 : Int32)) - (((p0 &&& (2147483647 : Int32)) / (3 : Int32)) * (3 : Int32))))])) := by
    intro t ht
    refine XS.iloadN X0.here hx rfl (hb hby d_outcome_0) rfl ?_
    show Steps p.tables e below (s₁.setTop (mkF m 1 #[.val (.int p0), .unset, .unset] [(.int p0)])) _
    refine X0.ldcInt hx hown (mvT hZ (hw _ (List.mem_of_getElem? (i := 0) rfl))) (g := (mkF m 1 #[.val (.int p0), .unset, .unset] [(.int p0)])) rfl (hb hby d_outcome_1) _ ?_
    show Steps p.tables e below (s₁.setTop (mkF m 3 #[.val (.int p0), .unset, .unset] [(.int (2147483647 : Int32)), (.int p0)])) _
    refine XS.iand X0.here hx rfl (hb hby d_outcome_3) rfl ?_
    show Steps p.tables e below (s₁.setTop (mkF m 4 #[.val (.int p0), .unset, .unset] [(.int (p0 &&& (2147483647 : Int32)))])) _
    refine XS.iconst X0.here hx rfl (hb hby d_outcome_4) ?_
    show Steps p.tables e below (s₁.setTop (mkF m 5 #[.val (.int p0), .unset, .unset] [(.int (3 : Int32)), (.int (p0 &&& (2147483647 : Int32)))])) _
    refine XS.irem X0.here hx rfl (hb hby d_outcome_5) rfl (by decide : ¬ ((3 : Int32) = 0)) ?_
    show Steps p.tables e below (s₁.setTop (mkF m 6 #[.val (.int p0), .unset, .unset] [(.int ((p0 &&& (2147483647 : Int32)) - (((p0 &&& (2147483647 : Int32)) / (3 : Int32)) * (3 : Int32))))])) _
    refine XS.istoreN X0.here hx rfl (hb hby d_outcome_6) rfl (l' := #[.val (.int p0), .val (.int ((p0 &&& (2147483647 : Int32)) - (((p0 &&& (2147483647 : Int32)) / (3 : Int32)) * (3 : Int32)))), .unset]) rfl ?_
    show Steps p.tables e below (s₁.setTop (mkF m 7 #[.val (.int p0), .val (.int ((p0 &&& (2147483647 : Int32)) - (((p0 &&& (2147483647 : Int32)) / (3 : Int32)) * (3 : Int32)))), .unset] [])) _
    refine XS.iloadN X0.here hx rfl (hb hby d_outcome_7) rfl ?_
    exact ht
  by_cases hc2 : ((p0 &&& (2147483647 : Int32)) - (((p0 &&& (2147483647 : Int32)) / (3 : Int32)) * (3 : Int32))) = (0 : Int32)
  · have k3 : Go p.tables e below (s₁.setTop (mkF m 8 #[.val (.int p0), .val (.int ((p0 &&& (2147483647 : Int32)) - (((p0 &&& (2147483647 : Int32)) / (3 : Int32)) * (3 : Int32)))), .unset] [(.int ((p0 &&& (2147483647 : Int32)) - (((p0 &&& (2147483647 : Int32)) / (3 : Int32)) * (3 : Int32))))])) (s₁.setTop (mkF m 11 #[.val (.int p0), .val (.int ((p0 &&& (2147483647 : Int32)) - (((p0 &&& (2147483647 : Int32)) / (3 : Int32)) * (3 : Int32)))), .unset] [])) := by
      intro t ht
      refine XS.ifNo X0.here hx rfl (hb hby d_outcome_8) rfl ((if0 _ _).trans (teq hc2).2) ?_
      exact ht
    obtain ⟨T4, X4, e4, st4⟩ := getS2 X0 hx hZ hown (host := "") (Or.inl (hw _ (List.mem_of_getElem? (i := 8) rfl))) Via.refl e0 S_PLAYER (g := (mkF m 11 #[.val (.int p0), .val (.int ((p0 &&& (2147483647 : Int32)) - (((p0 &&& (2147483647 : Int32)) / (3 : Int32)) * (3 : Int32)))), .unset] [])) rfl (hb hby d_outcome_11)
    have k4 : Go p.tables e below (s₁.setTop (mkF m 11 #[.val (.int p0), .val (.int ((p0 &&& (2147483647 : Int32)) - (((p0 &&& (2147483647 : Int32)) / (3 : Int32)) * (3 : Int32)))), .unset] [])) (T4.setTop (mkF m 14 #[.val (.int p0), .val (.int ((p0 &&& (2147483647 : Int32)) - (((p0 &&& (2147483647 : Int32)) / (3 : Int32)) * (3 : Int32)))), .unset] [(.ref wP)])) := st4
    have k5 : Go p.tables e below (T4.setTop (mkF m 14 #[.val (.int p0), .val (.int ((p0 &&& (2147483647 : Int32)) - (((p0 &&& (2147483647 : Int32)) / (3 : Int32)) * (3 : Int32)))), .unset] [(.ref wP)])) (T4.setTop (mkF m 35 #[.val (.int p0), .val (.int ((p0 &&& (2147483647 : Int32)) - (((p0 &&& (2147483647 : Int32)) / (3 : Int32)) * (3 : Int32)))), .val (.ref wP)] [(.ref wP)])) := by
      intro t ht
      refine XS.astoreN X4.here hx rfl (hb hby d_outcome_14) rfl rfl (l' := #[.val (.int p0), .val (.int ((p0 &&& (2147483647 : Int32)) - (((p0 &&& (2147483647 : Int32)) / (3 : Int32)) * (3 : Int32)))), .val (.ref wP)]) rfl ?_
      show Steps p.tables e below (T4.setTop (mkF m 15 #[.val (.int p0), .val (.int ((p0 &&& (2147483647 : Int32)) - (((p0 &&& (2147483647 : Int32)) / (3 : Int32)) * (3 : Int32)))), .val (.ref wP)] [])) _
      refine XS.goto X4.here hx rfl (pc0 := 15) (pc' := 34) rfl (hb hby d_outcome_15) (by decide) (by decide) ?_
      show Steps p.tables e below (T4.setTop (mkF m 34 #[.val (.int p0), .val (.int ((p0 &&& (2147483647 : Int32)) - (((p0 &&& (2147483647 : Int32)) / (3 : Int32)) * (3 : Int32)))), .val (.ref wP)] [])) _
      refine XS.aloadN X4.here hx rfl (hb hby d_outcome_34) rfl rfl ?_
      exact ht
    obtain ⟨fs, hr, hrun, hended, hW, hsame⟩ := X4.leave (v := some (.ref wP)) (fun h => by rw [Bd.returns] at h; cases h)
    refine ⟨_, _, pre0 _ ((goT k1 (goT k3 (goT k4 k5))) _ (retR X4 hx Bd.returns (hb hby d_outcome_35) hr)), hrun, hended, _, _, rfl, ?_, ⟨_, rfl⟩, hW, hsame.mono (by decide) (by decide)⟩
    show Q_outcome Z p0 wP wB wT h0 n0 _ T4.heap _
    rw [e4]
    exact ⟨by simp only [f_outcome, if_pos hc2], N0, rfl⟩
  · have k6 : Go p.tables e below (s₁.setTop (mkF m 8 #[.val (.int p0), .val (.int ((p0 &&& (2147483647 : Int32)) - (((p0 &&& (2147483647 : Int32)) / (3 : Int32)) * (3 : Int32)))), .unset] [(.int ((p0 &&& (2147483647 : Int32)) - (((p0 &&& (2147483647 : Int32)) / (3 : Int32)) * (3 : Int32))))])) (s₁.setTop (mkF m 20 #[.val (.int p0), .val (.int ((p0 &&& (2147483647 : Int32)) - (((p0 &&& (2147483647 : Int32)) / (3 : Int32)) * (3 : Int32)))), .unset] [(.int (1 : Int32)), (.int ((p0 &&& (2147483647 : Int32)) - (((p0 &&& (2147483647 : Int32)) / (3 : Int32)) * (3 : Int32))))])) := by
      intro t ht
      refine XS.ifYes X0.here hx rfl (pc0 := 8) (pc' := 18) rfl (hb hby d_outcome_8) rfl ((if0 _ _).trans (feq hc2).2) (by decide) (by decide) ?_
      show Steps p.tables e below (s₁.setTop (mkF m 18 #[.val (.int p0), .val (.int ((p0 &&& (2147483647 : Int32)) - (((p0 &&& (2147483647 : Int32)) / (3 : Int32)) * (3 : Int32)))), .unset] [])) _
      refine XS.iloadN X0.here hx rfl (hb hby d_outcome_18) rfl ?_
      show Steps p.tables e below (s₁.setTop (mkF m 19 #[.val (.int p0), .val (.int ((p0 &&& (2147483647 : Int32)) - (((p0 &&& (2147483647 : Int32)) / (3 : Int32)) * (3 : Int32)))), .unset] [(.int ((p0 &&& (2147483647 : Int32)) - (((p0 &&& (2147483647 : Int32)) / (3 : Int32)) * (3 : Int32))))])) _
      refine XS.iconst X0.here hx rfl (hb hby d_outcome_19) ?_
      exact ht
    by_cases hc7 : ((p0 &&& (2147483647 : Int32)) - (((p0 &&& (2147483647 : Int32)) / (3 : Int32)) * (3 : Int32))) = (1 : Int32)
    · have k8 : Go p.tables e below (s₁.setTop (mkF m 20 #[.val (.int p0), .val (.int ((p0 &&& (2147483647 : Int32)) - (((p0 &&& (2147483647 : Int32)) / (3 : Int32)) * (3 : Int32)))), .unset] [(.int (1 : Int32)), (.int ((p0 &&& (2147483647 : Int32)) - (((p0 &&& (2147483647 : Int32)) / (3 : Int32)) * (3 : Int32))))])) (s₁.setTop (mkF m 23 #[.val (.int p0), .val (.int ((p0 &&& (2147483647 : Int32)) - (((p0 &&& (2147483647 : Int32)) / (3 : Int32)) * (3 : Int32)))), .unset] [])) := by
        intro t ht
        refine XS.icmpNo X0.here hx rfl (hb hby d_outcome_20) rfl (teq hc7).2 ?_
        exact ht
      obtain ⟨T9, X9, e9, st9⟩ := getS2 X0 hx hZ hown (host := "") (Or.inl (hw _ (List.mem_of_getElem? (i := 64) rfl))) Via.refl e0 S_BANKER (g := (mkF m 23 #[.val (.int p0), .val (.int ((p0 &&& (2147483647 : Int32)) - (((p0 &&& (2147483647 : Int32)) / (3 : Int32)) * (3 : Int32)))), .unset] [])) rfl (hb hby d_outcome_23)
      have k9 : Go p.tables e below (s₁.setTop (mkF m 23 #[.val (.int p0), .val (.int ((p0 &&& (2147483647 : Int32)) - (((p0 &&& (2147483647 : Int32)) / (3 : Int32)) * (3 : Int32)))), .unset] [])) (T9.setTop (mkF m 26 #[.val (.int p0), .val (.int ((p0 &&& (2147483647 : Int32)) - (((p0 &&& (2147483647 : Int32)) / (3 : Int32)) * (3 : Int32)))), .unset] [(.ref wB)])) := st9
      have k10 : Go p.tables e below (T9.setTop (mkF m 26 #[.val (.int p0), .val (.int ((p0 &&& (2147483647 : Int32)) - (((p0 &&& (2147483647 : Int32)) / (3 : Int32)) * (3 : Int32)))), .unset] [(.ref wB)])) (T9.setTop (mkF m 35 #[.val (.int p0), .val (.int ((p0 &&& (2147483647 : Int32)) - (((p0 &&& (2147483647 : Int32)) / (3 : Int32)) * (3 : Int32)))), .val (.ref wB)] [(.ref wB)])) := by
        intro t ht
        refine XS.astoreN X9.here hx rfl (hb hby d_outcome_26) rfl rfl (l' := #[.val (.int p0), .val (.int ((p0 &&& (2147483647 : Int32)) - (((p0 &&& (2147483647 : Int32)) / (3 : Int32)) * (3 : Int32)))), .val (.ref wB)]) rfl ?_
        show Steps p.tables e below (T9.setTop (mkF m 27 #[.val (.int p0), .val (.int ((p0 &&& (2147483647 : Int32)) - (((p0 &&& (2147483647 : Int32)) / (3 : Int32)) * (3 : Int32)))), .val (.ref wB)] [])) _
        refine XS.goto X9.here hx rfl (pc0 := 27) (pc' := 34) rfl (hb hby d_outcome_27) (by decide) (by decide) ?_
        show Steps p.tables e below (T9.setTop (mkF m 34 #[.val (.int p0), .val (.int ((p0 &&& (2147483647 : Int32)) - (((p0 &&& (2147483647 : Int32)) / (3 : Int32)) * (3 : Int32)))), .val (.ref wB)] [])) _
        refine XS.aloadN X9.here hx rfl (hb hby d_outcome_34) rfl rfl ?_
        exact ht
      obtain ⟨fs, hr, hrun, hended, hW, hsame⟩ := X9.leave (v := some (.ref wB)) (fun h => by rw [Bd.returns] at h; cases h)
      refine ⟨_, _, pre0 _ ((goT k1 (goT k6 (goT k8 (goT k9 k10)))) _ (retR X9 hx Bd.returns (hb hby d_outcome_35) hr)), hrun, hended, _, _, rfl, ?_, ⟨_, rfl⟩, hW, hsame.mono (by decide) (by decide)⟩
      show Q_outcome Z p0 wP wB wT h0 n0 _ T9.heap _
      rw [e9]
      exact ⟨by simp only [f_outcome, if_neg hc2, if_pos hc7], N0, rfl⟩
    · have k11 : Go p.tables e below (s₁.setTop (mkF m 20 #[.val (.int p0), .val (.int ((p0 &&& (2147483647 : Int32)) - (((p0 &&& (2147483647 : Int32)) / (3 : Int32)) * (3 : Int32)))), .unset] [(.int (1 : Int32)), (.int ((p0 &&& (2147483647 : Int32)) - (((p0 &&& (2147483647 : Int32)) / (3 : Int32)) * (3 : Int32))))])) (s₁.setTop (mkF m 30 #[.val (.int p0), .val (.int ((p0 &&& (2147483647 : Int32)) - (((p0 &&& (2147483647 : Int32)) / (3 : Int32)) * (3 : Int32)))), .unset] [])) := by
        intro t ht
        refine XS.icmpYes X0.here hx rfl (pc0 := 20) (pc' := 30) rfl (hb hby d_outcome_20) rfl (feq hc7).2 (by decide) (by decide) ?_
        exact ht
      obtain ⟨T12, X12, e12, st12⟩ := getS2 X0 hx hZ hown (host := "") (Or.inl (hw _ (List.mem_of_getElem? (i := 68) rfl))) Via.refl e0 S_TIE (g := (mkF m 30 #[.val (.int p0), .val (.int ((p0 &&& (2147483647 : Int32)) - (((p0 &&& (2147483647 : Int32)) / (3 : Int32)) * (3 : Int32)))), .unset] [])) rfl (hb hby d_outcome_30)
      have k12 : Go p.tables e below (s₁.setTop (mkF m 30 #[.val (.int p0), .val (.int ((p0 &&& (2147483647 : Int32)) - (((p0 &&& (2147483647 : Int32)) / (3 : Int32)) * (3 : Int32)))), .unset] [])) (T12.setTop (mkF m 33 #[.val (.int p0), .val (.int ((p0 &&& (2147483647 : Int32)) - (((p0 &&& (2147483647 : Int32)) / (3 : Int32)) * (3 : Int32)))), .unset] [(.ref wT)])) := st12
      have k13 : Go p.tables e below (T12.setTop (mkF m 33 #[.val (.int p0), .val (.int ((p0 &&& (2147483647 : Int32)) - (((p0 &&& (2147483647 : Int32)) / (3 : Int32)) * (3 : Int32)))), .unset] [(.ref wT)])) (T12.setTop (mkF m 35 #[.val (.int p0), .val (.int ((p0 &&& (2147483647 : Int32)) - (((p0 &&& (2147483647 : Int32)) / (3 : Int32)) * (3 : Int32)))), .val (.ref wT)] [(.ref wT)])) := by
        intro t ht
        refine XS.astoreN X12.here hx rfl (hb hby d_outcome_33) rfl rfl (l' := #[.val (.int p0), .val (.int ((p0 &&& (2147483647 : Int32)) - (((p0 &&& (2147483647 : Int32)) / (3 : Int32)) * (3 : Int32)))), .val (.ref wT)]) rfl ?_
        show Steps p.tables e below (T12.setTop (mkF m 34 #[.val (.int p0), .val (.int ((p0 &&& (2147483647 : Int32)) - (((p0 &&& (2147483647 : Int32)) / (3 : Int32)) * (3 : Int32)))), .val (.ref wT)] [])) _
        refine XS.aloadN X12.here hx rfl (hb hby d_outcome_34) rfl rfl ?_
        exact ht
      obtain ⟨fs, hr, hrun, hended, hW, hsame⟩ := X12.leave (v := some (.ref wT)) (fun h => by rw [Bd.returns] at h; cases h)
      refine ⟨_, _, pre0 _ ((goT k1 (goT k6 (goT k11 (goT k12 k13)))) _ (retR X12 hx Bd.returns (hb hby d_outcome_35) hr)), hrun, hended, _, _, rfl, ?_, ⟨_, rfl⟩, hW, hsame.mono (by decide) (by decide)⟩
      show Q_outcome Z p0 wP wB wT h0 n0 _ T12.heap _
      rw [e12]
      exact ⟨by simp only [f_outcome, if_neg hc2, if_neg hc7], N0, rfl⟩
theorem d_pairs_0 : decode method_3_code 0 = .ok (.iload_n 0, 1) := by decide +kernel
theorem d_pairs_1 : decode method_3_code 1 = .ok (.iconst 3, 1) := by decide +kernel
theorem d_pairs_2 : decode method_3_code 2 = .ok (.iand, 1) := by decide +kernel
theorem d_pairs_3 : decode method_3_code 3 = .ok (.istore_n 1, 1) := by decide +kernel
theorem d_pairs_4 : decode method_3_code 4 = .ok (.iload_n 1, 1) := by decide +kernel
theorem d_pairs_5 : decode method_3_code 5 = .ok (.ifCond .ne 10, 3) := by decide +kernel
theorem d_pairs_8 : decode method_3_code 8 = .ok (.getstatic 20, 3) := by decide +kernel
theorem d_pairs_11 : decode method_3_code 11 = .ok (.astore_n 2, 1) := by decide +kernel
theorem d_pairs_12 : decode method_3_code 12 = .ok (.goto 31, 3) := by decide +kernel
theorem d_pairs_15 : decode method_3_code 15 = .ok (.iload_n 1, 1) := by decide +kernel
theorem d_pairs_16 : decode method_3_code 16 = .ok (.iconst 1, 1) := by decide +kernel
theorem d_pairs_17 : decode method_3_code 17 = .ok (.if_icmp .ne 10, 3) := by decide +kernel
theorem d_pairs_20 : decode method_3_code 20 = .ok (.getstatic 26, 3) := by decide +kernel
theorem d_pairs_23 : decode method_3_code 23 = .ok (.astore_n 2, 1) := by decide +kernel
theorem d_pairs_24 : decode method_3_code 24 = .ok (.goto 19, 3) := by decide +kernel
theorem d_pairs_27 : decode method_3_code 27 = .ok (.iload_n 1, 1) := by decide +kernel
theorem d_pairs_28 : decode method_3_code 28 = .ok (.iconst 2, 1) := by decide +kernel
theorem d_pairs_29 : decode method_3_code 29 = .ok (.if_icmp .ne 10, 3) := by decide +kernel
theorem d_pairs_32 : decode method_3_code 32 = .ok (.getstatic 28, 3) := by decide +kernel
theorem d_pairs_35 : decode method_3_code 35 = .ok (.astore_n 2, 1) := by decide +kernel
theorem d_pairs_36 : decode method_3_code 36 = .ok (.goto 7, 3) := by decide +kernel
theorem d_pairs_39 : decode method_3_code 39 = .ok (.getstatic 30, 3) := by decide +kernel
theorem d_pairs_42 : decode method_3_code 42 = .ok (.astore_n 2, 1) := by decide +kernel
theorem d_pairs_43 : decode method_3_code 43 = .ok (.aload_n 2, 1) := by decide +kernel
theorem d_pairs_44 : decode method_3_code 44 = .ok (.areturn, 1) := by decide +kernel
theorem ef_pairs (m : MethodId) (x0 : Int32) : entryFrame m #[(.int x0)] 3 = mkF m 0 #[.val (.int x0), .unset, .unset] [] := by first | (simp [entryFrame, mkF, argsToLocals, Value.category]; done) | rfl
def f_pairs (p0 : Int32) (u0 : Addr) (u1 : Addr) (u2 : Addr) (u3 : Addr) : Addr := (if (p0 &&& (3 : Int32)) = (0 : Int32) then u0 else (if (p0 &&& (3 : Int32)) = (1 : Int32) then u1 else (if (p0 &&& (3 : Int32)) = (2 : Int32) then u2 else u3)))
def Q_pairs (Z : State) (p0 : Int32) (u0 : Addr) (u1 : Addr) (u2 : Addr) (u3 : Addr) (h0 : Heap) (n0 : Nat) (v : Option Value) (h : Heap) (L : List Loc) : Prop := v = some (.ref (f_pairs p0 u0 u1 u2 u3)) ∧ Fr n0 L ∧ h = h0
set_option maxRecDepth 65536 in
set_option maxHeartbeats 40000000 in
theorem rm_pairs (l : Launch) (Z : State) (a0 : Array Value) (hw : ∀ d ∈ tables_1, d.before a0 Z = true) (ws : List Jvm.Cond) (p0 : Int32) (u0 : Addr) (u1 : Addr) (u2 : Addr) (u3 : Addr) (h0 : Heap) (n0 : Nat) (Z0 : n0 ≤ h0.size) (S_qNONE : Sta Z h0 "ninepoint/Roads$Pairs" "NONE" "Lninepoint/Roads$Pairs;" (.ref u0)) (S_qPLAYER : Sta Z h0 "ninepoint/Roads$Pairs" "PLAYER" "Lninepoint/Roads$Pairs;" (.ref u1)) (S_qBANKER : Sta Z h0 "ninepoint/Roads$Pairs" "BANKER" "Lninepoint/Roads$Pairs;" (.ref u2)) (S_qBOTH : Sta Z h0 "ninepoint/Roads$Pairs" "BOTH" "Lninepoint/Roads$Pairs;" (.ref u3)) :
    MetFree l (⟨"ninepoint/BeadColumnPinLaw", "pairsOf", "(I)Lninepoint/Roads$Pairs;"⟩ : MethodName) (head1 (Jvm.Cond.code (⟨"ninepoint/BeadColumnPinLaw", "pairsOf", "(I)Lninepoint/Roads$Pairs;"⟩ : MethodName) method_3_code 3 (some (.object "ninepoint/Roads$Pairs")) :: ws) ({ frames := 0, cells := 0, slots := 0, locals := 0 } : Room)) (fun a U => a = #[(.int p0)] ∧ Z.Warmed39 U.vm ∧ U.heap = h0) (fun _ _ _ _ _ => True) (fun _ U o U' => ∃ v L, o = .returned v ∧ Q_pairs Z p0 u0 u1 u2 u3 h0 n0 v U'.heap L ∧ FrameEnd U o U' L ({ frames := 0, cells := 0, slots := 0, locals := 0 } : Room).cells ({ frames := 0, cells := 0, slots := 0, locals := 0 } : Room).slots) := by
  refine MetFree.of_bodySF (plainFor_of_name pn_1) hisR ?_
  intro p e s m args below meth c s₁ Bd hml0 hP hK
  obtain ⟨rfl, hZ, hh⟩ := hP
  have hx := Bd.exec
  have hby := Bd.bytes
  have hml : c.maxLocals = 3 := hml0
  have hown : s.vm.findClass "ninepoint/BeadColumnPinLaw" = some m.cls := findClass_of_methodNamed Bd.named
  have hnm := (name_of_methodNamed Bd.named Bd.method).1
  have X0 : Stand p l e ({ frames := 0, cells := 0, slots := 0, locals := 0 } : Room) s m #[(.int p0)] below meth c s₁ [] 0 0 := Stand.of_body Bd
  have e0 : s₁.heap = h0 := by rw [← hh, Bd.state]; rfl
  have N0 := Fr.nil n0
  have pre0 : ∀ t, Steps p.tables e below (s₁.setTop (mkF m 0 #[.val (.int p0), .unset, .unset] [])) t → Steps p.tables e below (s₁.setTop (entryFrame m #[(.int p0)] 3)) t := fun t k => castTop (ef_pairs m p0) k
  have k1 : Go p.tables e below (s₁.setTop (mkF m 0 #[.val (.int p0), .unset, .unset] [])) (s₁.setTop (mkF m 5 #[.val (.int p0), .val (.int (p0 &&& (3 : Int32))), .unset] [(.int (p0 &&& (3 : Int32)))])) := by
    intro t ht
    refine XS.iloadN X0.here hx rfl (hb hby d_pairs_0) rfl ?_
    show Steps p.tables e below (s₁.setTop (mkF m 1 #[.val (.int p0), .unset, .unset] [(.int p0)])) _
    refine XS.iconst X0.here hx rfl (hb hby d_pairs_1) ?_
    show Steps p.tables e below (s₁.setTop (mkF m 2 #[.val (.int p0), .unset, .unset] [(.int (3 : Int32)), (.int p0)])) _
    refine XS.iand X0.here hx rfl (hb hby d_pairs_2) rfl ?_
    show Steps p.tables e below (s₁.setTop (mkF m 3 #[.val (.int p0), .unset, .unset] [(.int (p0 &&& (3 : Int32)))])) _
    refine XS.istoreN X0.here hx rfl (hb hby d_pairs_3) rfl (l' := #[.val (.int p0), .val (.int (p0 &&& (3 : Int32))), .unset]) rfl ?_
    show Steps p.tables e below (s₁.setTop (mkF m 4 #[.val (.int p0), .val (.int (p0 &&& (3 : Int32))), .unset] [])) _
    refine XS.iloadN X0.here hx rfl (hb hby d_pairs_4) rfl ?_
    exact ht
  by_cases hc2 : (p0 &&& (3 : Int32)) = (0 : Int32)
  · have k3 : Go p.tables e below (s₁.setTop (mkF m 5 #[.val (.int p0), .val (.int (p0 &&& (3 : Int32))), .unset] [(.int (p0 &&& (3 : Int32)))])) (s₁.setTop (mkF m 8 #[.val (.int p0), .val (.int (p0 &&& (3 : Int32))), .unset] [])) := by
      intro t ht
      refine XS.ifNo X0.here hx rfl (hb hby d_pairs_5) rfl ((if0 _ _).trans (teq hc2).2) ?_
      exact ht
    obtain ⟨T4, X4, e4, st4⟩ := getS2 X0 hx hZ hown (host := "") (Or.inl (hw _ (List.mem_of_getElem? (i := 66) rfl))) Via.refl e0 S_qNONE (g := (mkF m 8 #[.val (.int p0), .val (.int (p0 &&& (3 : Int32))), .unset] [])) rfl (hb hby d_pairs_8)
    have k4 : Go p.tables e below (s₁.setTop (mkF m 8 #[.val (.int p0), .val (.int (p0 &&& (3 : Int32))), .unset] [])) (T4.setTop (mkF m 11 #[.val (.int p0), .val (.int (p0 &&& (3 : Int32))), .unset] [(.ref u0)])) := st4
    have k5 : Go p.tables e below (T4.setTop (mkF m 11 #[.val (.int p0), .val (.int (p0 &&& (3 : Int32))), .unset] [(.ref u0)])) (T4.setTop (mkF m 44 #[.val (.int p0), .val (.int (p0 &&& (3 : Int32))), .val (.ref u0)] [(.ref u0)])) := by
      intro t ht
      refine XS.astoreN X4.here hx rfl (hb hby d_pairs_11) rfl rfl (l' := #[.val (.int p0), .val (.int (p0 &&& (3 : Int32))), .val (.ref u0)]) rfl ?_
      show Steps p.tables e below (T4.setTop (mkF m 12 #[.val (.int p0), .val (.int (p0 &&& (3 : Int32))), .val (.ref u0)] [])) _
      refine XS.goto X4.here hx rfl (pc0 := 12) (pc' := 43) rfl (hb hby d_pairs_12) (by decide) (by decide) ?_
      show Steps p.tables e below (T4.setTop (mkF m 43 #[.val (.int p0), .val (.int (p0 &&& (3 : Int32))), .val (.ref u0)] [])) _
      refine XS.aloadN X4.here hx rfl (hb hby d_pairs_43) rfl rfl ?_
      exact ht
    obtain ⟨fs, hr, hrun, hended, hW, hsame⟩ := X4.leave (v := some (.ref u0)) (fun h => by rw [Bd.returns] at h; cases h)
    refine ⟨_, _, pre0 _ ((goT k1 (goT k3 (goT k4 k5))) _ (retR X4 hx Bd.returns (hb hby d_pairs_44) hr)), hrun, hended, _, _, rfl, ?_, ⟨_, rfl⟩, hW, hsame.mono (by decide) (by decide)⟩
    show Q_pairs Z p0 u0 u1 u2 u3 h0 n0 _ T4.heap _
    rw [e4]
    exact ⟨by simp only [f_pairs, if_pos hc2], N0, rfl⟩
  · have k6 : Go p.tables e below (s₁.setTop (mkF m 5 #[.val (.int p0), .val (.int (p0 &&& (3 : Int32))), .unset] [(.int (p0 &&& (3 : Int32)))])) (s₁.setTop (mkF m 17 #[.val (.int p0), .val (.int (p0 &&& (3 : Int32))), .unset] [(.int (1 : Int32)), (.int (p0 &&& (3 : Int32)))])) := by
      intro t ht
      refine XS.ifYes X0.here hx rfl (pc0 := 5) (pc' := 15) rfl (hb hby d_pairs_5) rfl ((if0 _ _).trans (feq hc2).2) (by decide) (by decide) ?_
      show Steps p.tables e below (s₁.setTop (mkF m 15 #[.val (.int p0), .val (.int (p0 &&& (3 : Int32))), .unset] [])) _
      refine XS.iloadN X0.here hx rfl (hb hby d_pairs_15) rfl ?_
      show Steps p.tables e below (s₁.setTop (mkF m 16 #[.val (.int p0), .val (.int (p0 &&& (3 : Int32))), .unset] [(.int (p0 &&& (3 : Int32)))])) _
      refine XS.iconst X0.here hx rfl (hb hby d_pairs_16) ?_
      exact ht
    by_cases hc7 : (p0 &&& (3 : Int32)) = (1 : Int32)
    · have k8 : Go p.tables e below (s₁.setTop (mkF m 17 #[.val (.int p0), .val (.int (p0 &&& (3 : Int32))), .unset] [(.int (1 : Int32)), (.int (p0 &&& (3 : Int32)))])) (s₁.setTop (mkF m 20 #[.val (.int p0), .val (.int (p0 &&& (3 : Int32))), .unset] [])) := by
        intro t ht
        refine XS.icmpNo X0.here hx rfl (hb hby d_pairs_17) rfl (teq hc7).2 ?_
        exact ht
      obtain ⟨T9, X9, e9, st9⟩ := getS2 X0 hx hZ hown (host := "") (Or.inl (hw _ (List.mem_of_getElem? (i := 14) rfl))) Via.refl e0 S_qPLAYER (g := (mkF m 20 #[.val (.int p0), .val (.int (p0 &&& (3 : Int32))), .unset] [])) rfl (hb hby d_pairs_20)
      have k9 : Go p.tables e below (s₁.setTop (mkF m 20 #[.val (.int p0), .val (.int (p0 &&& (3 : Int32))), .unset] [])) (T9.setTop (mkF m 23 #[.val (.int p0), .val (.int (p0 &&& (3 : Int32))), .unset] [(.ref u1)])) := st9
      have k10 : Go p.tables e below (T9.setTop (mkF m 23 #[.val (.int p0), .val (.int (p0 &&& (3 : Int32))), .unset] [(.ref u1)])) (T9.setTop (mkF m 44 #[.val (.int p0), .val (.int (p0 &&& (3 : Int32))), .val (.ref u1)] [(.ref u1)])) := by
        intro t ht
        refine XS.astoreN X9.here hx rfl (hb hby d_pairs_23) rfl rfl (l' := #[.val (.int p0), .val (.int (p0 &&& (3 : Int32))), .val (.ref u1)]) rfl ?_
        show Steps p.tables e below (T9.setTop (mkF m 24 #[.val (.int p0), .val (.int (p0 &&& (3 : Int32))), .val (.ref u1)] [])) _
        refine XS.goto X9.here hx rfl (pc0 := 24) (pc' := 43) rfl (hb hby d_pairs_24) (by decide) (by decide) ?_
        show Steps p.tables e below (T9.setTop (mkF m 43 #[.val (.int p0), .val (.int (p0 &&& (3 : Int32))), .val (.ref u1)] [])) _
        refine XS.aloadN X9.here hx rfl (hb hby d_pairs_43) rfl rfl ?_
        exact ht
      obtain ⟨fs, hr, hrun, hended, hW, hsame⟩ := X9.leave (v := some (.ref u1)) (fun h => by rw [Bd.returns] at h; cases h)
      refine ⟨_, _, pre0 _ ((goT k1 (goT k6 (goT k8 (goT k9 k10)))) _ (retR X9 hx Bd.returns (hb hby d_pairs_44) hr)), hrun, hended, _, _, rfl, ?_, ⟨_, rfl⟩, hW, hsame.mono (by decide) (by decide)⟩
      show Q_pairs Z p0 u0 u1 u2 u3 h0 n0 _ T9.heap _
      rw [e9]
      exact ⟨by simp only [f_pairs, if_neg hc2, if_pos hc7], N0, rfl⟩
    · have k11 : Go p.tables e below (s₁.setTop (mkF m 17 #[.val (.int p0), .val (.int (p0 &&& (3 : Int32))), .unset] [(.int (1 : Int32)), (.int (p0 &&& (3 : Int32)))])) (s₁.setTop (mkF m 29 #[.val (.int p0), .val (.int (p0 &&& (3 : Int32))), .unset] [(.int (2 : Int32)), (.int (p0 &&& (3 : Int32)))])) := by
        intro t ht
        refine XS.icmpYes X0.here hx rfl (pc0 := 17) (pc' := 27) rfl (hb hby d_pairs_17) rfl (feq hc7).2 (by decide) (by decide) ?_
        show Steps p.tables e below (s₁.setTop (mkF m 27 #[.val (.int p0), .val (.int (p0 &&& (3 : Int32))), .unset] [])) _
        refine XS.iloadN X0.here hx rfl (hb hby d_pairs_27) rfl ?_
        show Steps p.tables e below (s₁.setTop (mkF m 28 #[.val (.int p0), .val (.int (p0 &&& (3 : Int32))), .unset] [(.int (p0 &&& (3 : Int32)))])) _
        refine XS.iconst X0.here hx rfl (hb hby d_pairs_28) ?_
        exact ht
      by_cases hc12 : (p0 &&& (3 : Int32)) = (2 : Int32)
      · have k13 : Go p.tables e below (s₁.setTop (mkF m 29 #[.val (.int p0), .val (.int (p0 &&& (3 : Int32))), .unset] [(.int (2 : Int32)), (.int (p0 &&& (3 : Int32)))])) (s₁.setTop (mkF m 32 #[.val (.int p0), .val (.int (p0 &&& (3 : Int32))), .unset] [])) := by
          intro t ht
          refine XS.icmpNo X0.here hx rfl (hb hby d_pairs_29) rfl (teq hc12).2 ?_
          exact ht
        obtain ⟨T14, X14, e14, st14⟩ := getS2 X0 hx hZ hown (host := "") (Or.inl (hw _ (List.mem_of_getElem? (i := 62) rfl))) Via.refl e0 S_qBANKER (g := (mkF m 32 #[.val (.int p0), .val (.int (p0 &&& (3 : Int32))), .unset] [])) rfl (hb hby d_pairs_32)
        have k14 : Go p.tables e below (s₁.setTop (mkF m 32 #[.val (.int p0), .val (.int (p0 &&& (3 : Int32))), .unset] [])) (T14.setTop (mkF m 35 #[.val (.int p0), .val (.int (p0 &&& (3 : Int32))), .unset] [(.ref u2)])) := st14
        have k15 : Go p.tables e below (T14.setTop (mkF m 35 #[.val (.int p0), .val (.int (p0 &&& (3 : Int32))), .unset] [(.ref u2)])) (T14.setTop (mkF m 44 #[.val (.int p0), .val (.int (p0 &&& (3 : Int32))), .val (.ref u2)] [(.ref u2)])) := by
          intro t ht
          refine XS.astoreN X14.here hx rfl (hb hby d_pairs_35) rfl rfl (l' := #[.val (.int p0), .val (.int (p0 &&& (3 : Int32))), .val (.ref u2)]) rfl ?_
          show Steps p.tables e below (T14.setTop (mkF m 36 #[.val (.int p0), .val (.int (p0 &&& (3 : Int32))), .val (.ref u2)] [])) _
          refine XS.goto X14.here hx rfl (pc0 := 36) (pc' := 43) rfl (hb hby d_pairs_36) (by decide) (by decide) ?_
          show Steps p.tables e below (T14.setTop (mkF m 43 #[.val (.int p0), .val (.int (p0 &&& (3 : Int32))), .val (.ref u2)] [])) _
          refine XS.aloadN X14.here hx rfl (hb hby d_pairs_43) rfl rfl ?_
          exact ht
        obtain ⟨fs, hr, hrun, hended, hW, hsame⟩ := X14.leave (v := some (.ref u2)) (fun h => by rw [Bd.returns] at h; cases h)
        refine ⟨_, _, pre0 _ ((goT k1 (goT k6 (goT k11 (goT k13 (goT k14 k15))))) _ (retR X14 hx Bd.returns (hb hby d_pairs_44) hr)), hrun, hended, _, _, rfl, ?_, ⟨_, rfl⟩, hW, hsame.mono (by decide) (by decide)⟩
        show Q_pairs Z p0 u0 u1 u2 u3 h0 n0 _ T14.heap _
        rw [e14]
        exact ⟨by simp only [f_pairs, if_neg hc2, if_neg hc7, if_pos hc12], N0, rfl⟩
      · have k16 : Go p.tables e below (s₁.setTop (mkF m 29 #[.val (.int p0), .val (.int (p0 &&& (3 : Int32))), .unset] [(.int (2 : Int32)), (.int (p0 &&& (3 : Int32)))])) (s₁.setTop (mkF m 39 #[.val (.int p0), .val (.int (p0 &&& (3 : Int32))), .unset] [])) := by
          intro t ht
          refine XS.icmpYes X0.here hx rfl (pc0 := 29) (pc' := 39) rfl (hb hby d_pairs_29) rfl (feq hc12).2 (by decide) (by decide) ?_
          exact ht
        obtain ⟨T17, X17, e17, st17⟩ := getS2 X0 hx hZ hown (host := "") (Or.inl (hw _ (List.mem_of_getElem? (i := 70) rfl))) Via.refl e0 S_qBOTH (g := (mkF m 39 #[.val (.int p0), .val (.int (p0 &&& (3 : Int32))), .unset] [])) rfl (hb hby d_pairs_39)
        have k17 : Go p.tables e below (s₁.setTop (mkF m 39 #[.val (.int p0), .val (.int (p0 &&& (3 : Int32))), .unset] [])) (T17.setTop (mkF m 42 #[.val (.int p0), .val (.int (p0 &&& (3 : Int32))), .unset] [(.ref u3)])) := st17
        have k18 : Go p.tables e below (T17.setTop (mkF m 42 #[.val (.int p0), .val (.int (p0 &&& (3 : Int32))), .unset] [(.ref u3)])) (T17.setTop (mkF m 44 #[.val (.int p0), .val (.int (p0 &&& (3 : Int32))), .val (.ref u3)] [(.ref u3)])) := by
          intro t ht
          refine XS.astoreN X17.here hx rfl (hb hby d_pairs_42) rfl rfl (l' := #[.val (.int p0), .val (.int (p0 &&& (3 : Int32))), .val (.ref u3)]) rfl ?_
          show Steps p.tables e below (T17.setTop (mkF m 43 #[.val (.int p0), .val (.int (p0 &&& (3 : Int32))), .val (.ref u3)] [])) _
          refine XS.aloadN X17.here hx rfl (hb hby d_pairs_43) rfl rfl ?_
          exact ht
        obtain ⟨fs, hr, hrun, hended, hW, hsame⟩ := X17.leave (v := some (.ref u3)) (fun h => by rw [Bd.returns] at h; cases h)
        refine ⟨_, _, pre0 _ ((goT k1 (goT k6 (goT k11 (goT k16 (goT k17 k18))))) _ (retR X17 hx Bd.returns (hb hby d_pairs_44) hr)), hrun, hended, _, _, rfl, ?_, ⟨_, rfl⟩, hW, hsame.mono (by decide) (by decide)⟩
        show Q_pairs Z p0 u0 u1 u2 u3 h0 n0 _ T17.heap _
        rw [e17]
        exact ⟨by simp only [f_pairs, if_neg hc2, if_neg hc7, if_neg hc12], N0, rfl⟩
theorem d_rnn_0 : decode jdk_31_method_11_code 0 = .ok (.aload_n 0, 1) := by decide +kernel
theorem d_rnn_1 : decode jdk_31_method_11_code 1 = .ok (.ifnonnull 12, 3) := by decide +kernel
theorem d_rnn_13 : decode jdk_31_method_11_code 13 = .ok (.aload_n 0, 1) := by decide +kernel
theorem d_rnn_14 : decode jdk_31_method_11_code 14 = .ok (.areturn, 1) := by decide +kernel
theorem pn_2 : plainName "java/util/Objects" = true := by first | (simp [plainName, overriddenIn]; done) | decide +kernel
theorem ef_rnn (m : MethodId) (x0 : Addr) (x1 : Addr) : entryFrame m #[(.ref x0), (.ref x1)] 2 = mkF m 0 #[.val (.ref x0), .val (.ref x1)] [] := by first | (simp [entryFrame, mkF, argsToLocals, Value.category]; done) | rfl
def Q_rnn (Z : State) (r0 : Addr) (r1 : Addr) (h0 : Heap) (n0 : Nat) (v : Option Value) (h : Heap) (L : List Loc) : Prop := v = some (.ref r0) ∧ Fr n0 L ∧ h = h0
set_option maxRecDepth 65536 in
set_option maxHeartbeats 40000000 in
theorem rm_rnn (l : Launch) (Z : State) (a0 : Array Value) (hw : ∀ d ∈ tables_1, d.before a0 Z = true) (ws : List Jvm.Cond) (r0 : Addr) (r1 : Addr) (h0 : Heap) (n0 : Nat) (Z0 : n0 ≤ h0.size) :
    MetFree l (⟨"java/util/Objects", "requireNonNull", "(Ljava/lang/Object;Ljava/lang/String;)Ljava/lang/Object;"⟩ : MethodName) (head1 (Jvm.Cond.code (⟨"java/util/Objects", "requireNonNull", "(Ljava/lang/Object;Ljava/lang/String;)Ljava/lang/Object;"⟩ : MethodName) jdk_31_method_11_code 2 (some (.object "java/lang/Object")) :: ws) ({ frames := 0, cells := 0, slots := 0, locals := 0 } : Room)) (fun a U => a = #[(.ref r0), (.ref r1)] ∧ Z.Warmed39 U.vm ∧ U.heap = h0) (fun _ _ _ _ _ => True) (fun _ U o U' => ∃ v L, o = .returned v ∧ Q_rnn Z r0 r1 h0 n0 v U'.heap L ∧ FrameEnd U o U' L ({ frames := 0, cells := 0, slots := 0, locals := 0 } : Room).cells ({ frames := 0, cells := 0, slots := 0, locals := 0 } : Room).slots) := by
  refine MetFree.of_bodySF (plainFor_of_name pn_2) hisR ?_
  intro p e s m args below meth c s₁ Bd hml0 hP hK
  obtain ⟨rfl, hZ, hh⟩ := hP
  have hx := Bd.exec
  have hby := Bd.bytes
  have hml : c.maxLocals = 2 := hml0
  have hown : s.vm.findClass "java/util/Objects" = some m.cls := findClass_of_methodNamed Bd.named
  have hnm := (name_of_methodNamed Bd.named Bd.method).1
  have X0 : Stand p l e ({ frames := 0, cells := 0, slots := 0, locals := 0 } : Room) s m #[(.ref r0), (.ref r1)] below meth c s₁ [] 0 0 := Stand.of_body Bd
  have e0 : s₁.heap = h0 := by rw [← hh, Bd.state]; rfl
  have N0 := Fr.nil n0
  have pre0 : ∀ t, Steps p.tables e below (s₁.setTop (mkF m 0 #[.val (.ref r0), .val (.ref r1)] [])) t → Steps p.tables e below (s₁.setTop (entryFrame m #[(.ref r0), (.ref r1)] 2)) t := fun t k => castTop (ef_rnn m r0 r1) k
  have k1 : Go p.tables e below (s₁.setTop (mkF m 0 #[.val (.ref r0), .val (.ref r1)] [])) (s₁.setTop (mkF m 14 #[.val (.ref r0), .val (.ref r1)] [(.ref r0)])) := by
    intro t ht
    refine XS.aloadN X0.here hx rfl (hb hby d_rnn_0) rfl rfl ?_
    show Steps p.tables e below (s₁.setTop (mkF m 1 #[.val (.ref r0), .val (.ref r1)] [(.ref r0)])) _
    refine XS.ifnonnullYes X0.here hx rfl (pc0 := 1) (pc' := 13) rfl (hb hby d_rnn_1) rfl (by decide) (by decide) ?_
    show Steps p.tables e below (s₁.setTop (mkF m 13 #[.val (.ref r0), .val (.ref r1)] [])) _
    refine XS.aloadN X0.here hx rfl (hb hby d_rnn_13) rfl rfl ?_
    exact ht
  obtain ⟨fs, hr, hrun, hended, hW, hsame⟩ := X0.leave (v := some (.ref r0)) (fun h => by rw [Bd.returns] at h; cases h)
  refine ⟨_, _, pre0 _ (k1 _ (retR X0 hx Bd.returns (hb hby d_rnn_14) hr)), hrun, hended, _, _, rfl, ?_, ⟨_, rfl⟩, hW, hsame.mono (by decide) (by decide)⟩
  show Q_rnn Z r0 r1 h0 n0 _ s₁.heap _
  rw [e0]
  exact ⟨rfl, N0, rfl⟩
theorem d_check_0 : decode prog_23_method_10_code 0 = .ok (.iload_n 0, 1) := by decide +kernel
theorem d_check_1 : decode prog_23_method_10_code 1 = .ok (.iconst 1, 1) := by decide +kernel
theorem d_check_2 : decode prog_23_method_10_code 2 = .ok (.if_icmp .ge 18, 3) := by decide +kernel
theorem d_check_20 : decode prog_23_method_10_code 20 = .ok (.return_, 1) := by decide +kernel
theorem pn_3 : plainName "ninepoint/Roads" = true := by first | (simp [plainName, overriddenIn]; done) | decide +kernel
theorem ef_check (m : MethodId) (x0 : Int32) (x1 : Addr) : entryFrame m #[(.int x0), (.ref x1)] 2 = mkF m 0 #[.val (.int x0), .val (.ref x1)] [] := by first | (simp [entryFrame, mkF, argsToLocals, Value.category]; done) | rfl
def Q_check (Z : State) (p0 : Int32) (r1 : Addr) (h0 : Heap) (n0 : Nat) (v : Option Value) (h : Heap) (L : List Loc) : Prop := v = none ∧ Fr n0 L ∧ h = h0
set_option maxRecDepth 65536 in
set_option maxHeartbeats 40000000 in
theorem rm_check (l : Launch) (Z : State) (a0 : Array Value) (hw : ∀ d ∈ tables_1, d.before a0 Z = true) (ws : List Jvm.Cond) (p0 : Int32) (r1 : Addr) (h0 : Heap) (n0 : Nat) (Z0 : n0 ≤ h0.size) (hp : ¬ (p0 < (1 : Int32))) :
    MetFree l (⟨"ninepoint/Roads", "checkNumber", "(ILjava/lang/String;)V"⟩ : MethodName) (head1 (Jvm.Cond.code (⟨"ninepoint/Roads", "checkNumber", "(ILjava/lang/String;)V"⟩ : MethodName) prog_23_method_10_code 2 none :: ws) ({ frames := 0, cells := 0, slots := 0, locals := 0 } : Room)) (fun a U => a = #[(.int p0), (.ref r1)] ∧ Z.Warmed39 U.vm ∧ U.heap = h0) (fun _ _ _ _ _ => True) (fun _ U o U' => ∃ v L, o = .returned v ∧ Q_check Z p0 r1 h0 n0 v U'.heap L ∧ FrameEnd U o U' L ({ frames := 0, cells := 0, slots := 0, locals := 0 } : Room).cells ({ frames := 0, cells := 0, slots := 0, locals := 0 } : Room).slots) := by
  refine MetFree.of_bodySF (plainFor_of_name pn_3) hisR ?_
  intro p e s m args below meth c s₁ Bd hml0 hP hK
  obtain ⟨rfl, hZ, hh⟩ := hP
  have hx := Bd.exec
  have hby := Bd.bytes
  have hml : c.maxLocals = 2 := hml0
  have hown : s.vm.findClass "ninepoint/Roads" = some m.cls := findClass_of_methodNamed Bd.named
  have hnm := (name_of_methodNamed Bd.named Bd.method).1
  have X0 : Stand p l e ({ frames := 0, cells := 0, slots := 0, locals := 0 } : Room) s m #[(.int p0), (.ref r1)] below meth c s₁ [] 0 0 := Stand.of_body Bd
  have e0 : s₁.heap = h0 := by rw [← hh, Bd.state]; rfl
  have N0 := Fr.nil n0
  have pre0 : ∀ t, Steps p.tables e below (s₁.setTop (mkF m 0 #[.val (.int p0), .val (.ref r1)] [])) t → Steps p.tables e below (s₁.setTop (entryFrame m #[(.int p0), (.ref r1)] 2)) t := fun t k => castTop (ef_check m p0 r1) k
  have k1 : Go p.tables e below (s₁.setTop (mkF m 0 #[.val (.int p0), .val (.ref r1)] [])) (s₁.setTop (mkF m 20 #[.val (.int p0), .val (.ref r1)] [])) := by
    intro t ht
    refine XS.iloadN X0.here hx rfl (hb hby d_check_0) rfl ?_
    show Steps p.tables e below (s₁.setTop (mkF m 1 #[.val (.int p0), .val (.ref r1)] [(.int p0)])) _
    refine XS.iconst X0.here hx rfl (hb hby d_check_1) ?_
    show Steps p.tables e below (s₁.setTop (mkF m 2 #[.val (.int p0), .val (.ref r1)] [(.int (1 : Int32)), (.int p0)])) _
    refine XS.icmpYes X0.here hx rfl (pc0 := 2) (pc' := 20) rfl (hb hby d_check_2) rfl (flt hp).2.1 (by decide) (by decide) ?_
    exact ht
  obtain ⟨fs, hr, hrun, hended, hW, hsame⟩ := X0.leave (v := none) (fun _ => rfl)
  refine ⟨_, _, pre0 _ (k1 _ (X0.returnOut hx Bd.returns (hb hby d_check_20) hr)), hrun, hended, _, _, rfl, ?_, ⟨_, rfl⟩, hW, hsame.mono (by decide) (by decide)⟩
  show Q_check Z p0 r1 h0 n0 _ s₁.heap _
  rw [e0]
  exact ⟨rfl, N0, rfl⟩
theorem pd_0 : parseMethodDescriptor "()V" = some ⟨[], none⟩ := by decide +kernel
theorem pd_1 : parseMethodDescriptor "(Ljava/lang/Object;Ljava/lang/String;)Ljava/lang/Object;" = some ⟨[(.object "java/lang/Object"), (.object "java/lang/String")], some (.object "java/lang/Object")⟩ := by decide +kernel
theorem pd_2 : parseMethodDescriptor "(ILjava/lang/String;)V" = some ⟨[.int, (.object "java/lang/String")], none⟩ := by decide +kernel
theorem d_bead_0 : decode prog_24_method_1_code 0 = .ok (.aload_n 0, 1) := by decide +kernel
theorem d_bead_1 : decode prog_24_method_1_code 1 = .ok (.invokespecial 3, 3) := by decide +kernel
theorem d_bead_4 : decode prog_24_method_1_code 4 = .ok (.aload_n 2, 1) := by decide +kernel
theorem d_bead_5 : decode prog_24_method_1_code 5 = .ok (.ldc 9, 2) := by decide +kernel
theorem d_bead_7 : decode prog_24_method_1_code 7 = .ok (.invokestatic 11, 3) := by decide +kernel
theorem d_bead_10 : decode prog_24_method_1_code 10 = .ok (.pop, 1) := by decide +kernel
theorem d_bead_11 : decode prog_24_method_1_code 11 = .ok (.aload 4, 2) := by decide +kernel
theorem d_bead_13 : decode prog_24_method_1_code 13 = .ok (.ldc 17, 2) := by decide +kernel
theorem d_bead_15 : decode prog_24_method_1_code 15 = .ok (.invokestatic 11, 3) := by decide +kernel
theorem d_bead_18 : decode prog_24_method_1_code 18 = .ok (.pop, 1) := by decide +kernel
theorem d_bead_19 : decode prog_24_method_1_code 19 = .ok (.iload_n 1, 1) := by decide +kernel
theorem d_bead_20 : decode prog_24_method_1_code 20 = .ok (.ldc 19, 2) := by decide +kernel
theorem d_bead_22 : decode prog_24_method_1_code 22 = .ok (.invokestatic 21, 3) := by decide +kernel
theorem d_bead_25 : decode prog_24_method_1_code 25 = .ok (.aload_n 2, 1) := by decide +kernel
theorem d_bead_26 : decode prog_24_method_1_code 26 = .ok (.getstatic 25, 3) := by decide +kernel
theorem d_bead_29 : decode prog_24_method_1_code 29 = .ok (.if_acmp .ne 13, 3) := by decide +kernel
theorem d_bead_42 : decode prog_24_method_1_code 42 = .ok (.iload_n 3, 1) := by decide +kernel
theorem d_bead_43 : decode prog_24_method_1_code 43 = .ok (.ifCond .lt 9, 3) := by decide +kernel
theorem d_bead_46 : decode prog_24_method_1_code 46 = .ok (.iload_n 3, 1) := by decide +kernel
theorem d_bead_47 : decode prog_24_method_1_code 47 = .ok (.bipush 9, 2) := by decide +kernel
theorem d_bead_49 : decode prog_24_method_1_code 49 = .ok (.if_icmp .le 17, 3) := by decide +kernel
theorem d_bead_66 : decode prog_24_method_1_code 66 = .ok (.aload_n 0, 1) := by decide +kernel
theorem d_bead_67 : decode prog_24_method_1_code 67 = .ok (.iload_n 1, 1) := by decide +kernel
theorem d_bead_68 : decode prog_24_method_1_code 68 = .ok (.putfield 42, 3) := by decide +kernel
theorem d_bead_71 : decode prog_24_method_1_code 71 = .ok (.aload_n 0, 1) := by decide +kernel
theorem d_bead_72 : decode prog_24_method_1_code 72 = .ok (.aload_n 2, 1) := by decide +kernel
theorem d_bead_73 : decode prog_24_method_1_code 73 = .ok (.putfield 47, 3) := by decide +kernel
theorem d_bead_76 : decode prog_24_method_1_code 76 = .ok (.aload_n 0, 1) := by decide +kernel
theorem d_bead_77 : decode prog_24_method_1_code 77 = .ok (.iload_n 3, 1) := by decide +kernel
theorem d_bead_78 : decode prog_24_method_1_code 78 = .ok (.putfield 49, 3) := by decide +kernel
theorem d_bead_81 : decode prog_24_method_1_code 81 = .ok (.aload_n 0, 1) := by decide +kernel
theorem d_bead_82 : decode prog_24_method_1_code 82 = .ok (.aload 4, 2) := by decide +kernel
theorem d_bead_84 : decode prog_24_method_1_code 84 = .ok (.putfield 52, 3) := by decide +kernel
theorem d_bead_87 : decode prog_24_method_1_code 87 = .ok (.return_, 1) := by decide +kernel
theorem pn_4 : plainName "ninepoint/Roads$Bead" = true := by first | (simp [plainName, overriddenIn]; done) | decide +kernel
theorem ef_bead (m : MethodId) (x0 : Addr) (x1 : Int32) (x2 : Addr) (x3 : Int32) (x4 : Addr) : entryFrame m #[(.ref x0), (.int x1), (.ref x2), (.int x3), (.ref x4)] 5 = mkF m 0 #[.val (.ref x0), .val (.int x1), .val (.ref x2), .val (.int x3), .val (.ref x4)] [] := by first | (simp [entryFrame, mkF, argsToLocals, Value.category]; done) | rfl
def Q_bead (Z : State) (r0 : Addr) (p1 : Int32) (r2 : Addr) (p3 : Int32) (r4 : Addr) (wV : Addr) (h0 : Heap) (n0 : Nat) (v : Option Value) (h : Heap) (L : List Loc) : Prop := v = none ∧ Fr n0 L ∧ Keep h0 h [r0] ∧ Exa Z h r0 "ninepoint/Roads$Bead" ∧ Fld Z h r0 "ninepoint/Roads$Bead" "round" "I" (.int p1) ∧ Fld Z h r0 "ninepoint/Roads$Bead" "outcome" "Lninepoint/Outcome;" (.ref r2) ∧ Fld Z h r0 "ninepoint/Roads$Bead" "total" "I" (.int p3) ∧ Fld Z h r0 "ninepoint/Roads$Bead" "pairs" "Lninepoint/Roads$Pairs;" (.ref r4)
set_option maxRecDepth 65536 in
set_option maxHeartbeats 40000000 in
theorem rm_bead (l : Launch) (Z : State) (a0 : Array Value) (hw : ∀ d ∈ tables_1, d.before a0 Z = true) (ws : List Jvm.Cond) (r0 : Addr) (p1 : Int32) (r2 : Addr) (p3 : Int32) (r4 : Addr) (wV : Addr) (h0 : Heap) (n0 : Nat) (Z0 : n0 ≤ h0.size) (F_round : Fld Z h0 r0 "ninepoint/Roads$Bead" "round" "I" (.int (0 : Int32))) (F_outcome : Fld Z h0 r0 "ninepoint/Roads$Bead" "outcome" "Lninepoint/Outcome;" .null) (F_total : Fld Z h0 r0 "ninepoint/Roads$Bead" "total" "I" (.int (0 : Int32))) (F_pairs : Fld Z h0 r0 "ninepoint/Roads$Bead" "pairs" "Lninepoint/Roads$Pairs;" .null) (E_r0 : Exa Z h0 r0 "ninepoint/Roads$Bead") (S_V : Sta Z h0 "ninepoint/Outcome" "VOID" "Lninepoint/Outcome;" (.ref wV)) (g_r0 : n0 ≤ r0) (hr : ¬ (p1 < (1 : Int32))) (hne : ¬ (r2 = wV)) (ht0 : ¬ (p3 < (0 : Int32))) (ht9 : ¬ ((9 : Int32) < p3)) :
    MetFree l (⟨"ninepoint/Roads$Bead", "<init>", "(ILninepoint/Outcome;ILninepoint/Roads$Pairs;)V"⟩ : MethodName) (head1 (Jvm.Cond.code (⟨"ninepoint/Roads$Bead", "<init>", "(ILninepoint/Outcome;ILninepoint/Roads$Pairs;)V"⟩ : MethodName) prog_24_method_1_code 5 none :: ws) ({ frames := 2, cells := 6, slots := 80, locals := 24 } : Room)) (fun a U => a = #[(.ref r0), (.int p1), (.ref r2), (.int p3), (.ref r4)] ∧ Z.Warmed39 U.vm ∧ U.heap = h0) (fun _ _ _ _ _ => True) (fun _ U o U' => ∃ v L, o = .returned v ∧ Q_bead Z r0 p1 r2 p3 r4 wV h0 n0 v U'.heap L ∧ ReturnedEndW U o U' L ({ frames := 2, cells := 6, slots := 80, locals := 24 } : Room).cells ({ frames := 2, cells := 6, slots := 80, locals := 24 } : Room).slots) := by
  refine MetFree.of_bodySF (plainFor_of_name pn_4) hisR ?_
  intro p e s m args below meth c s₁ Bd hml0 hP hK
  obtain ⟨rfl, hZ, hh⟩ := hP
  have hx := Bd.exec
  have hby := Bd.bytes
  have hml : c.maxLocals = 5 := hml0
  have hown : s.vm.findClass "ninepoint/Roads$Bead" = some m.cls := findClass_of_methodNamed Bd.named
  have hnm := (name_of_methodNamed Bd.named Bd.method).1
  have X0 : Stand p l e ({ frames := 2, cells := 6, slots := 80, locals := 24 } : Room) s m #[(.ref r0), (.int p1), (.ref r2), (.int p3), (.ref r4)] below meth c s₁ [] 0 0 := Stand.of_body Bd
  have e0 : s₁.heap = h0 := by rw [← hh, Bd.state]; rfl
  have N0 := Fr.nil n0
  have pre0 : ∀ t, Steps p.tables e below (s₁.setTop (mkF m 0 #[.val (.ref r0), .val (.int p1), .val (.ref r2), .val (.int p3), .val (.ref r4)] [])) t → Steps p.tables e below (s₁.setTop (entryFrame m #[(.ref r0), (.int p1), (.ref r2), (.int p3), (.ref r4)] 5)) t := fun t k => castTop (ef_bead m r0 p1 r2 p3 r4) k
  have k1 : Go p.tables e below (s₁.setTop (mkF m 0 #[.val (.ref r0), .val (.int p1), .val (.ref r2), .val (.int p3), .val (.ref r4)] [])) (s₁.setTop (mkF m 1 #[.val (.ref r0), .val (.int p1), .val (.ref r2), .val (.int p3), .val (.ref r4)] [(.ref r0)])) := by
    intro t ht
    refine XS.aloadN X0.here hx rfl (hb hby d_bead_0) rfl rfl ?_
    exact ht
  obtain ⟨_, _, ⟨T2, L2, kq2, n2⟩, -, X2, ⟨Lc2, hQ2, l2, y2, z2⟩, st2⟩ := X0.specialBack hx (y := (⟨"java/lang/Record", "<init>", "()V"⟩ : MethodName)) rfl hown (mvT hZ (hw _ (List.mem_of_getElem? (i := 20) rfl))) (mvT hZ (hw _ (List.mem_of_getElem? (i := 21) rfl))) (mvT hZ (hw _ (List.mem_of_getElem? (i := 24) rfl))) (by decide) (backOf (W := 0) (rm_recordInit l Z a0 hw [] r0 h0 n0 Z0 ) hZ (hw _ (List.mem_of_getElem? (i := 24) rfl)) (hw _ (List.mem_of_getElem? (i := 23) rfl)) (by decide) (by decide)) (g := (mkF m 1 #[.val (.ref r0), .val (.int p1), .val (.ref r2), .val (.int p3), .val (.ref r4)] [(.ref r0)])) rfl (by rw [hml]; rfl) (Steps.refl _) (a := r0) (argsL := []) (rest := []) (lenOf pd_0 rfl) rfl (by show 2 * 0 + _ ≤ _; exact Nat.le_of_eq rfl) (hb hby d_bead_1) (fun _ _ => ⟨rfl, e0, (by decide : 0 + 0 ≤ _), (by decide : 0 + 0 ≤ _)⟩)
  dsimp only [Pt.U, Pt.locs, Pt.cells, Pt.slots] at X2 l2 y2 z2 st2 hQ2
  subst l2 y2 z2
  obtain ⟨rfl, N2q, eq2⟩ := hQ2
  have N2 := Fr.app N0 N2q
  have k2 : Go p.tables e below (s₁.setTop (mkF m 1 #[.val (.ref r0), .val (.int p1), .val (.ref r2), .val (.int p3), .val (.ref r4)] [(.ref r0)])) (T2.setTop (mkF m 4 #[.val (.ref r0), .val (.int p1), .val (.ref r2), .val (.int p3), .val (.ref r4)] [])) := fun _ ht => st2.trans ht
  have k3 : Go p.tables e below (T2.setTop (mkF m 4 #[.val (.ref r0), .val (.int p1), .val (.ref r2), .val (.int p3), .val (.ref r4)] [])) (T2.setTop (mkF m 5 #[.val (.ref r0), .val (.int p1), .val (.ref r2), .val (.int p3), .val (.ref r4)] [(.ref r2)])) := by
    intro t ht
    refine XS.aloadN X2.here hx rfl (hb hby d_bead_4) rfl rfl ?_
    exact ht
  have hS0 : s.Since s.vm 0 := (State.WarmedH.refl s).since 0
  obtain ⟨c4, T4, h4, kk4, X4, e4, E4, hS4, hk4, hZ, hown, st4⟩ := ldcS (s := s) (vm0 := s.vm) X2 hx hZ hown (hw _ (List.mem_of_getElem? (i := 28) rfl)) (own_atoms hw) eq2 hS0 (Nat.zero_le _) (g := (mkF m 5 #[.val (.ref r0), .val (.int p1), .val (.ref r2), .val (.int p3), .val (.ref r4)] [(.ref r2)])) rfl (hb hby d_bead_5) (n := 28) (by decide) (by decide) (by decide) (by decide)
  have Kp4 : Keep h0 h4 [r0] := (Keep.refl h0 [r0]).ext E4
  have Z4 : n0 ≤ h4.size := Nat.le_trans Z0 E4.1
  have F_round_c_4 := F_round.ext E4
  have F_outcome_c_4 := F_outcome.ext E4
  have F_total_c_4 := F_total.ext E4
  have F_pairs_c_4 := F_pairs.ext E4
  have E_r0_c_4 := E_r0.ext E4
  have S_V_c_4 := S_V.ext E4
  have k4 : Go p.tables e below (T2.setTop (mkF m 5 #[.val (.ref r0), .val (.int p1), .val (.ref r2), .val (.int p3), .val (.ref r4)] [(.ref r2)])) (T4.setTop (mkF m 7 #[.val (.ref r0), .val (.int p1), .val (.ref r2), .val (.int p3), .val (.ref r4)] [(.ref c4), (.ref r2)])) := st4
  obtain ⟨_, _, ⟨T5, L5, kq5, n5⟩, -, X5, ⟨Lc5, hQ5, l5, y5, z5⟩, st5⟩ := Jvm.LawKit.callS X4 hx (y := (⟨"java/util/Objects", "requireNonNull", "(Ljava/lang/Object;Ljava/lang/String;)Ljava/lang/Object;"⟩ : MethodName)) hown (mvT hZ (hw _ (List.mem_of_getElem? (i := 36) rfl))) (mvT hZ (hw _ (List.mem_of_getElem? (i := 37) rfl))) (mvT hZ (hw _ (List.mem_of_getElem? (i := 38) rfl))) (mvT hZ (hw _ (List.mem_of_getElem? (i := 39) rfl))) (by decide) (backOf (W := 0) (rm_rnn l Z a0 hw [] r2 c4 h4 n0 Z4 ) hZ (hw _ (List.mem_of_getElem? (i := 39) rfl)) (hw _ (List.mem_of_getElem? (i := 38) rfl)) (by decide) (by decide)) (g := (mkF m 7 #[.val (.ref r0), .val (.int p1), .val (.ref r2), .val (.int p3), .val (.ref r4)] [(.ref c4), (.ref r2)])) rfl (by rw [hml]; rfl) (argsL := [(.ref r2), (.ref c4)]) (rest := []) (lenOf pd_1 rfl) rfl (by show 2 * 0 + _ ≤ _; exact Nat.le_of_eq rfl) (hb hby d_bead_7) (fun _ _ => ⟨rfl, e4, (by decide : 2 + 0 ≤ _), (by decide : 32 + 0 ≤ _)⟩)
  dsimp only [Pt.U, Pt.locs, Pt.cells, Pt.slots] at X5 l5 y5 z5 st5 hQ5
  subst l5 y5 z5
  obtain ⟨rfl, N5q, eq5⟩ := hQ5
  have N5 := Fr.app N2 N5q
  have k5 : Go p.tables e below (T4.setTop (mkF m 7 #[.val (.ref r0), .val (.int p1), .val (.ref r2), .val (.int p3), .val (.ref r4)] [(.ref c4), (.ref r2)])) (T5.setTop (mkF m 10 #[.val (.ref r0), .val (.int p1), .val (.ref r2), .val (.int p3), .val (.ref r4)] [(.ref r2)])) := st5
  have k6 : Go p.tables e below (T5.setTop (mkF m 10 #[.val (.ref r0), .val (.int p1), .val (.ref r2), .val (.int p3), .val (.ref r4)] [(.ref r2)])) (T5.setTop (mkF m 13 #[.val (.ref r0), .val (.int p1), .val (.ref r2), .val (.int p3), .val (.ref r4)] [(.ref r4)])) := by
    intro t ht
    refine XS.pop X5.here hx rfl (hb hby d_bead_10) rfl rfl ?_
    show Steps p.tables e below (T5.setTop (mkF m 11 #[.val (.ref r0), .val (.int p1), .val (.ref r2), .val (.int p3), .val (.ref r4)] [])) _
    refine XS.aload X5.here hx rfl (hb hby d_bead_11) rfl rfl ?_
    exact ht
  obtain ⟨c7, T7, h7, kk7, X7, e7, E7, hS7, hk7, hZ, hown, st7⟩ := ldcS (s := s) X5 hx hZ hown (hw _ (List.mem_of_getElem? (i := 40) rfl)) (own_atoms hw) eq5 hS4 hk4 (g := (mkF m 13 #[.val (.ref r0), .val (.int p1), .val (.ref r2), .val (.int p3), .val (.ref r4)] [(.ref r4)])) rfl (hb hby d_bead_13) (n := 20) (by decide) (by decide) (by decide) (by decide)
  have Kp7 : Keep h0 h7 [r0] := Kp4.ext E7
  have Z7 : n0 ≤ h7.size := Nat.le_trans Z4 E7.1
  have F_round_c_7 := F_round_c_4.ext E7
  have F_outcome_c_7 := F_outcome_c_4.ext E7
  have F_total_c_7 := F_total_c_4.ext E7
  have F_pairs_c_7 := F_pairs_c_4.ext E7
  have E_r0_c_7 := E_r0_c_4.ext E7
  have S_V_c_7 := S_V_c_4.ext E7
  have k7 : Go p.tables e below (T5.setTop (mkF m 13 #[.val (.ref r0), .val (.int p1), .val (.ref r2), .val (.int p3), .val (.ref r4)] [(.ref r4)])) (T7.setTop (mkF m 15 #[.val (.ref r0), .val (.int p1), .val (.ref r2), .val (.int p3), .val (.ref r4)] [(.ref c7), (.ref r4)])) := st7
  obtain ⟨_, _, ⟨T8, L8, kq8, n8⟩, -, X8, ⟨Lc8, hQ8, l8, y8, z8⟩, st8⟩ := Jvm.LawKit.callS X7 hx (y := (⟨"java/util/Objects", "requireNonNull", "(Ljava/lang/Object;Ljava/lang/String;)Ljava/lang/Object;"⟩ : MethodName)) hown (mvT hZ (hw _ (List.mem_of_getElem? (i := 36) rfl))) (mvT hZ (hw _ (List.mem_of_getElem? (i := 37) rfl))) (mvT hZ (hw _ (List.mem_of_getElem? (i := 38) rfl))) (mvT hZ (hw _ (List.mem_of_getElem? (i := 39) rfl))) (by decide) (backOf (W := 0) (rm_rnn l Z a0 hw [] r4 c7 h7 n0 Z7 ) hZ (hw _ (List.mem_of_getElem? (i := 39) rfl)) (hw _ (List.mem_of_getElem? (i := 38) rfl)) (by decide) (by decide)) (g := (mkF m 15 #[.val (.ref r0), .val (.int p1), .val (.ref r2), .val (.int p3), .val (.ref r4)] [(.ref c7), (.ref r4)])) rfl (by rw [hml]; rfl) (argsL := [(.ref r4), (.ref c7)]) (rest := []) (lenOf pd_1 rfl) rfl (by show 2 * 0 + _ ≤ _; exact Nat.le_of_eq rfl) (hb hby d_bead_15) (fun _ _ => ⟨rfl, e7, (by decide : 4 + 0 ≤ _), (by decide : 56 + 0 ≤ _)⟩)
  dsimp only [Pt.U, Pt.locs, Pt.cells, Pt.slots] at X8 l8 y8 z8 st8 hQ8
  subst l8 y8 z8
  obtain ⟨rfl, N8q, eq8⟩ := hQ8
  have N8 := Fr.app N5 N8q
  have k8 : Go p.tables e below (T7.setTop (mkF m 15 #[.val (.ref r0), .val (.int p1), .val (.ref r2), .val (.int p3), .val (.ref r4)] [(.ref c7), (.ref r4)])) (T8.setTop (mkF m 18 #[.val (.ref r0), .val (.int p1), .val (.ref r2), .val (.int p3), .val (.ref r4)] [(.ref r4)])) := st8
  have k9 : Go p.tables e below (T8.setTop (mkF m 18 #[.val (.ref r0), .val (.int p1), .val (.ref r2), .val (.int p3), .val (.ref r4)] [(.ref r4)])) (T8.setTop (mkF m 20 #[.val (.ref r0), .val (.int p1), .val (.ref r2), .val (.int p3), .val (.ref r4)] [(.int p1)])) := by
    intro t ht
    refine XS.pop X8.here hx rfl (hb hby d_bead_18) rfl rfl ?_
    show Steps p.tables e below (T8.setTop (mkF m 19 #[.val (.ref r0), .val (.int p1), .val (.ref r2), .val (.int p3), .val (.ref r4)] [])) _
    refine XS.iloadN X8.here hx rfl (hb hby d_bead_19) rfl ?_
    exact ht
  obtain ⟨c10, T10, h10, kk10, X10, e10, E10, hS10, hk10, hZ, hown, st10⟩ := ldcS (s := s) X8 hx hZ hown (hw _ (List.mem_of_getElem? (i := 41) rfl)) (own_atoms hw) eq8 hS7 hk7 (g := (mkF m 20 #[.val (.ref r0), .val (.int p1), .val (.ref r2), .val (.int p3), .val (.ref r4)] [(.int p1)])) rfl (hb hby d_bead_20) (n := 20) (by decide) (by decide) (by decide) (by decide)
  have Kp10 : Keep h0 h10 [r0] := Kp7.ext E10
  have Z10 : n0 ≤ h10.size := Nat.le_trans Z7 E10.1
  have F_round_c_10 := F_round_c_7.ext E10
  have F_outcome_c_10 := F_outcome_c_7.ext E10
  have F_total_c_10 := F_total_c_7.ext E10
  have F_pairs_c_10 := F_pairs_c_7.ext E10
  have E_r0_c_10 := E_r0_c_7.ext E10
  have S_V_c_10 := S_V_c_7.ext E10
  have k10 : Go p.tables e below (T8.setTop (mkF m 20 #[.val (.ref r0), .val (.int p1), .val (.ref r2), .val (.int p3), .val (.ref r4)] [(.int p1)])) (T10.setTop (mkF m 22 #[.val (.ref r0), .val (.int p1), .val (.ref r2), .val (.int p3), .val (.ref r4)] [(.ref c10), (.int p1)])) := st10
  obtain ⟨_, _, ⟨T11, L11, kq11, n11⟩, -, X11, ⟨Lc11, hQ11, l11, y11, z11⟩, st11⟩ := Jvm.RoadKit.callSN X10 hx (y := (⟨"ninepoint/Roads", "checkNumber", "(ILjava/lang/String;)V"⟩ : MethodName)) hown (own_mvM hZ (hw _ (List.mem_of_getElem? (i := 42) rfl))) (mvT hZ (hw _ (List.mem_of_getElem? (i := 43) rfl))) (mvT hZ (hw _ (List.mem_of_getElem? (i := 44) rfl))) (mvT hZ (hw _ (List.mem_of_getElem? (i := 45) rfl))) (by decide) (backOf (W := 0) (rm_check l Z a0 hw [] p1 c10 h10 n0 Z10 (hr : ¬ (p1 < (1 : Int32)))) hZ (hw _ (List.mem_of_getElem? (i := 45) rfl)) (hw _ (List.mem_of_getElem? (i := 44) rfl)) (by decide) (by decide)) (g := (mkF m 22 #[.val (.ref r0), .val (.int p1), .val (.ref r2), .val (.int p3), .val (.ref r4)] [(.ref c10), (.int p1)])) rfl (by rw [hml]; rfl) (argsL := [(.int p1), (.ref c10)]) (rest := []) (lenOf pd_2 rfl) rfl (by show 2 * 0 + _ ≤ _; exact Nat.le_of_eq rfl) (hb hby d_bead_22) (fun _ _ => ⟨rfl, e10, (by decide : 6 + 0 ≤ _), (by decide : 80 + 0 ≤ _)⟩)
  dsimp only [Pt.U, Pt.locs, Pt.cells, Pt.slots] at X11 l11 y11 z11 st11 hQ11
  subst l11 y11 z11
  obtain ⟨rfl, N11q, eq11⟩ := hQ11
  have N11 := Fr.app N8 N11q
  have k11 : Go p.tables e below (T10.setTop (mkF m 22 #[.val (.ref r0), .val (.int p1), .val (.ref r2), .val (.int p3), .val (.ref r4)] [(.ref c10), (.int p1)])) (T11.setTop (mkF m 25 #[.val (.ref r0), .val (.int p1), .val (.ref r2), .val (.int p3), .val (.ref r4)] [])) := fun _ ht => st11.trans ht
  have k12 : Go p.tables e below (T11.setTop (mkF m 25 #[.val (.ref r0), .val (.int p1), .val (.ref r2), .val (.int p3), .val (.ref r4)] [])) (T11.setTop (mkF m 26 #[.val (.ref r0), .val (.int p1), .val (.ref r2), .val (.int p3), .val (.ref r4)] [(.ref r2)])) := by
    intro t ht
    refine XS.aloadN X11.here hx rfl (hb hby d_bead_25) rfl rfl ?_
    exact ht
  obtain ⟨T13, X13, e13, st13⟩ := getS2 X11 hx hZ hown (host := "") (Or.inl (hw _ (List.mem_of_getElem? (i := 46) rfl))) Via.refl eq11 S_V_c_10 (g := (mkF m 26 #[.val (.ref r0), .val (.int p1), .val (.ref r2), .val (.int p3), .val (.ref r4)] [(.ref r2)])) rfl (hb hby d_bead_26)
  have k13 : Go p.tables e below (T11.setTop (mkF m 26 #[.val (.ref r0), .val (.int p1), .val (.ref r2), .val (.int p3), .val (.ref r4)] [(.ref r2)])) (T13.setTop (mkF m 29 #[.val (.ref r0), .val (.int p1), .val (.ref r2), .val (.int p3), .val (.ref r4)] [(.ref wV), (.ref r2)])) := st13
  have k14 : Go p.tables e below (T13.setTop (mkF m 29 #[.val (.ref r0), .val (.int p1), .val (.ref r2), .val (.int p3), .val (.ref r4)] [(.ref wV), (.ref r2)])) (T13.setTop (mkF m 68 #[.val (.ref r0), .val (.int p1), .val (.ref r2), .val (.int p3), .val (.ref r4)] [(.int p1), (.ref r0)])) := by
    intro t ht
    refine Jvm.RoadKit.acmp (g := (mkF m 29 #[.val (.ref r0), .val (.int p1), .val (.ref r2), .val (.int p3), .val (.ref r4)] [(.ref wV), (.ref r2)])) X13 hx rfl rfl rfl (pc0 := 29) (pc' := 42) (same := false) rfl (hb hby d_bead_29) rfl (decide_eq_false fun q => hne (Value.ref.inj q)) (by decide) (by decide) ?_
    show Steps p.tables e below (T13.setTop (mkF m 42 #[.val (.ref r0), .val (.int p1), .val (.ref r2), .val (.int p3), .val (.ref r4)] [])) _
    refine XS.iloadN X13.here hx rfl (hb hby d_bead_42) rfl ?_
    show Steps p.tables e below (T13.setTop (mkF m 43 #[.val (.ref r0), .val (.int p1), .val (.ref r2), .val (.int p3), .val (.ref r4)] [(.int p3)])) _
    refine XS.ifNo X13.here hx rfl (hb hby d_bead_43) rfl ((if0 _ _).trans (flt ht0).1) ?_
    show Steps p.tables e below (T13.setTop (mkF m 46 #[.val (.ref r0), .val (.int p1), .val (.ref r2), .val (.int p3), .val (.ref r4)] [])) _
    refine XS.iloadN X13.here hx rfl (hb hby d_bead_46) rfl ?_
    show Steps p.tables e below (T13.setTop (mkF m 47 #[.val (.ref r0), .val (.int p1), .val (.ref r2), .val (.int p3), .val (.ref r4)] [(.int p3)])) _
    refine XS.bipush X13.here hx rfl (hb hby d_bead_47) ?_
    show Steps p.tables e below (T13.setTop (mkF m 49 #[.val (.ref r0), .val (.int p1), .val (.ref r2), .val (.int p3), .val (.ref r4)] [(.int (9 : Int32)), (.int p3)])) _
    refine XS.icmpYes X13.here hx rfl (pc0 := 49) (pc' := 66) rfl (hb hby d_bead_49) rfl (flt ht9).2.2.2 (by decide) (by decide) ?_
    show Steps p.tables e below (T13.setTop (mkF m 66 #[.val (.ref r0), .val (.int p1), .val (.ref r2), .val (.int p3), .val (.ref r4)] [])) _
    refine XS.aloadN X13.here hx rfl (hb hby d_bead_66) rfl rfl ?_
    show Steps p.tables e below (T13.setTop (mkF m 67 #[.val (.ref r0), .val (.int p1), .val (.ref r2), .val (.int p3), .val (.ref r4)] [(.ref r0)])) _
    refine XS.iloadN X13.here hx rfl (hb hby d_bead_67) rfl ?_
    exact ht
  obtain ⟨T15, h15, X15, e15, W15, st15⟩ := putF X13 hx hZ hown (host := "") (Or.inl (hw _ (List.mem_of_getElem? (i := 48) rfl))) Via.refl e13 F_round_c_10 E_r0_c_10 (Or.inr ⟨(hw _ (List.mem_of_getElem? (i := 49) rfl)), rfl, hnm⟩) (hw _ (List.mem_of_getElem? (i := 2) rfl)) (ty := .int) (by decide) rfl rfl (g := (mkF m 68 #[.val (.ref r0), .val (.int p1), .val (.ref r2), .val (.int p3), .val (.ref r4)] [(.int p1), (.ref r0)])) rfl rfl (hb hby d_bead_68)
  have Kp15 : Keep h0 h15 [r0] := Kp10.wr W15 (Or.inl (by simp))
  have Z15 : n0 ≤ h15.size := Nat.le_trans Z10 (Keep.of_wr W15).1
  have F_round_c_15 := F_round_c_10.same W15
  have F_outcome_c_15 := F_outcome_c_10.other W15 (Or.inr (slot_ne (Or.inr (hw _ (List.mem_of_getElem? (i := 51) rfl))) (Or.inr (hw _ (List.mem_of_getElem? (i := 49) rfl))) (by decide) (t := (.object "ninepoint/Outcome")) (t' := .int) (by decide) (by decide)))
  have F_total_c_15 := F_total_c_10.other W15 (Or.inr (slot_ne (Or.inr (hw _ (List.mem_of_getElem? (i := 53) rfl))) (Or.inr (hw _ (List.mem_of_getElem? (i := 49) rfl))) (by decide) (t := .int) (t' := .int) (by decide) (by decide)))
  have F_pairs_c_15 := F_pairs_c_10.other W15 (Or.inr (slot_ne (Or.inr (hw _ (List.mem_of_getElem? (i := 55) rfl))) (Or.inr (hw _ (List.mem_of_getElem? (i := 49) rfl))) (by decide) (t := (.object "ninepoint/Roads$Pairs")) (t' := .int) (by decide) (by decide)))
  have E_r0_c_15 := E_r0_c_10.wr W15
  have S_V_c_15 := S_V_c_10.wr W15
  have k15 : Go p.tables e below (T13.setTop (mkF m 68 #[.val (.ref r0), .val (.int p1), .val (.ref r2), .val (.int p3), .val (.ref r4)] [(.int p1), (.ref r0)])) (T15.setTop (mkF m 71 #[.val (.ref r0), .val (.int p1), .val (.ref r2), .val (.int p3), .val (.ref r4)] [])) := st15
  have N15 := Fr.snoc X15 N11 g_r0
  have k16 : Go p.tables e below (T15.setTop (mkF m 71 #[.val (.ref r0), .val (.int p1), .val (.ref r2), .val (.int p3), .val (.ref r4)] [])) (T15.setTop (mkF m 73 #[.val (.ref r0), .val (.int p1), .val (.ref r2), .val (.int p3), .val (.ref r4)] [(.ref r2), (.ref r0)])) := by
    intro t ht
    refine XS.aloadN X15.here hx rfl (hb hby d_bead_71) rfl rfl ?_
    show Steps p.tables e below (T15.setTop (mkF m 72 #[.val (.ref r0), .val (.int p1), .val (.ref r2), .val (.int p3), .val (.ref r4)] [(.ref r0)])) _
    refine XS.aloadN X15.here hx rfl (hb hby d_bead_72) rfl rfl ?_
    exact ht
  obtain ⟨T17, h17, X17, e17, W17, st17⟩ := putF X15 hx hZ hown (host := "") (Or.inl (hw _ (List.mem_of_getElem? (i := 50) rfl))) Via.refl e15 F_outcome_c_15 E_r0_c_15 (Or.inr ⟨(hw _ (List.mem_of_getElem? (i := 51) rfl)), rfl, hnm⟩) (hw _ (List.mem_of_getElem? (i := 2) rfl)) (ty := (.object "ninepoint/Outcome")) (by decide) rfl rfl (g := (mkF m 73 #[.val (.ref r0), .val (.int p1), .val (.ref r2), .val (.int p3), .val (.ref r4)] [(.ref r2), (.ref r0)])) rfl rfl (hb hby d_bead_73)
  have Kp17 : Keep h0 h17 [r0] := Kp15.wr W17 (Or.inl (by simp))
  have Z17 : n0 ≤ h17.size := Nat.le_trans Z15 (Keep.of_wr W17).1
  have F_round_c_17 := F_round_c_15.other W17 (Or.inr (slot_ne (Or.inr (hw _ (List.mem_of_getElem? (i := 49) rfl))) (Or.inr (hw _ (List.mem_of_getElem? (i := 51) rfl))) (by decide) (t := .int) (t' := (.object "ninepoint/Outcome")) (by decide) (by decide)))
  have F_outcome_c_17 := F_outcome_c_15.same W17
  have F_total_c_17 := F_total_c_15.other W17 (Or.inr (slot_ne (Or.inr (hw _ (List.mem_of_getElem? (i := 53) rfl))) (Or.inr (hw _ (List.mem_of_getElem? (i := 51) rfl))) (by decide) (t := .int) (t' := (.object "ninepoint/Outcome")) (by decide) (by decide)))
  have F_pairs_c_17 := F_pairs_c_15.other W17 (Or.inr (slot_ne (Or.inr (hw _ (List.mem_of_getElem? (i := 55) rfl))) (Or.inr (hw _ (List.mem_of_getElem? (i := 51) rfl))) (by decide) (t := (.object "ninepoint/Roads$Pairs")) (t' := (.object "ninepoint/Outcome")) (by decide) (by decide)))
  have E_r0_c_17 := E_r0_c_15.wr W17
  have S_V_c_17 := S_V_c_15.wr W17
  have k17 : Go p.tables e below (T15.setTop (mkF m 73 #[.val (.ref r0), .val (.int p1), .val (.ref r2), .val (.int p3), .val (.ref r4)] [(.ref r2), (.ref r0)])) (T17.setTop (mkF m 76 #[.val (.ref r0), .val (.int p1), .val (.ref r2), .val (.int p3), .val (.ref r4)] [])) := st17
  have N17 := Fr.snoc X17 N15 g_r0
  have k18 : Go p.tables e below (T17.setTop (mkF m 76 #[.val (.ref r0), .val (.int p1), .val (.ref r2), .val (.int p3), .val (.ref r4)] [])) (T17.setTop (mkF m 78 #[.val (.ref r0), .val (.int p1), .val (.ref r2), .val (.int p3), .val (.ref r4)] [(.int p3), (.ref r0)])) := by
    intro t ht
    refine XS.aloadN X17.here hx rfl (hb hby d_bead_76) rfl rfl ?_
    show Steps p.tables e below (T17.setTop (mkF m 77 #[.val (.ref r0), .val (.int p1), .val (.ref r2), .val (.int p3), .val (.ref r4)] [(.ref r0)])) _
    refine XS.iloadN X17.here hx rfl (hb hby d_bead_77) rfl ?_
    exact ht
  obtain ⟨T19, h19, X19, e19, W19, st19⟩ := putF X17 hx hZ hown (host := "") (Or.inl (hw _ (List.mem_of_getElem? (i := 52) rfl))) Via.refl e17 F_total_c_17 E_r0_c_17 (Or.inr ⟨(hw _ (List.mem_of_getElem? (i := 53) rfl)), rfl, hnm⟩) (hw _ (List.mem_of_getElem? (i := 2) rfl)) (ty := .int) (by decide) rfl rfl (g := (mkF m 78 #[.val (.ref r0), .val (.int p1), .val (.ref r2), .val (.int p3), .val (.ref r4)] [(.int p3), (.ref r0)])) rfl rfl (hb hby d_bead_78)
  have Kp19 : Keep h0 h19 [r0] := Kp17.wr W19 (Or.inl (by simp))
  have Z19 : n0 ≤ h19.size := Nat.le_trans Z17 (Keep.of_wr W19).1
  have F_round_c_19 := F_round_c_17.other W19 (Or.inr (slot_ne (Or.inr (hw _ (List.mem_of_getElem? (i := 49) rfl))) (Or.inr (hw _ (List.mem_of_getElem? (i := 53) rfl))) (by decide) (t := .int) (t' := .int) (by decide) (by decide)))
  have F_outcome_c_19 := F_outcome_c_17.other W19 (Or.inr (slot_ne (Or.inr (hw _ (List.mem_of_getElem? (i := 51) rfl))) (Or.inr (hw _ (List.mem_of_getElem? (i := 53) rfl))) (by decide) (t := (.object "ninepoint/Outcome")) (t' := .int) (by decide) (by decide)))
  have F_total_c_19 := F_total_c_17.same W19
  have F_pairs_c_19 := F_pairs_c_17.other W19 (Or.inr (slot_ne (Or.inr (hw _ (List.mem_of_getElem? (i := 55) rfl))) (Or.inr (hw _ (List.mem_of_getElem? (i := 53) rfl))) (by decide) (t := (.object "ninepoint/Roads$Pairs")) (t' := .int) (by decide) (by decide)))
  have E_r0_c_19 := E_r0_c_17.wr W19
  have S_V_c_19 := S_V_c_17.wr W19
  have k19 : Go p.tables e below (T17.setTop (mkF m 78 #[.val (.ref r0), .val (.int p1), .val (.ref r2), .val (.int p3), .val (.ref r4)] [(.int p3), (.ref r0)])) (T19.setTop (mkF m 81 #[.val (.ref r0), .val (.int p1), .val (.ref r2), .val (.int p3), .val (.ref r4)] [])) := st19
  have N19 := Fr.snoc X19 N17 g_r0
  have k20 : Go p.tables e below (T19.setTop (mkF m 81 #[.val (.ref r0), .val (.int p1), .val (.ref r2), .val (.int p3), .val (.ref r4)] [])) (T19.setTop (mkF m 84 #[.val (.ref r0), .val (.int p1), .val (.ref r2), .val (.int p3), .val (.ref r4)] [(.ref r4), (.ref r0)])) := by
    intro t ht
    refine XS.aloadN X19.here hx rfl (hb hby d_bead_81) rfl rfl ?_
    show Steps p.tables e below (T19.setTop (mkF m 82 #[.val (.ref r0), .val (.int p1), .val (.ref r2), .val (.int p3), .val (.ref r4)] [(.ref r0)])) _
    refine XS.aload X19.here hx rfl (hb hby d_bead_82) rfl rfl ?_
    exact ht
  obtain ⟨T21, h21, X21, e21, W21, st21⟩ := putF X19 hx hZ hown (host := "") (Or.inl (hw _ (List.mem_of_getElem? (i := 54) rfl))) Via.refl e19 F_pairs_c_19 E_r0_c_19 (Or.inr ⟨(hw _ (List.mem_of_getElem? (i := 55) rfl)), rfl, hnm⟩) (hw _ (List.mem_of_getElem? (i := 2) rfl)) (ty := (.object "ninepoint/Roads$Pairs")) (by decide) rfl rfl (g := (mkF m 84 #[.val (.ref r0), .val (.int p1), .val (.ref r2), .val (.int p3), .val (.ref r4)] [(.ref r4), (.ref r0)])) rfl rfl (hb hby d_bead_84)
  have Kp21 : Keep h0 h21 [r0] := Kp19.wr W21 (Or.inl (by simp))
  have Z21 : n0 ≤ h21.size := Nat.le_trans Z19 (Keep.of_wr W21).1
  have F_round_c_21 := F_round_c_19.other W21 (Or.inr (slot_ne (Or.inr (hw _ (List.mem_of_getElem? (i := 49) rfl))) (Or.inr (hw _ (List.mem_of_getElem? (i := 55) rfl))) (by decide) (t := .int) (t' := (.object "ninepoint/Roads$Pairs")) (by decide) (by decide)))
  have F_outcome_c_21 := F_outcome_c_19.other W21 (Or.inr (slot_ne (Or.inr (hw _ (List.mem_of_getElem? (i := 51) rfl))) (Or.inr (hw _ (List.mem_of_getElem? (i := 55) rfl))) (by decide) (t := (.object "ninepoint/Outcome")) (t' := (.object "ninepoint/Roads$Pairs")) (by decide) (by decide)))
  have F_total_c_21 := F_total_c_19.other W21 (Or.inr (slot_ne (Or.inr (hw _ (List.mem_of_getElem? (i := 53) rfl))) (Or.inr (hw _ (List.mem_of_getElem? (i := 55) rfl))) (by decide) (t := .int) (t' := (.object "ninepoint/Roads$Pairs")) (by decide) (by decide)))
  have F_pairs_c_21 := F_pairs_c_19.same W21
  have E_r0_c_21 := E_r0_c_19.wr W21
  have S_V_c_21 := S_V_c_19.wr W21
  have k21 : Go p.tables e below (T19.setTop (mkF m 84 #[.val (.ref r0), .val (.int p1), .val (.ref r2), .val (.int p3), .val (.ref r4)] [(.ref r4), (.ref r0)])) (T21.setTop (mkF m 87 #[.val (.ref r0), .val (.int p1), .val (.ref r2), .val (.int p3), .val (.ref r4)] [])) := st21
  have N21 := Fr.snoc X21 N19 g_r0
  obtain ⟨fs, hr, hrun, hended, hW⟩ := X21.leaveW (s := s) hS10 (by rw [e21]; exact (Nat.le_trans (Nat.le_trans (Nat.le_trans (Nat.le_trans hk10 (Keep.of_wr W15).1) (Keep.of_wr W17).1) (Keep.of_wr W19).1) (Keep.of_wr W21).1)) (v := none) (fun _ => rfl)
  refine ⟨_, _, pre0 _ ((goT k1 (goT k2 (goT k3 (goT k4 (goT k5 (goT k6 (goT k7 (goT k8 (goT k9 (goT k10 (goT k11 (goT k12 (goT k13 (goT k14 (goT k15 (goT k16 (goT k17 (goT k18 (goT k19 (goT k20 k21)))))))))))))))))))) _ (X21.returnOut hx Bd.returns (hb hby d_bead_87) hr)), hrun, hended, _, _, rfl, ?_, hW.1, hW.2.1, hW.2.2.1, hW.2.2.2.mono (by decide) (by decide)⟩
  show Q_bead Z r0 p1 r2 p3 r4 wV h0 n0 _ T21.heap _
  rw [e21]
  exact ⟨rfl, N21, Kp21, E_r0_c_21, F_round_c_21, F_outcome_c_21, F_total_c_21, F_pairs_c_21⟩
theorem d_column_0 : decode prog_24_method_2_code 0 = .ok (.aload_n 0, 1) := by decide +kernel
theorem d_column_1 : decode prog_24_method_2_code 1 = .ok (.getfield 42, 3) := by decide +kernel
theorem d_column_4 : decode prog_24_method_2_code 4 = .ok (.iconst 1, 1) := by decide +kernel
theorem d_column_5 : decode prog_24_method_2_code 5 = .ok (.isub, 1) := by decide +kernel
theorem d_column_6 : decode prog_24_method_2_code 6 = .ok (.bipush 6, 2) := by decide +kernel
theorem d_column_8 : decode prog_24_method_2_code 8 = .ok (.idiv, 1) := by decide +kernel
theorem d_column_9 : decode prog_24_method_2_code 9 = .ok (.iconst 1, 1) := by decide +kernel
theorem d_column_10 : decode prog_24_method_2_code 10 = .ok (.iadd, 1) := by decide +kernel
theorem d_column_11 : decode prog_24_method_2_code 11 = .ok (.ireturn, 1) := by decide +kernel
theorem ef_column (m : MethodId) (x0 : Addr) : entryFrame m #[(.ref x0)] 1 = mkF m 0 #[.val (.ref x0)] [] := by first | (simp [entryFrame, mkF, argsToLocals, Value.category]; done) | rfl
def Q_column (Z : State) (r0 : Addr) (pF : Int32) (h0 : Heap) (n0 : Nat) (v : Option Value) (h : Heap) (L : List Loc) : Prop := v = some (.int (((pF - (1 : Int32)) / (6 : Int32)) + (1 : Int32))) ∧ Fr n0 L ∧ h = h0
set_option maxRecDepth 65536 in
set_option maxHeartbeats 40000000 in
theorem rm_column (l : Launch) (Z : State) (a0 : Array Value) (hw : ∀ d ∈ tables_1, d.before a0 Z = true) (ws : List Jvm.Cond) (r0 : Addr) (pF : Int32) (h0 : Heap) (n0 : Nat) (Z0 : n0 ≤ h0.size) (F_r : Fld Z h0 r0 "ninepoint/Roads$Bead" "round" "I" (.int pF)) :
    MetFree l (⟨"ninepoint/Roads$Bead", "column", "()I"⟩ : MethodName) (head1 (Jvm.Cond.code (⟨"ninepoint/Roads$Bead", "column", "()I"⟩ : MethodName) prog_24_method_2_code 1 (some .int) :: ws) ({ frames := 0, cells := 0, slots := 0, locals := 0 } : Room)) (fun a U => a = #[(.ref r0)] ∧ Z.Warmed39 U.vm ∧ U.heap = h0) (fun _ _ _ _ _ => True) (fun _ U o U' => ∃ v L, o = .returned v ∧ Q_column Z r0 pF h0 n0 v U'.heap L ∧ FrameEnd U o U' L ({ frames := 0, cells := 0, slots := 0, locals := 0 } : Room).cells ({ frames := 0, cells := 0, slots := 0, locals := 0 } : Room).slots) := by
  refine MetFree.of_bodySF (plainFor_of_name pn_4) hisR ?_
  intro p e s m args below meth c s₁ Bd hml0 hP hK
  obtain ⟨rfl, hZ, hh⟩ := hP
  have hx := Bd.exec
  have hby := Bd.bytes
  have hml : c.maxLocals = 1 := hml0
  have hown : s.vm.findClass "ninepoint/Roads$Bead" = some m.cls := findClass_of_methodNamed Bd.named
  have hnm := (name_of_methodNamed Bd.named Bd.method).1
  have X0 : Stand p l e ({ frames := 0, cells := 0, slots := 0, locals := 0 } : Room) s m #[(.ref r0)] below meth c s₁ [] 0 0 := Stand.of_body Bd
  have e0 : s₁.heap = h0 := by rw [← hh, Bd.state]; rfl
  have N0 := Fr.nil n0
  have pre0 : ∀ t, Steps p.tables e below (s₁.setTop (mkF m 0 #[.val (.ref r0)] [])) t → Steps p.tables e below (s₁.setTop (entryFrame m #[(.ref r0)] 1)) t := fun t k => castTop (ef_column m r0) k
  have k1 : Go p.tables e below (s₁.setTop (mkF m 0 #[.val (.ref r0)] [])) (s₁.setTop (mkF m 1 #[.val (.ref r0)] [(.ref r0)])) := by
    intro t ht
    refine XS.aloadN X0.here hx rfl (hb hby d_column_0) rfl rfl ?_
    exact ht
  obtain ⟨T2, X2, e2, st2⟩ := getF X0 hx hZ hown (host := "") (Or.inl (hw _ (List.mem_of_getElem? (i := 48) rfl))) Via.refl e0 F_r (g := (mkF m 1 #[.val (.ref r0)] [(.ref r0)])) rfl rfl (hb hby d_column_1)
  have k2 : Go p.tables e below (s₁.setTop (mkF m 1 #[.val (.ref r0)] [(.ref r0)])) (T2.setTop (mkF m 4 #[.val (.ref r0)] [(.int pF)])) := st2
  have k3 : Go p.tables e below (T2.setTop (mkF m 4 #[.val (.ref r0)] [(.int pF)])) (T2.setTop (mkF m 11 #[.val (.ref r0)] [(.int (((pF - (1 : Int32)) / (6 : Int32)) + (1 : Int32)))])) := by
    intro t ht
    refine XS.iconst X2.here hx rfl (hb hby d_column_4) ?_
    show Steps p.tables e below (T2.setTop (mkF m 5 #[.val (.ref r0)] [(.int (1 : Int32)), (.int pF)])) _
    refine XS.isub X2.here hx rfl (hb hby d_column_5) rfl ?_
    show Steps p.tables e below (T2.setTop (mkF m 6 #[.val (.ref r0)] [(.int (pF - (1 : Int32)))])) _
    refine XS.bipush X2.here hx rfl (hb hby d_column_6) ?_
    show Steps p.tables e below (T2.setTop (mkF m 8 #[.val (.ref r0)] [(.int (6 : Int32)), (.int (pF - (1 : Int32)))])) _
    refine XS.idiv X2.here hx rfl (hb hby d_column_8) rfl (by decide : ¬ ((6 : Int32) = 0)) ?_
    show Steps p.tables e below (T2.setTop (mkF m 9 #[.val (.ref r0)] [(.int ((pF - (1 : Int32)) / (6 : Int32)))])) _
    refine XS.iconst X2.here hx rfl (hb hby d_column_9) ?_
    show Steps p.tables e below (T2.setTop (mkF m 10 #[.val (.ref r0)] [(.int (1 : Int32)), (.int ((pF - (1 : Int32)) / (6 : Int32)))])) _
    refine XS.iadd X2.here hx rfl (hb hby d_column_10) rfl ?_
    exact ht
  obtain ⟨fs, hr, hrun, hended, hW, hsame⟩ := X2.leave (v := some (.int (((pF - (1 : Int32)) / (6 : Int32)) + (1 : Int32)))) (fun h => by rw [Bd.returns] at h; cases h)
  refine ⟨_, _, pre0 _ ((goT k1 (goT k2 k3)) _ (retI X2 hx Bd.returns (hb hby d_column_11) hr)), hrun, hended, _, _, rfl, ?_, ⟨_, rfl⟩, hW, hsame.mono (by decide) (by decide)⟩
  show Q_column Z r0 pF h0 n0 _ T2.heap _
  rw [e2]
  exact ⟨rfl, N0, rfl⟩
theorem own_bm {n : Int} (h1 : -2 ^ 31 ≤ n) (h2 : n < 2 ^ 31) : n.bmod (2 ^ 32) = n := by
  rw [Int.bmod_def]; omega
theorem own_bm64 {n : Int} (h1 : -2 ^ 63 ≤ n) (h2 : n < 2 ^ 63) : n.bmod (2 ^ 64) = n := by
  rw [Int.bmod_def]; omega
theorem own_round (x : Int32) : ¬ ((if (x &&& (2147483647 : Int32)) = (0 : Int32) then (1 : Int32) else (x &&& (2147483647 : Int32))) < (1 : Int32)) := by
  split
  · decide
  · rename_i h
    rw [own_and x 2147483647 31 (by decide) (by decide)] at h ⊢
    have hn : x.toBitVec.toNat % 2 ^ 31 < 2 ^ 31 := Nat.mod_lt _ (by decide)
    rw [← Int32.toInt_inj, own_ofNat hn] at h
    rw [Int32.lt_iff_toInt_lt, own_ofNat hn]
    have c0 : (0 : Int32).toInt = 0 := rfl
    have c1 : (1 : Int32).toInt = 1 := rfl
    omega
theorem own_tot (x : Int32) : ¬ (((x &&& (2147483647 : Int32)) - (((x &&& (2147483647 : Int32)) / (10 : Int32)) * (10 : Int32))) < (0 : Int32)) ∧ ¬ ((9 : Int32) < ((x &&& (2147483647 : Int32)) - (((x &&& (2147483647 : Int32)) / (10 : Int32)) * (10 : Int32)))) := by
  have hn : x.toBitVec.toNat % 2 ^ 31 < 2 ^ 31 := Nat.mod_lt _ (by decide)
  have e : (x &&& (2147483647 : Int32)) - (((x &&& (2147483647 : Int32)) / (10 : Int32)) * (10 : Int32)) = Int32.ofNat (x.toBitVec.toNat % 2 ^ 31 % 10) := by
    rw [own_and x 2147483647 31 (by decide) (by decide)]; exact own_remE hn (by decide) (by decide)
  have h10 : x.toBitVec.toNat % 2 ^ 31 % 10 < 10 := Nat.mod_lt _ (by decide)
  rw [e, Int32.lt_iff_toInt_lt, Int32.lt_iff_toInt_lt, own_ofNat (by omega)]
  have c0 : (0 : Int32).toInt = 0 := rfl
  have c1 : (9 : Int32).toInt = 9 := rfl
  omega
theorem own_col (y : Int32) (h : ¬ y < (1 : Int32)) : ((((y - (1 : Int32)) / (6 : Int32)) + (1 : Int32)).toInt64).toInt = (y.toInt - 1) / 6 + 1 := by
  rw [Int32.lt_iff_toInt_lt] at h
  have c1 : (1 : Int32).toInt = 1 := rfl
  have c6 : (6 : Int32).toInt = 6 := rfl
  have hy := y.toInt_lt
  rw [c1] at h
  have e1 : (y - (1 : Int32)).toInt = y.toInt - 1 := by rw [Int32.toInt_sub, c1, own_bm (by omega) (by omega)]
  have e2 : ((y - (1 : Int32)) / (6 : Int32)).toInt = (y.toInt - 1) / 6 := by
    rw [Int32.toInt_div, e1, c6, Int.tdiv_eq_ediv_of_nonneg (by omega), own_bm (by omega) (by omega)]
  rw [Int32.toInt_toInt64, Int32.toInt_add, e2, c1, own_bm (by omega) (by omega)]
theorem own_lawA (y : Int32) (h : ¬ y < (1 : Int32)) : ¬ ((y.toInt64) < (((6 : Int64) * (((((y - (1 : Int32)) / (6 : Int32)) + (1 : Int32)).toInt64) - (1 : Int64))) + (1 : Int64))) := by
  have e := own_col y h
  rw [Int32.lt_iff_toInt_lt] at h
  have c1 : (1 : Int32).toInt = 1 := rfl
  have d1 : (1 : Int64).toInt = 1 := rfl
  have d6 : (6 : Int64).toInt = 6 := rfl
  have hy := y.toInt_lt
  rw [c1] at h
  generalize (((y - (1 : Int32)) / (6 : Int32)) + (1 : Int32)).toInt64 = c at *
  have e1 : (c - 1).toInt = c.toInt - 1 := by rw [Int64.toInt_sub, d1, own_bm64 (by omega) (by omega)]
  have e2 : ((6 : Int64) * (c - 1)).toInt = 6 * (c.toInt - 1) := by rw [Int64.toInt_mul, e1, d6, own_bm64 (by omega) (by omega)]
  rw [Int64.lt_iff_toInt_lt, Int64.toInt_add, e2, d1, own_bm64 (by omega) (by omega), Int32.toInt_toInt64]
  omega
theorem own_lawB (y : Int32) (h : ¬ y < (1 : Int32)) : ¬ (((6 : Int64) * ((((y - (1 : Int32)) / (6 : Int32)) + (1 : Int32)).toInt64)) < (y.toInt64)) := by
  have e := own_col y h
  rw [Int32.lt_iff_toInt_lt] at h
  have c1 : (1 : Int32).toInt = 1 := rfl
  have d6 : (6 : Int64).toInt = 6 := rfl
  have hy := y.toInt_lt
  rw [c1] at h
  generalize (((y - (1 : Int32)) / (6 : Int32)) + (1 : Int32)).toInt64 = c at *
  rw [Int64.lt_iff_toInt_lt, Int64.toInt_mul, d6, own_bm64 (by omega) (by omega), Int32.toInt_toInt64]
  omega
theorem own_ne3 {P B T v p} (h1 : ¬ (P = v)) (h2 : ¬ (B = v)) (h3 : ¬ (T = v)) : ¬ ((f_outcome p P B T) = v) := by
  unfold f_outcome
  split
  · exact h1
  · split
    · exact h2
    · exact h3
theorem pd_3 : parseMethodDescriptor "(I)Lninepoint/Outcome;" = some ⟨[.int], some (.object "ninepoint/Outcome")⟩ := by decide +kernel
theorem pd_4 : parseMethodDescriptor "(I)Lninepoint/Roads$Pairs;" = some ⟨[.int], some (.object "ninepoint/Roads$Pairs")⟩ := by decide +kernel
theorem pd_5 : parseMethodDescriptor "(ILninepoint/Outcome;ILninepoint/Roads$Pairs;)V" = some ⟨[.int, (.object "ninepoint/Outcome"), .int, (.object "ninepoint/Roads$Pairs")], none⟩ := by decide +kernel
theorem pd_6 : parseMethodDescriptor "()I" = some ⟨[], some .int⟩ := by decide +kernel
theorem ef_law (m : MethodId) (x0 : Int32) (x1 : Int32) (x2 : Int32) (x3 : Int32) : entryFrame m #[(.int x0), (.int x1), (.int x2), (.int x3)] maxLocals = mkF m 0 #[.val (.int x0), .val (.int x1), .val (.int x2), .val (.int x3), .unset, .unset, .unset, .unset, .unset, .unset, .unset] [] := by first | (simp [entryFrame, mkF, argsToLocals, Value.category, maxLocals]; done) | rfl
def Q_law (Z : State) (p0 : Int32) (p1 : Int32) (p2 : Int32) (p3 : Int32) (wP : Addr) (wB : Addr) (wT : Addr) (u0 : Addr) (u1 : Addr) (u2 : Addr) (u3 : Addr) (wV : Addr) (h0 : Heap) (n0 : Nat) (v : Option Value) (h : Heap) (L : List Loc) : Prop := v = some (.int (1 : Int32)) ∧ Fr n0 L
set_option maxRecDepth 65536 in
set_option maxHeartbeats 40000000 in
theorem rm_law (l : Launch) (Z : State) (a0 : Array Value) (hw : ∀ d ∈ tables_1, d.before a0 Z = true) (ws : List Jvm.Cond) (p0 : Int32) (p1 : Int32) (p2 : Int32) (p3 : Int32) (wP : Addr) (wB : Addr) (wT : Addr) (u0 : Addr) (u1 : Addr) (u2 : Addr) (u3 : Addr) (wV : Addr) (h0 : Heap) (n0 : Nat) (Z0 : n0 ≤ h0.size) (S_PLAYER : Sta Z h0 "ninepoint/Outcome" "PLAYER" "Lninepoint/Outcome;" (.ref wP)) (S_BANKER : Sta Z h0 "ninepoint/Outcome" "BANKER" "Lninepoint/Outcome;" (.ref wB)) (S_TIE : Sta Z h0 "ninepoint/Outcome" "TIE" "Lninepoint/Outcome;" (.ref wT)) (S_qNONE : Sta Z h0 "ninepoint/Roads$Pairs" "NONE" "Lninepoint/Roads$Pairs;" (.ref u0)) (S_qPLAYER : Sta Z h0 "ninepoint/Roads$Pairs" "PLAYER" "Lninepoint/Roads$Pairs;" (.ref u1)) (S_qBANKER : Sta Z h0 "ninepoint/Roads$Pairs" "BANKER" "Lninepoint/Roads$Pairs;" (.ref u2)) (S_qBOTH : Sta Z h0 "ninepoint/Roads$Pairs" "BOTH" "Lninepoint/Roads$Pairs;" (.ref u3)) (S_V : Sta Z h0 "ninepoint/Outcome" "VOID" "Lninepoint/Outcome;" (.ref wV)) (hP : ¬ (wP = wV)) (hB : ¬ (wB = wV)) (hT : ¬ (wT = wV)) :
    MetFree l x (head1 (Jvm.Cond.code x code maxLocals ret :: ws) room_1) (fun a U => a = #[(.int p0), (.int p1), (.int p2), (.int p3)] ∧ Z.Warmed39 U.vm ∧ U.heap = h0) (fun _ _ _ _ _ => True) (fun _ U o U' => ∃ v L, o = .returned v ∧ Q_law Z p0 p1 p2 p3 wP wB wT u0 u1 u2 u3 wV h0 n0 v U'.heap L ∧ ReturnedEndW U o U' L room_1.cells room_1.slots) := by
  refine MetFree.of_bodySF (plainFor_of_name pn_1) hisR ?_
  intro p e s m args below meth c s₁ Bd hml0 hP hK
  obtain ⟨rfl, hZ, hh⟩ := hP
  have hx := Bd.exec
  have hby := Bd.bytes
  have hml : c.maxLocals = 11 := hml0
  have hown : s.vm.findClass "ninepoint/BeadColumnPinLaw" = some m.cls := findClass_of_methodNamed Bd.named
  have hnm := (name_of_methodNamed Bd.named Bd.method).1
  have X0 : Stand p l e room_1 s m #[(.int p0), (.int p1), (.int p2), (.int p3)] below meth c s₁ [] 0 0 := Stand.of_body Bd
  have e0 : s₁.heap = h0 := by rw [← hh, Bd.state]; rfl
  have N0 := Fr.nil n0
  have pre0 : ∀ t, Steps p.tables e below (s₁.setTop (mkF m 0 #[.val (.int p0), .val (.int p1), .val (.int p2), .val (.int p3), .unset, .unset, .unset, .unset, .unset, .unset, .unset] [])) t → Steps p.tables e below (s₁.setTop (entryFrame m #[(.int p0), (.int p1), (.int p2), (.int p3)] maxLocals)) t := fun t k => castTop (ef_law m p0 p1 p2 p3) k
  have k1 : Go p.tables e below (s₁.setTop (mkF m 0 #[.val (.int p0), .val (.int p1), .val (.int p2), .val (.int p3), .unset, .unset, .unset, .unset, .unset, .unset, .unset] [])) (s₁.setTop (mkF m 8 #[.val (.int p0), .val (.int p1), .val (.int p2), .val (.int p3), .val (.int (p0 &&& (2147483647 : Int32))), .unset, .unset, .unset, .unset, .unset, .unset] [(.int (p0 &&& (2147483647 : Int32)))])) := by
    intro t ht
    refine XS.iloadN X0.here hx rfl (hb hby at_0) rfl ?_
    show Steps p.tables e below (s₁.setTop (mkF m 1 #[.val (.int p0), .val (.int p1), .val (.int p2), .val (.int p3), .unset, .unset, .unset, .unset, .unset, .unset, .unset] [(.int p0)])) _
    refine X0.ldcInt hx hown (mvT hZ (hw _ (List.mem_of_getElem? (i := 0) rfl))) (g := (mkF m 1 #[.val (.int p0), .val (.int p1), .val (.int p2), .val (.int p3), .unset, .unset, .unset, .unset, .unset, .unset, .unset] [(.int p0)])) rfl (hb hby at_1) _ ?_
    show Steps p.tables e below (s₁.setTop (mkF m 3 #[.val (.int p0), .val (.int p1), .val (.int p2), .val (.int p3), .unset, .unset, .unset, .unset, .unset, .unset, .unset] [(.int (2147483647 : Int32)), (.int p0)])) _
    refine XS.iand X0.here hx rfl (hb hby at_3) rfl ?_
    show Steps p.tables e below (s₁.setTop (mkF m 4 #[.val (.int p0), .val (.int p1), .val (.int p2), .val (.int p3), .unset, .unset, .unset, .unset, .unset, .unset, .unset] [(.int (p0 &&& (2147483647 : Int32)))])) _
    refine XS.istore X0.here hx rfl (hb hby at_4) rfl (l' := #[.val (.int p0), .val (.int p1), .val (.int p2), .val (.int p3), .val (.int (p0 &&& (2147483647 : Int32))), .unset, .unset, .unset, .unset, .unset, .unset]) rfl ?_
    show Steps p.tables e below (s₁.setTop (mkF m 6 #[.val (.int p0), .val (.int p1), .val (.int p2), .val (.int p3), .val (.int (p0 &&& (2147483647 : Int32))), .unset, .unset, .unset, .unset, .unset, .unset] [])) _
    refine XS.iload X0.here hx rfl (hb hby at_6) rfl ?_
    exact ht
  have k2 : Go p.tables e below (s₁.setTop (mkF m 8 #[.val (.int p0), .val (.int p1), .val (.int p2), .val (.int p3), .val (.int (p0 &&& (2147483647 : Int32))), .unset, .unset, .unset, .unset, .unset, .unset] [(.int (p0 &&& (2147483647 : Int32)))])) (s₁.setTop (mkF m 14 #[.val (.int p0), .val (.int p1), .val (.int p2), .val (.int p3), .val (.int (if (p0 &&& (2147483647 : Int32)) = (0 : Int32) then (1 : Int32) else (p0 &&& (2147483647 : Int32)))), .unset, .unset, .unset, .unset, .unset, .unset] [])) := by
    by_cases hc3 : (p0 &&& (2147483647 : Int32)) = (0 : Int32)
    · have k4 : Go p.tables e below (s₁.setTop (mkF m 8 #[.val (.int p0), .val (.int p1), .val (.int p2), .val (.int p3), .val (.int (p0 &&& (2147483647 : Int32))), .unset, .unset, .unset, .unset, .unset, .unset] [(.int (p0 &&& (2147483647 : Int32)))])) (s₁.setTop (mkF m 14 #[.val (.int p0), .val (.int p1), .val (.int p2), .val (.int p3), .val (.int (1 : Int32)), .unset, .unset, .unset, .unset, .unset, .unset] [])) := by
        intro t ht
        refine XS.ifNo X0.here hx rfl (hb hby at_8) rfl ((if0 _ _).trans (teq hc3).2) ?_
        show Steps p.tables e below (s₁.setTop (mkF m 11 #[.val (.int p0), .val (.int p1), .val (.int p2), .val (.int p3), .val (.int (p0 &&& (2147483647 : Int32))), .unset, .unset, .unset, .unset, .unset, .unset] [])) _
        refine XS.iconst X0.here hx rfl (hb hby at_11) ?_
        show Steps p.tables e below (s₁.setTop (mkF m 12 #[.val (.int p0), .val (.int p1), .val (.int p2), .val (.int p3), .val (.int (p0 &&& (2147483647 : Int32))), .unset, .unset, .unset, .unset, .unset, .unset] [(.int (1 : Int32))])) _
        refine XS.istore X0.here hx rfl (hb hby at_12) rfl (l' := #[.val (.int p0), .val (.int p1), .val (.int p2), .val (.int p3), .val (.int (1 : Int32)), .unset, .unset, .unset, .unset, .unset, .unset]) rfl ?_
        exact ht
      have kk := k4
      simpa only [if_pos hc3] using kk
    · have k5 : Go p.tables e below (s₁.setTop (mkF m 8 #[.val (.int p0), .val (.int p1), .val (.int p2), .val (.int p3), .val (.int (p0 &&& (2147483647 : Int32))), .unset, .unset, .unset, .unset, .unset, .unset] [(.int (p0 &&& (2147483647 : Int32)))])) (s₁.setTop (mkF m 14 #[.val (.int p0), .val (.int p1), .val (.int p2), .val (.int p3), .val (.int (p0 &&& (2147483647 : Int32))), .unset, .unset, .unset, .unset, .unset, .unset] [])) := by
        intro t ht
        refine XS.ifYes X0.here hx rfl (pc0 := 8) (pc' := 14) rfl (hb hby at_8) rfl ((if0 _ _).trans (feq hc3).2) (by decide) (by decide) ?_
        exact ht
      have kk := k5
      simpa only [if_neg hc3] using kk
  obtain ⟨y6, ey6⟩ : ∃ z : Int32, z = (if (p0 &&& (2147483647 : Int32)) = (0 : Int32) then (1 : Int32) else (p0 &&& (2147483647 : Int32))) := ⟨_, rfl⟩
  have k7 : Go p.tables e below (s₁.setTop (mkF m 14 #[.val (.int p0), .val (.int p1), .val (.int p2), .val (.int p3), .val (.int (if (p0 &&& (2147483647 : Int32)) = (0 : Int32) then (1 : Int32) else (p0 &&& (2147483647 : Int32)))), .unset, .unset, .unset, .unset, .unset, .unset] [])) (s₁.setTop (mkF m 14 #[.val (.int p0), .val (.int p1), .val (.int p2), .val (.int p3), .val (.int y6), .unset, .unset, .unset, .unset, .unset, .unset] [])) := by rw [ey6]; exact fun _ h => h
  have hrd := own_round p0
  rw [← ey6] at hrd
  have k8 : Go p.tables e below (s₁.setTop (mkF m 14 #[.val (.int p0), .val (.int p1), .val (.int p2), .val (.int p3), .val (.int y6), .unset, .unset, .unset, .unset, .unset, .unset] [])) (s₁.setTop (mkF m 23 #[.val (.int p0), .val (.int p1), .val (.int p2), .val (.int p3), .val (.int y6), .val (.int ((p2 &&& (2147483647 : Int32)) - (((p2 &&& (2147483647 : Int32)) / (10 : Int32)) * (10 : Int32)))), .unset, .unset, .unset, .unset, .unset] [])) := by
    intro t ht
    refine XS.iloadN X0.here hx rfl (hb hby at_14) rfl ?_
    show Steps p.tables e below (s₁.setTop (mkF m 15 #[.val (.int p0), .val (.int p1), .val (.int p2), .val (.int p3), .val (.int y6), .unset, .unset, .unset, .unset, .unset, .unset] [(.int p2)])) _
    refine X0.ldcInt hx hown (mvT hZ (hw _ (List.mem_of_getElem? (i := 0) rfl))) (g := (mkF m 15 #[.val (.int p0), .val (.int p1), .val (.int p2), .val (.int p3), .val (.int y6), .unset, .unset, .unset, .unset, .unset, .unset] [(.int p2)])) rfl (hb hby at_15) _ ?_
    show Steps p.tables e below (s₁.setTop (mkF m 17 #[.val (.int p0), .val (.int p1), .val (.int p2), .val (.int p3), .val (.int y6), .unset, .unset, .unset, .unset, .unset, .unset] [(.int (2147483647 : Int32)), (.int p2)])) _
    refine XS.iand X0.here hx rfl (hb hby at_17) rfl ?_
    show Steps p.tables e below (s₁.setTop (mkF m 18 #[.val (.int p0), .val (.int p1), .val (.int p2), .val (.int p3), .val (.int y6), .unset, .unset, .unset, .unset, .unset, .unset] [(.int (p2 &&& (2147483647 : Int32)))])) _
    refine XS.bipush X0.here hx rfl (hb hby at_18) ?_
    show Steps p.tables e below (s₁.setTop (mkF m 20 #[.val (.int p0), .val (.int p1), .val (.int p2), .val (.int p3), .val (.int y6), .unset, .unset, .unset, .unset, .unset, .unset] [(.int (10 : Int32)), (.int (p2 &&& (2147483647 : Int32)))])) _
    refine XS.irem X0.here hx rfl (hb hby at_20) rfl (by decide : ¬ ((10 : Int32) = 0)) ?_
    show Steps p.tables e below (s₁.setTop (mkF m 21 #[.val (.int p0), .val (.int p1), .val (.int p2), .val (.int p3), .val (.int y6), .unset, .unset, .unset, .unset, .unset, .unset] [(.int ((p2 &&& (2147483647 : Int32)) - (((p2 &&& (2147483647 : Int32)) / (10 : Int32)) * (10 : Int32))))])) _
    refine XS.istore X0.here hx rfl (hb hby at_21) rfl (l' := #[.val (.int p0), .val (.int p1), .val (.int p2), .val (.int p3), .val (.int y6), .val (.int ((p2 &&& (2147483647 : Int32)) - (((p2 &&& (2147483647 : Int32)) / (10 : Int32)) * (10 : Int32)))), .unset, .unset, .unset, .unset, .unset]) rfl ?_
    exact ht
  obtain ⟨T9, h9, X9, e9, E9, A9, D9, -, st9⟩ := newO X0 hx hZ hown (hw _ (List.mem_of_getElem? (i := 1) rfl)) (hw _ (List.mem_of_getElem? (i := 2) rfl)) (hw _ (List.mem_of_getElem? (i := 3) rfl)) e0 (g := (mkF m 23 #[.val (.int p0), .val (.int p1), .val (.int p2), .val (.int p3), .val (.int y6), .val (.int ((p2 &&& (2147483647 : Int32)) - (((p2 &&& (2147483647 : Int32)) / (10 : Int32)) * (10 : Int32)))), .unset, .unset, .unset, .unset, .unset] [])) rfl (hb hby at_23) (by decide) (by decide)
  obtain ⟨b9, g9⟩ : ∃ z, z = h0.size := ⟨_, rfl⟩
  rw [← g9] at A9 D9 st9
  have g_b9 : n0 ≤ b9 := Nat.le_trans Z0 (Nat.le_of_eq g9.symm)
  have sz_b9 : h0.size ≤ b9 := Nat.le_trans (Keep.refl h0 []).1 (Nat.le_of_eq g9.symm)
  have Kp9 : Keep h0 h9 [] := (Keep.refl h0 []).ext E9
  have Z9 : n0 ≤ h9.size := Nat.le_trans Z0 E9.1
  have S_PLAYER_c_9 := S_PLAYER.ext E9
  have S_BANKER_c_9 := S_BANKER.ext E9
  have S_TIE_c_9 := S_TIE.ext E9
  have S_qNONE_c_9 := S_qNONE.ext E9
  have S_qPLAYER_c_9 := S_qPLAYER.ext E9
  have S_qBANKER_c_9 := S_qBANKER.ext E9
  have S_qBOTH_c_9 := S_qBOTH.ext E9
  have S_V_c_9 := S_V.ext E9
  have F_round_b9 : Fld Z h9 b9 "ninepoint/Roads$Bead" "round" "I" (.int (0 : Int32)) := D9 (Or.inr (hw _ (List.mem_of_getElem? (i := 49) rfl))) (ty := .int) (by decide)
  have F_outcome_b9 : Fld Z h9 b9 "ninepoint/Roads$Bead" "outcome" "Lninepoint/Outcome;" .null := D9 (Or.inr (hw _ (List.mem_of_getElem? (i := 51) rfl))) (ty := (.object "ninepoint/Outcome")) (by decide)
  have F_total_b9 : Fld Z h9 b9 "ninepoint/Roads$Bead" "total" "I" (.int (0 : Int32)) := D9 (Or.inr (hw _ (List.mem_of_getElem? (i := 53) rfl))) (ty := .int) (by decide)
  have F_pairs_b9 : Fld Z h9 b9 "ninepoint/Roads$Bead" "pairs" "Lninepoint/Roads$Pairs;" .null := D9 (Or.inr (hw _ (List.mem_of_getElem? (i := 55) rfl))) (ty := (.object "ninepoint/Roads$Pairs")) (by decide)
  have k9 : Go p.tables e below (s₁.setTop (mkF m 23 #[.val (.int p0), .val (.int p1), .val (.int p2), .val (.int p3), .val (.int y6), .val (.int ((p2 &&& (2147483647 : Int32)) - (((p2 &&& (2147483647 : Int32)) / (10 : Int32)) * (10 : Int32)))), .unset, .unset, .unset, .unset, .unset] [])) (T9.setTop (mkF m 26 #[.val (.int p0), .val (.int p1), .val (.int p2), .val (.int p3), .val (.int y6), .val (.int ((p2 &&& (2147483647 : Int32)) - (((p2 &&& (2147483647 : Int32)) / (10 : Int32)) * (10 : Int32)))), .unset, .unset, .unset, .unset, .unset] [(.ref b9)])) := st9
  have k10 : Go p.tables e below (T9.setTop (mkF m 26 #[.val (.int p0), .val (.int p1), .val (.int p2), .val (.int p3), .val (.int y6), .val (.int ((p2 &&& (2147483647 : Int32)) - (((p2 &&& (2147483647 : Int32)) / (10 : Int32)) * (10 : Int32)))), .unset, .unset, .unset, .unset, .unset] [(.ref b9)])) (T9.setTop (mkF m 30 #[.val (.int p0), .val (.int p1), .val (.int p2), .val (.int p3), .val (.int y6), .val (.int ((p2 &&& (2147483647 : Int32)) - (((p2 &&& (2147483647 : Int32)) / (10 : Int32)) * (10 : Int32)))), .unset, .unset, .unset, .unset, .unset] [(.int p1), (.int y6), (.ref b9), (.ref b9)])) := by
    intro t ht
    refine XS.dup X9.here hx rfl (hb hby at_26) rfl rfl ?_
    show Steps p.tables e below (T9.setTop (mkF m 27 #[.val (.int p0), .val (.int p1), .val (.int p2), .val (.int p3), .val (.int y6), .val (.int ((p2 &&& (2147483647 : Int32)) - (((p2 &&& (2147483647 : Int32)) / (10 : Int32)) * (10 : Int32)))), .unset, .unset, .unset, .unset, .unset] [(.ref b9), (.ref b9)])) _
    refine XS.iload X9.here hx rfl (hb hby at_27) rfl ?_
    show Steps p.tables e below (T9.setTop (mkF m 29 #[.val (.int p0), .val (.int p1), .val (.int p2), .val (.int p3), .val (.int y6), .val (.int ((p2 &&& (2147483647 : Int32)) - (((p2 &&& (2147483647 : Int32)) / (10 : Int32)) * (10 : Int32)))), .unset, .unset, .unset, .unset, .unset] [(.int y6), (.ref b9), (.ref b9)])) _
    refine XS.iloadN X9.here hx rfl (hb hby at_29) rfl ?_
    exact ht
  obtain ⟨_, _, ⟨T11, L11, kq11, n11⟩, -, X11, ⟨Lc11, hQ11, l11, y11, z11⟩, st11⟩ := Jvm.LawKit.callS X9 hx (y := (⟨"ninepoint/BeadColumnPinLaw", "outcomeOf", "(I)Lninepoint/Outcome;"⟩ : MethodName)) hown (mvT hZ (hw _ (List.mem_of_getElem? (i := 4) rfl))) (mvT hZ (hw _ (List.mem_of_getElem? (i := 5) rfl))) (mvT hZ (hw _ (List.mem_of_getElem? (i := 6) rfl))) (mvT hZ (hw _ (List.mem_of_getElem? (i := 7) rfl))) (by decide) (backOf (W := 3) (rm_outcome l Z a0 hw [] p1 wP wB wT h9 n0 Z9 S_PLAYER_c_9 S_BANKER_c_9 S_TIE_c_9) hZ (hw _ (List.mem_of_getElem? (i := 7) rfl)) (hw _ (List.mem_of_getElem? (i := 6) rfl)) (by decide) (by decide)) (g := (mkF m 30 #[.val (.int p0), .val (.int p1), .val (.int p2), .val (.int p3), .val (.int y6), .val (.int ((p2 &&& (2147483647 : Int32)) - (((p2 &&& (2147483647 : Int32)) / (10 : Int32)) * (10 : Int32)))), .unset, .unset, .unset, .unset, .unset] [(.int p1), (.int y6), (.ref b9), (.ref b9)])) rfl (by rw [hml]; rfl) (argsL := [(.int p1)]) (rest := [(.int y6), (.ref b9), (.ref b9)]) (lenOf pd_3 rfl) rfl (by show 2 * 0 + _ ≤ _; exact Nat.le_of_eq rfl) (hb hby at_30) (fun _ _ => ⟨rfl, e9, (by decide : 1 + 0 ≤ _), (by decide : 4 + 0 ≤ _)⟩)
  dsimp only [Pt.U, Pt.locs, Pt.cells, Pt.slots] at X11 l11 y11 z11 st11 hQ11
  subst l11 y11 z11
  obtain ⟨rfl, N11q, eq11⟩ := hQ11
  have N11 := Fr.app N0 N11q
  have k11 : Go p.tables e below (T9.setTop (mkF m 30 #[.val (.int p0), .val (.int p1), .val (.int p2), .val (.int p3), .val (.int y6), .val (.int ((p2 &&& (2147483647 : Int32)) - (((p2 &&& (2147483647 : Int32)) / (10 : Int32)) * (10 : Int32)))), .unset, .unset, .unset, .unset, .unset] [(.int p1), (.int y6), (.ref b9), (.ref b9)])) (T11.setTop (mkF m 33 #[.val (.int p0), .val (.int p1), .val (.int p2), .val (.int p3), .val (.int y6), .val (.int ((p2 &&& (2147483647 : Int32)) - (((p2 &&& (2147483647 : Int32)) / (10 : Int32)) * (10 : Int32)))), .unset, .unset, .unset, .unset, .unset] [(.ref (f_outcome p1 wP wB wT)), (.int y6), (.ref b9), (.ref b9)])) := st11
  have k12 : Go p.tables e below (T11.setTop (mkF m 33 #[.val (.int p0), .val (.int p1), .val (.int p2), .val (.int p3), .val (.int y6), .val (.int ((p2 &&& (2147483647 : Int32)) - (((p2 &&& (2147483647 : Int32)) / (10 : Int32)) * (10 : Int32)))), .unset, .unset, .unset, .unset, .unset] [(.ref (f_outcome p1 wP wB wT)), (.int y6), (.ref b9), (.ref b9)])) (T11.setTop (mkF m 36 #[.val (.int p0), .val (.int p1), .val (.int p2), .val (.int p3), .val (.int y6), .val (.int ((p2 &&& (2147483647 : Int32)) - (((p2 &&& (2147483647 : Int32)) / (10 : Int32)) * (10 : Int32)))), .unset, .unset, .unset, .unset, .unset] [(.int p3), (.int ((p2 &&& (2147483647 : Int32)) - (((p2 &&& (2147483647 : Int32)) / (10 : Int32)) * (10 : Int32)))), (.ref (f_outcome p1 wP wB wT)), (.int y6), (.ref b9), (.ref b9)])) := by
    intro t ht
    refine XS.iload X11.here hx rfl (hb hby at_33) rfl ?_
    show Steps p.tables e below (T11.setTop (mkF m 35 #[.val (.int p0), .val (.int p1), .val (.int p2), .val (.int p3), .val (.int y6), .val (.int ((p2 &&& (2147483647 : Int32)) - (((p2 &&& (2147483647 : Int32)) / (10 : Int32)) * (10 : Int32)))), .unset, .unset, .unset, .unset, .unset] [(.int ((p2 &&& (2147483647 : Int32)) - (((p2 &&& (2147483647 : Int32)) / (10 : Int32)) * (10 : Int32)))), (.ref (f_outcome p1 wP wB wT)), (.int y6), (.ref b9), (.ref b9)])) _
    refine XS.iloadN X11.here hx rfl (hb hby at_35) rfl ?_
    exact ht
  obtain ⟨_, _, ⟨T13, L13, kq13, n13⟩, -, X13, ⟨Lc13, hQ13, l13, y13, z13⟩, st13⟩ := Jvm.LawKit.callS X11 hx (y := (⟨"ninepoint/BeadColumnPinLaw", "pairsOf", "(I)Lninepoint/Roads$Pairs;"⟩ : MethodName)) hown (mvT hZ (hw _ (List.mem_of_getElem? (i := 11) rfl))) (mvT hZ (hw _ (List.mem_of_getElem? (i := 12) rfl))) (mvT hZ (hw _ (List.mem_of_getElem? (i := 6) rfl))) (mvT hZ (hw _ (List.mem_of_getElem? (i := 13) rfl))) (by decide) (backOf (W := 5) (rm_pairs l Z a0 hw [] p3 u0 u1 u2 u3 h9 n0 Z9 S_qNONE_c_9 S_qPLAYER_c_9 S_qBANKER_c_9 S_qBOTH_c_9) hZ (hw _ (List.mem_of_getElem? (i := 13) rfl)) (hw _ (List.mem_of_getElem? (i := 6) rfl)) (by decide) (by decide)) (g := (mkF m 36 #[.val (.int p0), .val (.int p1), .val (.int p2), .val (.int p3), .val (.int y6), .val (.int ((p2 &&& (2147483647 : Int32)) - (((p2 &&& (2147483647 : Int32)) / (10 : Int32)) * (10 : Int32)))), .unset, .unset, .unset, .unset, .unset] [(.int p3), (.int ((p2 &&& (2147483647 : Int32)) - (((p2 &&& (2147483647 : Int32)) / (10 : Int32)) * (10 : Int32)))), (.ref (f_outcome p1 wP wB wT)), (.int y6), (.ref b9), (.ref b9)])) rfl (by rw [hml]; rfl) (argsL := [(.int p3)]) (rest := [(.int ((p2 &&& (2147483647 : Int32)) - (((p2 &&& (2147483647 : Int32)) / (10 : Int32)) * (10 : Int32)))), (.ref (f_outcome p1 wP wB wT)), (.int y6), (.ref b9), (.ref b9)]) (lenOf pd_4 rfl) rfl (by show 2 * 0 + _ ≤ _; exact Nat.le_of_eq rfl) (hb hby at_36) (fun _ _ => ⟨rfl, eq11, (by decide : 1 + 0 ≤ _), (by decide : 4 + 0 ≤ _)⟩)
  dsimp only [Pt.U, Pt.locs, Pt.cells, Pt.slots] at X13 l13 y13 z13 st13 hQ13
  subst l13 y13 z13
  obtain ⟨rfl, N13q, eq13⟩ := hQ13
  have N13 := Fr.app N11 N13q
  have k13 : Go p.tables e below (T11.setTop (mkF m 36 #[.val (.int p0), .val (.int p1), .val (.int p2), .val (.int p3), .val (.int y6), .val (.int ((p2 &&& (2147483647 : Int32)) - (((p2 &&& (2147483647 : Int32)) / (10 : Int32)) * (10 : Int32)))), .unset, .unset, .unset, .unset, .unset] [(.int p3), (.int ((p2 &&& (2147483647 : Int32)) - (((p2 &&& (2147483647 : Int32)) / (10 : Int32)) * (10 : Int32)))), (.ref (f_outcome p1 wP wB wT)), (.int y6), (.ref b9), (.ref b9)])) (T13.setTop (mkF m 39 #[.val (.int p0), .val (.int p1), .val (.int p2), .val (.int p3), .val (.int y6), .val (.int ((p2 &&& (2147483647 : Int32)) - (((p2 &&& (2147483647 : Int32)) / (10 : Int32)) * (10 : Int32)))), .unset, .unset, .unset, .unset, .unset] [(.ref (f_pairs p3 u0 u1 u2 u3)), (.int ((p2 &&& (2147483647 : Int32)) - (((p2 &&& (2147483647 : Int32)) / (10 : Int32)) * (10 : Int32)))), (.ref (f_outcome p1 wP wB wT)), (.int y6), (.ref b9), (.ref b9)])) := st13
  have hS0 : s.Since s.vm 0 := (State.WarmedH.refl s).since 0
  obtain ⟨_, _, ⟨T14, L14, kq14, n14⟩, -, X14, hSn14, hgr14, ⟨Lc14, hQ14, l14, y14, z14⟩, st14⟩ := X13.specialBackS hx (y := (⟨"ninepoint/Roads$Bead", "<init>", "(ILninepoint/Outcome;ILninepoint/Roads$Pairs;)V"⟩ : MethodName)) rfl hown (mvT hZ (hw _ (List.mem_of_getElem? (i := 17) rfl))) (mvT hZ (hw _ (List.mem_of_getElem? (i := 18) rfl))) (mvT hZ (hw _ (List.mem_of_getElem? (i := 19) rfl))) (by decide) (backOfS (W := 1) (rm_bead l Z a0 hw [] b9 y6 (f_outcome p1 wP wB wT) ((p2 &&& (2147483647 : Int32)) - (((p2 &&& (2147483647 : Int32)) / (10 : Int32)) * (10 : Int32))) (f_pairs p3 u0 u1 u2 u3) wV h9 n0 Z9 F_round_b9 F_outcome_b9 F_total_b9 F_pairs_b9 A9 S_V_c_9 g_b9 (hrd : ¬ (y6 < (1 : Int32))) (own_ne3 hP hB hT : ¬ ((f_outcome p1 wP wB wT) = wV)) ((own_tot _).1 : ¬ (((p2 &&& (2147483647 : Int32)) - (((p2 &&& (2147483647 : Int32)) / (10 : Int32)) * (10 : Int32))) < (0 : Int32))) ((own_tot _).2 : ¬ ((9 : Int32) < ((p2 &&& (2147483647 : Int32)) - (((p2 &&& (2147483647 : Int32)) / (10 : Int32)) * (10 : Int32)))))) hZ (hw _ (List.mem_of_getElem? (i := 19) rfl)) (hw _ (List.mem_of_getElem? (i := 3) rfl)) (by decide) (by decide)) (g := (mkF m 39 #[.val (.int p0), .val (.int p1), .val (.int p2), .val (.int p3), .val (.int y6), .val (.int ((p2 &&& (2147483647 : Int32)) - (((p2 &&& (2147483647 : Int32)) / (10 : Int32)) * (10 : Int32)))), .unset, .unset, .unset, .unset, .unset] [(.ref (f_pairs p3 u0 u1 u2 u3)), (.int ((p2 &&& (2147483647 : Int32)) - (((p2 &&& (2147483647 : Int32)) / (10 : Int32)) * (10 : Int32)))), (.ref (f_outcome p1 wP wB wT)), (.int y6), (.ref b9), (.ref b9)])) rfl (by rw [hml]; rfl) (Steps.refl _) (a := b9) (argsL := [(.int y6), (.ref (f_outcome p1 wP wB wT)), (.int ((p2 &&& (2147483647 : Int32)) - (((p2 &&& (2147483647 : Int32)) / (10 : Int32)) * (10 : Int32)))), (.ref (f_pairs p3 u0 u1 u2 u3))]) (rest := [(.ref b9)]) (lenOf pd_5 rfl) rfl (by show 2 * 0 + _ ≤ _; exact Nat.le_of_eq rfl) (hb hby at_39) (fun _ _ => ⟨rfl, eq13, (by decide : 1 + 6 ≤ _), (by decide : 4 + 80 ≤ _)⟩)
  dsimp only [Pt.U, Pt.locs, Pt.cells, Pt.slots] at X14 l14 y14 z14 st14 hQ14 hSn14 hgr14
  subst l14 y14 z14
  obtain ⟨X14, hS14, hZ, hown⟩ := rebS (s := s) (vm0 := s.vm) hS0 (Nat.zero_le _) X14 hSn14 (Nat.zero_le _) hZ hown
  obtain ⟨rfl, N14q, K14, Fq14_0, Fq14_1, Fq14_2, Fq14_3, Fq14_4⟩ := hQ14
  have N14 := Fr.app N13 N14q
  have k14 : Go p.tables e below (T13.setTop (mkF m 39 #[.val (.int p0), .val (.int p1), .val (.int p2), .val (.int p3), .val (.int y6), .val (.int ((p2 &&& (2147483647 : Int32)) - (((p2 &&& (2147483647 : Int32)) / (10 : Int32)) * (10 : Int32)))), .unset, .unset, .unset, .unset, .unset] [(.ref (f_pairs p3 u0 u1 u2 u3)), (.int ((p2 &&& (2147483647 : Int32)) - (((p2 &&& (2147483647 : Int32)) / (10 : Int32)) * (10 : Int32)))), (.ref (f_outcome p1 wP wB wT)), (.int y6), (.ref b9), (.ref b9)])) (T14.setTop (mkF m 42 #[.val (.int p0), .val (.int p1), .val (.int p2), .val (.int p3), .val (.int y6), .val (.int ((p2 &&& (2147483647 : Int32)) - (((p2 &&& (2147483647 : Int32)) / (10 : Int32)) * (10 : Int32)))), .unset, .unset, .unset, .unset, .unset] [(.ref b9)])) := fun _ ht => st14.trans ht
  have Kp14 : Keep h0 T14.heap [] := Kp9.trans K14 (allS (Or.inr sz_b9) all0)
  have Z14 : n0 ≤ T14.heap.size := Nat.le_trans Z9 K14.1
  have S_PLAYER_c_14 := own_sta_keep S_PLAYER_c_9 A9 K14
  have S_BANKER_c_14 := own_sta_keep S_BANKER_c_9 A9 K14
  have S_TIE_c_14 := own_sta_keep S_TIE_c_9 A9 K14
  have S_qNONE_c_14 := own_sta_keep S_qNONE_c_9 A9 K14
  have S_qPLAYER_c_14 := own_sta_keep S_qPLAYER_c_9 A9 K14
  have S_qBANKER_c_14 := own_sta_keep S_qBANKER_c_9 A9 K14
  have S_qBOTH_c_14 := own_sta_keep S_qBOTH_c_9 A9 K14
  have S_V_c_14 := own_sta_keep S_V_c_9 A9 K14
  have A9_c_14 := A9.keep K14
  have k15 : Go p.tables e below (T14.setTop (mkF m 42 #[.val (.int p0), .val (.int p1), .val (.int p2), .val (.int p3), .val (.int y6), .val (.int ((p2 &&& (2147483647 : Int32)) - (((p2 &&& (2147483647 : Int32)) / (10 : Int32)) * (10 : Int32)))), .unset, .unset, .unset, .unset, .unset] [(.ref b9)])) (T14.setTop (mkF m 46 #[.val (.int p0), .val (.int p1), .val (.int p2), .val (.int p3), .val (.int y6), .val (.int ((p2 &&& (2147483647 : Int32)) - (((p2 &&& (2147483647 : Int32)) / (10 : Int32)) * (10 : Int32)))), .val (.ref b9), .unset, .unset, .unset, .unset] [(.ref b9)])) := by
    intro t ht
    refine XS.astore X14.here hx rfl (hb hby at_42) rfl rfl (l' := #[.val (.int p0), .val (.int p1), .val (.int p2), .val (.int p3), .val (.int y6), .val (.int ((p2 &&& (2147483647 : Int32)) - (((p2 &&& (2147483647 : Int32)) / (10 : Int32)) * (10 : Int32)))), .val (.ref b9), .unset, .unset, .unset, .unset]) rfl ?_
    show Steps p.tables e below (T14.setTop (mkF m 44 #[.val (.int p0), .val (.int p1), .val (.int p2), .val (.int p3), .val (.int y6), .val (.int ((p2 &&& (2147483647 : Int32)) - (((p2 &&& (2147483647 : Int32)) / (10 : Int32)) * (10 : Int32)))), .val (.ref b9), .unset, .unset, .unset, .unset] [])) _
    refine XS.aload X14.here hx rfl (hb hby at_44) rfl rfl ?_
    exact ht
  obtain ⟨cq16, kq16, q16a, q16b, q16c⟩ := isOf hZ rfl Fq14_0
  obtain ⟨_, _, ⟨T16, L16, kq16, n16⟩, -, X16, ⟨Lc16, hQ16, l16, y16, z16⟩, st16⟩ := X14.virtualBack hx (y := (⟨"ninepoint/Roads$Bead", "column", "()I"⟩ : MethodName)) (z := (⟨"ninepoint/Roads$Bead", "column", "()I"⟩ : MethodName)) hown (mvT hZ (hw _ (List.mem_of_getElem? (i := 56) rfl))) (mvT hZ (hw _ (List.mem_of_getElem? (i := 57) rfl))) (notFace_of_selects (args := #[]) (mvT hZ (hw _ (List.mem_of_getElem? (i := 59) rfl)))) (mvT hZ (hw _ (List.mem_of_getElem? (i := 59) rfl))) (mvT hZ (hw _ (List.mem_of_getElem? (i := 58) rfl))) (by decide) (backOf (W := 0) (rm_column l Z a0 hw [] b9 y6 T14.heap n0 Z14 Fq14_1) hZ (hw _ (List.mem_of_getElem? (i := 60) rfl)) (hw _ (List.mem_of_getElem? (i := 3) rfl)) (by decide) (by decide)) q16a q16c (g := (mkF m 46 #[.val (.int p0), .val (.int p1), .val (.int p2), .val (.int p3), .val (.int y6), .val (.int ((p2 &&& (2147483647 : Int32)) - (((p2 &&& (2147483647 : Int32)) / (10 : Int32)) * (10 : Int32)))), .val (.ref b9), .unset, .unset, .unset, .unset] [(.ref b9)])) rfl (by rw [hml]; rfl) (Steps.refl _) (argsL := []) (rest := []) (lenOf pd_6 rfl) rfl (by show 2 * 0 + _ ≤ _; exact Nat.le_of_eq rfl) (hb hby at_46) (fun _ _ => ⟨rfl, rfl, (by decide : 7 + 0 ≤ _), (by decide : 84 + 0 ≤ _)⟩)
  dsimp only [Pt.U, Pt.locs, Pt.cells, Pt.slots] at X16 l16 y16 z16 st16 hQ16
  subst l16 y16 z16
  obtain ⟨rfl, N16q, eq16⟩ := hQ16
  have N16 := Fr.app N14 N16q
  have k16 : Go p.tables e below (T14.setTop (mkF m 46 #[.val (.int p0), .val (.int p1), .val (.int p2), .val (.int p3), .val (.int y6), .val (.int ((p2 &&& (2147483647 : Int32)) - (((p2 &&& (2147483647 : Int32)) / (10 : Int32)) * (10 : Int32)))), .val (.ref b9), .unset, .unset, .unset, .unset] [(.ref b9)])) (T16.setTop (mkF m 49 #[.val (.int p0), .val (.int p1), .val (.int p2), .val (.int p3), .val (.int y6), .val (.int ((p2 &&& (2147483647 : Int32)) - (((p2 &&& (2147483647 : Int32)) / (10 : Int32)) * (10 : Int32)))), .val (.ref b9), .unset, .unset, .unset, .unset] [(.int (((y6 - (1 : Int32)) / (6 : Int32)) + (1 : Int32)))])) := fun _ ht => st16.trans ht
  have k17 : Go p.tables e below (T16.setTop (mkF m 49 #[.val (.int p0), .val (.int p1), .val (.int p2), .val (.int p3), .val (.int y6), .val (.int ((p2 &&& (2147483647 : Int32)) - (((p2 &&& (2147483647 : Int32)) / (10 : Int32)) * (10 : Int32)))), .val (.ref b9), .unset, .unset, .unset, .unset] [(.int (((y6 - (1 : Int32)) / (6 : Int32)) + (1 : Int32)))])) (T16.setTop (mkF m 90 #[.val (.int p0), .val (.int p1), .val (.int p2), .val (.int p3), .val (.int y6), .val (.int ((p2 &&& (2147483647 : Int32)) - (((p2 &&& (2147483647 : Int32)) / (10 : Int32)) * (10 : Int32)))), .val (.ref b9), .val (.long ((((y6 - (1 : Int32)) / (6 : Int32)) + (1 : Int32)).toInt64)), .second, .val (.long (y6.toInt64)), .second] [(.int (1 : Int32))])) := by
    intro t ht
    refine XS.i2l X16.here hx rfl (hb hby at_49) rfl ?_
    show Steps p.tables e below (T16.setTop (mkF m 50 #[.val (.int p0), .val (.int p1), .val (.int p2), .val (.int p3), .val (.int y6), .val (.int ((p2 &&& (2147483647 : Int32)) - (((p2 &&& (2147483647 : Int32)) / (10 : Int32)) * (10 : Int32)))), .val (.ref b9), .unset, .unset, .unset, .unset] [(.long ((((y6 - (1 : Int32)) / (6 : Int32)) + (1 : Int32)).toInt64))])) _
    refine XS.lstore X16.here hx rfl (hb hby at_50) rfl (l' := #[.val (.int p0), .val (.int p1), .val (.int p2), .val (.int p3), .val (.int y6), .val (.int ((p2 &&& (2147483647 : Int32)) - (((p2 &&& (2147483647 : Int32)) / (10 : Int32)) * (10 : Int32)))), .val (.ref b9), .val (.long ((((y6 - (1 : Int32)) / (6 : Int32)) + (1 : Int32)).toInt64)), .second, .unset, .unset]) rfl ?_
    show Steps p.tables e below (T16.setTop (mkF m 52 #[.val (.int p0), .val (.int p1), .val (.int p2), .val (.int p3), .val (.int y6), .val (.int ((p2 &&& (2147483647 : Int32)) - (((p2 &&& (2147483647 : Int32)) / (10 : Int32)) * (10 : Int32)))), .val (.ref b9), .val (.long ((((y6 - (1 : Int32)) / (6 : Int32)) + (1 : Int32)).toInt64)), .second, .unset, .unset] [])) _
    refine XS.iload X16.here hx rfl (hb hby at_52) rfl ?_
    show Steps p.tables e below (T16.setTop (mkF m 54 #[.val (.int p0), .val (.int p1), .val (.int p2), .val (.int p3), .val (.int y6), .val (.int ((p2 &&& (2147483647 : Int32)) - (((p2 &&& (2147483647 : Int32)) / (10 : Int32)) * (10 : Int32)))), .val (.ref b9), .val (.long ((((y6 - (1 : Int32)) / (6 : Int32)) + (1 : Int32)).toInt64)), .second, .unset, .unset] [(.int y6)])) _
    refine XS.i2l X16.here hx rfl (hb hby at_54) rfl ?_
    show Steps p.tables e below (T16.setTop (mkF m 55 #[.val (.int p0), .val (.int p1), .val (.int p2), .val (.int p3), .val (.int y6), .val (.int ((p2 &&& (2147483647 : Int32)) - (((p2 &&& (2147483647 : Int32)) / (10 : Int32)) * (10 : Int32)))), .val (.ref b9), .val (.long ((((y6 - (1 : Int32)) / (6 : Int32)) + (1 : Int32)).toInt64)), .second, .unset, .unset] [(.long (y6.toInt64))])) _
    refine XS.lstore X16.here hx rfl (hb hby at_55) rfl (l' := #[.val (.int p0), .val (.int p1), .val (.int p2), .val (.int p3), .val (.int y6), .val (.int ((p2 &&& (2147483647 : Int32)) - (((p2 &&& (2147483647 : Int32)) / (10 : Int32)) * (10 : Int32)))), .val (.ref b9), .val (.long ((((y6 - (1 : Int32)) / (6 : Int32)) + (1 : Int32)).toInt64)), .second, .val (.long (y6.toInt64)), .second]) rfl ?_
    show Steps p.tables e below (T16.setTop (mkF m 57 #[.val (.int p0), .val (.int p1), .val (.int p2), .val (.int p3), .val (.int y6), .val (.int ((p2 &&& (2147483647 : Int32)) - (((p2 &&& (2147483647 : Int32)) / (10 : Int32)) * (10 : Int32)))), .val (.ref b9), .val (.long ((((y6 - (1 : Int32)) / (6 : Int32)) + (1 : Int32)).toInt64)), .second, .val (.long (y6.toInt64)), .second] [])) _
    refine X16.ldc2Long hx hown (mvT hZ (hw _ (List.mem_of_getElem? (i := 61) rfl))) (g := (mkF m 57 #[.val (.int p0), .val (.int p1), .val (.int p2), .val (.int p3), .val (.int y6), .val (.int ((p2 &&& (2147483647 : Int32)) - (((p2 &&& (2147483647 : Int32)) / (10 : Int32)) * (10 : Int32)))), .val (.ref b9), .val (.long ((((y6 - (1 : Int32)) / (6 : Int32)) + (1 : Int32)).toInt64)), .second, .val (.long (y6.toInt64)), .second] [])) rfl (hb hby at_57) _ ?_
    show Steps p.tables e below (T16.setTop (mkF m 60 #[.val (.int p0), .val (.int p1), .val (.int p2), .val (.int p3), .val (.int y6), .val (.int ((p2 &&& (2147483647 : Int32)) - (((p2 &&& (2147483647 : Int32)) / (10 : Int32)) * (10 : Int32)))), .val (.ref b9), .val (.long ((((y6 - (1 : Int32)) / (6 : Int32)) + (1 : Int32)).toInt64)), .second, .val (.long (y6.toInt64)), .second] [(.long (6 : Int64))])) _
    refine XS.lload X16.here hx rfl (hb hby at_60) rfl ?_
    show Steps p.tables e below (T16.setTop (mkF m 62 #[.val (.int p0), .val (.int p1), .val (.int p2), .val (.int p3), .val (.int y6), .val (.int ((p2 &&& (2147483647 : Int32)) - (((p2 &&& (2147483647 : Int32)) / (10 : Int32)) * (10 : Int32)))), .val (.ref b9), .val (.long ((((y6 - (1 : Int32)) / (6 : Int32)) + (1 : Int32)).toInt64)), .second, .val (.long (y6.toInt64)), .second] [(.long ((((y6 - (1 : Int32)) / (6 : Int32)) + (1 : Int32)).toInt64)), (.long (6 : Int64))])) _
    refine XS.lconst X16.here hx rfl (hb hby at_62) ?_
    show Steps p.tables e below (T16.setTop (mkF m 63 #[.val (.int p0), .val (.int p1), .val (.int p2), .val (.int p3), .val (.int y6), .val (.int ((p2 &&& (2147483647 : Int32)) - (((p2 &&& (2147483647 : Int32)) / (10 : Int32)) * (10 : Int32)))), .val (.ref b9), .val (.long ((((y6 - (1 : Int32)) / (6 : Int32)) + (1 : Int32)).toInt64)), .second, .val (.long (y6.toInt64)), .second] [(.long (1 : Int64)), (.long ((((y6 - (1 : Int32)) / (6 : Int32)) + (1 : Int32)).toInt64)), (.long (6 : Int64))])) _
    refine XS.lsub X16.here hx rfl (hb hby at_63) rfl ?_
    show Steps p.tables e below (T16.setTop (mkF m 64 #[.val (.int p0), .val (.int p1), .val (.int p2), .val (.int p3), .val (.int y6), .val (.int ((p2 &&& (2147483647 : Int32)) - (((p2 &&& (2147483647 : Int32)) / (10 : Int32)) * (10 : Int32)))), .val (.ref b9), .val (.long ((((y6 - (1 : Int32)) / (6 : Int32)) + (1 : Int32)).toInt64)), .second, .val (.long (y6.toInt64)), .second] [(.long (((((y6 - (1 : Int32)) / (6 : Int32)) + (1 : Int32)).toInt64) - (1 : Int64))), (.long (6 : Int64))])) _
    refine XS.lmul X16.here hx rfl (hb hby at_64) rfl ?_
    show Steps p.tables e below (T16.setTop (mkF m 65 #[.val (.int p0), .val (.int p1), .val (.int p2), .val (.int p3), .val (.int y6), .val (.int ((p2 &&& (2147483647 : Int32)) - (((p2 &&& (2147483647 : Int32)) / (10 : Int32)) * (10 : Int32)))), .val (.ref b9), .val (.long ((((y6 - (1 : Int32)) / (6 : Int32)) + (1 : Int32)).toInt64)), .second, .val (.long (y6.toInt64)), .second] [(.long ((6 : Int64) * (((((y6 - (1 : Int32)) / (6 : Int32)) + (1 : Int32)).toInt64) - (1 : Int64))))])) _
    refine XS.lconst X16.here hx rfl (hb hby at_65) ?_
    show Steps p.tables e below (T16.setTop (mkF m 66 #[.val (.int p0), .val (.int p1), .val (.int p2), .val (.int p3), .val (.int y6), .val (.int ((p2 &&& (2147483647 : Int32)) - (((p2 &&& (2147483647 : Int32)) / (10 : Int32)) * (10 : Int32)))), .val (.ref b9), .val (.long ((((y6 - (1 : Int32)) / (6 : Int32)) + (1 : Int32)).toInt64)), .second, .val (.long (y6.toInt64)), .second] [(.long (1 : Int64)), (.long ((6 : Int64) * (((((y6 - (1 : Int32)) / (6 : Int32)) + (1 : Int32)).toInt64) - (1 : Int64))))])) _
    refine XS.ladd X16.here hx rfl (hb hby at_66) rfl ?_
    show Steps p.tables e below (T16.setTop (mkF m 67 #[.val (.int p0), .val (.int p1), .val (.int p2), .val (.int p3), .val (.int y6), .val (.int ((p2 &&& (2147483647 : Int32)) - (((p2 &&& (2147483647 : Int32)) / (10 : Int32)) * (10 : Int32)))), .val (.ref b9), .val (.long ((((y6 - (1 : Int32)) / (6 : Int32)) + (1 : Int32)).toInt64)), .second, .val (.long (y6.toInt64)), .second] [(.long (((6 : Int64) * (((((y6 - (1 : Int32)) / (6 : Int32)) + (1 : Int32)).toInt64) - (1 : Int64))) + (1 : Int64)))])) _
    refine XS.lload X16.here hx rfl (hb hby at_67) rfl ?_
    show Steps p.tables e below (T16.setTop (mkF m 69 #[.val (.int p0), .val (.int p1), .val (.int p2), .val (.int p3), .val (.int y6), .val (.int ((p2 &&& (2147483647 : Int32)) - (((p2 &&& (2147483647 : Int32)) / (10 : Int32)) * (10 : Int32)))), .val (.ref b9), .val (.long ((((y6 - (1 : Int32)) / (6 : Int32)) + (1 : Int32)).toInt64)), .second, .val (.long (y6.toInt64)), .second] [(.long (y6.toInt64)), (.long (((6 : Int64) * (((((y6 - (1 : Int32)) / (6 : Int32)) + (1 : Int32)).toInt64) - (1 : Int64))) + (1 : Int64)))])) _
    refine XS.lcmp X16.here hx rfl (hb hby at_69) rfl ?_
    show Steps p.tables e below (T16.setTop (mkF m 70 #[.val (.int p0), .val (.int p1), .val (.int p2), .val (.int p3), .val (.int y6), .val (.int ((p2 &&& (2147483647 : Int32)) - (((p2 &&& (2147483647 : Int32)) / (10 : Int32)) * (10 : Int32)))), .val (.ref b9), .val (.long ((((y6 - (1 : Int32)) / (6 : Int32)) + (1 : Int32)).toInt64)), .second, .val (.long (y6.toInt64)), .second] [(.int (lcmpW (((6 : Int64) * (((((y6 - (1 : Int32)) / (6 : Int32)) + (1 : Int32)).toInt64) - (1 : Int64))) + (1 : Int64)) (y6.toInt64)))])) _
    refine XS.ifNo X16.here hx rfl (hb hby at_70) rfl ((if0 _ _).trans (flt (own_ngtL (own_lawA _ hrd : ¬ ((y6.toInt64) < (((6 : Int64) * (((((y6 - (1 : Int32)) / (6 : Int32)) + (1 : Int32)).toInt64) - (1 : Int64))) + (1 : Int64)))))).2.2.1) ?_
    show Steps p.tables e below (T16.setTop (mkF m 73 #[.val (.int p0), .val (.int p1), .val (.int p2), .val (.int p3), .val (.int y6), .val (.int ((p2 &&& (2147483647 : Int32)) - (((p2 &&& (2147483647 : Int32)) / (10 : Int32)) * (10 : Int32)))), .val (.ref b9), .val (.long ((((y6 - (1 : Int32)) / (6 : Int32)) + (1 : Int32)).toInt64)), .second, .val (.long (y6.toInt64)), .second] [])) _
    refine XS.lload X16.here hx rfl (hb hby at_73) rfl ?_
    show Steps p.tables e below (T16.setTop (mkF m 75 #[.val (.int p0), .val (.int p1), .val (.int p2), .val (.int p3), .val (.int y6), .val (.int ((p2 &&& (2147483647 : Int32)) - (((p2 &&& (2147483647 : Int32)) / (10 : Int32)) * (10 : Int32)))), .val (.ref b9), .val (.long ((((y6 - (1 : Int32)) / (6 : Int32)) + (1 : Int32)).toInt64)), .second, .val (.long (y6.toInt64)), .second] [(.long (y6.toInt64))])) _
    refine X16.ldc2Long hx hown (mvT hZ (hw _ (List.mem_of_getElem? (i := 61) rfl))) (g := (mkF m 75 #[.val (.int p0), .val (.int p1), .val (.int p2), .val (.int p3), .val (.int y6), .val (.int ((p2 &&& (2147483647 : Int32)) - (((p2 &&& (2147483647 : Int32)) / (10 : Int32)) * (10 : Int32)))), .val (.ref b9), .val (.long ((((y6 - (1 : Int32)) / (6 : Int32)) + (1 : Int32)).toInt64)), .second, .val (.long (y6.toInt64)), .second] [(.long (y6.toInt64))])) rfl (hb hby at_75) _ ?_
    show Steps p.tables e below (T16.setTop (mkF m 78 #[.val (.int p0), .val (.int p1), .val (.int p2), .val (.int p3), .val (.int y6), .val (.int ((p2 &&& (2147483647 : Int32)) - (((p2 &&& (2147483647 : Int32)) / (10 : Int32)) * (10 : Int32)))), .val (.ref b9), .val (.long ((((y6 - (1 : Int32)) / (6 : Int32)) + (1 : Int32)).toInt64)), .second, .val (.long (y6.toInt64)), .second] [(.long (6 : Int64)), (.long (y6.toInt64))])) _
    refine XS.lload X16.here hx rfl (hb hby at_78) rfl ?_
    show Steps p.tables e below (T16.setTop (mkF m 80 #[.val (.int p0), .val (.int p1), .val (.int p2), .val (.int p3), .val (.int y6), .val (.int ((p2 &&& (2147483647 : Int32)) - (((p2 &&& (2147483647 : Int32)) / (10 : Int32)) * (10 : Int32)))), .val (.ref b9), .val (.long ((((y6 - (1 : Int32)) / (6 : Int32)) + (1 : Int32)).toInt64)), .second, .val (.long (y6.toInt64)), .second] [(.long ((((y6 - (1 : Int32)) / (6 : Int32)) + (1 : Int32)).toInt64)), (.long (6 : Int64)), (.long (y6.toInt64))])) _
    refine XS.lmul X16.here hx rfl (hb hby at_80) rfl ?_
    show Steps p.tables e below (T16.setTop (mkF m 81 #[.val (.int p0), .val (.int p1), .val (.int p2), .val (.int p3), .val (.int y6), .val (.int ((p2 &&& (2147483647 : Int32)) - (((p2 &&& (2147483647 : Int32)) / (10 : Int32)) * (10 : Int32)))), .val (.ref b9), .val (.long ((((y6 - (1 : Int32)) / (6 : Int32)) + (1 : Int32)).toInt64)), .second, .val (.long (y6.toInt64)), .second] [(.long ((6 : Int64) * ((((y6 - (1 : Int32)) / (6 : Int32)) + (1 : Int32)).toInt64))), (.long (y6.toInt64))])) _
    refine XS.lcmp X16.here hx rfl (hb hby at_81) rfl ?_
    show Steps p.tables e below (T16.setTop (mkF m 82 #[.val (.int p0), .val (.int p1), .val (.int p2), .val (.int p3), .val (.int y6), .val (.int ((p2 &&& (2147483647 : Int32)) - (((p2 &&& (2147483647 : Int32)) / (10 : Int32)) * (10 : Int32)))), .val (.ref b9), .val (.long ((((y6 - (1 : Int32)) / (6 : Int32)) + (1 : Int32)).toInt64)), .second, .val (.long (y6.toInt64)), .second] [(.int (lcmpW (y6.toInt64) ((6 : Int64) * ((((y6 - (1 : Int32)) / (6 : Int32)) + (1 : Int32)).toInt64))))])) _
    refine XS.ifNo X16.here hx rfl (hb hby at_82) rfl ((if0 _ _).trans (flt (own_ngtL (own_lawB _ hrd : ¬ (((6 : Int64) * ((((y6 - (1 : Int32)) / (6 : Int32)) + (1 : Int32)).toInt64)) < (y6.toInt64))))).2.2.1) ?_
    show Steps p.tables e below (T16.setTop (mkF m 85 #[.val (.int p0), .val (.int p1), .val (.int p2), .val (.int p3), .val (.int y6), .val (.int ((p2 &&& (2147483647 : Int32)) - (((p2 &&& (2147483647 : Int32)) / (10 : Int32)) * (10 : Int32)))), .val (.ref b9), .val (.long ((((y6 - (1 : Int32)) / (6 : Int32)) + (1 : Int32)).toInt64)), .second, .val (.long (y6.toInt64)), .second] [])) _
    refine XS.iconst X16.here hx rfl (hb hby at_85) ?_
    show Steps p.tables e below (T16.setTop (mkF m 86 #[.val (.int p0), .val (.int p1), .val (.int p2), .val (.int p3), .val (.int y6), .val (.int ((p2 &&& (2147483647 : Int32)) - (((p2 &&& (2147483647 : Int32)) / (10 : Int32)) * (10 : Int32)))), .val (.ref b9), .val (.long ((((y6 - (1 : Int32)) / (6 : Int32)) + (1 : Int32)).toInt64)), .second, .val (.long (y6.toInt64)), .second] [(.int (1 : Int32))])) _
    refine XS.goto X16.here hx rfl (pc0 := 86) (pc' := 90) rfl (hb hby at_86) (by decide) (by decide) ?_
    exact ht
  obtain ⟨fs, hr, hrun, hended, hW⟩ := X16.leaveW (s := s) hS14 (by rw [eq16]; exact (Nat.le_refl _)) (v := some (.int (1 : Int32))) (fun h => by rw [Bd.returns] at h; cases h)
  refine ⟨_, _, pre0 _ ((goT k1 (goT k2 (goT k7 (goT k8 (goT k9 (goT k10 (goT k11 (goT k12 (goT k13 (goT k14 (goT k15 (goT k16 k17)))))))))))) _ (retN X16 hx (t := .boolean) Bd.returns (by simp) (hb hby at_90) hr)), hrun, hended, _, _, rfl, ?_, hW.1, hW.2.1, hW.2.2.1, hW.2.2.2.mono (by decide) (by decide)⟩
  show Q_law Z p0 p1 p2 p3 wP wB wT u0 u1 u2 u3 wV h0 n0 _ T16.heap _
  rw [eq16]
  exact ⟨rfl, N16⟩
set_option maxRecDepth 65536 in
set_option maxHeartbeats 40000000 in
theorem comes_1 {Post : Tables → Env → Array Value → State → Outcome → State → Prop} (hpost : ∀ tb e args s v u, (limb_1_1.after args s (.returned v) u = true ∧ limb_1_2.after args s (.returned v) u = true ∧ True) → ReturnedEndW s (.returned v) u (Jvm.fieldLocs frame_1_writes args s ++ Jvm.arrayLocs frame_1_arrays args s ++ Jvm.staticLocs frame_1_statics s) 16 3200 → Post tb e args s (.returned v) u) :
    ArmFor flags0 classFile x code maxLocals ret World_1 tables_1 room_1 Calls_1 rest_1 Pre_1 Post := by
  intro l hfl _ _ p e ha hc hk s m args below hf hA hF happ hP
  obtain ⟨hcalls, hrest, hpre⟩ := hP
  obtain ⟨-, -, -, hnamed, -, -, -, hat⟩ := (Spec.applies_iff hf).mp happ
  obtain ⟨hg, hn⟩ := and_e (Cond.before_iff.mp (show (Jvm.Cond.and given_1 narrow_1).before args s = true from hpre))
  obtain ⟨hcnt, hg⟩ := and_e hg
  obtain ⟨ha0, hg⟩ := and_e hg
  obtain ⟨ha1, hg⟩ := and_e hg
  obtain ⟨ha2, hg⟩ := and_e hg
  have ha3 := hg
  obtain ⟨w0, w1, w2, w3, rfl⟩ : ∃ w0 w1 w2 w3 : Value, args = #[w0, w1, w2, w3] := by
    have hs : args.size = 4 := by simpa [Cond.value, given_1] using hcnt
    obtain ⟨L⟩ := args
    match L, hs with
    | [w0, w1, w2, w3], _ => exact ⟨w0, w1, w2, w3, rfl⟩
  have hw := fun d (hd : d ∈ tables_1) => atoms_spec (ws := Jvm.Cond.code x code maxLocals ret :: tables_1) hat d (List.mem_cons_of_mem _ hd)
  have hfit : Fit s := fun {y c} hc i hi => by
    obtain ⟨ha, rfl⟩ := Array.getElem?_eq_some_iff.mp hc
    have q := List.all_eq_true.mp ((Array.all_eq_true_iff_forall_mem.mp hF) _ (Array.getElem_mem ha)) i (List.mem_range.mpr hi)
    simpa [Array.getElem?_eq_getElem hi] using q
  obtain ⟨i0, ei0⟩ := is_v ha0
  obtain rfl : w0 = (.int i0) := Option.some.inj ei0
  obtain ⟨i1, ei1⟩ := is_v ha1
  obtain rfl : w1 = (.int i1) := Option.some.inj ei1
  obtain ⟨i2, ei2⟩ := is_v ha2
  obtain rfl : w2 = (.int i2) := Option.some.inj ei2
  obtain ⟨i3, ei3⟩ := is_v ha3
  obtain rfl : w3 = (.int i3) := Option.some.inj ei3
  obtain ⟨hn0, hn⟩ := and_e hn
  obtain ⟨hn1, hn⟩ := and_e hn
  obtain ⟨hn2, hn⟩ := and_e hn
  obtain ⟨hn3, hn⟩ := and_e hn
  obtain ⟨hn4, hn⟩ := and_e hn
  obtain ⟨hn5, hn⟩ := and_e hn
  obtain ⟨hn6, hn⟩ := and_e hn
  obtain ⟨hn7, hn⟩ := and_e hn
  obtain ⟨hn8, hn⟩ := and_e hn
  obtain ⟨hn9, hn⟩ := and_e hn
  obtain ⟨hn10, hn⟩ := and_e hn
  have hn11 := hn
  obtain ⟨w_Outcome_PLAYER, ev_w_Outcome_PLAYER⟩ := exa_v hn0
  have S_w_Outcome_PLAYER := Sta.start ev_w_Outcome_PLAYER (Or.inr ⟨(hw _ (List.mem_of_getElem? (i := 9) rfl)), (hw _ (List.mem_of_getElem? (i := 10) rfl))⟩)
  have E_w_Outcome_PLAYER := Exa.start ev_w_Outcome_PLAYER hn0
  obtain ⟨w_Roads_Pairs_PLAYER, ev_w_Roads_Pairs_PLAYER⟩ := exa_v hn1
  have S_w_Roads_Pairs_PLAYER := Sta.start ev_w_Roads_Pairs_PLAYER (Or.inr ⟨(hw _ (List.mem_of_getElem? (i := 15) rfl)), (hw _ (List.mem_of_getElem? (i := 16) rfl))⟩)
  have E_w_Roads_Pairs_PLAYER := Exa.start ev_w_Roads_Pairs_PLAYER hn1
  obtain ⟨w_Outcome_VOID, ev_w_Outcome_VOID⟩ := exa_v hn2
  have S_w_Outcome_VOID := Sta.start ev_w_Outcome_VOID (Or.inr ⟨(hw _ (List.mem_of_getElem? (i := 9) rfl)), (hw _ (List.mem_of_getElem? (i := 47) rfl))⟩)
  have E_w_Outcome_VOID := Exa.start ev_w_Outcome_VOID hn2
  obtain ⟨w_Roads_Pairs_BANKER, ev_w_Roads_Pairs_BANKER⟩ := exa_v hn5
  have S_w_Roads_Pairs_BANKER := Sta.start ev_w_Roads_Pairs_BANKER (Or.inr ⟨(hw _ (List.mem_of_getElem? (i := 15) rfl)), (hw _ (List.mem_of_getElem? (i := 63) rfl))⟩)
  have E_w_Roads_Pairs_BANKER := Exa.start ev_w_Roads_Pairs_BANKER hn5
  obtain ⟨w_Outcome_BANKER, ev_w_Outcome_BANKER⟩ := exa_v hn6
  have S_w_Outcome_BANKER := Sta.start ev_w_Outcome_BANKER (Or.inr ⟨(hw _ (List.mem_of_getElem? (i := 9) rfl)), (hw _ (List.mem_of_getElem? (i := 65) rfl))⟩)
  have E_w_Outcome_BANKER := Exa.start ev_w_Outcome_BANKER hn6
  obtain ⟨w_Roads_Pairs_NONE, ev_w_Roads_Pairs_NONE⟩ := exa_v hn8
  have S_w_Roads_Pairs_NONE := Sta.start ev_w_Roads_Pairs_NONE (Or.inr ⟨(hw _ (List.mem_of_getElem? (i := 15) rfl)), (hw _ (List.mem_of_getElem? (i := 67) rfl))⟩)
  have E_w_Roads_Pairs_NONE := Exa.start ev_w_Roads_Pairs_NONE hn8
  obtain ⟨w_Outcome_TIE, ev_w_Outcome_TIE⟩ := exa_v hn9
  have S_w_Outcome_TIE := Sta.start ev_w_Outcome_TIE (Or.inr ⟨(hw _ (List.mem_of_getElem? (i := 9) rfl)), (hw _ (List.mem_of_getElem? (i := 69) rfl))⟩)
  have E_w_Outcome_TIE := Exa.start ev_w_Outcome_TIE hn9
  obtain ⟨w_Roads_Pairs_BOTH, ev_w_Roads_Pairs_BOTH⟩ := exa_v hn11
  have S_w_Roads_Pairs_BOTH := Sta.start ev_w_Roads_Pairs_BOTH (Or.inr ⟨(hw _ (List.mem_of_getElem? (i := 15) rfl)), (hw _ (List.mem_of_getElem? (i := 71) rfl))⟩)
  have E_w_Roads_Pairs_BOTH := Exa.start ev_w_Roads_Pairs_BOTH hn11
  have F_ordinal_w_Outcome_PLAYER : Fld s s.heap w_Outcome_PLAYER "java/lang/Enum" "ordinal" "I" (.int (0 : Int32)) := Fld.start ((fld_at ev_w_Outcome_PLAYER).symm.trans (own_eq_i hn3))
  have F_ordinal_w_Outcome_VOID : Fld s s.heap w_Outcome_VOID "java/lang/Enum" "ordinal" "I" (.int (3 : Int32)) := Fld.start ((fld_at ev_w_Outcome_VOID).symm.trans (own_eq_i hn4))
  have F_ordinal_w_Outcome_BANKER : Fld s s.heap w_Outcome_BANKER "java/lang/Enum" "ordinal" "I" (.int (1 : Int32)) := Fld.start ((fld_at ev_w_Outcome_BANKER).symm.trans (own_eq_i hn7))
  have F_ordinal_w_Outcome_TIE : Fld s s.heap w_Outcome_TIE "java/lang/Enum" "ordinal" "I" (.int (2 : Int32)) := Fld.start ((fld_at ev_w_Outcome_TIE).symm.trans (own_eq_i hn10))
  have hP : ¬ (w_Outcome_PLAYER = w_Outcome_VOID) := fun q => own_fld_ne (q ▸ F_ordinal_w_Outcome_PLAYER) F_ordinal_w_Outcome_VOID (by decide)
  have hB : ¬ (w_Outcome_BANKER = w_Outcome_VOID) := fun q => own_fld_ne (q ▸ F_ordinal_w_Outcome_BANKER) F_ordinal_w_Outcome_VOID (by decide)
  have hT : ¬ (w_Outcome_TIE = w_Outcome_VOID) := fun q => own_fld_ne (q ▸ F_ordinal_w_Outcome_TIE) F_ordinal_w_Outcome_VOID (by decide)
  obtain ⟨n, o, h1, h2, h3, _, L, rfl, ⟨rfl, N⟩, hq⟩ := rm_law l s _ hw tables_1 i0 i1 i2 i3 w_Outcome_PLAYER w_Outcome_BANKER w_Outcome_TIE w_Roads_Pairs_NONE w_Roads_Pairs_PLAYER w_Roads_Pairs_BANKER w_Roads_Pairs_BOTH w_Outcome_VOID s.heap s.heap.size (Nat.le_refl _) S_w_Outcome_PLAYER S_w_Outcome_BANKER S_w_Outcome_TIE S_w_Roads_Pairs_NONE S_w_Roads_Pairs_PLAYER S_w_Roads_Pairs_BANKER S_w_Roads_Pairs_BOTH S_w_Outcome_VOID hP hB hT p e ha hc hk s m _ below hf ((Spec.applies_iff_loose hf).mp happ).1 ⟨rfl, State.Warmed39.refl s, rfl⟩ trivial
  refine ⟨n, _, h1, h2, h3, hpost _ _ _ _ _ _ ⟨Cond.after_iff.mpr rfl, Cond.after_iff.mpr (eq_i res_at (Term.int_eval (1)) rfl), trivial⟩ ⟨hq.1, hq.2.1, hq.2.2.1, (hq.2.2.2.sift fun y hy => Or.inr (N y hy)).mono (by decide) (by decide)⟩⟩
theorem main_1_1 : Claimed_1_1 := comes_1 fun _ _ _ _ _ _ h hF => ⟨h.1, hF⟩
theorem main_1_2 : Claimed_1_2 := comes_1 fun _ _ _ _ _ _ h hF => ⟨h.2.1, hF⟩
end Jvm.Pilot.@@N@@
namespace Jvm.Pilot.@@N@@
open Jvm Jvm.ClassFile Sem Op Lib Jvm.Free Jvm.Stand Jvm.Pilot.@@N@@.Jvm.D
/-! MADE BY PROGRAM (witnessworld.py) out of the Statement's table words and the real class files: 20 classes; the members and pool entries that the words name. The judged class is class 1, her method 3. -/
namespace start1
open Jvm.ClassFile
def u (s : String) : CpInfo := .utf8 (stringToUtf16 s)
/-- a pool by its gaps: so many unusable entries, then the entry; so many at the end -/
def gap : Nat → List CpInfo → List CpInfo
  | 0, r => r
  | n + 1, r => .unusable :: gap n r
def poolList (es : List (Nat × CpInfo)) (last : Nat) : List CpInfo := es.foldr (fun e r => gap e.1 (e.2 :: r)) (gap last [])
def pool (es : List (Nat × CpInfo)) (last : Nat) : Array CpInfo := ⟨poolList es last⟩
def fileOf (pool : Array CpInfo) (this : Nat) (attrs : Array Attribute := #[]) (ms : Array MethodInfo := #[]) (fl : Nat := 33) (sup : Nat := 0) (ifs : Array Nat := #[]) (fds : Array FieldInfo := #[]) : ClassFile where
  minorVersion := 0
  majorVersion := 65
  constantPool := pool
  accessFlags := fl
  thisClass := this
  superClass := sup
  interfaces := ifs
  fields := fds
  methods := ms
  attributes := attrs
def plain (name : String) (sup : Option ClassId) : Class where
  name := name
  kind := .ordinary
  loader := none
  accessFlags := 33
  super := sup
  interfaces := #[]
  cf := none
  fields := #[]
  methods := #[]
  instanceTypes := #[]
  staticTypes := #[]
  resolved := #[]
  callSites := []
  init := .initialized
  statics := none
  mirror := none

def pool0 : Array CpInfo := pool [(5, u "<init>"), (0, u "()V"), (1, .class_ 10), (1, u "java/lang/Object")] 113

def k0c0 : Code := { maxStack := 0, maxLocals := 1, code := object_method_1_code, exceptionTable := #[], attributes := #[] }
def k0m0 : Method := { name := "<init>", desc := "()V", sig := { parameters := [], returnType := none }, accessFlags := 1, code := some k0c0 }
/-- java/lang/Object -/
def k0 : Class := { plain "java/lang/Object" none with
  accessFlags := 33
  interfaces := #[]
  cf := some (fileOf pool0 8 #[] #[{ accessFlags := 1, nameIndex := 5, descriptorIndex := 6, attributes := #[] }] 33 0 #[] #[])
  fields := #[]
  methods := #[k0m0]
  instanceTypes := #[]
  staticTypes := #[]
  resolved := Array.replicate 124 none
  statics := none }

def pool1 : Array CpInfo := pool [(2, .class_ 4), (1, u "java/lang/Object"), (0, u "<init>"), (0, u "()V"), (0, .integer 2147483647), (0, .fieldref 9 10), (0, .class_ 11), (0, .nameAndType 12 13), (0, u "ninepoint/Outcome"), (0, u "PLAYER"), (0, u "Lninepoint/Outcome;"), (0, .fieldref 9 15), (0, .nameAndType 16 13), (0, u "BANKER"), (0, .fieldref 9 18), (0, .nameAndType 19 13), (0, u "TIE"), (0, .fieldref 21 22), (0, .class_ 23), (0, .nameAndType 24 25), (0, u "ninepoint/Roads$Pairs"), (0, u "NONE"), (0, u "Lninepoint/Roads$Pairs;"), (0, .fieldref 21 27), (0, .nameAndType 12 25), (0, .fieldref 21 29), (0, .nameAndType 16 25), (0, .fieldref 21 31), (0, .nameAndType 32 25), (0, u "BOTH"), (0, .class_ 34), (0, u "ninepoint/Roads$Bead"), (0, .methodref 36 37), (0, .class_ 38), (0, .nameAndType 39 40), (0, u "ninepoint/BeadColumnPinLaw"), (0, u "outcomeOf"), (0, u "(I)Lninepoint/Outcome;"), (0, .methodref 36 42), (0, .nameAndType 43 44), (0, u "pairsOf"), (0, u "(I)Lninepoint/Roads$Pairs;"), (0, .methodref 33 46), (0, .nameAndType 5 47), (0, u "(ILninepoint/Outcome;ILninepoint/Roads$Pairs;)V"), (0, .methodref 33 49), (0, .nameAndType 50 51), (0, u "column"), (0, u "()I"), (0, .long 6), (4, u "law"), (0, u "(IIII)Z")] 7

def k1m0 : Method := { name := "<init>", desc := "()V", sig := { parameters := [], returnType := none }, accessFlags := 2, code := none }
def k1c1 : Code := { maxStack := 2, maxLocals := 3, code := method_2_code, exceptionTable := #[], attributes := #[] }
def k1m1 : Method := { name := "outcomeOf", desc := "(I)Lninepoint/Outcome;", sig := { parameters := [.int], returnType := some (.object "ninepoint/Outcome") }, accessFlags := 10, code := some k1c1 }
def k1c2 : Code := { maxStack := 2, maxLocals := 3, code := method_3_code, exceptionTable := #[], attributes := #[] }
def k1m2 : Method := { name := "pairsOf", desc := "(I)Lninepoint/Roads$Pairs;", sig := { parameters := [.int], returnType := some (.object "ninepoint/Roads$Pairs") }, accessFlags := 10, code := some k1c2 }
def k1c3 : Code := { maxStack := 6, maxLocals := 11, code := code, exceptionTable := #[], attributes := #[] }
def k1m3 : Method := { name := "law", desc := "(IIII)Z", sig := { parameters := [.int, .int, .int, .int], returnType := some .boolean }, accessFlags := 9, code := some k1c3 }
/-- ninepoint/BeadColumnPinLaw -/
def k1 : Class := { plain "ninepoint/BeadColumnPinLaw" (some 0) with
  accessFlags := 49
  interfaces := #[]
  cf := some (fileOf pool1 36 #[] #[{ accessFlags := 2, nameIndex := 5, descriptorIndex := 6, attributes := #[] }, { accessFlags := 10, nameIndex := 39, descriptorIndex := 40, attributes := #[] }, { accessFlags := 10, nameIndex := 43, descriptorIndex := 44, attributes := #[] }, { accessFlags := 9, nameIndex := 57, descriptorIndex := 58, attributes := #[] }] 49 2 #[] #[])
  fields := #[]
  methods := #[k1m0, k1m1, k1m2, k1m3]
  instanceTypes := #[]
  staticTypes := #[]
  resolved := Array.replicate 66 none
  statics := none }

def pool2 : Array CpInfo := pool [(1, .methodref 2 3), (0, .class_ 4), (0, .nameAndType 5 6), (0, u "java/lang/Object"), (0, u "<init>"), (0, u "()V"), (0, .class_ 8), (0, u "java/lang/Record")] 13

def k2c0 : Code := { maxStack := 1, maxLocals := 1, code := jdk_30_method_1_code, exceptionTable := #[], attributes := #[] }
def k2m0 : Method := { name := "<init>", desc := "()V", sig := { parameters := [], returnType := none }, accessFlags := 4, code := some k2c0 }
/-- java/lang/Record -/
def k2 : Class := { plain "java/lang/Record" (some 0) with
  accessFlags := 1057
  interfaces := #[]
  cf := some (fileOf pool2 7 #[] #[{ accessFlags := 4, nameIndex := 5, descriptorIndex := 6, attributes := #[] }] 1057 2 #[] #[])
  fields := #[]
  methods := #[k2m0]
  instanceTypes := #[]
  staticTypes := #[]
  resolved := Array.replicate 22 none
  statics := none }

def pool3 : Array CpInfo := pool [(1, .class_ 2), (0, u "ninepoint/Roads"), (0, .methodref 4 5), (0, .class_ 6), (0, .nameAndType 7 8), (0, u "java/lang/Record"), (0, u "<init>"), (0, u "()V"), (0, .string 10), (0, u "outcome"), (0, .methodref 12 13), (0, .class_ 14), (0, .nameAndType 15 16), (0, u "java/util/Objects"), (0, u "requireNonNull"), (0, u "(Ljava/lang/Object;Ljava/lang/String;)Ljava/lang/Object;"), (0, .string 18), (0, u "pairs"), (0, .string 20), (0, u "round"), (0, .methodref 1 22), (0, .nameAndType 23 24), (0, u "checkNumber"), (0, u "(ILjava/lang/String;)V"), (0, .fieldref 26 27), (0, .class_ 28), (0, .nameAndType 29 30), (0, u "ninepoint/Outcome"), (0, u "VOID"), (0, u "Lninepoint/Outcome;"), (11, .fieldref 43 44), (0, .class_ 45), (0, .nameAndType 20 46), (0, u "ninepoint/Roads$Bead"), (0, u "I"), (0, .fieldref 43 48), (0, .nameAndType 10 30), (0, .fieldref 43 50), (0, .nameAndType 51 46), (0, u "total"), (0, .fieldref 43 53), (0, .nameAndType 18 54), (0, u "Lninepoint/Roads$Pairs;"), (12, u "(ILninepoint/Outcome;ILninepoint/Roads$Pairs;)V"), (6, u "column"), (0, u "()I")] 39

def k3c0 : Code := { maxStack := 3, maxLocals := 5, code := prog_24_method_1_code, exceptionTable := #[], attributes := #[] }
def k3m0 : Method := { name := "<init>", desc := "(ILninepoint/Outcome;ILninepoint/Roads$Pairs;)V", sig := { parameters := [.int, (.object "ninepoint/Outcome"), .int, (.object "ninepoint/Roads$Pairs")], returnType := none }, accessFlags := 1, code := some k3c0 }
def k3c1 : Code := { maxStack := 2, maxLocals := 1, code := prog_24_method_2_code, exceptionTable := #[], attributes := #[] }
def k3m1 : Method := { name := "column", desc := "()I", sig := { parameters := [], returnType := some .int }, accessFlags := 1, code := some k3c1 }
/-- ninepoint/Roads$Bead -/
def k3 : Class := { plain "ninepoint/Roads$Bead" (some 2) with
  accessFlags := 49
  interfaces := #[]
  cf := some (fileOf pool3 43 #[.nestHost 1] #[{ accessFlags := 1, nameIndex := 7, descriptorIndex := 67, attributes := #[] }, { accessFlags := 1, nameIndex := 74, descriptorIndex := 75, attributes := #[] }] 49 4 #[] #[{ accessFlags := 18, nameIndex := 20, descriptorIndex := 46, attributes := #[] }, { accessFlags := 18, nameIndex := 10, descriptorIndex := 30, attributes := #[] }, { accessFlags := 18, nameIndex := 51, descriptorIndex := 46, attributes := #[] }, { accessFlags := 18, nameIndex := 18, descriptorIndex := 54, attributes := #[] }])
  fields := #[{ name := "round", type := .int, accessFlags := 18, slot := 0, constantValue := 0 }, { name := "outcome", type := (.object "ninepoint/Outcome"), accessFlags := 18, slot := 1, constantValue := 0 }, { name := "total", type := .int, accessFlags := 18, slot := 2, constantValue := 0 }, { name := "pairs", type := (.object "ninepoint/Roads$Pairs"), accessFlags := 18, slot := 3, constantValue := 0 }]
  methods := #[k3m0, k3m1]
  instanceTypes := #[.int, (.object "ninepoint/Outcome"), .int, (.object "ninepoint/Roads$Pairs")]
  staticTypes := #[]
  resolved := Array.replicate 115 none
  statics := none }

def pool4 : Array CpInfo := pool [(1, .class_ 2), (0, u "java/lang/constant/Constable"), (0, .class_ 4), (0, u "java/lang/Object")] 6

/-- java/lang/constant/Constable -/
def k4 : Class := { plain "java/lang/constant/Constable" (some 0) with
  accessFlags := 1537
  interfaces := #[]
  cf := some (fileOf pool4 1 #[] #[] 1537 3 #[] #[])
  fields := #[]
  methods := #[]
  instanceTypes := #[]
  staticTypes := #[]
  resolved := Array.replicate 11 none
  statics := none }

def pool5 : Array CpInfo := pool [(1, .class_ 2), (0, u "java/lang/Comparable"), (0, .class_ 4), (0, u "java/lang/Object")] 7

/-- java/lang/Comparable -/
def k5 : Class := { plain "java/lang/Comparable" (some 0) with
  accessFlags := 1537
  interfaces := #[]
  cf := some (fileOf pool5 1 #[] #[] 1537 3 #[] #[])
  fields := #[]
  methods := #[]
  instanceTypes := #[]
  staticTypes := #[]
  resolved := Array.replicate 12 none
  statics := none }

def pool6 : Array CpInfo := pool [(1, .class_ 2), (0, u "java/io/Serializable"), (0, .class_ 4), (0, u "java/lang/Object")] 2

/-- java/io/Serializable -/
def k6 : Class := { plain "java/io/Serializable" (some 0) with
  accessFlags := 1537
  interfaces := #[]
  cf := some (fileOf pool6 1 #[] #[] 1537 3 #[] #[])
  fields := #[]
  methods := #[]
  instanceTypes := #[]
  staticTypes := #[]
  resolved := Array.replicate 7 none
  statics := none }

def pool7 : Array CpInfo := pool [(2, .class_ 4), (1, u "java/lang/Enum"), (0, u "name"), (0, u "Ljava/lang/String;"), (2, u "ordinal"), (0, u "I"), (1, .class_ 14), (1, u "java/lang/Object"), (4, u "hash"), (86, .class_ 108), (1, u "java/lang/Enum$EnumDesc"), (2, .class_ 112), (0, u "java/lang/constant/Constable"), (0, .class_ 114), (0, u "java/lang/Comparable"), (0, .class_ 116), (0, u "java/io/Serializable")] 87

/-- java/lang/Enum -/
def k7 : Class := { plain "java/lang/Enum" (some 0) with
  accessFlags := 1057
  interfaces := #[4, 5, 6]
  cf := some (fileOf pool7 2 #[.nestMembers #[106]] #[] 1057 12 #[111, 113, 115] #[{ accessFlags := 18, nameIndex := 5, descriptorIndex := 6, attributes := #[] }, { accessFlags := 18, nameIndex := 9, descriptorIndex := 10, attributes := #[] }, { accessFlags := 2, nameIndex := 19, descriptorIndex := 10, attributes := #[] }])
  fields := #[{ name := "name", type := (.object "java/lang/String"), accessFlags := 18, slot := 0, constantValue := 0 }, { name := "ordinal", type := .int, accessFlags := 18, slot := 1, constantValue := 0 }, { name := "hash", type := .int, accessFlags := 2, slot := 2, constantValue := 0 }]
  methods := #[]
  instanceTypes := #[(.object "java/lang/String"), .int, .int]
  staticTypes := #[]
  resolved := Array.replicate 204 none
  statics := none }

def pool8 : Array CpInfo := pool [(1, .class_ 2), (0, u "ninepoint/Outcome"), (2, u "PLAYER"), (0, u "Lninepoint/Outcome;"), (2, u "BANKER"), (2, u "TIE"), (2, u "VOID"), (2, u "$VALUES"), (0, u "[Lninepoint/Outcome;"), (6, .class_ 28), (1, u "java/lang/Enum")] 36

/-- ninepoint/Outcome -/
def k8 : Class := { plain "ninepoint/Outcome" (some 7) with
  accessFlags := 16433
  interfaces := #[]
  cf := some (fileOf pool8 1 #[] #[] 16433 26 #[] #[{ accessFlags := 16409, nameIndex := 5, descriptorIndex := 6, attributes := #[] }, { accessFlags := 16409, nameIndex := 9, descriptorIndex := 6, attributes := #[] }, { accessFlags := 16409, nameIndex := 12, descriptorIndex := 6, attributes := #[] }, { accessFlags := 16409, nameIndex := 15, descriptorIndex := 6, attributes := #[] }, { accessFlags := 4122, nameIndex := 18, descriptorIndex := 19, attributes := #[] }])
  fields := #[{ name := "PLAYER", type := (.object "ninepoint/Outcome"), accessFlags := 16409, slot := 0, constantValue := 0 }, { name := "BANKER", type := (.object "ninepoint/Outcome"), accessFlags := 16409, slot := 1, constantValue := 0 }, { name := "TIE", type := (.object "ninepoint/Outcome"), accessFlags := 16409, slot := 2, constantValue := 0 }, { name := "VOID", type := (.object "ninepoint/Outcome"), accessFlags := 16409, slot := 3, constantValue := 0 }, { name := "$VALUES", type := (.array (.object "ninepoint/Outcome")), accessFlags := 4122, slot := 4, constantValue := 0 }]
  methods := #[]
  instanceTypes := #[(.object "java/lang/String"), .int, .int]
  staticTypes := #[(.object "ninepoint/Outcome"), (.object "ninepoint/Outcome"), (.object "ninepoint/Outcome"), (.object "ninepoint/Outcome"), (.array (.object "ninepoint/Outcome"))]
  resolved := Array.replicate 65 none
  statics := some 0 }

def pool9 : Array CpInfo := pool [(1, .class_ 2), (0, u "ninepoint/Roads$Pairs"), (2, u "NONE"), (0, u "Lninepoint/Roads$Pairs;"), (2, u "PLAYER"), (2, u "BANKER"), (2, u "BOTH"), (2, u "$VALUES"), (0, u "[Lninepoint/Roads$Pairs;"), (6, .class_ 28), (1, u "java/lang/Enum"), (56, .class_ 86), (0, u "ninepoint/Roads")] 2

/-- ninepoint/Roads$Pairs -/
def k9 : Class := { plain "ninepoint/Roads$Pairs" (some 7) with
  accessFlags := 16433
  interfaces := #[]
  cf := some (fileOf pool9 1 #[.nestHost 85] #[] 16433 26 #[] #[{ accessFlags := 16409, nameIndex := 5, descriptorIndex := 6, attributes := #[] }, { accessFlags := 16409, nameIndex := 9, descriptorIndex := 6, attributes := #[] }, { accessFlags := 16409, nameIndex := 12, descriptorIndex := 6, attributes := #[] }, { accessFlags := 16409, nameIndex := 15, descriptorIndex := 6, attributes := #[] }, { accessFlags := 4122, nameIndex := 18, descriptorIndex := 19, attributes := #[] }])
  fields := #[{ name := "NONE", type := (.object "ninepoint/Roads$Pairs"), accessFlags := 16409, slot := 0, constantValue := 0 }, { name := "PLAYER", type := (.object "ninepoint/Roads$Pairs"), accessFlags := 16409, slot := 1, constantValue := 0 }, { name := "BANKER", type := (.object "ninepoint/Roads$Pairs"), accessFlags := 16409, slot := 2, constantValue := 0 }, { name := "BOTH", type := (.object "ninepoint/Roads$Pairs"), accessFlags := 16409, slot := 3, constantValue := 0 }, { name := "$VALUES", type := (.array (.object "ninepoint/Roads$Pairs")), accessFlags := 4122, slot := 4, constantValue := 0 }]
  methods := #[]
  instanceTypes := #[(.object "java/lang/String"), .int, .int]
  staticTypes := #[(.object "ninepoint/Roads$Pairs"), (.object "ninepoint/Roads$Pairs"), (.object "ninepoint/Roads$Pairs"), (.object "ninepoint/Roads$Pairs"), (.array (.object "ninepoint/Roads$Pairs"))]
  resolved := Array.replicate 89 none
  statics := some 1 }

def pool10 : Array CpInfo := pool [(2, .class_ 4), (1, u "java/lang/CharSequence"), (42, .class_ 48), (0, u "java/lang/CharSequence$1CodePointIterator"), (10, .class_ 60), (0, u "java/lang/CharSequence$1CharIterator"), (5, .class_ 67), (0, u "java/lang/Object")] 63

/-- java/lang/CharSequence -/
def k10 : Class := { plain "java/lang/CharSequence" (some 0) with
  accessFlags := 1537
  interfaces := #[]
  cf := some (fileOf pool10 2 #[.nestMembers #[47, 59]] #[] 1537 66 #[] #[])
  fields := #[]
  methods := #[]
  instanceTypes := #[]
  staticTypes := #[]
  resolved := Array.replicate 131 none
  statics := none }

def pool11 : Array CpInfo := pool [(1, .class_ 2), (0, u "java/lang/constant/ConstantDesc"), (0, .class_ 4), (0, u "java/lang/Object")] 32

/-- java/lang/constant/ConstantDesc -/
def k11 : Class := { plain "java/lang/constant/ConstantDesc" (some 0) with
  accessFlags := 1537
  interfaces := #[]
  cf := some (fileOf pool11 1 #[] #[] 1537 3 #[] #[])
  fields := #[]
  methods := #[]
  instanceTypes := #[]
  staticTypes := #[]
  resolved := Array.replicate 37 none
  statics := none }

def pool12 : Array CpInfo := pool [(2, .class_ 4), (1, u "java/lang/Object"), (0, u "<init>"), (0, u "()V"), (3, .class_ 12), (1, u "java/lang/String"), (0, u "value"), (0, u "[B"), (2, u "coder"), (0, u "B"), (2, u "hash"), (0, u "I"), (2, u "hashIsZero"), (0, u "Z"), (13, u "COMPACT_STRINGS"), (534, .class_ 576), (0, u "java/lang/CharSequence"), (22, u "CASE_INSENSITIVE_ORDER"), (0, u "Ljava/util/Comparator;"), (500, u "serialPersistentFields"), (0, u "[Ljava/io/ObjectStreamField;"), (0, .class_ 1104), (0, u "java/lang/String$CaseInsensitiveComparator"), (1, .class_ 1107), (0, u "java/io/Serializable"), (0, .class_ 1109), (0, u "java/lang/Comparable"), (0, .class_ 1111), (0, u "java/lang/constant/Constable"), (0, .class_ 1113), (0, u "java/lang/constant/ConstantDesc"), (2, u "serialVersionUID"), (0, u "J"), (3, u "REPL"), (0, u "C"), (2, u "LATIN1"), (1, u "UTF16")] 323

def k12m0 : Method := { name := "<init>", desc := "()V", sig := { parameters := [], returnType := none }, accessFlags := 1, code := none }
/-- java/lang/String -/
def k12 : Class := { plain "java/lang/String" (some 0) with
  accessFlags := 49
  interfaces := #[6, 5, 10, 4, 11]
  cf := some (fileOf pool12 10 #[.nestMembers #[1103]] #[{ accessFlags := 1, nameIndex := 5, descriptorIndex := 6, attributes := #[] }] 49 2 #[1106, 1108, 575, 1110, 1112] #[{ accessFlags := 18, nameIndex := 13, descriptorIndex := 14, attributes := #[] }, { accessFlags := 18, nameIndex := 17, descriptorIndex := 18, attributes := #[] }, { accessFlags := 2, nameIndex := 21, descriptorIndex := 22, attributes := #[] }, { accessFlags := 2, nameIndex := 25, descriptorIndex := 26, attributes := #[] }, { accessFlags := 26, nameIndex := 1116, descriptorIndex := 1117, attributes := #[] }, { accessFlags := 24, nameIndex := 40, descriptorIndex := 26, attributes := #[] }, { accessFlags := 26, nameIndex := 1101, descriptorIndex := 1102, attributes := #[] }, { accessFlags := 26, nameIndex := 1121, descriptorIndex := 1122, attributes := #[] }, { accessFlags := 25, nameIndex := 599, descriptorIndex := 600, attributes := #[] }, { accessFlags := 24, nameIndex := 1125, descriptorIndex := 18, attributes := #[] }, { accessFlags := 24, nameIndex := 1127, descriptorIndex := 18, attributes := #[] }])
  fields := #[{ name := "value", type := (.array .byte), accessFlags := 18, slot := 0, constantValue := 0 }, { name := "coder", type := .byte, accessFlags := 18, slot := 1, constantValue := 0 }, { name := "hash", type := .int, accessFlags := 2, slot := 2, constantValue := 0 }, { name := "hashIsZero", type := .boolean, accessFlags := 2, slot := 3, constantValue := 0 }, { name := "serialVersionUID", type := .long, accessFlags := 26, slot := 0, constantValue := 0 }, { name := "COMPACT_STRINGS", type := .boolean, accessFlags := 24, slot := 1, constantValue := 0 }, { name := "serialPersistentFields", type := (.array (.object "java/io/ObjectStreamField")), accessFlags := 26, slot := 2, constantValue := 0 }, { name := "REPL", type := .char, accessFlags := 26, slot := 3, constantValue := 0 }, { name := "CASE_INSENSITIVE_ORDER", type := (.object "java/util/Comparator"), accessFlags := 25, slot := 4, constantValue := 0 }, { name := "LATIN1", type := .byte, accessFlags := 24, slot := 5, constantValue := 0 }, { name := "UTF16", type := .byte, accessFlags := 24, slot := 6, constantValue := 0 }]
  methods := #[k12m0]
  instanceTypes := #[(.array .byte), .byte, .int, .boolean]
  staticTypes := #[.long, .boolean, (.array (.object "java/io/ObjectStreamField")), .char, (.object "java/util/Comparator"), .byte, .byte]
  resolved := Array.replicate 1451 none
  statics := none }

def pool13 : Array CpInfo := pool [(2, .class_ 4), (1, u "java/lang/Object"), (0, u "<init>"), (0, u "()V"), (35, .class_ 44), (1, u "java/util/Objects"), (0, u "requireNonNull"), (48, u "(Ljava/lang/Object;Ljava/lang/String;)Ljava/lang/Object;")] 89

def k13m0 : Method := { name := "<init>", desc := "()V", sig := { parameters := [], returnType := none }, accessFlags := 2, code := none }
def k13c1 : Code := { maxStack := 3, maxLocals := 2, code := jdk_31_method_11_code, exceptionTable := #[], attributes := #[] }
def k13m1 : Method := { name := "requireNonNull", desc := "(Ljava/lang/Object;Ljava/lang/String;)Ljava/lang/Object;", sig := { parameters := [(.object "java/lang/Object"), (.object "java/lang/String")], returnType := some (.object "java/lang/Object") }, accessFlags := 9, code := some k13c1 }
/-- java/util/Objects -/
def k13 : Class := { plain "java/util/Objects" (some 0) with
  accessFlags := 49
  interfaces := #[]
  cf := some (fileOf pool13 42 #[] #[{ accessFlags := 2, nameIndex := 5, descriptorIndex := 6, attributes := #[] }, { accessFlags := 9, nameIndex := 45, descriptorIndex := 94, attributes := #[] }] 49 2 #[] #[])
  fields := #[]
  methods := #[k13m0, k13m1]
  instanceTypes := #[]
  staticTypes := #[]
  resolved := Array.replicate 184 none
  statics := none }

def pool14 : Array CpInfo := pool [(2, .class_ 4), (1, u "java/lang/Object"), (0, u "<init>"), (0, u "()V"), (4, .class_ 13), (1, u "ninepoint/Roads"), (0, u "beads"), (0, u "Ljava/util/List;"), (2, u "cells"), (0, .class_ 20), (0, u "ninepoint/Roads$Runs"), (3, u "bigRoadRuns"), (0, u "Lninepoint/Roads$Runs;"), (2, .class_ 29), (0, u "ninepoint/Roads$DerivedRoad"), (5, u "marks"), (0, u "Ljava/util/Map;"), (2, u "markRuns"), (35, .class_ 76), (0, u "ninepoint/Roads$Bead"), (6, .class_ 85), (1, u "ninepoint/Roads$Pairs"), (34, .class_ 121), (0, u "ninepoint/Roads$BigRoad"), (2, u "leadingTies"), (0, u "I"), (30, .class_ 157), (0, u "ninepoint/Roads$Cell"), (11, .class_ 171), (1, u "ninepoint/Roads$Place"), (14, .class_ 187), (0, u "ninepoint/Roads$Mark"), (11, .class_ 201), (1, u "ninepoint/Roads$Colour"), (15, u "BEAD_ROWS"), (25, u "checkNumber"), (0, u "(ILjava/lang/String;)V")] 30

def k14m0 : Method := { name := "<init>", desc := "()V", sig := { parameters := [], returnType := none }, accessFlags := 1, code := none }
def k14c1 : Code := { maxStack := 4, maxLocals := 2, code := prog_23_method_10_code, exceptionTable := #[], attributes := #[] }
def k14m1 : Method := { name := "checkNumber", desc := "(ILjava/lang/String;)V", sig := { parameters := [.int, (.object "java/lang/String")], returnType := none }, accessFlags := 10, code := some k14c1 }
/-- ninepoint/Roads -/
def k14 : Class := { plain "ninepoint/Roads" (some 0) with
  accessFlags := 49
  interfaces := #[]
  cf := some (fileOf pool14 11 #[.nestMembers #[19, 169, 186, 199, 28, 120, 156, 75, 83]] #[{ accessFlags := 1, nameIndex := 5, descriptorIndex := 6, attributes := #[] }, { accessFlags := 10, nameIndex := 243, descriptorIndex := 244, attributes := #[] }] 49 2 #[] #[{ accessFlags := 25, nameIndex := 217, descriptorIndex := 125, attributes := #[] }, { accessFlags := 18, nameIndex := 14, descriptorIndex := 15, attributes := #[] }, { accessFlags := 18, nameIndex := 18, descriptorIndex := 15, attributes := #[] }, { accessFlags := 18, nameIndex := 24, descriptorIndex := 25, attributes := #[] }, { accessFlags := 18, nameIndex := 35, descriptorIndex := 36, attributes := #[] }, { accessFlags := 18, nameIndex := 39, descriptorIndex := 36, attributes := #[] }, { accessFlags := 2, nameIndex := 124, descriptorIndex := 125, attributes := #[] }])
  fields := #[{ name := "BEAD_ROWS", type := .int, accessFlags := 25, slot := 0, constantValue := 0 }, { name := "beads", type := (.object "java/util/List"), accessFlags := 18, slot := 0, constantValue := 0 }, { name := "cells", type := (.object "java/util/List"), accessFlags := 18, slot := 1, constantValue := 0 }, { name := "bigRoadRuns", type := (.object "ninepoint/Roads$Runs"), accessFlags := 18, slot := 2, constantValue := 0 }, { name := "marks", type := (.object "java/util/Map"), accessFlags := 18, slot := 3, constantValue := 0 }, { name := "markRuns", type := (.object "java/util/Map"), accessFlags := 18, slot := 4, constantValue := 0 }, { name := "leadingTies", type := .int, accessFlags := 2, slot := 5, constantValue := 0 }]
  methods := #[k14m0, k14m1]
  instanceTypes := #[(.object "java/util/List"), (.object "java/util/List"), (.object "ninepoint/Roads$Runs"), (.object "java/util/Map"), (.object "java/util/Map"), .int]
  staticTypes := #[.int]
  resolved := Array.replicate 275 none
  statics := none }

def pool15 : Array CpInfo := pool [(1, u "java/lang/Cloneable"), (0, .class_ 1), (0, u "java/lang/Object"), (0, .class_ 3)] 3

/-- java/lang/Cloneable -/
def k15 : Class := { plain "java/lang/Cloneable" (some 0) with
  accessFlags := 1537
  interfaces := #[]
  cf := some (fileOf pool15 2 #[] #[] 1537 4 #[] #[])
  fields := #[]
  methods := #[]
  instanceTypes := #[]
  staticTypes := #[]
  resolved := Array.replicate 8 none
  statics := none }

/-- the primitive byte -/
def k16 : Class := { plain "byte" none with kind := .primitive 'B', accessFlags := 0x411 }
/-- [B -/
def k17 : Class := { plain "[B" (some 0) with kind := .array 16 .byte, interfaces := #[15, 6], accessFlags := 1041 }

/-- the primitive int -/
def k18 : Class := { plain "int" none with kind := .primitive 'I', accessFlags := 0x411 }
/-- [I -/
def k19 : Class := { plain "[I" (some 0) with kind := .array 18 .int, interfaces := #[15, 6], accessFlags := 1041 }

def heap : Heap := #[{ cls := 8, slots := #[.ref 2, .ref 3, .ref 4, .ref 5, .null], vm := .statics 8 },
  { cls := 9, slots := #[.ref 6, .ref 6, .ref 6, .ref 6, .null], vm := .statics 9 },
  { cls := 8, slots := #[.null, .int 0, .int 0], vm := .none },
  { cls := 8, slots := #[.null, .int 1, .int 0], vm := .none },
  { cls := 8, slots := #[.null, .int 2, .int 0], vm := .none },
  { cls := 8, slots := #[.null, .int 3, .int 0], vm := .none },
  { cls := 9, slots := #[.null, .int 0, .int 0], vm := .none }]
def classes : Array Class := #[k0, k1, k2, k3, k4, k5, k6, k7, k8, k9, k10, k11, k12, k13, k14, k15, k16, k17, k18, k19]
def interned : List (Array UInt16 × Addr) := []
def slotsUsed : Nat := 25
def theMethod : MethodId := ⟨1, 3⟩
def args0 : Array Value := #[.int 3, .int 4, .int 5, .int 2]
def aboutOver (below : List Frame) : State where
  vm := { classes := classes, interned := interned.toArray }
  heap := heap
  slotsUsed := slotsUsed
  threads := #[{ frames := .invoking theMethod args0 :: below }]
def below0 : List Frame := [.native { method := ⟨0, 0⟩, args := #[] }]
def about1 : State := aboutOver below0
def p0 : Program := .bare "" "" ""
def e0 : Env := launch0.env 0 0 0
theorem w_frames : about1.frames = Frame.invoking theMethod args0 :: below0 := rfl
set_option maxRecDepth 65536 in
theorem w_args : argsFit about1.vm theMethod args0 = true := by decide +kernel
set_option maxRecDepth 65536 in
theorem w_heap : heapFits about1 = true := by decide +kernel
set_option maxRecDepth 65536 in
theorem w_runnable : about1.curStatus? = some .runnable := by decide +kernel
set_option maxRecDepth 65536 in
theorem w_alone : about1.alone = true := by decide +kernel
set_option maxRecDepth 65536 in
theorem w_named : about1.methodNamed? x = some theMethod := by decide +kernel
set_option maxRecDepth 65536 in
theorem w_hears : about1.hears theMethod below0 = true := by decide +kernel
set_option maxRecDepth 65536 in
theorem w_ripe : about1.ripe theMethod args0 below0 = true := by decide +kernel
theorem w_running : about1.status = .running := rfl
set_option maxRecDepth 65536 in
theorem w_room : about1.hasRoom e0.platform room_1 = true :=
  launch0.hasRoom_least _ room_1 (by decide +kernel) (by decide +kernel) (by decide +kernel) (by decide +kernel) (by decide +kernel) (by decide +kernel)
theorem allAtoms_all (ts : List Jvm.Cond) (a : Array Jvm.Value) (st : Jvm.State) : (allAtoms ts).before a st = ts.all (fun c => c.before a st) := by
  induction ts with
  | nil => rfl
  | cons c t ih =>
    show (Jvm.Cond.and c (allAtoms t)).before a st = _
    rw [Jvm.Cond.before_and, ih, List.all_cons]
def words1 : List Jvm.Cond := Jvm.Cond.code x code maxLocals ret :: tables_1
/-- a 'code' word, met by the world's own term for the bytes: nothing is compared byte by byte -/
theorem code_word {y : MethodName} {bytes : ByteArray} {mx : Nat} {rt : Option FieldType} {a : Array Value} {s : State} {m : MethodId} {meth : Method} {c : Code} (h1 : s.methodNamed? y = some m) (h2 : s.vm.method? m = some meth) (h3 : meth.code = some c) (h4 : c.code = bytes)
    (h5 : (c.maxLocals == mx && c.exceptionTable.isEmpty && decide (c.maxStack ≤ mostOperands) && decide (meth.sig.returnType = rt) && !meth.locks && decide (parseMethodDescriptor y.desc = some meth.sig)) = true) : (Jvm.Cond.code y bytes mx rt).before a s = true := by
  simp only [Bool.and_eq_true, beq_iff_eq, Bool.not_eq_true', decide_eq_true_eq] at h5
  obtain ⟨⟨⟨⟨⟨g1, g2⟩, g3⟩, g4⟩, g5⟩, g6⟩ := h5
  simp [Cond.before, Cond.holds, Cond.value, h1, h2, h3, h4, g1, g2, g3, g4, g5, g6]
def isCode : Jvm.Cond → Bool
  | .code _ _ _ _ => true
  | _ => false
theorem all_split {L : List Jvm.Cond} {P : Jvm.Cond → Bool} (h1 : L.all (fun c => isCode c || P c) = true) (h2 : ∀ c ∈ L.filter isCode, P c = true) : L.all P = true := by
  refine List.all_eq_true.mpr fun c hc => ?_
  have h := List.all_eq_true.mp h1 c hc
  rcases Bool.eq_false_or_eq_true (isCode c) with hi | hi
  · exact h2 c (List.mem_filter.mpr ⟨hc, hi⟩)
  · simpa [hi] using h
set_option maxRecDepth 65536 in
theorem w_c0 : (Jvm.Cond.code x code maxLocals ret).before args0 about1 = true := code_word (m := ⟨1, 3⟩) (meth := k1m3) (c := k1c3) (by decide +kernel) rfl rfl rfl (by decide +kernel)
set_option maxRecDepth 65536 in
theorem w_c1 : (Jvm.Cond.code ({ cls := "ninepoint/BeadColumnPinLaw", name := "outcomeOf", desc := "(I)Lninepoint/Outcome;" } : Jvm.MethodName) method_2_code (3 : Nat) (Option.some (Jvm.ClassFile.FieldType.object "ninepoint/Outcome"))).before args0 about1 = true := code_word (m := ⟨1, 1⟩) (meth := k1m1) (c := k1c1) (by decide +kernel) rfl rfl rfl (by decide +kernel)
set_option maxRecDepth 65536 in
theorem w_c2 : (Jvm.Cond.code ({ cls := "ninepoint/BeadColumnPinLaw", name := "pairsOf", desc := "(I)Lninepoint/Roads$Pairs;" } : Jvm.MethodName) method_3_code (3 : Nat) (Option.some (Jvm.ClassFile.FieldType.object "ninepoint/Roads$Pairs"))).before args0 about1 = true := code_word (m := ⟨1, 2⟩) (meth := k1m2) (c := k1c2) (by decide +kernel) rfl rfl rfl (by decide +kernel)
set_option maxRecDepth 65536 in
theorem w_c3 : (Jvm.Cond.code ({ cls := "ninepoint/Roads$Bead", name := "<init>", desc := "(ILninepoint/Outcome;ILninepoint/Roads$Pairs;)V" } : Jvm.MethodName) prog_24_method_1_code (5 : Nat) (Option.none : Option Jvm.ClassFile.FieldType)).before args0 about1 = true := code_word (m := ⟨3, 0⟩) (meth := k3m0) (c := k3c0) (by decide +kernel) rfl rfl rfl (by decide +kernel)
set_option maxRecDepth 65536 in
theorem w_c4 : (Jvm.Cond.code ({ cls := "java/lang/Record", name := "<init>", desc := "()V" } : Jvm.MethodName) jdk_30_method_1_code (1 : Nat) (Option.none : Option Jvm.ClassFile.FieldType)).before args0 about1 = true := code_word (m := ⟨2, 0⟩) (meth := k2m0) (c := k2c0) (by decide +kernel) rfl rfl rfl (by decide +kernel)
set_option maxRecDepth 65536 in
theorem w_c5 : (Jvm.Cond.code ({ cls := "java/lang/Object", name := "<init>", desc := "()V" } : Jvm.MethodName) object_method_1_code (1 : Nat) (Option.none : Option Jvm.ClassFile.FieldType)).before args0 about1 = true := code_word (m := ⟨0, 0⟩) (meth := k0m0) (c := k0c0) (by decide +kernel) rfl rfl rfl (by decide +kernel)
set_option maxRecDepth 65536 in
theorem w_c6 : (Jvm.Cond.code ({ cls := "java/util/Objects", name := "requireNonNull", desc := "(Ljava/lang/Object;Ljava/lang/String;)Ljava/lang/Object;" } : Jvm.MethodName) jdk_31_method_11_code (2 : Nat) (Option.some (Jvm.ClassFile.FieldType.object "java/lang/Object"))).before args0 about1 = true := code_word (m := ⟨13, 1⟩) (meth := k13m1) (c := k13c1) (by decide +kernel) rfl rfl rfl (by decide +kernel)
set_option maxRecDepth 65536 in
theorem w_c7 : (Jvm.Cond.code ({ cls := "ninepoint/Roads", name := "checkNumber", desc := "(ILjava/lang/String;)V" } : Jvm.MethodName) prog_23_method_10_code (2 : Nat) (Option.none : Option Jvm.ClassFile.FieldType)).before args0 about1 = true := code_word (m := ⟨14, 1⟩) (meth := k14m1) (c := k14c1) (by decide +kernel) rfl rfl rfl (by decide +kernel)
set_option maxRecDepth 65536 in
theorem w_c8 : (Jvm.Cond.code ({ cls := "ninepoint/Roads$Bead", name := "column", desc := "()I" } : Jvm.MethodName) prog_24_method_2_code (1 : Nat) (Option.some Jvm.ClassFile.FieldType.int)).before args0 about1 = true := code_word (m := ⟨3, 1⟩) (meth := k3m1) (c := k3c1) (by decide +kernel) rfl rfl rfl (by decide +kernel)
def codes1 : List Jvm.Cond := [Jvm.Cond.code x code maxLocals ret, Jvm.Cond.code ({ cls := "ninepoint/BeadColumnPinLaw", name := "outcomeOf", desc := "(I)Lninepoint/Outcome;" } : Jvm.MethodName) method_2_code (3 : Nat) (Option.some (Jvm.ClassFile.FieldType.object "ninepoint/Outcome")), Jvm.Cond.code ({ cls := "ninepoint/BeadColumnPinLaw", name := "pairsOf", desc := "(I)Lninepoint/Roads$Pairs;" } : Jvm.MethodName) method_3_code (3 : Nat) (Option.some (Jvm.ClassFile.FieldType.object "ninepoint/Roads$Pairs")), Jvm.Cond.code ({ cls := "ninepoint/Roads$Bead", name := "<init>", desc := "(ILninepoint/Outcome;ILninepoint/Roads$Pairs;)V" } : Jvm.MethodName) prog_24_method_1_code (5 : Nat) (Option.none : Option Jvm.ClassFile.FieldType), Jvm.Cond.code ({ cls := "java/lang/Record", name := "<init>", desc := "()V" } : Jvm.MethodName) jdk_30_method_1_code (1 : Nat) (Option.none : Option Jvm.ClassFile.FieldType), Jvm.Cond.code ({ cls := "java/lang/Object", name := "<init>", desc := "()V" } : Jvm.MethodName) object_method_1_code (1 : Nat) (Option.none : Option Jvm.ClassFile.FieldType), Jvm.Cond.code ({ cls := "java/util/Objects", name := "requireNonNull", desc := "(Ljava/lang/Object;Ljava/lang/String;)Ljava/lang/Object;" } : Jvm.MethodName) jdk_31_method_11_code (2 : Nat) (Option.some (Jvm.ClassFile.FieldType.object "java/lang/Object")), Jvm.Cond.code ({ cls := "ninepoint/Roads", name := "checkNumber", desc := "(ILjava/lang/String;)V" } : Jvm.MethodName) prog_23_method_10_code (2 : Nat) (Option.none : Option Jvm.ClassFile.FieldType), Jvm.Cond.code ({ cls := "ninepoint/Roads$Bead", name := "column", desc := "()I" } : Jvm.MethodName) prog_24_method_2_code (1 : Nat) (Option.some Jvm.ClassFile.FieldType.int)]
set_option maxRecDepth 65536 in
theorem codes_eq : words1.filter isCode = codes1 := rfl
theorem w_codes : ∀ c ∈ words1.filter isCode, c.before args0 about1 = true := by
  rw [codes_eq]
  intro c hc
  simp only [codes1, List.mem_cons, List.not_mem_nil, or_false] at hc
  rcases hc with rfl | rfl | rfl | rfl | rfl | rfl | rfl | rfl | rfl
  · exact w_c0
  · exact w_c1
  · exact w_c2
  · exact w_c3
  · exact w_c4
  · exact w_c5
  · exact w_c6
  · exact w_c7
  · exact w_c8
set_option maxRecDepth 65536 in
theorem w_t1 : (words1.take 24).all (fun c => isCode c || c.before args0 about1) = true := by decide +kernel
set_option maxRecDepth 65536 in
theorem w_t2 : ((words1.drop 24).take 24).all (fun c => isCode c || c.before args0 about1) = true := by decide +kernel
set_option maxRecDepth 65536 in
theorem w_t3 : (((words1.drop 24).drop 24).take 24).all (fun c => isCode c || c.before args0 about1) = true := by decide +kernel
set_option maxRecDepth 65536 in
theorem w_t4 : (((words1.drop 24).drop 24).drop 24).all (fun c => isCode c || c.before args0 about1) = true := by decide +kernel
theorem w_tables : (allAtoms (Jvm.Cond.code x code maxLocals ret :: tables_1)).before args0 about1 = true := by
  rw [allAtoms_all]
  show words1.all (fun c => c.before args0 about1) = true
  refine all_split ?_ w_codes
  rw [← List.take_append_drop 24 words1, List.all_append, w_t1, ← List.take_append_drop 24 (words1.drop 24), List.all_append, w_t2, ← List.take_append_drop 24 ((words1.drop 24).drop 24), List.all_append, w_t3, w_t4]
  rfl
set_option maxRecDepth 65536 in
theorem w_case : (Jvm.Cond.and given_1 narrow_1).before args0 about1 = true := by decide +kernel
theorem w_applies : (headSpec (Jvm.Cond.code x code maxLocals ret :: tables_1) room_1).applies x e0.platform about1 = true :=
  (Spec.applies_iff w_frames).mpr ⟨w_running, w_runnable, w_alone, w_named, w_hears, w_ripe, w_room, w_tables⟩
theorem atStart : AtStart classFile x code maxLocals ret World_1 tables_1 room_1 Calls_1 rest_1 Pre_1 launch0 p0 e0 about1 theMethod args0 below0 :=
  ⟨lists_1, trivial, launch0.admits_env _ _ _, launch0.least_env, fairChoices_fair.cas, fairChoices_fair.clock, w_frames, w_args, w_heap, w_applies, trivial, trivial, w_case⟩
end start1
theorem witness_1 : WitnessClaimed_1 := ⟨start1.p0, start1.e0, start1.about1, start1.theMethod, start1.args0, start1.below0, start1.atStart⟩
end Jvm.Pilot.@@N@@
