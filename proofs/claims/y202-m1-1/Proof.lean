import JvmDerived
import JvmDerived.Pilot.@@N@@Statement
import JvmDerived.Pilot.@@N@@Code
set_option linter.unusedVariables false
set_option linter.unusedSimpArgs false
namespace Jvm.RoadKit
open Sem ClassFile Op Lib Jvm.Stand Jvm.Free Jvm.LawKit
abbrev Go (tb : Tables) (e : Env) (below : List Frame) (A B : State) : Prop := ∀ t, Steps tb e below B t → Steps tb e below A t
theorem goT {tb : Tables} {e : Env} {below : List Frame} {A B C : State} (f : Go tb e below A B) (g : Go tb e below B C) : Go tb e below A C := fun t h => f t (g t h)
section New
variable {p : Program} {l : Launch} {e : Env} {R : Room} {s : State} {m : MethodId} {args : Array Value} {below : List Frame} {meth : Method} {c : Code} {T : State} {locs : List Loc} {cells slots : Nat}
theorem retI (X : Stand p l e R s m args below meth c T locs cells slots) (hx : p.tables.exec = Jvm.exec) {pc : Nat} {Ls : Array Slot} {z : Int32} {rest : List Value} (hret : meth.sig.returnType = some .int) (hd : decode c.code pc = .ok (.ireturn, 1)) {fs : List Frame}
    (hl : ∀ (f : JFrame) (acts : List Action), f.method = m → f.locked = none → f.entered = [] → (doReturn e (T.setTop f) acts (some (.int z))).1 = T.setFrames fs) : Steps p.tables e below (T.setTop (mkF m pc Ls (.int z :: rest))) (T.setFrames fs) := by
  have hm' : T.vm.method? m = some meth := X.method'
  have hn : narrow .int (.int z) = .int z := rfl
  show Steps p.tables e below (T.setTop { method := m, pc := pc, locals := Ls, stack := _ :: rest, locked := none }) _
  jvm_step X.here [X.here.top, hx, hd, hm', hret, hn]
  first | (intro acts; rw [hl _ acts rfl rfl rfl]) | rw [hl _ _ rfl rfl rfl]
  exact Steps.refl _
theorem retJ (X : Stand p l e R s m args below meth c T locs cells slots) (hx : p.tables.exec = Jvm.exec) {pc : Nat} {Ls : Array Slot} {z : Int64} {rest : List Value} (hret : meth.sig.returnType = some .long) (hd : decode c.code pc = .ok (.lreturn, 1)) {fs : List Frame}
    (hl : ∀ (f : JFrame) (acts : List Action), f.method = m → f.locked = none → f.entered = [] → (doReturn e (T.setTop f) acts (some (.long z))).1 = T.setFrames fs) : Steps p.tables e below (T.setTop (mkF m pc Ls (.long z :: rest))) (T.setFrames fs) := by
  have hm' : T.vm.method? m = some meth := X.method'
  have hn : narrow .long (.long z) = .long z := rfl
  show Steps p.tables e below (T.setTop { method := m, pc := pc, locals := Ls, stack := _ :: rest, locked := none }) _
  jvm_step X.here [X.here.top, hx, hd, hm', hret, hn]
  first | (intro acts; rw [hl _ acts rfl rfl rfl]) | rw [hl _ _ rfl rfl rfl]
  exact Steps.refl _
theorem retR (X : Stand p l e R s m args below meth c T locs cells slots) (hx : p.tables.exec = Jvm.exec) {pc : Nat} {Ls : Array Slot} {z : Addr} {rest : List Value} {C : String} (hret : meth.sig.returnType = some (.object C)) (hd : decode c.code pc = .ok (.areturn, 1)) {fs : List Frame}
    (hl : ∀ (f : JFrame) (acts : List Action), f.method = m → f.locked = none → f.entered = [] → (doReturn e (T.setTop f) acts (some (.ref z))).1 = T.setFrames fs) : Steps p.tables e below (T.setTop (mkF m pc Ls (.ref z :: rest))) (T.setFrames fs) := by
  have hm' : T.vm.method? m = some meth := X.method'
  show Steps p.tables e below (T.setTop { method := m, pc := pc, locals := Ls, stack := _ :: rest, locked := none }) _
  jvm_step X.here [X.here.top, hx, hd, hm', hret, Value.isRef, FieldType.isReference]
  first | (intro acts; rw [hl _ acts rfl rfl rfl]) | rw [hl _ _ rfl rfl rfl]
  exact Steps.refl _
end New
theorem own_sta_keep {Z : State} {h h' : Heap} {b : Addr} {C n d K : String} {v : Value} (F : Sta Z h C n d v) (E : Exa Z h b K) (Kp : Keep h h' [b]) : Sta Z h' C n d v := by
  obtain ⟨cf, i, k, f, st, cell, h1, h2, h3, h4, h5, h6, h7⟩ := F
  obtain ⟨c2, _, g1, -, -, g4, -⟩ := E
  have ne : st ∉ [b] := fun q => by
    cases List.mem_singleton.mp q
    cases h5.symm.trans g1
    rw [g4] at h6; cases h6
  exact ⟨cf, i, k, f, st, cell, h1, h2, h3, h4, Kp.2.1 st cell h5 ne, h6, h7⟩
theorem own_mvM {Z s : State} {a0 args : Array Value} {own host : String} {index : Nat} {y : MethodName} (hZ : Z.Warmed39 s.vm) (w : (Cond.methodLinkNest own index y host).before a0 Z = true) : (Cond.methodLinkNest own index y host).before args s = true := (Cond.methodLinkNest_wide hZ w :)
theorem own_fld_ne {Z : State} {h : Heap} {a : Addr} {C n d : String} {v w : Value} (F : Fld Z h a C n d v) (G : Fld Z h a C n d w) (ne : v ≠ w) : False := by
  obtain ⟨cell, cf, k, i, f, h1, h2, -, -, -, -, h7⟩ := F
  obtain ⟨cell', cf', k', i', f', g1, g2, -, -, -, -, g7⟩ := G
  cases h1.symm.trans g1
  cases h2.symm.trans g2
  cases h7.symm.trans g7
  exact ne rfl
theorem own_eq_i {args : Array Value} {first s : State} {o : Option Outcome} {idx : List Nat} {a : Term} {z : Int32} (h : (Cond.eq a (.int z)).value args first o s idx = some true) : a.eval args first o idx s = some (.int z) := by
  cases ha : a.eval args first o idx s with
  | none => simp [Cond.value, Term.eval, ha] at h
  | some x => cases x <;> simp [Cond.value, Term.eval, ha] at h ⊢; exact h
theorem own_eq_l {args : Array Value} {first s : State} {o : Option Outcome} {idx : List Nat} {a : Term} {z : Int64} (h : (Cond.eq a (.long z)).value args first o s idx = some true) : a.eval args first o idx s = some (.long z) := by
  cases ha : a.eval args first o idx s with
  | none => simp [Cond.value, Term.eval, ha] at h
  | some x => cases x <;> simp [Cond.value, Term.eval, ha] at h ⊢; exact h
theorem own_ltL {x y : Int64} (h : x < y) : lcmpW x y < 0 := (lw_lt x y).mpr h
theorem own_nltL {x y : Int64} (h : ¬ x < y) : ¬ lcmpW x y < 0 := fun q => h ((lw_lt x y).mp q)
theorem own_gtL {x y : Int64} (h : y < x) : 0 < lcmpW x y := (lw_gt x y).mpr h
theorem own_ngtL {x y : Int64} (h : ¬ y < x) : ¬ 0 < lcmpW x y := fun q => h ((lw_gt x y).mp q)
theorem own_eqL {x y : Int64} (h : x = y) : lcmpW x y = 0 := (lw_eq x y).mpr h
theorem own_neqL {x y : Int64} (h : ¬ x = y) : ¬ lcmpW x y = 0 := fun q => h ((lw_eq x y).mp q)
end Jvm.RoadKit
namespace Jvm.Pilot.@@N@@
open Jvm Jvm.ClassFile Sem Op Lib Jvm.Free Jvm.Stand Jvm.LawKit Jvm.RoadKit Bundle Jvm.Pilot.@@N@@.Jvm.D
theorem own_and (x m : Int32) (k : Nat) (hk : k < 32) (hm : m.toBitVec.toNat = 2 ^ k - 1) : x &&& m = Int32.ofNat (x.toBitVec.toNat % 2 ^ k) := by
  apply Int32.toBitVec_inj.mp
  apply BitVec.eq_of_toNat_eq
  show (x.toBitVec &&& m.toBitVec).toNat = (x.toBitVec.toNat % 2 ^ k) % 2 ^ 32
  have hp : 2 ^ k ≤ 2 ^ 32 := Nat.pow_le_pow_right (by decide) (by omega)
  have hq : x.toBitVec.toNat % 2 ^ k < 2 ^ k := Nat.mod_lt _ (Nat.two_pow_pos k)
  rw [BitVec.toNat_and, hm, Nat.and_two_pow_sub_one_eq_mod, Nat.mod_eq_of_lt (Nat.lt_of_lt_of_le hq hp)]
theorem own_ofNat {n : Nat} (h : n < 2 ^ 31) : (Int32.ofNat n).toInt = n := Int32.toInt_ofNat_of_lt h
theorem own_rem {n k : Nat} (h : n < 2 ^ 31) (hk : 0 < k) (hk2 : k < 2 ^ 31) : Int32.ofNat n % Int32.ofNat k = Int32.ofNat (n % k) := by
  apply Int32.toInt_inj.mp
  have : n % k < k := Nat.mod_lt _ hk
  rw [Int32.toInt_mod, own_ofNat h, own_ofNat hk2, own_ofNat (by omega), Int.tmod_eq_emod_of_nonneg (by omega)]
  rfl
theorem own_bmod {n : Int} (h1 : -2 ^ 31 ≤ n) (h2 : n < 2 ^ 31) : n.bmod (2 ^ 32) = n := by
  rw [Int.bmod_def]; omega
theorem own_remE {n k : Nat} (h : n < 2 ^ 31) (hk : 0 < k) (hk2 : k < 2 ^ 31) : Int32.ofNat n - ((Int32.ofNat n / Int32.ofNat k) * Int32.ofNat k) = Int32.ofNat (n % k) := by
  apply Int32.toInt_inj.mp
  have h3 : n % k < k := Nat.mod_lt _ hk
  have h4 : n / k ≤ n := Nat.div_le_self _ _
  have h5 : (n / k) * k + n % k = n := Nat.div_add_mod' n k
  have e0 : (n : Int).tdiv (k : Int) = ((n / k : Nat) : Int) := rfl
  generalize n / k = d at *
  generalize n % k = r at *
  have e1 : (Int32.ofNat n / Int32.ofNat k).toInt = (d : Int) := by
    rw [Int32.toInt_div, own_ofNat h, own_ofNat hk2, e0]
    exact own_bmod (by omega) (by omega)
  have e2 : ((Int32.ofNat n / Int32.ofNat k) * Int32.ofNat k).toInt = ((d * k : Nat) : Int) := by
    rw [Int32.toInt_mul, e1, own_ofNat hk2, ← Int.natCast_mul]
    exact own_bmod (by omega) (by omega)
  rw [Int32.toInt_sub, e2, own_ofNat h, own_ofNat (by omega), own_bmod (by omega) (by omega)]
  omega
theorem d_ch_0 : decode method_2_code 0 = .ok (.lload_n 0, 1) := by decide +kernel
theorem d_ch_1 : decode method_2_code 1 = .ok (.ldc2_w 7, 3) := by decide +kernel
theorem d_ch_4 : decode method_2_code 4 = .ok (.land, 1) := by decide +kernel
theorem d_ch_5 : decode method_2_code 5 = .ok (.l2i, 1) := by decide +kernel
theorem d_ch_6 : decode method_2_code 6 = .ok (.istore_n 2, 1) := by decide +kernel
theorem d_ch_7 : decode method_2_code 7 = .ok (.lload_n 0, 1) := by decide +kernel
theorem d_ch_8 : decode method_2_code 8 = .ok (.iconst 2, 1) := by decide +kernel
theorem d_ch_9 : decode method_2_code 9 = .ok (.lushr, 1) := by decide +kernel
theorem d_ch_10 : decode method_2_code 10 = .ok (.ldc2_w 9, 3) := by decide +kernel
theorem d_ch_13 : decode method_2_code 13 = .ok (.land, 1) := by decide +kernel
theorem d_ch_14 : decode method_2_code 14 = .ok (.l2i, 1) := by decide +kernel
theorem d_ch_15 : decode method_2_code 15 = .ok (.istore_n 3, 1) := by decide +kernel
theorem d_ch_16 : decode method_2_code 16 = .ok (.iload_n 2, 1) := by decide +kernel
theorem d_ch_17 : decode method_2_code 17 = .ok (.ifCond .ne 13, 3) := by decide +kernel
theorem d_ch_20 : decode method_2_code 20 = .ok (.ldc 11, 2) := by decide +kernel
theorem d_ch_22 : decode method_2_code 22 = .ok (.iload_n 3, 1) := by decide +kernel
theorem d_ch_23 : decode method_2_code 23 = .ok (.sipush 1023, 3) := by decide +kernel
theorem d_ch_26 : decode method_2_code 26 = .ok (.iand, 1) := by decide +kernel
theorem d_ch_27 : decode method_2_code 27 = .ok (.ior, 1) := by decide +kernel
theorem d_ch_28 : decode method_2_code 28 = .ok (.i2c, 1) := by decide +kernel
theorem d_ch_29 : decode method_2_code 29 = .ok (.ireturn, 1) := by decide +kernel
theorem d_ch_30 : decode method_2_code 30 = .ok (.iload_n 2, 1) := by decide +kernel
theorem d_ch_31 : decode method_2_code 31 = .ok (.iconst 1, 1) := by decide +kernel
theorem d_ch_32 : decode method_2_code 32 = .ok (.if_icmp .ne 13, 3) := by decide +kernel
theorem d_ch_35 : decode method_2_code 35 = .ok (.ldc 12, 2) := by decide +kernel
theorem d_ch_37 : decode method_2_code 37 = .ok (.iload_n 3, 1) := by decide +kernel
theorem d_ch_38 : decode method_2_code 38 = .ok (.sipush 1023, 3) := by decide +kernel
theorem d_ch_41 : decode method_2_code 41 = .ok (.iand, 1) := by decide +kernel
theorem d_ch_42 : decode method_2_code 42 = .ok (.ior, 1) := by decide +kernel
theorem d_ch_43 : decode method_2_code 43 = .ok (.i2c, 1) := by decide +kernel
theorem d_ch_44 : decode method_2_code 44 = .ok (.ireturn, 1) := by decide +kernel
theorem d_ch_45 : decode method_2_code 45 = .ok (.iload_n 3, 1) := by decide +kernel
theorem d_ch_46 : decode method_2_code 46 = .ok (.i2c, 1) := by decide +kernel
theorem d_ch_47 : decode method_2_code 47 = .ok (.ireturn, 1) := by decide +kernel
theorem pn_0 : plainName "com/example/fieldveil/fieldveil/Utf8FirstUnpairedSurrogatePinLaw" = true := by first | (simp [plainName, overriddenIn]; done) | decide +kernel
theorem ef_ch (m : MethodId) (x0 : Int64) : entryFrame m #[(.long x0)] 4 = mkF m 0 #[.val (.long x0), .second, .unset, .unset] [] := by first | (simp [entryFrame, mkF, argsToLocals, Value.category]; done) | rfl
def f_ch (q0 : Int64) : Int32 := (if ((q0 &&& (3 : Int64)).toInt32) = (0 : Int32) then (nar .char (((55296 : Int32) ||| (((((q0.toUInt64 >>> ((2 : Int32) &&& 0x3f).toInt64.toUInt64).toInt64) &&& (65535 : Int64)).toInt32) &&& (1023 : Int32))).toUInt32.toUInt16.toUInt32.toInt32)) else (if ((q0 &&& (3 : Int64)).toInt32) = (1 : Int32) then (nar .char (((56320 : Int32) ||| (((((q0.toUInt64 >>> ((2 : Int32) &&& 0x3f).toInt64.toUInt64).toInt64) &&& (65535 : Int64)).toInt32) &&& (1023 : Int32))).toUInt32.toUInt16.toUInt32.toInt32)) else (nar .char (((((q0.toUInt64 >>> ((2 : Int32) &&& 0x3f).toInt64.toUInt64).toInt64) &&& (65535 : Int64)).toInt32).toUInt32.toUInt16.toUInt32.toInt32))))
def Q_ch (Z : State) (q0 : Int64) (h0 : Heap) (n0 : Nat) (v : Option Value) (h : Heap) (L : List Loc) : Prop := v = some (.int (f_ch q0)) ∧ Fr n0 L ∧ h = h0
set_option maxRecDepth 65536 in
set_option maxHeartbeats 40000000 in
theorem rm_ch (l : Launch) (Z : State) (a0 : Array Value) (hw : ∀ d ∈ tables_1, d.before a0 Z = true) (ws : List Jvm.Cond) (q0 : Int64) (h0 : Heap) (n0 : Nat) (Z0 : n0 ≤ h0.size) :
    MetFree l (⟨"com/example/fieldveil/fieldveil/Utf8FirstUnpairedSurrogatePinLaw", "ch", "(J)C"⟩ : MethodName) (head1 (Jvm.Cond.code (⟨"com/example/fieldveil/fieldveil/Utf8FirstUnpairedSurrogatePinLaw", "ch", "(J)C"⟩ : MethodName) method_2_code 4 (some .char) :: ws) ({ frames := 0, cells := 0, slots := 0, locals := 0 } : Room)) (fun a U => a = #[(.long q0)] ∧ Z.Warmed39 U.vm ∧ U.heap = h0) (fun _ _ _ _ _ => True) (fun _ U o U' => ∃ v L, o = .returned v ∧ Q_ch Z q0 h0 n0 v U'.heap L ∧ FrameEnd U o U' L ({ frames := 0, cells := 0, slots := 0, locals := 0 } : Room).cells ({ frames := 0, cells := 0, slots := 0, locals := 0 } : Room).slots) := by
  refine MetFree.of_bodySF (plainFor_of_name pn_0) hisR ?_
  intro p e s m args below meth c s₁ Bd hml0 hP hK
  obtain ⟨rfl, hZ, hh⟩ := hP
  have hx := Bd.exec
  have hby := Bd.bytes
  have hml : c.maxLocals = 4 := hml0
  have hown : s.vm.findClass "com/example/fieldveil/fieldveil/Utf8FirstUnpairedSurrogatePinLaw" = some m.cls := findClass_of_methodNamed Bd.named
  have hnm := (name_of_methodNamed Bd.named Bd.method).1
  have X0 : Stand p l e ({ frames := 0, cells := 0, slots := 0, locals := 0 } : Room) s m #[(.long q0)] below meth c s₁ [] 0 0 := Stand.of_body Bd
  have e0 : s₁.heap = h0 := by rw [← hh, Bd.state]; rfl
  have N0 := Fr.nil n0
  have pre0 : ∀ t, Steps p.tables e below (s₁.setTop (mkF m 0 #[.val (.long q0), .second, .unset, .unset] [])) t → Steps p.tables e below (s₁.setTop (entryFrame m #[(.long q0)] 4)) t := fun t k => castTop (ef_ch m q0) k
  have k1 : Go p.tables e below (s₁.setTop (mkF m 0 #[.val (.long q0), .second, .unset, .unset] [])) (s₁.setTop (mkF m 17 #[.val (.long q0), .second, .val (.int ((q0 &&& (3 : Int64)).toInt32)), .val (.int ((((q0.toUInt64 >>> ((2 : Int32) &&& 0x3f).toInt64.toUInt64).toInt64) &&& (65535 : Int64)).toInt32))] [(.int ((q0 &&& (3 : Int64)).toInt32))])) := by
    intro t ht
    refine XS.lloadN X0.here hx rfl (hb hby d_ch_0) rfl ?_
    show Steps p.tables e below (s₁.setTop (mkF m 1 #[.val (.long q0), .second, .unset, .unset] [(.long q0)])) _
    refine X0.ldc2Long hx hown (mvT hZ (hw _ (List.mem_of_getElem? (i := 5) rfl))) (g := (mkF m 1 #[.val (.long q0), .second, .unset, .unset] [(.long q0)])) rfl (hb hby d_ch_1) _ ?_
    show Steps p.tables e below (s₁.setTop (mkF m 4 #[.val (.long q0), .second, .unset, .unset] [(.long (3 : Int64)), (.long q0)])) _
    refine XS.land X0.here hx rfl (hb hby d_ch_4) rfl ?_
    show Steps p.tables e below (s₁.setTop (mkF m 5 #[.val (.long q0), .second, .unset, .unset] [(.long (q0 &&& (3 : Int64)))])) _
    refine XS.l2i X0.here hx rfl (hb hby d_ch_5) rfl ?_
    show Steps p.tables e below (s₁.setTop (mkF m 6 #[.val (.long q0), .second, .unset, .unset] [(.int ((q0 &&& (3 : Int64)).toInt32))])) _
    refine XS.istoreN X0.here hx rfl (hb hby d_ch_6) rfl (l' := #[.val (.long q0), .second, .val (.int ((q0 &&& (3 : Int64)).toInt32)), .unset]) rfl ?_
    show Steps p.tables e below (s₁.setTop (mkF m 7 #[.val (.long q0), .second, .val (.int ((q0 &&& (3 : Int64)).toInt32)), .unset] [])) _
    refine XS.lloadN X0.here hx rfl (hb hby d_ch_7) rfl ?_
    show Steps p.tables e below (s₁.setTop (mkF m 8 #[.val (.long q0), .second, .val (.int ((q0 &&& (3 : Int64)).toInt32)), .unset] [(.long q0)])) _
    refine XS.iconst X0.here hx rfl (hb hby d_ch_8) ?_
    show Steps p.tables e below (s₁.setTop (mkF m 9 #[.val (.long q0), .second, .val (.int ((q0 &&& (3 : Int64)).toInt32)), .unset] [(.int (2 : Int32)), (.long q0)])) _
    refine XS.lushr X0.here hx rfl (hb hby d_ch_9) rfl ?_
    show Steps p.tables e below (s₁.setTop (mkF m 10 #[.val (.long q0), .second, .val (.int ((q0 &&& (3 : Int64)).toInt32)), .unset] [(.long ((q0.toUInt64 >>> ((2 : Int32) &&& 0x3f).toInt64.toUInt64).toInt64))])) _
    refine X0.ldc2Long hx hown (mvT hZ (hw _ (List.mem_of_getElem? (i := 6) rfl))) (g := (mkF m 10 #[.val (.long q0), .second, .val (.int ((q0 &&& (3 : Int64)).toInt32)), .unset] [(.long ((q0.toUInt64 >>> ((2 : Int32) &&& 0x3f).toInt64.toUInt64).toInt64))])) rfl (hb hby d_ch_10) _ ?_
    show Steps p.tables e below (s₁.setTop (mkF m 13 #[.val (.long q0), .second, .val (.int ((q0 &&& (3 : Int64)).toInt32)), .unset] [(.long (65535 : Int64)), (.long ((q0.toUInt64 >>> ((2 : Int32) &&& 0x3f).toInt64.toUInt64).toInt64))])) _
    refine XS.land X0.here hx rfl (hb hby d_ch_13) rfl ?_
    show Steps p.tables e below (s₁.setTop (mkF m 14 #[.val (.long q0), .second, .val (.int ((q0 &&& (3 : Int64)).toInt32)), .unset] [(.long (((q0.toUInt64 >>> ((2 : Int32) &&& 0x3f).toInt64.toUInt64).toInt64) &&& (65535 : Int64)))])) _
    refine XS.l2i X0.here hx rfl (hb hby d_ch_14) rfl ?_
    show Steps p.tables e below (s₁.setTop (mkF m 15 #[.val (.long q0), .second, .val (.int ((q0 &&& (3 : Int64)).toInt32)), .unset] [(.int ((((q0.toUInt64 >>> ((2 : Int32) &&& 0x3f).toInt64.toUInt64).toInt64) &&& (65535 : Int64)).toInt32))])) _
    refine XS.istoreN X0.here hx rfl (hb hby d_ch_15) rfl (l' := #[.val (.long q0), .second, .val (.int ((q0 &&& (3 : Int64)).toInt32)), .val (.int ((((q0.toUInt64 >>> ((2 : Int32) &&& 0x3f).toInt64.toUInt64).toInt64) &&& (65535 : Int64)).toInt32))]) rfl ?_
    show Steps p.tables e below (s₁.setTop (mkF m 16 #[.val (.long q0), .second, .val (.int ((q0 &&& (3 : Int64)).toInt32)), .val (.int ((((q0.toUInt64 >>> ((2 : Int32) &&& 0x3f).toInt64.toUInt64).toInt64) &&& (65535 : Int64)).toInt32))] [])) _
    refine XS.iloadN X0.here hx rfl (hb hby d_ch_16) rfl ?_
    exact ht
  by_cases hc2 : ((q0 &&& (3 : Int64)).toInt32) = (0 : Int32)
  · have k3 : Go p.tables e below (s₁.setTop (mkF m 17 #[.val (.long q0), .second, .val (.int ((q0 &&& (3 : Int64)).toInt32)), .val (.int ((((q0.toUInt64 >>> ((2 : Int32) &&& 0x3f).toInt64.toUInt64).toInt64) &&& (65535 : Int64)).toInt32))] [(.int ((q0 &&& (3 : Int64)).toInt32))])) (s₁.setTop (mkF m 29 #[.val (.long q0), .second, .val (.int ((q0 &&& (3 : Int64)).toInt32)), .val (.int ((((q0.toUInt64 >>> ((2 : Int32) &&& 0x3f).toInt64.toUInt64).toInt64) &&& (65535 : Int64)).toInt32))] [(.int (((55296 : Int32) ||| (((((q0.toUInt64 >>> ((2 : Int32) &&& 0x3f).toInt64.toUInt64).toInt64) &&& (65535 : Int64)).toInt32) &&& (1023 : Int32))).toUInt32.toUInt16.toUInt32.toInt32))])) := by
      intro t ht
      refine XS.ifNo X0.here hx rfl (hb hby d_ch_17) rfl ((if0 _ _).trans (teq hc2).2) ?_
      show Steps p.tables e below (s₁.setTop (mkF m 20 #[.val (.long q0), .second, .val (.int ((q0 &&& (3 : Int64)).toInt32)), .val (.int ((((q0.toUInt64 >>> ((2 : Int32) &&& 0x3f).toInt64.toUInt64).toInt64) &&& (65535 : Int64)).toInt32))] [])) _
      refine X0.ldcInt hx hown (mvT hZ (hw _ (List.mem_of_getElem? (i := 7) rfl))) (g := (mkF m 20 #[.val (.long q0), .second, .val (.int ((q0 &&& (3 : Int64)).toInt32)), .val (.int ((((q0.toUInt64 >>> ((2 : Int32) &&& 0x3f).toInt64.toUInt64).toInt64) &&& (65535 : Int64)).toInt32))] [])) rfl (hb hby d_ch_20) _ ?_
      show Steps p.tables e below (s₁.setTop (mkF m 22 #[.val (.long q0), .second, .val (.int ((q0 &&& (3 : Int64)).toInt32)), .val (.int ((((q0.toUInt64 >>> ((2 : Int32) &&& 0x3f).toInt64.toUInt64).toInt64) &&& (65535 : Int64)).toInt32))] [(.int (55296 : Int32))])) _
      refine XS.iloadN X0.here hx rfl (hb hby d_ch_22) rfl ?_
      show Steps p.tables e below (s₁.setTop (mkF m 23 #[.val (.long q0), .second, .val (.int ((q0 &&& (3 : Int64)).toInt32)), .val (.int ((((q0.toUInt64 >>> ((2 : Int32) &&& 0x3f).toInt64.toUInt64).toInt64) &&& (65535 : Int64)).toInt32))] [(.int ((((q0.toUInt64 >>> ((2 : Int32) &&& 0x3f).toInt64.toUInt64).toInt64) &&& (65535 : Int64)).toInt32)), (.int (55296 : Int32))])) _
      refine XS.sipush X0.here hx rfl (hb hby d_ch_23) ?_
      show Steps p.tables e below (s₁.setTop (mkF m 26 #[.val (.long q0), .second, .val (.int ((q0 &&& (3 : Int64)).toInt32)), .val (.int ((((q0.toUInt64 >>> ((2 : Int32) &&& 0x3f).toInt64.toUInt64).toInt64) &&& (65535 : Int64)).toInt32))] [(.int (1023 : Int32)), (.int ((((q0.toUInt64 >>> ((2 : Int32) &&& 0x3f).toInt64.toUInt64).toInt64) &&& (65535 : Int64)).toInt32)), (.int (55296 : Int32))])) _
      refine XS.iand X0.here hx rfl (hb hby d_ch_26) rfl ?_
      show Steps p.tables e below (s₁.setTop (mkF m 27 #[.val (.long q0), .second, .val (.int ((q0 &&& (3 : Int64)).toInt32)), .val (.int ((((q0.toUInt64 >>> ((2 : Int32) &&& 0x3f).toInt64.toUInt64).toInt64) &&& (65535 : Int64)).toInt32))] [(.int (((((q0.toUInt64 >>> ((2 : Int32) &&& 0x3f).toInt64.toUInt64).toInt64) &&& (65535 : Int64)).toInt32) &&& (1023 : Int32))), (.int (55296 : Int32))])) _
      refine XS.ior X0.here hx rfl (hb hby d_ch_27) rfl ?_
      show Steps p.tables e below (s₁.setTop (mkF m 28 #[.val (.long q0), .second, .val (.int ((q0 &&& (3 : Int64)).toInt32)), .val (.int ((((q0.toUInt64 >>> ((2 : Int32) &&& 0x3f).toInt64.toUInt64).toInt64) &&& (65535 : Int64)).toInt32))] [(.int ((55296 : Int32) ||| (((((q0.toUInt64 >>> ((2 : Int32) &&& 0x3f).toInt64.toUInt64).toInt64) &&& (65535 : Int64)).toInt32) &&& (1023 : Int32))))])) _
      refine XS.i2c X0.here hx rfl (hb hby d_ch_28) rfl ?_
      exact ht
    obtain ⟨fs, hr, hrun, hended, hW, hsame⟩ := X0.leave (v := some (.int (nar .char (((55296 : Int32) ||| (((((q0.toUInt64 >>> ((2 : Int32) &&& 0x3f).toInt64.toUInt64).toInt64) &&& (65535 : Int64)).toInt32) &&& (1023 : Int32))).toUInt32.toUInt16.toUInt32.toInt32)))) (fun h => by rw [Bd.returns] at h; cases h)
    refine ⟨_, _, pre0 _ ((goT k1 k3) _ (retN X0 hx (t := .char) Bd.returns (by simp) (hb hby d_ch_29) hr)), hrun, hended, _, _, rfl, ?_, ⟨_, rfl⟩, hW, hsame.mono (by decide) (by decide)⟩
    show Q_ch Z q0 h0 n0 _ s₁.heap _
    rw [e0]
    exact ⟨by simp only [f_ch, if_pos hc2], N0, rfl⟩
  · have k4 : Go p.tables e below (s₁.setTop (mkF m 17 #[.val (.long q0), .second, .val (.int ((q0 &&& (3 : Int64)).toInt32)), .val (.int ((((q0.toUInt64 >>> ((2 : Int32) &&& 0x3f).toInt64.toUInt64).toInt64) &&& (65535 : Int64)).toInt32))] [(.int ((q0 &&& (3 : Int64)).toInt32))])) (s₁.setTop (mkF m 32 #[.val (.long q0), .second, .val (.int ((q0 &&& (3 : Int64)).toInt32)), .val (.int ((((q0.toUInt64 >>> ((2 : Int32) &&& 0x3f).toInt64.toUInt64).toInt64) &&& (65535 : Int64)).toInt32))] [(.int (1 : Int32)), (.int ((q0 &&& (3 : Int64)).toInt32))])) := by
      intro t ht
      refine XS.ifYes X0.here hx rfl (pc0 := 17) (pc' := 30) rfl (hb hby d_ch_17) rfl ((if0 _ _).trans (feq hc2).2) (by decide) (by decide) ?_
      show Steps p.tables e below (s₁.setTop (mkF m 30 #[.val (.long q0), .second, .val (.int ((q0 &&& (3 : Int64)).toInt32)), .val (.int ((((q0.toUInt64 >>> ((2 : Int32) &&& 0x3f).toInt64.toUInt64).toInt64) &&& (65535 : Int64)).toInt32))] [])) _
      refine XS.iloadN X0.here hx rfl (hb hby d_ch_30) rfl ?_
      show Steps p.tables e below (s₁.setTop (mkF m 31 #[.val (.long q0), .second, .val (.int ((q0 &&& (3 : Int64)).toInt32)), .val (.int ((((q0.toUInt64 >>> ((2 : Int32) &&& 0x3f).toInt64.toUInt64).toInt64) &&& (65535 : Int64)).toInt32))] [(.int ((q0 &&& (3 : Int64)).toInt32))])) _
      refine XS.iconst X0.here hx rfl (hb hby d_ch_31) ?_
      exact ht
    by_cases hc5 : ((q0 &&& (3 : Int64)).toInt32) = (1 : Int32)
    · have k6 : Go p.tables e below (s₁.setTop (mkF m 32 #[.val (.long q0), .second, .val (.int ((q0 &&& (3 : Int64)).toInt32)), .val (.int ((((q0.toUInt64 >>> ((2 : Int32) &&& 0x3f).toInt64.toUInt64).toInt64) &&& (65535 : Int64)).toInt32))] [(.int (1 : Int32)), (.int ((q0 &&& (3 : Int64)).toInt32))])) (s₁.setTop (mkF m 44 #[.val (.long q0), .second, .val (.int ((q0 &&& (3 : Int64)).toInt32)), .val (.int ((((q0.toUInt64 >>> ((2 : Int32) &&& 0x3f).toInt64.toUInt64).toInt64) &&& (65535 : Int64)).toInt32))] [(.int (((56320 : Int32) ||| (((((q0.toUInt64 >>> ((2 : Int32) &&& 0x3f).toInt64.toUInt64).toInt64) &&& (65535 : Int64)).toInt32) &&& (1023 : Int32))).toUInt32.toUInt16.toUInt32.toInt32))])) := by
        intro t ht
        refine XS.icmpNo X0.here hx rfl (hb hby d_ch_32) rfl (teq hc5).2 ?_
        show Steps p.tables e below (s₁.setTop (mkF m 35 #[.val (.long q0), .second, .val (.int ((q0 &&& (3 : Int64)).toInt32)), .val (.int ((((q0.toUInt64 >>> ((2 : Int32) &&& 0x3f).toInt64.toUInt64).toInt64) &&& (65535 : Int64)).toInt32))] [])) _
        refine X0.ldcInt hx hown (mvT hZ (hw _ (List.mem_of_getElem? (i := 8) rfl))) (g := (mkF m 35 #[.val (.long q0), .second, .val (.int ((q0 &&& (3 : Int64)).toInt32)), .val (.int ((((q0.toUInt64 >>> ((2 : Int32) &&& 0x3f).toInt64.toUInt64).toInt64) &&& (65535 : Int64)).toInt32))] [])) rfl (hb hby d_ch_35) _ ?_
        show Steps p.tables e below (s₁.setTop (mkF m 37 #[.val (.long q0), .second, .val (.int ((q0 &&& (3 : Int64)).toInt32)), .val (.int ((((q0.toUInt64 >>> ((2 : Int32) &&& 0x3f).toInt64.toUInt64).toInt64) &&& (65535 : Int64)).toInt32))] [(.int (56320 : Int32))])) _
        refine XS.iloadN X0.here hx rfl (hb hby d_ch_37) rfl ?_
        show Steps p.tables e below (s₁.setTop (mkF m 38 #[.val (.long q0), .second, .val (.int ((q0 &&& (3 : Int64)).toInt32)), .val (.int ((((q0.toUInt64 >>> ((2 : Int32) &&& 0x3f).toInt64.toUInt64).toInt64) &&& (65535 : Int64)).toInt32))] [(.int ((((q0.toUInt64 >>> ((2 : Int32) &&& 0x3f).toInt64.toUInt64).toInt64) &&& (65535 : Int64)).toInt32)), (.int (56320 : Int32))])) _
        refine XS.sipush X0.here hx rfl (hb hby d_ch_38) ?_
        show Steps p.tables e below (s₁.setTop (mkF m 41 #[.val (.long q0), .second, .val (.int ((q0 &&& (3 : Int64)).toInt32)), .val (.int ((((q0.toUInt64 >>> ((2 : Int32) &&& 0x3f).toInt64.toUInt64).toInt64) &&& (65535 : Int64)).toInt32))] [(.int (1023 : Int32)), (.int ((((q0.toUInt64 >>> ((2 : Int32) &&& 0x3f).toInt64.toUInt64).toInt64) &&& (65535 : Int64)).toInt32)), (.int (56320 : Int32))])) _
        refine XS.iand X0.here hx rfl (hb hby d_ch_41) rfl ?_
        show Steps p.tables e below (s₁.setTop (mkF m 42 #[.val (.long q0), .second, .val (.int ((q0 &&& (3 : Int64)).toInt32)), .val (.int ((((q0.toUInt64 >>> ((2 : Int32) &&& 0x3f).toInt64.toUInt64).toInt64) &&& (65535 : Int64)).toInt32))] [(.int (((((q0.toUInt64 >>> ((2 : Int32) &&& 0x3f).toInt64.toUInt64).toInt64) &&& (65535 : Int64)).toInt32) &&& (1023 : Int32))), (.int (56320 : Int32))])) _
        refine XS.ior X0.here hx rfl (hb hby d_ch_42) rfl ?_
        show Steps p.tables e below (s₁.setTop (mkF m 43 #[.val (.long q0), .second, .val (.int ((q0 &&& (3 : Int64)).toInt32)), .val (.int ((((q0.toUInt64 >>> ((2 : Int32) &&& 0x3f).toInt64.toUInt64).toInt64) &&& (65535 : Int64)).toInt32))] [(.int ((56320 : Int32) ||| (((((q0.toUInt64 >>> ((2 : Int32) &&& 0x3f).toInt64.toUInt64).toInt64) &&& (65535 : Int64)).toInt32) &&& (1023 : Int32))))])) _
        refine XS.i2c X0.here hx rfl (hb hby d_ch_43) rfl ?_
        exact ht
      obtain ⟨fs, hr, hrun, hended, hW, hsame⟩ := X0.leave (v := some (.int (nar .char (((56320 : Int32) ||| (((((q0.toUInt64 >>> ((2 : Int32) &&& 0x3f).toInt64.toUInt64).toInt64) &&& (65535 : Int64)).toInt32) &&& (1023 : Int32))).toUInt32.toUInt16.toUInt32.toInt32)))) (fun h => by rw [Bd.returns] at h; cases h)
      refine ⟨_, _, pre0 _ ((goT k1 (goT k4 k6)) _ (retN X0 hx (t := .char) Bd.returns (by simp) (hb hby d_ch_44) hr)), hrun, hended, _, _, rfl, ?_, ⟨_, rfl⟩, hW, hsame.mono (by decide) (by decide)⟩
      show Q_ch Z q0 h0 n0 _ s₁.heap _
      rw [e0]
      exact ⟨by simp only [f_ch, if_neg hc2, if_pos hc5], N0, rfl⟩
    · have k7 : Go p.tables e below (s₁.setTop (mkF m 32 #[.val (.long q0), .second, .val (.int ((q0 &&& (3 : Int64)).toInt32)), .val (.int ((((q0.toUInt64 >>> ((2 : Int32) &&& 0x3f).toInt64.toUInt64).toInt64) &&& (65535 : Int64)).toInt32))] [(.int (1 : Int32)), (.int ((q0 &&& (3 : Int64)).toInt32))])) (s₁.setTop (mkF m 47 #[.val (.long q0), .second, .val (.int ((q0 &&& (3 : Int64)).toInt32)), .val (.int ((((q0.toUInt64 >>> ((2 : Int32) &&& 0x3f).toInt64.toUInt64).toInt64) &&& (65535 : Int64)).toInt32))] [(.int (((((q0.toUInt64 >>> ((2 : Int32) &&& 0x3f).toInt64.toUInt64).toInt64) &&& (65535 : Int64)).toInt32).toUInt32.toUInt16.toUInt32.toInt32))])) := by
        intro t ht
        refine XS.icmpYes X0.here hx rfl (pc0 := 32) (pc' := 45) rfl (hb hby d_ch_32) rfl (feq hc5).2 (by decide) (by decide) ?_
        show Steps p.tables e below (s₁.setTop (mkF m 45 #[.val (.long q0), .second, .val (.int ((q0 &&& (3 : Int64)).toInt32)), .val (.int ((((q0.toUInt64 >>> ((2 : Int32) &&& 0x3f).toInt64.toUInt64).toInt64) &&& (65535 : Int64)).toInt32))] [])) _
        refine XS.iloadN X0.here hx rfl (hb hby d_ch_45) rfl ?_
        show Steps p.tables e below (s₁.setTop (mkF m 46 #[.val (.long q0), .second, .val (.int ((q0 &&& (3 : Int64)).toInt32)), .val (.int ((((q0.toUInt64 >>> ((2 : Int32) &&& 0x3f).toInt64.toUInt64).toInt64) &&& (65535 : Int64)).toInt32))] [(.int ((((q0.toUInt64 >>> ((2 : Int32) &&& 0x3f).toInt64.toUInt64).toInt64) &&& (65535 : Int64)).toInt32))])) _
        refine XS.i2c X0.here hx rfl (hb hby d_ch_46) rfl ?_
        exact ht
      obtain ⟨fs, hr, hrun, hended, hW, hsame⟩ := X0.leave (v := some (.int (nar .char (((((q0.toUInt64 >>> ((2 : Int32) &&& 0x3f).toInt64.toUInt64).toInt64) &&& (65535 : Int64)).toInt32).toUInt32.toUInt16.toUInt32.toInt32)))) (fun h => by rw [Bd.returns] at h; cases h)
      refine ⟨_, _, pre0 _ ((goT k1 (goT k4 k7)) _ (retN X0 hx (t := .char) Bd.returns (by simp) (hb hby d_ch_47) hr)), hrun, hended, _, _, rfl, ?_, ⟨_, rfl⟩, hW, hsame.mono (by decide) (by decide)⟩
      show Q_ch Z q0 h0 n0 _ s₁.heap _
      rw [e0]
      exact ⟨by simp only [f_ch, if_neg hc2, if_neg hc5], N0, rfl⟩
theorem d_min_0 : decode jdk_29_method_69_code 0 = .ok (.iload_n 0, 1) := by decide +kernel
theorem d_min_1 : decode jdk_29_method_69_code 1 = .ok (.iload_n 1, 1) := by decide +kernel
theorem d_min_2 : decode jdk_29_method_69_code 2 = .ok (.if_icmp .gt 7, 3) := by decide +kernel
theorem d_min_5 : decode jdk_29_method_69_code 5 = .ok (.iload_n 0, 1) := by decide +kernel
theorem d_min_6 : decode jdk_29_method_69_code 6 = .ok (.goto 4, 3) := by decide +kernel
theorem d_min_9 : decode jdk_29_method_69_code 9 = .ok (.iload_n 1, 1) := by decide +kernel
theorem d_min_10 : decode jdk_29_method_69_code 10 = .ok (.ireturn, 1) := by decide +kernel
theorem ef_min (m : MethodId) (x0 : Int32) (x1 : Int32) : entryFrame m #[(.int x0), (.int x1)] 2 = mkF m 0 #[.val (.int x0), .val (.int x1)] [] := by first | (simp [entryFrame, mkF, argsToLocals, Value.category]; done) | rfl
def f_min (p0 : Int32) (p1 : Int32) : Int32 := (if p1 < p0 then p1 else p0)
def Q_min (Z : State) (p0 : Int32) (p1 : Int32) (h0 : Heap) (n0 : Nat) (v : Option Value) (h : Heap) (L : List Loc) : Prop := v = some (.int (f_min p0 p1)) ∧ Fr n0 L ∧ h = h0
set_option maxRecDepth 65536 in
set_option maxHeartbeats 40000000 in
theorem rm_min (l : Launch) (Z : State) (a0 : Array Value) (hw : ∀ d ∈ tables_1, d.before a0 Z = true) (ws : List Jvm.Cond) (p0 : Int32) (p1 : Int32) (h0 : Heap) (n0 : Nat) (Z0 : n0 ≤ h0.size) :
    MetFree l (⟨"java/lang/Math", "min", "(II)I"⟩ : MethodName) (head1 (Jvm.Cond.code (⟨"java/lang/Math", "min", "(II)I"⟩ : MethodName) jdk_29_method_69_code 2 (some .int) :: ws) ({ frames := 0, cells := 0, slots := 0, locals := 0 } : Room)) (fun a U => a = #[(.int p0), (.int p1)] ∧ Z.Warmed39 U.vm ∧ U.heap = h0) (fun _ _ _ _ _ => True) (fun _ U o U' => ∃ v L, o = .returned v ∧ Q_min Z p0 p1 h0 n0 v U'.heap L ∧ FrameEnd U o U' L ({ frames := 0, cells := 0, slots := 0, locals := 0 } : Room).cells ({ frames := 0, cells := 0, slots := 0, locals := 0 } : Room).slots) := by
  refine MetFree.of_bodySF (Jvm.Free.JP.mathPlain rfl (by decide +kernel)) hisR ?_
  intro p e s m args below meth c s₁ Bd hml0 hP hK
  obtain ⟨rfl, hZ, hh⟩ := hP
  have hx := Bd.exec
  have hby := Bd.bytes
  have hml : c.maxLocals = 2 := hml0
  have hown : s.vm.findClass "java/lang/Math" = some m.cls := findClass_of_methodNamed Bd.named
  have hnm := (name_of_methodNamed Bd.named Bd.method).1
  have X0 : Stand p l e ({ frames := 0, cells := 0, slots := 0, locals := 0 } : Room) s m #[(.int p0), (.int p1)] below meth c s₁ [] 0 0 := Stand.of_body Bd
  have e0 : s₁.heap = h0 := by rw [← hh, Bd.state]; rfl
  have N0 := Fr.nil n0
  have pre0 : ∀ t, Steps p.tables e below (s₁.setTop (mkF m 0 #[.val (.int p0), .val (.int p1)] [])) t → Steps p.tables e below (s₁.setTop (entryFrame m #[(.int p0), (.int p1)] 2)) t := fun t k => castTop (ef_min m p0 p1) k
  have k1 : Go p.tables e below (s₁.setTop (mkF m 0 #[.val (.int p0), .val (.int p1)] [])) (s₁.setTop (mkF m 2 #[.val (.int p0), .val (.int p1)] [(.int p1), (.int p0)])) := by
    intro t ht
    refine XS.iloadN X0.here hx rfl (hb hby d_min_0) rfl ?_
    show Steps p.tables e below (s₁.setTop (mkF m 1 #[.val (.int p0), .val (.int p1)] [(.int p0)])) _
    refine XS.iloadN X0.here hx rfl (hb hby d_min_1) rfl ?_
    exact ht
  by_cases hc2 : p1 < p0
  · have k3 : Go p.tables e below (s₁.setTop (mkF m 2 #[.val (.int p0), .val (.int p1)] [(.int p1), (.int p0)])) (s₁.setTop (mkF m 10 #[.val (.int p0), .val (.int p1)] [(.int p1)])) := by
      intro t ht
      refine XS.icmpYes X0.here hx rfl (pc0 := 2) (pc' := 9) rfl (hb hby d_min_2) rfl (tlt hc2).2.2.1 (by decide) (by decide) ?_
      show Steps p.tables e below (s₁.setTop (mkF m 9 #[.val (.int p0), .val (.int p1)] [])) _
      refine XS.iloadN X0.here hx rfl (hb hby d_min_9) rfl ?_
      exact ht
    obtain ⟨fs, hr, hrun, hended, hW, hsame⟩ := X0.leave (v := some (.int p1)) (fun h => by rw [Bd.returns] at h; cases h)
    refine ⟨_, _, pre0 _ ((goT k1 k3) _ (retI X0 hx Bd.returns (hb hby d_min_10) hr)), hrun, hended, _, _, rfl, ?_, ⟨_, rfl⟩, hW, hsame.mono (by decide) (by decide)⟩
    show Q_min Z p0 p1 h0 n0 _ s₁.heap _
    rw [e0]
    exact ⟨by simp only [f_min, if_pos hc2], N0, rfl⟩
  · have k4 : Go p.tables e below (s₁.setTop (mkF m 2 #[.val (.int p0), .val (.int p1)] [(.int p1), (.int p0)])) (s₁.setTop (mkF m 10 #[.val (.int p0), .val (.int p1)] [(.int p0)])) := by
      intro t ht
      refine XS.icmpNo X0.here hx rfl (hb hby d_min_2) rfl (flt hc2).2.2.1 ?_
      show Steps p.tables e below (s₁.setTop (mkF m 5 #[.val (.int p0), .val (.int p1)] [])) _
      refine XS.iloadN X0.here hx rfl (hb hby d_min_5) rfl ?_
      show Steps p.tables e below (s₁.setTop (mkF m 6 #[.val (.int p0), .val (.int p1)] [(.int p0)])) _
      refine XS.goto X0.here hx rfl (pc0 := 6) (pc' := 10) rfl (hb hby d_min_6) (by decide) (by decide) ?_
      exact ht
    obtain ⟨fs, hr, hrun, hended, hW, hsame⟩ := X0.leave (v := some (.int p0)) (fun h => by rw [Bd.returns] at h; cases h)
    refine ⟨_, _, pre0 _ ((goT k1 k4) _ (retI X0 hx Bd.returns (hb hby d_min_10) hr)), hrun, hended, _, _, rfl, ?_, ⟨_, rfl⟩, hW, hsame.mono (by decide) (by decide)⟩
    show Q_min Z p0 p1 h0 n0 _ s₁.heap _
    rw [e0]
    exact ⟨by simp only [f_min, if_neg hc2], N0, rfl⟩
theorem d_max_0 : decode jdk_29_method_65_code 0 = .ok (.iload_n 0, 1) := by decide +kernel
theorem d_max_1 : decode jdk_29_method_65_code 1 = .ok (.iload_n 1, 1) := by decide +kernel
theorem d_max_2 : decode jdk_29_method_65_code 2 = .ok (.if_icmp .lt 7, 3) := by decide +kernel
theorem d_max_5 : decode jdk_29_method_65_code 5 = .ok (.iload_n 0, 1) := by decide +kernel
theorem d_max_6 : decode jdk_29_method_65_code 6 = .ok (.goto 4, 3) := by decide +kernel
theorem d_max_9 : decode jdk_29_method_65_code 9 = .ok (.iload_n 1, 1) := by decide +kernel
theorem d_max_10 : decode jdk_29_method_65_code 10 = .ok (.ireturn, 1) := by decide +kernel
theorem ef_max (m : MethodId) (x0 : Int32) (x1 : Int32) : entryFrame m #[(.int x0), (.int x1)] 2 = mkF m 0 #[.val (.int x0), .val (.int x1)] [] := by first | (simp [entryFrame, mkF, argsToLocals, Value.category]; done) | rfl
def f_max (p0 : Int32) (p1 : Int32) : Int32 := (if p0 < p1 then p1 else p0)
def Q_max (Z : State) (p0 : Int32) (p1 : Int32) (h0 : Heap) (n0 : Nat) (v : Option Value) (h : Heap) (L : List Loc) : Prop := v = some (.int (f_max p0 p1)) ∧ Fr n0 L ∧ h = h0
set_option maxRecDepth 65536 in
set_option maxHeartbeats 40000000 in
theorem rm_max (l : Launch) (Z : State) (a0 : Array Value) (hw : ∀ d ∈ tables_1, d.before a0 Z = true) (ws : List Jvm.Cond) (p0 : Int32) (p1 : Int32) (h0 : Heap) (n0 : Nat) (Z0 : n0 ≤ h0.size) :
    MetFree l (⟨"java/lang/Math", "max", "(II)I"⟩ : MethodName) (head1 (Jvm.Cond.code (⟨"java/lang/Math", "max", "(II)I"⟩ : MethodName) jdk_29_method_65_code 2 (some .int) :: ws) ({ frames := 0, cells := 0, slots := 0, locals := 0 } : Room)) (fun a U => a = #[(.int p0), (.int p1)] ∧ Z.Warmed39 U.vm ∧ U.heap = h0) (fun _ _ _ _ _ => True) (fun _ U o U' => ∃ v L, o = .returned v ∧ Q_max Z p0 p1 h0 n0 v U'.heap L ∧ FrameEnd U o U' L ({ frames := 0, cells := 0, slots := 0, locals := 0 } : Room).cells ({ frames := 0, cells := 0, slots := 0, locals := 0 } : Room).slots) := by
  refine MetFree.of_bodySF (Jvm.Free.JP.mathPlain rfl (by decide +kernel)) hisR ?_
  intro p e s m args below meth c s₁ Bd hml0 hP hK
  obtain ⟨rfl, hZ, hh⟩ := hP
  have hx := Bd.exec
  have hby := Bd.bytes
  have hml : c.maxLocals = 2 := hml0
  have hown : s.vm.findClass "java/lang/Math" = some m.cls := findClass_of_methodNamed Bd.named
  have hnm := (name_of_methodNamed Bd.named Bd.method).1
  have X0 : Stand p l e ({ frames := 0, cells := 0, slots := 0, locals := 0 } : Room) s m #[(.int p0), (.int p1)] below meth c s₁ [] 0 0 := Stand.of_body Bd
  have e0 : s₁.heap = h0 := by rw [← hh, Bd.state]; rfl
  have N0 := Fr.nil n0
  have pre0 : ∀ t, Steps p.tables e below (s₁.setTop (mkF m 0 #[.val (.int p0), .val (.int p1)] [])) t → Steps p.tables e below (s₁.setTop (entryFrame m #[(.int p0), (.int p1)] 2)) t := fun t k => castTop (ef_max m p0 p1) k
  have k1 : Go p.tables e below (s₁.setTop (mkF m 0 #[.val (.int p0), .val (.int p1)] [])) (s₁.setTop (mkF m 2 #[.val (.int p0), .val (.int p1)] [(.int p1), (.int p0)])) := by
    intro t ht
    refine XS.iloadN X0.here hx rfl (hb hby d_max_0) rfl ?_
    show Steps p.tables e below (s₁.setTop (mkF m 1 #[.val (.int p0), .val (.int p1)] [(.int p0)])) _
    refine XS.iloadN X0.here hx rfl (hb hby d_max_1) rfl ?_
    exact ht
  by_cases hc2 : p0 < p1
  · have k3 : Go p.tables e below (s₁.setTop (mkF m 2 #[.val (.int p0), .val (.int p1)] [(.int p1), (.int p0)])) (s₁.setTop (mkF m 10 #[.val (.int p0), .val (.int p1)] [(.int p1)])) := by
      intro t ht
      refine XS.icmpYes X0.here hx rfl (pc0 := 2) (pc' := 9) rfl (hb hby d_max_2) rfl (tlt hc2).1 (by decide) (by decide) ?_
      show Steps p.tables e below (s₁.setTop (mkF m 9 #[.val (.int p0), .val (.int p1)] [])) _
      refine XS.iloadN X0.here hx rfl (hb hby d_max_9) rfl ?_
      exact ht
    obtain ⟨fs, hr, hrun, hended, hW, hsame⟩ := X0.leave (v := some (.int p1)) (fun h => by rw [Bd.returns] at h; cases h)
    refine ⟨_, _, pre0 _ ((goT k1 k3) _ (retI X0 hx Bd.returns (hb hby d_max_10) hr)), hrun, hended, _, _, rfl, ?_, ⟨_, rfl⟩, hW, hsame.mono (by decide) (by decide)⟩
    show Q_max Z p0 p1 h0 n0 _ s₁.heap _
    rw [e0]
    exact ⟨by simp only [f_max, if_pos hc2], N0, rfl⟩
  · have k4 : Go p.tables e below (s₁.setTop (mkF m 2 #[.val (.int p0), .val (.int p1)] [(.int p1), (.int p0)])) (s₁.setTop (mkF m 10 #[.val (.int p0), .val (.int p1)] [(.int p0)])) := by
      intro t ht
      refine XS.icmpNo X0.here hx rfl (hb hby d_max_2) rfl (flt hc2).1 ?_
      show Steps p.tables e below (s₁.setTop (mkF m 5 #[.val (.int p0), .val (.int p1)] [])) _
      refine XS.iloadN X0.here hx rfl (hb hby d_max_5) rfl ?_
      show Steps p.tables e below (s₁.setTop (mkF m 6 #[.val (.int p0), .val (.int p1)] [(.int p0)])) _
      refine XS.goto X0.here hx rfl (pc0 := 6) (pc' := 10) rfl (hb hby d_max_6) (by decide) (by decide) ?_
      exact ht
    obtain ⟨fs, hr, hrun, hended, hW, hsame⟩ := X0.leave (v := some (.int p0)) (fun h => by rw [Bd.returns] at h; cases h)
    refine ⟨_, _, pre0 _ ((goT k1 k4) _ (retI X0 hx Bd.returns (hb hby d_max_10) hr)), hrun, hended, _, _, rfl, ?_, ⟨_, rfl⟩, hW, hsame.mono (by decide) (by decide)⟩
    show Q_max Z p0 p1 h0 n0 _ s₁.heap _
    rw [e0]
    exact ⟨by simp only [f_max, if_neg hc2], N0, rfl⟩
theorem d_isHigh_0 : decode method_3_code 0 = .ok (.iload_n 0, 1) := by decide +kernel
theorem d_isHigh_1 : decode method_3_code 1 = .ok (.ldc 11, 2) := by decide +kernel
theorem d_isHigh_3 : decode method_3_code 3 = .ok (.if_icmp .lt 13, 3) := by decide +kernel
theorem d_isHigh_6 : decode method_3_code 6 = .ok (.iload_n 0, 1) := by decide +kernel
theorem d_isHigh_7 : decode method_3_code 7 = .ok (.ldc 13, 2) := by decide +kernel
theorem d_isHigh_9 : decode method_3_code 9 = .ok (.if_icmp .gt 7, 3) := by decide +kernel
theorem d_isHigh_12 : decode method_3_code 12 = .ok (.iconst 1, 1) := by decide +kernel
theorem d_isHigh_13 : decode method_3_code 13 = .ok (.goto 4, 3) := by decide +kernel
theorem d_isHigh_16 : decode method_3_code 16 = .ok (.iconst 0, 1) := by decide +kernel
theorem d_isHigh_17 : decode method_3_code 17 = .ok (.ireturn, 1) := by decide +kernel
theorem ef_isHigh (m : MethodId) (x0 : Int32) : entryFrame m #[(.int x0)] 1 = mkF m 0 #[.val (.int x0)] [] := by first | (simp [entryFrame, mkF, argsToLocals, Value.category]; done) | rfl
def f_isHigh (p0 : Int32) : Int32 := (if p0 < (55296 : Int32) then (0 : Int32) else (if (56319 : Int32) < p0 then (0 : Int32) else (1 : Int32)))
def Q_isHigh (Z : State) (p0 : Int32) (h0 : Heap) (n0 : Nat) (v : Option Value) (h : Heap) (L : List Loc) : Prop := v = some (.int (f_isHigh p0)) ∧ Fr n0 L ∧ h = h0
set_option maxRecDepth 65536 in
set_option maxHeartbeats 40000000 in
theorem rm_isHigh (l : Launch) (Z : State) (a0 : Array Value) (hw : ∀ d ∈ tables_1, d.before a0 Z = true) (ws : List Jvm.Cond) (p0 : Int32) (h0 : Heap) (n0 : Nat) (Z0 : n0 ≤ h0.size) :
    MetFree l (⟨"com/example/fieldveil/fieldveil/Utf8FirstUnpairedSurrogatePinLaw", "isHigh", "(C)Z"⟩ : MethodName) (head1 (Jvm.Cond.code (⟨"com/example/fieldveil/fieldveil/Utf8FirstUnpairedSurrogatePinLaw", "isHigh", "(C)Z"⟩ : MethodName) method_3_code 1 (some .boolean) :: ws) ({ frames := 0, cells := 0, slots := 0, locals := 0 } : Room)) (fun a U => a = #[(.int p0)] ∧ Z.Warmed39 U.vm ∧ U.heap = h0) (fun _ _ _ _ _ => True) (fun _ U o U' => ∃ v L, o = .returned v ∧ Q_isHigh Z p0 h0 n0 v U'.heap L ∧ FrameEnd U o U' L ({ frames := 0, cells := 0, slots := 0, locals := 0 } : Room).cells ({ frames := 0, cells := 0, slots := 0, locals := 0 } : Room).slots) := by
  refine MetFree.of_bodySF (plainFor_of_name pn_0) hisR ?_
  intro p e s m args below meth c s₁ Bd hml0 hP hK
  obtain ⟨rfl, hZ, hh⟩ := hP
  have hx := Bd.exec
  have hby := Bd.bytes
  have hml : c.maxLocals = 1 := hml0
  have hown : s.vm.findClass "com/example/fieldveil/fieldveil/Utf8FirstUnpairedSurrogatePinLaw" = some m.cls := findClass_of_methodNamed Bd.named
  have hnm := (name_of_methodNamed Bd.named Bd.method).1
  have X0 : Stand p l e ({ frames := 0, cells := 0, slots := 0, locals := 0 } : Room) s m #[(.int p0)] below meth c s₁ [] 0 0 := Stand.of_body Bd
  have e0 : s₁.heap = h0 := by rw [← hh, Bd.state]; rfl
  have N0 := Fr.nil n0
  have pre0 : ∀ t, Steps p.tables e below (s₁.setTop (mkF m 0 #[.val (.int p0)] [])) t → Steps p.tables e below (s₁.setTop (entryFrame m #[(.int p0)] 1)) t := fun t k => castTop (ef_isHigh m p0) k
  have k1 : Go p.tables e below (s₁.setTop (mkF m 0 #[.val (.int p0)] [])) (s₁.setTop (mkF m 3 #[.val (.int p0)] [(.int (55296 : Int32)), (.int p0)])) := by
    intro t ht
    refine XS.iloadN X0.here hx rfl (hb hby d_isHigh_0) rfl ?_
    show Steps p.tables e below (s₁.setTop (mkF m 1 #[.val (.int p0)] [(.int p0)])) _
    refine X0.ldcInt hx hown (mvT hZ (hw _ (List.mem_of_getElem? (i := 7) rfl))) (g := (mkF m 1 #[.val (.int p0)] [(.int p0)])) rfl (hb hby d_isHigh_1) _ ?_
    exact ht
  by_cases hc2 : p0 < (55296 : Int32)
  · have k3 : Go p.tables e below (s₁.setTop (mkF m 3 #[.val (.int p0)] [(.int (55296 : Int32)), (.int p0)])) (s₁.setTop (mkF m 17 #[.val (.int p0)] [(.int (0 : Int32))])) := by
      intro t ht
      refine XS.icmpYes X0.here hx rfl (pc0 := 3) (pc' := 16) rfl (hb hby d_isHigh_3) rfl (tlt hc2).1 (by decide) (by decide) ?_
      show Steps p.tables e below (s₁.setTop (mkF m 16 #[.val (.int p0)] [])) _
      refine XS.iconst X0.here hx rfl (hb hby d_isHigh_16) ?_
      exact ht
    obtain ⟨fs, hr, hrun, hended, hW, hsame⟩ := X0.leave (v := some (.int (0 : Int32))) (fun h => by rw [Bd.returns] at h; cases h)
    refine ⟨_, _, pre0 _ ((goT k1 k3) _ (retN X0 hx (t := .boolean) Bd.returns (by simp) (hb hby d_isHigh_17) hr)), hrun, hended, _, _, rfl, ?_, ⟨_, rfl⟩, hW, hsame.mono (by decide) (by decide)⟩
    show Q_isHigh Z p0 h0 n0 _ s₁.heap _
    rw [e0]
    exact ⟨by simp only [f_isHigh, if_pos hc2], N0, rfl⟩
  · have k4 : Go p.tables e below (s₁.setTop (mkF m 3 #[.val (.int p0)] [(.int (55296 : Int32)), (.int p0)])) (s₁.setTop (mkF m 9 #[.val (.int p0)] [(.int (56319 : Int32)), (.int p0)])) := by
      intro t ht
      refine XS.icmpNo X0.here hx rfl (hb hby d_isHigh_3) rfl (flt hc2).1 ?_
      show Steps p.tables e below (s₁.setTop (mkF m 6 #[.val (.int p0)] [])) _
      refine XS.iloadN X0.here hx rfl (hb hby d_isHigh_6) rfl ?_
      show Steps p.tables e below (s₁.setTop (mkF m 7 #[.val (.int p0)] [(.int p0)])) _
      refine X0.ldcInt hx hown (mvT hZ (hw _ (List.mem_of_getElem? (i := 26) rfl))) (g := (mkF m 7 #[.val (.int p0)] [(.int p0)])) rfl (hb hby d_isHigh_7) _ ?_
      exact ht
    by_cases hc5 : (56319 : Int32) < p0
    · have k6 : Go p.tables e below (s₁.setTop (mkF m 9 #[.val (.int p0)] [(.int (56319 : Int32)), (.int p0)])) (s₁.setTop (mkF m 17 #[.val (.int p0)] [(.int (0 : Int32))])) := by
        intro t ht
        refine XS.icmpYes X0.here hx rfl (pc0 := 9) (pc' := 16) rfl (hb hby d_isHigh_9) rfl (tlt hc5).2.2.1 (by decide) (by decide) ?_
        show Steps p.tables e below (s₁.setTop (mkF m 16 #[.val (.int p0)] [])) _
        refine XS.iconst X0.here hx rfl (hb hby d_isHigh_16) ?_
        exact ht
      obtain ⟨fs, hr, hrun, hended, hW, hsame⟩ := X0.leave (v := some (.int (0 : Int32))) (fun h => by rw [Bd.returns] at h; cases h)
      refine ⟨_, _, pre0 _ ((goT k1 (goT k4 k6)) _ (retN X0 hx (t := .boolean) Bd.returns (by simp) (hb hby d_isHigh_17) hr)), hrun, hended, _, _, rfl, ?_, ⟨_, rfl⟩, hW, hsame.mono (by decide) (by decide)⟩
      show Q_isHigh Z p0 h0 n0 _ s₁.heap _
      rw [e0]
      exact ⟨by simp only [f_isHigh, if_neg hc2, if_pos hc5], N0, rfl⟩
    · have k7 : Go p.tables e below (s₁.setTop (mkF m 9 #[.val (.int p0)] [(.int (56319 : Int32)), (.int p0)])) (s₁.setTop (mkF m 17 #[.val (.int p0)] [(.int (1 : Int32))])) := by
        intro t ht
        refine XS.icmpNo X0.here hx rfl (hb hby d_isHigh_9) rfl (flt hc5).2.2.1 ?_
        show Steps p.tables e below (s₁.setTop (mkF m 12 #[.val (.int p0)] [])) _
        refine XS.iconst X0.here hx rfl (hb hby d_isHigh_12) ?_
        show Steps p.tables e below (s₁.setTop (mkF m 13 #[.val (.int p0)] [(.int (1 : Int32))])) _
        refine XS.goto X0.here hx rfl (pc0 := 13) (pc' := 17) rfl (hb hby d_isHigh_13) (by decide) (by decide) ?_
        exact ht
      obtain ⟨fs, hr, hrun, hended, hW, hsame⟩ := X0.leave (v := some (.int (1 : Int32))) (fun h => by rw [Bd.returns] at h; cases h)
      refine ⟨_, _, pre0 _ ((goT k1 (goT k4 k7)) _ (retN X0 hx (t := .boolean) Bd.returns (by simp) (hb hby d_isHigh_17) hr)), hrun, hended, _, _, rfl, ?_, ⟨_, rfl⟩, hW, hsame.mono (by decide) (by decide)⟩
      show Q_isHigh Z p0 h0 n0 _ s₁.heap _
      rw [e0]
      exact ⟨by simp only [f_isHigh, if_neg hc2, if_neg hc5], N0, rfl⟩
theorem d_isLow_0 : decode method_4_code 0 = .ok (.iload_n 0, 1) := by decide +kernel
theorem d_isLow_1 : decode method_4_code 1 = .ok (.ldc 12, 2) := by decide +kernel
theorem d_isLow_3 : decode method_4_code 3 = .ok (.if_icmp .lt 13, 3) := by decide +kernel
theorem d_isLow_6 : decode method_4_code 6 = .ok (.iload_n 0, 1) := by decide +kernel
theorem d_isLow_7 : decode method_4_code 7 = .ok (.ldc 14, 2) := by decide +kernel
theorem d_isLow_9 : decode method_4_code 9 = .ok (.if_icmp .gt 7, 3) := by decide +kernel
theorem d_isLow_12 : decode method_4_code 12 = .ok (.iconst 1, 1) := by decide +kernel
theorem d_isLow_13 : decode method_4_code 13 = .ok (.goto 4, 3) := by decide +kernel
theorem d_isLow_16 : decode method_4_code 16 = .ok (.iconst 0, 1) := by decide +kernel
theorem d_isLow_17 : decode method_4_code 17 = .ok (.ireturn, 1) := by decide +kernel
theorem ef_isLow (m : MethodId) (x0 : Int32) : entryFrame m #[(.int x0)] 1 = mkF m 0 #[.val (.int x0)] [] := by first | (simp [entryFrame, mkF, argsToLocals, Value.category]; done) | rfl
def f_isLow (p0 : Int32) : Int32 := (if p0 < (56320 : Int32) then (0 : Int32) else (if (57343 : Int32) < p0 then (0 : Int32) else (1 : Int32)))
def Q_isLow (Z : State) (p0 : Int32) (h0 : Heap) (n0 : Nat) (v : Option Value) (h : Heap) (L : List Loc) : Prop := v = some (.int (f_isLow p0)) ∧ Fr n0 L ∧ h = h0
set_option maxRecDepth 65536 in
set_option maxHeartbeats 40000000 in
theorem rm_isLow (l : Launch) (Z : State) (a0 : Array Value) (hw : ∀ d ∈ tables_1, d.before a0 Z = true) (ws : List Jvm.Cond) (p0 : Int32) (h0 : Heap) (n0 : Nat) (Z0 : n0 ≤ h0.size) :
    MetFree l (⟨"com/example/fieldveil/fieldveil/Utf8FirstUnpairedSurrogatePinLaw", "isLow", "(C)Z"⟩ : MethodName) (head1 (Jvm.Cond.code (⟨"com/example/fieldveil/fieldveil/Utf8FirstUnpairedSurrogatePinLaw", "isLow", "(C)Z"⟩ : MethodName) method_4_code 1 (some .boolean) :: ws) ({ frames := 0, cells := 0, slots := 0, locals := 0 } : Room)) (fun a U => a = #[(.int p0)] ∧ Z.Warmed39 U.vm ∧ U.heap = h0) (fun _ _ _ _ _ => True) (fun _ U o U' => ∃ v L, o = .returned v ∧ Q_isLow Z p0 h0 n0 v U'.heap L ∧ FrameEnd U o U' L ({ frames := 0, cells := 0, slots := 0, locals := 0 } : Room).cells ({ frames := 0, cells := 0, slots := 0, locals := 0 } : Room).slots) := by
  refine MetFree.of_bodySF (plainFor_of_name pn_0) hisR ?_
  intro p e s m args below meth c s₁ Bd hml0 hP hK
  obtain ⟨rfl, hZ, hh⟩ := hP
  have hx := Bd.exec
  have hby := Bd.bytes
  have hml : c.maxLocals = 1 := hml0
  have hown : s.vm.findClass "com/example/fieldveil/fieldveil/Utf8FirstUnpairedSurrogatePinLaw" = some m.cls := findClass_of_methodNamed Bd.named
  have hnm := (name_of_methodNamed Bd.named Bd.method).1
  have X0 : Stand p l e ({ frames := 0, cells := 0, slots := 0, locals := 0 } : Room) s m #[(.int p0)] below meth c s₁ [] 0 0 := Stand.of_body Bd
  have e0 : s₁.heap = h0 := by rw [← hh, Bd.state]; rfl
  have N0 := Fr.nil n0
  have pre0 : ∀ t, Steps p.tables e below (s₁.setTop (mkF m 0 #[.val (.int p0)] [])) t → Steps p.tables e below (s₁.setTop (entryFrame m #[(.int p0)] 1)) t := fun t k => castTop (ef_isLow m p0) k
  have k1 : Go p.tables e below (s₁.setTop (mkF m 0 #[.val (.int p0)] [])) (s₁.setTop (mkF m 3 #[.val (.int p0)] [(.int (56320 : Int32)), (.int p0)])) := by
    intro t ht
    refine XS.iloadN X0.here hx rfl (hb hby d_isLow_0) rfl ?_
    show Steps p.tables e below (s₁.setTop (mkF m 1 #[.val (.int p0)] [(.int p0)])) _
    refine X0.ldcInt hx hown (mvT hZ (hw _ (List.mem_of_getElem? (i := 8) rfl))) (g := (mkF m 1 #[.val (.int p0)] [(.int p0)])) rfl (hb hby d_isLow_1) _ ?_
    exact ht
  by_cases hc2 : p0 < (56320 : Int32)
  · have k3 : Go p.tables e below (s₁.setTop (mkF m 3 #[.val (.int p0)] [(.int (56320 : Int32)), (.int p0)])) (s₁.setTop (mkF m 17 #[.val (.int p0)] [(.int (0 : Int32))])) := by
      intro t ht
      refine XS.icmpYes X0.here hx rfl (pc0 := 3) (pc' := 16) rfl (hb hby d_isLow_3) rfl (tlt hc2).1 (by decide) (by decide) ?_
      show Steps p.tables e below (s₁.setTop (mkF m 16 #[.val (.int p0)] [])) _
      refine XS.iconst X0.here hx rfl (hb hby d_isLow_16) ?_
      exact ht
    obtain ⟨fs, hr, hrun, hended, hW, hsame⟩ := X0.leave (v := some (.int (0 : Int32))) (fun h => by rw [Bd.returns] at h; cases h)
    refine ⟨_, _, pre0 _ ((goT k1 k3) _ (retN X0 hx (t := .boolean) Bd.returns (by simp) (hb hby d_isLow_17) hr)), hrun, hended, _, _, rfl, ?_, ⟨_, rfl⟩, hW, hsame.mono (by decide) (by decide)⟩
    show Q_isLow Z p0 h0 n0 _ s₁.heap _
    rw [e0]
    exact ⟨by simp only [f_isLow, if_pos hc2], N0, rfl⟩
  · have k4 : Go p.tables e below (s₁.setTop (mkF m 3 #[.val (.int p0)] [(.int (56320 : Int32)), (.int p0)])) (s₁.setTop (mkF m 9 #[.val (.int p0)] [(.int (57343 : Int32)), (.int p0)])) := by
      intro t ht
      refine XS.icmpNo X0.here hx rfl (hb hby d_isLow_3) rfl (flt hc2).1 ?_
      show Steps p.tables e below (s₁.setTop (mkF m 6 #[.val (.int p0)] [])) _
      refine XS.iloadN X0.here hx rfl (hb hby d_isLow_6) rfl ?_
      show Steps p.tables e below (s₁.setTop (mkF m 7 #[.val (.int p0)] [(.int p0)])) _
      refine X0.ldcInt hx hown (mvT hZ (hw _ (List.mem_of_getElem? (i := 43) rfl))) (g := (mkF m 7 #[.val (.int p0)] [(.int p0)])) rfl (hb hby d_isLow_7) _ ?_
      exact ht
    by_cases hc5 : (57343 : Int32) < p0
    · have k6 : Go p.tables e below (s₁.setTop (mkF m 9 #[.val (.int p0)] [(.int (57343 : Int32)), (.int p0)])) (s₁.setTop (mkF m 17 #[.val (.int p0)] [(.int (0 : Int32))])) := by
        intro t ht
        refine XS.icmpYes X0.here hx rfl (pc0 := 9) (pc' := 16) rfl (hb hby d_isLow_9) rfl (tlt hc5).2.2.1 (by decide) (by decide) ?_
        show Steps p.tables e below (s₁.setTop (mkF m 16 #[.val (.int p0)] [])) _
        refine XS.iconst X0.here hx rfl (hb hby d_isLow_16) ?_
        exact ht
      obtain ⟨fs, hr, hrun, hended, hW, hsame⟩ := X0.leave (v := some (.int (0 : Int32))) (fun h => by rw [Bd.returns] at h; cases h)
      refine ⟨_, _, pre0 _ ((goT k1 (goT k4 k6)) _ (retN X0 hx (t := .boolean) Bd.returns (by simp) (hb hby d_isLow_17) hr)), hrun, hended, _, _, rfl, ?_, ⟨_, rfl⟩, hW, hsame.mono (by decide) (by decide)⟩
      show Q_isLow Z p0 h0 n0 _ s₁.heap _
      rw [e0]
      exact ⟨by simp only [f_isLow, if_neg hc2, if_pos hc5], N0, rfl⟩
    · have k7 : Go p.tables e below (s₁.setTop (mkF m 9 #[.val (.int p0)] [(.int (57343 : Int32)), (.int p0)])) (s₁.setTop (mkF m 17 #[.val (.int p0)] [(.int (1 : Int32))])) := by
        intro t ht
        refine XS.icmpNo X0.here hx rfl (hb hby d_isLow_9) rfl (flt hc5).2.2.1 ?_
        show Steps p.tables e below (s₁.setTop (mkF m 12 #[.val (.int p0)] [])) _
        refine XS.iconst X0.here hx rfl (hb hby d_isLow_12) ?_
        show Steps p.tables e below (s₁.setTop (mkF m 13 #[.val (.int p0)] [(.int (1 : Int32))])) _
        refine XS.goto X0.here hx rfl (pc0 := 13) (pc' := 17) rfl (hb hby d_isLow_13) (by decide) (by decide) ?_
        exact ht
      obtain ⟨fs, hr, hrun, hended, hW, hsame⟩ := X0.leave (v := some (.int (1 : Int32))) (fun h => by rw [Bd.returns] at h; cases h)
      refine ⟨_, _, pre0 _ ((goT k1 (goT k4 k7)) _ (retN X0 hx (t := .boolean) Bd.returns (by simp) (hb hby d_isLow_17) hr)), hrun, hended, _, _, rfl, ?_, ⟨_, rfl⟩, hW, hsame.mono (by decide) (by decide)⟩
      show Q_isLow Z p0 h0 n0 _ s₁.heap _
      rw [e0]
      exact ⟨by simp only [f_isLow, if_neg hc2, if_neg hc5], N0, rfl⟩
theorem d_isHighSurrogate_0 : decode jdk_89_method_14_code 0 = .ok (.iload_n 0, 1) := by decide +kernel
theorem d_isHighSurrogate_1 : decode jdk_89_method_14_code 1 = .ok (.ldc 75, 2) := by decide +kernel
theorem d_isHighSurrogate_3 : decode jdk_89_method_14_code 3 = .ok (.if_icmp .lt 13, 3) := by decide +kernel
theorem d_isHighSurrogate_6 : decode jdk_89_method_14_code 6 = .ok (.iload_n 0, 1) := by decide +kernel
theorem d_isHighSurrogate_7 : decode jdk_89_method_14_code 7 = .ok (.ldc 76, 2) := by decide +kernel
theorem d_isHighSurrogate_9 : decode jdk_89_method_14_code 9 = .ok (.if_icmp .ge 7, 3) := by decide +kernel
theorem d_isHighSurrogate_12 : decode jdk_89_method_14_code 12 = .ok (.iconst 1, 1) := by decide +kernel
theorem d_isHighSurrogate_13 : decode jdk_89_method_14_code 13 = .ok (.goto 4, 3) := by decide +kernel
theorem d_isHighSurrogate_16 : decode jdk_89_method_14_code 16 = .ok (.iconst 0, 1) := by decide +kernel
theorem d_isHighSurrogate_17 : decode jdk_89_method_14_code 17 = .ok (.ireturn, 1) := by decide +kernel
theorem pn_1 : plainName "java/lang/Character" = true := by first | (simp [plainName, overriddenIn]; done) | decide +kernel
theorem ef_isHighSurrogate (m : MethodId) (x0 : Int32) : entryFrame m #[(.int x0)] 1 = mkF m 0 #[.val (.int x0)] [] := by first | (simp [entryFrame, mkF, argsToLocals, Value.category]; done) | rfl
def f_isHighSurrogate (p0 : Int32) : Int32 := (if p0 < (55296 : Int32) then (0 : Int32) else (if p0 < (56320 : Int32) then (1 : Int32) else (0 : Int32)))
def Q_isHighSurrogate (Z : State) (p0 : Int32) (h0 : Heap) (n0 : Nat) (v : Option Value) (h : Heap) (L : List Loc) : Prop := v = some (.int (f_isHighSurrogate p0)) ∧ Fr n0 L ∧ h = h0
set_option maxRecDepth 65536 in
set_option maxHeartbeats 40000000 in
theorem rm_isHighSurrogate (l : Launch) (Z : State) (a0 : Array Value) (hw : ∀ d ∈ tables_1, d.before a0 Z = true) (ws : List Jvm.Cond) (p0 : Int32) (h0 : Heap) (n0 : Nat) (Z0 : n0 ≤ h0.size) :
    MetFree l (⟨"java/lang/Character", "isHighSurrogate", "(C)Z"⟩ : MethodName) (head1 (Jvm.Cond.code (⟨"java/lang/Character", "isHighSurrogate", "(C)Z"⟩ : MethodName) jdk_89_method_14_code 1 (some .boolean) :: ws) ({ frames := 0, cells := 0, slots := 0, locals := 0 } : Room)) (fun a U => a = #[(.int p0)] ∧ Z.Warmed39 U.vm ∧ U.heap = h0) (fun _ _ _ _ _ => True) (fun _ U o U' => ∃ v L, o = .returned v ∧ Q_isHighSurrogate Z p0 h0 n0 v U'.heap L ∧ FrameEnd U o U' L ({ frames := 0, cells := 0, slots := 0, locals := 0 } : Room).cells ({ frames := 0, cells := 0, slots := 0, locals := 0 } : Room).slots) := by
  refine MetFree.of_bodySF (plainFor_of_name pn_1) hisR ?_
  intro p e s m args below meth c s₁ Bd hml0 hP hK
  obtain ⟨rfl, hZ, hh⟩ := hP
  have hx := Bd.exec
  have hby := Bd.bytes
  have hml : c.maxLocals = 1 := hml0
  have hown : s.vm.findClass "java/lang/Character" = some m.cls := findClass_of_methodNamed Bd.named
  have hnm := (name_of_methodNamed Bd.named Bd.method).1
  have X0 : Stand p l e ({ frames := 0, cells := 0, slots := 0, locals := 0 } : Room) s m #[(.int p0)] below meth c s₁ [] 0 0 := Stand.of_body Bd
  have e0 : s₁.heap = h0 := by rw [← hh, Bd.state]; rfl
  have N0 := Fr.nil n0
  have pre0 : ∀ t, Steps p.tables e below (s₁.setTop (mkF m 0 #[.val (.int p0)] [])) t → Steps p.tables e below (s₁.setTop (entryFrame m #[(.int p0)] 1)) t := fun t k => castTop (ef_isHighSurrogate m p0) k
  have k1 : Go p.tables e below (s₁.setTop (mkF m 0 #[.val (.int p0)] [])) (s₁.setTop (mkF m 3 #[.val (.int p0)] [(.int (55296 : Int32)), (.int p0)])) := by
    intro t ht
    refine XS.iloadN X0.here hx rfl (hb hby d_isHighSurrogate_0) rfl ?_
    show Steps p.tables e below (s₁.setTop (mkF m 1 #[.val (.int p0)] [(.int p0)])) _
    refine X0.ldcInt hx hown (mvT hZ (hw _ (List.mem_of_getElem? (i := 34) rfl))) (g := (mkF m 1 #[.val (.int p0)] [(.int p0)])) rfl (hb hby d_isHighSurrogate_1) _ ?_
    exact ht
  by_cases hc2 : p0 < (55296 : Int32)
  · have k3 : Go p.tables e below (s₁.setTop (mkF m 3 #[.val (.int p0)] [(.int (55296 : Int32)), (.int p0)])) (s₁.setTop (mkF m 17 #[.val (.int p0)] [(.int (0 : Int32))])) := by
      intro t ht
      refine XS.icmpYes X0.here hx rfl (pc0 := 3) (pc' := 16) rfl (hb hby d_isHighSurrogate_3) rfl (tlt hc2).1 (by decide) (by decide) ?_
      show Steps p.tables e below (s₁.setTop (mkF m 16 #[.val (.int p0)] [])) _
      refine XS.iconst X0.here hx rfl (hb hby d_isHighSurrogate_16) ?_
      exact ht
    obtain ⟨fs, hr, hrun, hended, hW, hsame⟩ := X0.leave (v := some (.int (0 : Int32))) (fun h => by rw [Bd.returns] at h; cases h)
    refine ⟨_, _, pre0 _ ((goT k1 k3) _ (retN X0 hx (t := .boolean) Bd.returns (by simp) (hb hby d_isHighSurrogate_17) hr)), hrun, hended, _, _, rfl, ?_, ⟨_, rfl⟩, hW, hsame.mono (by decide) (by decide)⟩
    show Q_isHighSurrogate Z p0 h0 n0 _ s₁.heap _
    rw [e0]
    exact ⟨by simp only [f_isHighSurrogate, if_pos hc2], N0, rfl⟩
  · have k4 : Go p.tables e below (s₁.setTop (mkF m 3 #[.val (.int p0)] [(.int (55296 : Int32)), (.int p0)])) (s₁.setTop (mkF m 9 #[.val (.int p0)] [(.int (56320 : Int32)), (.int p0)])) := by
      intro t ht
      refine XS.icmpNo X0.here hx rfl (hb hby d_isHighSurrogate_3) rfl (flt hc2).1 ?_
      show Steps p.tables e below (s₁.setTop (mkF m 6 #[.val (.int p0)] [])) _
      refine XS.iloadN X0.here hx rfl (hb hby d_isHighSurrogate_6) rfl ?_
      show Steps p.tables e below (s₁.setTop (mkF m 7 #[.val (.int p0)] [(.int p0)])) _
      refine X0.ldcInt hx hown (mvT hZ (hw _ (List.mem_of_getElem? (i := 35) rfl))) (g := (mkF m 7 #[.val (.int p0)] [(.int p0)])) rfl (hb hby d_isHighSurrogate_7) _ ?_
      exact ht
    by_cases hc5 : p0 < (56320 : Int32)
    · have k6 : Go p.tables e below (s₁.setTop (mkF m 9 #[.val (.int p0)] [(.int (56320 : Int32)), (.int p0)])) (s₁.setTop (mkF m 17 #[.val (.int p0)] [(.int (1 : Int32))])) := by
        intro t ht
        refine XS.icmpNo X0.here hx rfl (hb hby d_isHighSurrogate_9) rfl (tlt hc5).2.1 ?_
        show Steps p.tables e below (s₁.setTop (mkF m 12 #[.val (.int p0)] [])) _
        refine XS.iconst X0.here hx rfl (hb hby d_isHighSurrogate_12) ?_
        show Steps p.tables e below (s₁.setTop (mkF m 13 #[.val (.int p0)] [(.int (1 : Int32))])) _
        refine XS.goto X0.here hx rfl (pc0 := 13) (pc' := 17) rfl (hb hby d_isHighSurrogate_13) (by decide) (by decide) ?_
        exact ht
      obtain ⟨fs, hr, hrun, hended, hW, hsame⟩ := X0.leave (v := some (.int (1 : Int32))) (fun h => by rw [Bd.returns] at h; cases h)
      refine ⟨_, _, pre0 _ ((goT k1 (goT k4 k6)) _ (retN X0 hx (t := .boolean) Bd.returns (by simp) (hb hby d_isHighSurrogate_17) hr)), hrun, hended, _, _, rfl, ?_, ⟨_, rfl⟩, hW, hsame.mono (by decide) (by decide)⟩
      show Q_isHighSurrogate Z p0 h0 n0 _ s₁.heap _
      rw [e0]
      exact ⟨by simp only [f_isHighSurrogate, if_neg hc2, if_pos hc5], N0, rfl⟩
    · have k7 : Go p.tables e below (s₁.setTop (mkF m 9 #[.val (.int p0)] [(.int (56320 : Int32)), (.int p0)])) (s₁.setTop (mkF m 17 #[.val (.int p0)] [(.int (0 : Int32))])) := by
        intro t ht
        refine XS.icmpYes X0.here hx rfl (pc0 := 9) (pc' := 16) rfl (hb hby d_isHighSurrogate_9) rfl (flt hc5).2.1 (by decide) (by decide) ?_
        show Steps p.tables e below (s₁.setTop (mkF m 16 #[.val (.int p0)] [])) _
        refine XS.iconst X0.here hx rfl (hb hby d_isHighSurrogate_16) ?_
        exact ht
      obtain ⟨fs, hr, hrun, hended, hW, hsame⟩ := X0.leave (v := some (.int (0 : Int32))) (fun h => by rw [Bd.returns] at h; cases h)
      refine ⟨_, _, pre0 _ ((goT k1 (goT k4 k7)) _ (retN X0 hx (t := .boolean) Bd.returns (by simp) (hb hby d_isHighSurrogate_17) hr)), hrun, hended, _, _, rfl, ?_, ⟨_, rfl⟩, hW, hsame.mono (by decide) (by decide)⟩
      show Q_isHighSurrogate Z p0 h0 n0 _ s₁.heap _
      rw [e0]
      exact ⟨by simp only [f_isHighSurrogate, if_neg hc2, if_neg hc5], N0, rfl⟩
theorem d_isLowSurrogate_0 : decode jdk_89_method_15_code 0 = .ok (.iload_n 0, 1) := by decide +kernel
theorem d_isLowSurrogate_1 : decode jdk_89_method_15_code 1 = .ok (.ldc 76, 2) := by decide +kernel
theorem d_isLowSurrogate_3 : decode jdk_89_method_15_code 3 = .ok (.if_icmp .lt 13, 3) := by decide +kernel
theorem d_isLowSurrogate_6 : decode jdk_89_method_15_code 6 = .ok (.iload_n 0, 1) := by decide +kernel
theorem d_isLowSurrogate_7 : decode jdk_89_method_15_code 7 = .ok (.ldc 77, 2) := by decide +kernel
theorem d_isLowSurrogate_9 : decode jdk_89_method_15_code 9 = .ok (.if_icmp .ge 7, 3) := by decide +kernel
theorem d_isLowSurrogate_12 : decode jdk_89_method_15_code 12 = .ok (.iconst 1, 1) := by decide +kernel
theorem d_isLowSurrogate_13 : decode jdk_89_method_15_code 13 = .ok (.goto 4, 3) := by decide +kernel
theorem d_isLowSurrogate_16 : decode jdk_89_method_15_code 16 = .ok (.iconst 0, 1) := by decide +kernel
theorem d_isLowSurrogate_17 : decode jdk_89_method_15_code 17 = .ok (.ireturn, 1) := by decide +kernel
theorem ef_isLowSurrogate (m : MethodId) (x0 : Int32) : entryFrame m #[(.int x0)] 1 = mkF m 0 #[.val (.int x0)] [] := by first | (simp [entryFrame, mkF, argsToLocals, Value.category]; done) | rfl
def f_isLowSurrogate (p0 : Int32) : Int32 := (if p0 < (56320 : Int32) then (0 : Int32) else (if p0 < (57344 : Int32) then (1 : Int32) else (0 : Int32)))
def Q_isLowSurrogate (Z : State) (p0 : Int32) (h0 : Heap) (n0 : Nat) (v : Option Value) (h : Heap) (L : List Loc) : Prop := v = some (.int (f_isLowSurrogate p0)) ∧ Fr n0 L ∧ h = h0
set_option maxRecDepth 65536 in
set_option maxHeartbeats 40000000 in
theorem rm_isLowSurrogate (l : Launch) (Z : State) (a0 : Array Value) (hw : ∀ d ∈ tables_1, d.before a0 Z = true) (ws : List Jvm.Cond) (p0 : Int32) (h0 : Heap) (n0 : Nat) (Z0 : n0 ≤ h0.size) :
    MetFree l (⟨"java/lang/Character", "isLowSurrogate", "(C)Z"⟩ : MethodName) (head1 (Jvm.Cond.code (⟨"java/lang/Character", "isLowSurrogate", "(C)Z"⟩ : MethodName) jdk_89_method_15_code 1 (some .boolean) :: ws) ({ frames := 0, cells := 0, slots := 0, locals := 0 } : Room)) (fun a U => a = #[(.int p0)] ∧ Z.Warmed39 U.vm ∧ U.heap = h0) (fun _ _ _ _ _ => True) (fun _ U o U' => ∃ v L, o = .returned v ∧ Q_isLowSurrogate Z p0 h0 n0 v U'.heap L ∧ FrameEnd U o U' L ({ frames := 0, cells := 0, slots := 0, locals := 0 } : Room).cells ({ frames := 0, cells := 0, slots := 0, locals := 0 } : Room).slots) := by
  refine MetFree.of_bodySF (plainFor_of_name pn_1) hisR ?_
  intro p e s m args below meth c s₁ Bd hml0 hP hK
  obtain ⟨rfl, hZ, hh⟩ := hP
  have hx := Bd.exec
  have hby := Bd.bytes
  have hml : c.maxLocals = 1 := hml0
  have hown : s.vm.findClass "java/lang/Character" = some m.cls := findClass_of_methodNamed Bd.named
  have hnm := (name_of_methodNamed Bd.named Bd.method).1
  have X0 : Stand p l e ({ frames := 0, cells := 0, slots := 0, locals := 0 } : Room) s m #[(.int p0)] below meth c s₁ [] 0 0 := Stand.of_body Bd
  have e0 : s₁.heap = h0 := by rw [← hh, Bd.state]; rfl
  have N0 := Fr.nil n0
  have pre0 : ∀ t, Steps p.tables e below (s₁.setTop (mkF m 0 #[.val (.int p0)] [])) t → Steps p.tables e below (s₁.setTop (entryFrame m #[(.int p0)] 1)) t := fun t k => castTop (ef_isLowSurrogate m p0) k
  have k1 : Go p.tables e below (s₁.setTop (mkF m 0 #[.val (.int p0)] [])) (s₁.setTop (mkF m 3 #[.val (.int p0)] [(.int (56320 : Int32)), (.int p0)])) := by
    intro t ht
    refine XS.iloadN X0.here hx rfl (hb hby d_isLowSurrogate_0) rfl ?_
    show Steps p.tables e below (s₁.setTop (mkF m 1 #[.val (.int p0)] [(.int p0)])) _
    refine X0.ldcInt hx hown (mvT hZ (hw _ (List.mem_of_getElem? (i := 35) rfl))) (g := (mkF m 1 #[.val (.int p0)] [(.int p0)])) rfl (hb hby d_isLowSurrogate_1) _ ?_
    exact ht
  by_cases hc2 : p0 < (56320 : Int32)
  · have k3 : Go p.tables e below (s₁.setTop (mkF m 3 #[.val (.int p0)] [(.int (56320 : Int32)), (.int p0)])) (s₁.setTop (mkF m 17 #[.val (.int p0)] [(.int (0 : Int32))])) := by
      intro t ht
      refine XS.icmpYes X0.here hx rfl (pc0 := 3) (pc' := 16) rfl (hb hby d_isLowSurrogate_3) rfl (tlt hc2).1 (by decide) (by decide) ?_
      show Steps p.tables e below (s₁.setTop (mkF m 16 #[.val (.int p0)] [])) _
      refine XS.iconst X0.here hx rfl (hb hby d_isLowSurrogate_16) ?_
      exact ht
    obtain ⟨fs, hr, hrun, hended, hW, hsame⟩ := X0.leave (v := some (.int (0 : Int32))) (fun h => by rw [Bd.returns] at h; cases h)
    refine ⟨_, _, pre0 _ ((goT k1 k3) _ (retN X0 hx (t := .boolean) Bd.returns (by simp) (hb hby d_isLowSurrogate_17) hr)), hrun, hended, _, _, rfl, ?_, ⟨_, rfl⟩, hW, hsame.mono (by decide) (by decide)⟩
    show Q_isLowSurrogate Z p0 h0 n0 _ s₁.heap _
    rw [e0]
    exact ⟨by simp only [f_isLowSurrogate, if_pos hc2], N0, rfl⟩
  · have k4 : Go p.tables e below (s₁.setTop (mkF m 3 #[.val (.int p0)] [(.int (56320 : Int32)), (.int p0)])) (s₁.setTop (mkF m 9 #[.val (.int p0)] [(.int (57344 : Int32)), (.int p0)])) := by
      intro t ht
      refine XS.icmpNo X0.here hx rfl (hb hby d_isLowSurrogate_3) rfl (flt hc2).1 ?_
      show Steps p.tables e below (s₁.setTop (mkF m 6 #[.val (.int p0)] [])) _
      refine XS.iloadN X0.here hx rfl (hb hby d_isLowSurrogate_6) rfl ?_
      show Steps p.tables e below (s₁.setTop (mkF m 7 #[.val (.int p0)] [(.int p0)])) _
      refine X0.ldcInt hx hown (mvT hZ (hw _ (List.mem_of_getElem? (i := 42) rfl))) (g := (mkF m 7 #[.val (.int p0)] [(.int p0)])) rfl (hb hby d_isLowSurrogate_7) _ ?_
      exact ht
    by_cases hc5 : p0 < (57344 : Int32)
    · have k6 : Go p.tables e below (s₁.setTop (mkF m 9 #[.val (.int p0)] [(.int (57344 : Int32)), (.int p0)])) (s₁.setTop (mkF m 17 #[.val (.int p0)] [(.int (1 : Int32))])) := by
        intro t ht
        refine XS.icmpNo X0.here hx rfl (hb hby d_isLowSurrogate_9) rfl (tlt hc5).2.1 ?_
        show Steps p.tables e below (s₁.setTop (mkF m 12 #[.val (.int p0)] [])) _
        refine XS.iconst X0.here hx rfl (hb hby d_isLowSurrogate_12) ?_
        show Steps p.tables e below (s₁.setTop (mkF m 13 #[.val (.int p0)] [(.int (1 : Int32))])) _
        refine XS.goto X0.here hx rfl (pc0 := 13) (pc' := 17) rfl (hb hby d_isLowSurrogate_13) (by decide) (by decide) ?_
        exact ht
      obtain ⟨fs, hr, hrun, hended, hW, hsame⟩ := X0.leave (v := some (.int (1 : Int32))) (fun h => by rw [Bd.returns] at h; cases h)
      refine ⟨_, _, pre0 _ ((goT k1 (goT k4 k6)) _ (retN X0 hx (t := .boolean) Bd.returns (by simp) (hb hby d_isLowSurrogate_17) hr)), hrun, hended, _, _, rfl, ?_, ⟨_, rfl⟩, hW, hsame.mono (by decide) (by decide)⟩
      show Q_isLowSurrogate Z p0 h0 n0 _ s₁.heap _
      rw [e0]
      exact ⟨by simp only [f_isLowSurrogate, if_neg hc2, if_pos hc5], N0, rfl⟩
    · have k7 : Go p.tables e below (s₁.setTop (mkF m 9 #[.val (.int p0)] [(.int (57344 : Int32)), (.int p0)])) (s₁.setTop (mkF m 17 #[.val (.int p0)] [(.int (0 : Int32))])) := by
        intro t ht
        refine XS.icmpYes X0.here hx rfl (pc0 := 9) (pc' := 16) rfl (hb hby d_isLowSurrogate_9) rfl (flt hc5).2.1 (by decide) (by decide) ?_
        show Steps p.tables e below (s₁.setTop (mkF m 16 #[.val (.int p0)] [])) _
        refine XS.iconst X0.here hx rfl (hb hby d_isLowSurrogate_16) ?_
        exact ht
      obtain ⟨fs, hr, hrun, hended, hW, hsame⟩ := X0.leave (v := some (.int (0 : Int32))) (fun h => by rw [Bd.returns] at h; cases h)
      refine ⟨_, _, pre0 _ ((goT k1 (goT k4 k7)) _ (retN X0 hx (t := .boolean) Bd.returns (by simp) (hb hby d_isLowSurrogate_17) hr)), hrun, hended, _, _, rfl, ?_, ⟨_, rfl⟩, hW, hsame.mono (by decide) (by decide)⟩
      show Q_isLowSurrogate Z p0 h0 n0 _ s₁.heap _
      rw [e0]
      exact ⟨by simp only [f_isLowSurrogate, if_neg hc2, if_neg hc5], N0, rfl⟩
theorem d_isSurrogate_0 : decode jdk_89_method_16_code 0 = .ok (.iload_n 0, 1) := by decide +kernel
theorem d_isSurrogate_1 : decode jdk_89_method_16_code 1 = .ok (.ldc 75, 2) := by decide +kernel
theorem d_isSurrogate_3 : decode jdk_89_method_16_code 3 = .ok (.if_icmp .lt 13, 3) := by decide +kernel
theorem d_isSurrogate_6 : decode jdk_89_method_16_code 6 = .ok (.iload_n 0, 1) := by decide +kernel
theorem d_isSurrogate_7 : decode jdk_89_method_16_code 7 = .ok (.ldc 77, 2) := by decide +kernel
theorem d_isSurrogate_9 : decode jdk_89_method_16_code 9 = .ok (.if_icmp .ge 7, 3) := by decide +kernel
theorem d_isSurrogate_12 : decode jdk_89_method_16_code 12 = .ok (.iconst 1, 1) := by decide +kernel
theorem d_isSurrogate_13 : decode jdk_89_method_16_code 13 = .ok (.goto 4, 3) := by decide +kernel
theorem d_isSurrogate_16 : decode jdk_89_method_16_code 16 = .ok (.iconst 0, 1) := by decide +kernel
theorem d_isSurrogate_17 : decode jdk_89_method_16_code 17 = .ok (.ireturn, 1) := by decide +kernel
theorem ef_isSurrogate (m : MethodId) (x0 : Int32) : entryFrame m #[(.int x0)] 1 = mkF m 0 #[.val (.int x0)] [] := by first | (simp [entryFrame, mkF, argsToLocals, Value.category]; done) | rfl
def f_isSurrogate (p0 : Int32) : Int32 := (if p0 < (55296 : Int32) then (0 : Int32) else (if p0 < (57344 : Int32) then (1 : Int32) else (0 : Int32)))
def Q_isSurrogate (Z : State) (p0 : Int32) (h0 : Heap) (n0 : Nat) (v : Option Value) (h : Heap) (L : List Loc) : Prop := v = some (.int (f_isSurrogate p0)) ∧ Fr n0 L ∧ h = h0
set_option maxRecDepth 65536 in
set_option maxHeartbeats 40000000 in
theorem rm_isSurrogate (l : Launch) (Z : State) (a0 : Array Value) (hw : ∀ d ∈ tables_1, d.before a0 Z = true) (ws : List Jvm.Cond) (p0 : Int32) (h0 : Heap) (n0 : Nat) (Z0 : n0 ≤ h0.size) :
    MetFree l (⟨"java/lang/Character", "isSurrogate", "(C)Z"⟩ : MethodName) (head1 (Jvm.Cond.code (⟨"java/lang/Character", "isSurrogate", "(C)Z"⟩ : MethodName) jdk_89_method_16_code 1 (some .boolean) :: ws) ({ frames := 0, cells := 0, slots := 0, locals := 0 } : Room)) (fun a U => a = #[(.int p0)] ∧ Z.Warmed39 U.vm ∧ U.heap = h0) (fun _ _ _ _ _ => True) (fun _ U o U' => ∃ v L, o = .returned v ∧ Q_isSurrogate Z p0 h0 n0 v U'.heap L ∧ FrameEnd U o U' L ({ frames := 0, cells := 0, slots := 0, locals := 0 } : Room).cells ({ frames := 0, cells := 0, slots := 0, locals := 0 } : Room).slots) := by
  refine MetFree.of_bodySF (plainFor_of_name pn_1) hisR ?_
  intro p e s m args below meth c s₁ Bd hml0 hP hK
  obtain ⟨rfl, hZ, hh⟩ := hP
  have hx := Bd.exec
  have hby := Bd.bytes
  have hml : c.maxLocals = 1 := hml0
  have hown : s.vm.findClass "java/lang/Character" = some m.cls := findClass_of_methodNamed Bd.named
  have hnm := (name_of_methodNamed Bd.named Bd.method).1
  have X0 : Stand p l e ({ frames := 0, cells := 0, slots := 0, locals := 0 } : Room) s m #[(.int p0)] below meth c s₁ [] 0 0 := Stand.of_body Bd
  have e0 : s₁.heap = h0 := by rw [← hh, Bd.state]; rfl
  have N0 := Fr.nil n0
  have pre0 : ∀ t, Steps p.tables e below (s₁.setTop (mkF m 0 #[.val (.int p0)] [])) t → Steps p.tables e below (s₁.setTop (entryFrame m #[(.int p0)] 1)) t := fun t k => castTop (ef_isSurrogate m p0) k
  have k1 : Go p.tables e below (s₁.setTop (mkF m 0 #[.val (.int p0)] [])) (s₁.setTop (mkF m 3 #[.val (.int p0)] [(.int (55296 : Int32)), (.int p0)])) := by
    intro t ht
    refine XS.iloadN X0.here hx rfl (hb hby d_isSurrogate_0) rfl ?_
    show Steps p.tables e below (s₁.setTop (mkF m 1 #[.val (.int p0)] [(.int p0)])) _
    refine X0.ldcInt hx hown (mvT hZ (hw _ (List.mem_of_getElem? (i := 34) rfl))) (g := (mkF m 1 #[.val (.int p0)] [(.int p0)])) rfl (hb hby d_isSurrogate_1) _ ?_
    exact ht
  by_cases hc2 : p0 < (55296 : Int32)
  · have k3 : Go p.tables e below (s₁.setTop (mkF m 3 #[.val (.int p0)] [(.int (55296 : Int32)), (.int p0)])) (s₁.setTop (mkF m 17 #[.val (.int p0)] [(.int (0 : Int32))])) := by
      intro t ht
      refine XS.icmpYes X0.here hx rfl (pc0 := 3) (pc' := 16) rfl (hb hby d_isSurrogate_3) rfl (tlt hc2).1 (by decide) (by decide) ?_
      show Steps p.tables e below (s₁.setTop (mkF m 16 #[.val (.int p0)] [])) _
      refine XS.iconst X0.here hx rfl (hb hby d_isSurrogate_16) ?_
      exact ht
    obtain ⟨fs, hr, hrun, hended, hW, hsame⟩ := X0.leave (v := some (.int (0 : Int32))) (fun h => by rw [Bd.returns] at h; cases h)
    refine ⟨_, _, pre0 _ ((goT k1 k3) _ (retN X0 hx (t := .boolean) Bd.returns (by simp) (hb hby d_isSurrogate_17) hr)), hrun, hended, _, _, rfl, ?_, ⟨_, rfl⟩, hW, hsame.mono (by decide) (by decide)⟩
    show Q_isSurrogate Z p0 h0 n0 _ s₁.heap _
    rw [e0]
    exact ⟨by simp only [f_isSurrogate, if_pos hc2], N0, rfl⟩
  · have k4 : Go p.tables e below (s₁.setTop (mkF m 3 #[.val (.int p0)] [(.int (55296 : Int32)), (.int p0)])) (s₁.setTop (mkF m 9 #[.val (.int p0)] [(.int (57344 : Int32)), (.int p0)])) := by
      intro t ht
      refine XS.icmpNo X0.here hx rfl (hb hby d_isSurrogate_3) rfl (flt hc2).1 ?_
      show Steps p.tables e below (s₁.setTop (mkF m 6 #[.val (.int p0)] [])) _
      refine XS.iloadN X0.here hx rfl (hb hby d_isSurrogate_6) rfl ?_
      show Steps p.tables e below (s₁.setTop (mkF m 7 #[.val (.int p0)] [(.int p0)])) _
      refine X0.ldcInt hx hown (mvT hZ (hw _ (List.mem_of_getElem? (i := 42) rfl))) (g := (mkF m 7 #[.val (.int p0)] [(.int p0)])) rfl (hb hby d_isSurrogate_7) _ ?_
      exact ht
    by_cases hc5 : p0 < (57344 : Int32)
    · have k6 : Go p.tables e below (s₁.setTop (mkF m 9 #[.val (.int p0)] [(.int (57344 : Int32)), (.int p0)])) (s₁.setTop (mkF m 17 #[.val (.int p0)] [(.int (1 : Int32))])) := by
        intro t ht
        refine XS.icmpNo X0.here hx rfl (hb hby d_isSurrogate_9) rfl (tlt hc5).2.1 ?_
        show Steps p.tables e below (s₁.setTop (mkF m 12 #[.val (.int p0)] [])) _
        refine XS.iconst X0.here hx rfl (hb hby d_isSurrogate_12) ?_
        show Steps p.tables e below (s₁.setTop (mkF m 13 #[.val (.int p0)] [(.int (1 : Int32))])) _
        refine XS.goto X0.here hx rfl (pc0 := 13) (pc' := 17) rfl (hb hby d_isSurrogate_13) (by decide) (by decide) ?_
        exact ht
      obtain ⟨fs, hr, hrun, hended, hW, hsame⟩ := X0.leave (v := some (.int (1 : Int32))) (fun h => by rw [Bd.returns] at h; cases h)
      refine ⟨_, _, pre0 _ ((goT k1 (goT k4 k6)) _ (retN X0 hx (t := .boolean) Bd.returns (by simp) (hb hby d_isSurrogate_17) hr)), hrun, hended, _, _, rfl, ?_, ⟨_, rfl⟩, hW, hsame.mono (by decide) (by decide)⟩
      show Q_isSurrogate Z p0 h0 n0 _ s₁.heap _
      rw [e0]
      exact ⟨by simp only [f_isSurrogate, if_neg hc2, if_pos hc5], N0, rfl⟩
    · have k7 : Go p.tables e below (s₁.setTop (mkF m 9 #[.val (.int p0)] [(.int (57344 : Int32)), (.int p0)])) (s₁.setTop (mkF m 17 #[.val (.int p0)] [(.int (0 : Int32))])) := by
        intro t ht
        refine XS.icmpYes X0.here hx rfl (pc0 := 9) (pc' := 16) rfl (hb hby d_isSurrogate_9) rfl (flt hc5).2.1 (by decide) (by decide) ?_
        show Steps p.tables e below (s₁.setTop (mkF m 16 #[.val (.int p0)] [])) _
        refine XS.iconst X0.here hx rfl (hb hby d_isSurrogate_16) ?_
        exact ht
      obtain ⟨fs, hr, hrun, hended, hW, hsame⟩ := X0.leave (v := some (.int (0 : Int32))) (fun h => by rw [Bd.returns] at h; cases h)
      refine ⟨_, _, pre0 _ ((goT k1 (goT k4 k7)) _ (retN X0 hx (t := .boolean) Bd.returns (by simp) (hb hby d_isSurrogate_17) hr)), hrun, hended, _, _, rfl, ?_, ⟨_, rfl⟩, hW, hsame.mono (by decide) (by decide)⟩
      show Q_isSurrogate Z p0 h0 n0 _ s₁.heap _
      rw [e0]
      exact ⟨by simp only [f_isSurrogate, if_neg hc2, if_neg hc5], N0, rfl⟩
theorem own_b1 {q : Int32} (h : ¬ ((4 : Int32) < q)) : ¬ ((4 : Int32) < q) := h
theorem own_b2 {q : Int32} (h : ¬ (q < (0 : Int32))) : (-1 : Int32) < q := by
  rw [Int32.lt_iff_toInt_lt] at *
  have c0 : (0 : Int32).toInt = 0 := rfl
  have c1 : (-1 : Int32).toInt = -1 := rfl
  omega
theorem own_t4 {q : Int32} (h : ¬ ((4 : Int32) < q)) : ¬ ((4 : Int32) < q) := h
theorem own_t5 {q : Int32} (h : ¬ ((4 : Int32) < q)) : ¬ ((5 : Int32) < q) := by
  rw [Int32.lt_iff_toInt_lt] at *
  have c0 : (4 : Int32).toInt = 4 := rfl
  have c1 : (5 : Int32).toInt = 5 := rfl
  omega
theorem own_st4 {a : Addr} {x y z v : Int32} {s4 : Slot} (h : One s4) : storeLocals #[.val (.ref a), .val (.int x), .val (.int y), .val (.int z), s4] 4 (.int v) = some #[.val (.ref a), .val (.int x), .val (.int y), .val (.int z), .val (.int v)] := by
  rcases h with rfl | ⟨w, rfl, hw⟩
  · rfl
  · cases w <;> first | rfl | (simp [Value.category] at hw)
theorem own_five {p : Int32} (h0 : ¬ (p < (0 : Int32))) (h4 : ¬ ((4 : Int32) < p)) : p = 0 ∨ p = 1 ∨ p = 2 ∨ p = 3 ∨ p = 4 := by
  rw [Int32.lt_iff_toInt_lt] at h0 h4
  simp only [← Int32.toInt_inj]
  have c0 : (0 : Int32).toInt = 0 := rfl
  have c1 : (1 : Int32).toInt = 1 := rfl
  have c2 : (2 : Int32).toInt = 2 := rfl
  have c3 : (3 : Int32).toInt = 3 := rfl
  have c4 : (4 : Int32).toInt = 4 := rfl
  omega
theorem pd_0 : parseMethodDescriptor "(C)Z" = some ⟨[.char], some .boolean⟩ := by decide +kernel
theorem d_bad0_0 : decode method_5_code 0 = .ok (.iload_n 1, 1) := by decide +kernel
theorem d_bad0_1 : decode method_5_code 1 = .ok (.iload_n 2, 1) := by decide +kernel
theorem d_bad0_2 : decode method_5_code 2 = .ok (.if_icmp .lt 8, 3) := by decide +kernel
theorem d_bad0_5 : decode method_5_code 5 = .ok (.iload_n 1, 1) := by decide +kernel
theorem d_bad0_6 : decode method_5_code 6 = .ok (.iload_n 3, 1) := by decide +kernel
theorem d_bad0_7 : decode method_5_code 7 = .ok (.if_icmp .lt 5, 3) := by decide +kernel
theorem d_bad0_10 : decode method_5_code 10 = .ok (.iconst 0, 1) := by decide +kernel
theorem d_bad0_11 : decode method_5_code 11 = .ok (.ireturn, 1) := by decide +kernel
theorem d_bad0_12 : decode method_5_code 12 = .ok (.aload_n 0, 1) := by decide +kernel
theorem d_bad0_13 : decode method_5_code 13 = .ok (.iload_n 1, 1) := by decide +kernel
theorem d_bad0_14 : decode method_5_code 14 = .ok (.caload, 1) := by decide +kernel
theorem d_bad0_15 : decode method_5_code 15 = .ok (.istore 4, 2) := by decide +kernel
theorem d_bad0_17 : decode method_5_code 17 = .ok (.iload 4, 2) := by decide +kernel
theorem d_bad0_19 : decode method_5_code 19 = .ok (.invokestatic 15, 3) := by decide +kernel
theorem d_bad0_22 : decode method_5_code 22 = .ok (.ifCond .eq 27, 3) := by decide +kernel
theorem d_bad0_25 : decode method_5_code 25 = .ok (.iload_n 1, 1) := by decide +kernel
theorem d_bad0_26 : decode method_5_code 26 = .ok (.iconst 1, 1) := by decide +kernel
theorem d_bad0_27 : decode method_5_code 27 = .ok (.iadd, 1) := by decide +kernel
theorem d_bad0_28 : decode method_5_code 28 = .ok (.iload_n 3, 1) := by decide +kernel
theorem d_bad0_29 : decode method_5_code 29 = .ok (.if_icmp .ge 14, 3) := by decide +kernel
theorem d_bad0_32 : decode method_5_code 32 = .ok (.aload_n 0, 1) := by decide +kernel
theorem d_bad0_33 : decode method_5_code 33 = .ok (.iload_n 1, 1) := by decide +kernel
theorem d_bad0_34 : decode method_5_code 34 = .ok (.iconst 1, 1) := by decide +kernel
theorem d_bad0_35 : decode method_5_code 35 = .ok (.iadd, 1) := by decide +kernel
theorem d_bad0_36 : decode method_5_code 36 = .ok (.caload, 1) := by decide +kernel
theorem d_bad0_37 : decode method_5_code 37 = .ok (.invokestatic 21, 3) := by decide +kernel
theorem d_bad0_40 : decode method_5_code 40 = .ok (.ifCond .ne 7, 3) := by decide +kernel
theorem d_bad0_43 : decode method_5_code 43 = .ok (.iconst 1, 1) := by decide +kernel
theorem d_bad0_44 : decode method_5_code 44 = .ok (.goto 4, 3) := by decide +kernel
theorem d_bad0_47 : decode method_5_code 47 = .ok (.iconst 0, 1) := by decide +kernel
theorem d_bad0_48 : decode method_5_code 48 = .ok (.ireturn, 1) := by decide +kernel
theorem d_bad0_49 : decode method_5_code 49 = .ok (.iload 4, 2) := by decide +kernel
theorem d_bad0_51 : decode method_5_code 51 = .ok (.invokestatic 21, 3) := by decide +kernel
theorem d_bad0_54 : decode method_5_code 54 = .ok (.ifCond .eq 27, 3) := by decide +kernel
theorem d_bad0_57 : decode method_5_code 57 = .ok (.iload_n 1, 1) := by decide +kernel
theorem d_bad0_58 : decode method_5_code 58 = .ok (.iconst 1, 1) := by decide +kernel
theorem d_bad0_59 : decode method_5_code 59 = .ok (.isub, 1) := by decide +kernel
theorem d_bad0_60 : decode method_5_code 60 = .ok (.iload_n 2, 1) := by decide +kernel
theorem d_bad0_61 : decode method_5_code 61 = .ok (.if_icmp .lt 14, 3) := by decide +kernel
theorem d_bad0_75 : decode method_5_code 75 = .ok (.iconst 1, 1) := by decide +kernel
theorem d_bad0_76 : decode method_5_code 76 = .ok (.goto 4, 3) := by decide +kernel
theorem d_bad0_80 : decode method_5_code 80 = .ok (.ireturn, 1) := by decide +kernel
theorem d_bad0_81 : decode method_5_code 81 = .ok (.iconst 0, 1) := by decide +kernel
theorem d_bad0_82 : decode method_5_code 82 = .ok (.ireturn, 1) := by decide +kernel
theorem ef_bad0 (m : MethodId) (x0 : Addr) (x2 : Int32) (x3 : Int32) : entryFrame m #[(.ref x0), (.int (0 : Int32)), (.int x2), (.int x3)] 5 = mkF m 0 #[.val (.ref x0), .val (.int (0 : Int32)), .val (.int x2), .val (.int x3), .unset] [] := by first | (simp [entryFrame, mkF, argsToLocals, Value.category]; done) | rfl
def f_bad0 (p2 : Int32) (p3 : Int32) (v0 : Int32) (v1 : Int32) : Int32 := (if (0 : Int32) < p2 then (0 : Int32) else (if (0 : Int32) < p3 then (if (f_isHigh v0) = (0 : Int32) then (if (f_isLow v0) = (0 : Int32) then (0 : Int32) else (1 : Int32)) else (if (1 : Int32) < p3 then (if (f_isLow v1) = (0 : Int32) then (1 : Int32) else (0 : Int32)) else (1 : Int32))) else (0 : Int32)))
def Q_bad0 (Z : State) (r0 : Addr) (p2 : Int32) (p3 : Int32) (kA : ClassId) (v0 : Int32) (v1 : Int32) (v2 : Int32) (v3 : Int32) (h0 : Heap) (n0 : Nat) (v : Option Value) (h : Heap) (L : List Loc) : Prop := v = some (.int (f_bad0 p2 p3 v0 v1)) ∧ Fr n0 L ∧ h = h0
set_option maxRecDepth 65536 in
set_option maxHeartbeats 40000000 in
theorem rm_bad0 (l : Launch) (Z : State) (a0 : Array Value) (hw : ∀ d ∈ tables_1, d.before a0 Z = true) (ws : List Jvm.Cond) (r0 : Addr) (p2 : Int32) (p3 : Int32) (kA : ClassId) (v0 : Int32) (v1 : Int32) (v2 : Int32) (v3 : Int32) (h0 : Heap) (n0 : Nat) (Z0 : n0 ≤ h0.size) (V_A : Arv Z h0 r0 kA .char (4 : Int32) [(.int v0), (.int v1), (.int v2), (.int v3)] (.int (0 : Int32))) (hlo : ¬ (p2 < (0 : Int32))) (hhi : ¬ ((4 : Int32) < p3)) :
    MetFree l (⟨"com/example/fieldveil/fieldveil/Utf8FirstUnpairedSurrogatePinLaw", "bad", "([CIII)Z"⟩ : MethodName) (head1 (Jvm.Cond.code (⟨"com/example/fieldveil/fieldveil/Utf8FirstUnpairedSurrogatePinLaw", "bad", "([CIII)Z"⟩ : MethodName) method_5_code 5 (some .boolean) :: ws) ({ frames := 1, cells := 0, slots := 0, locals := 12 } : Room)) (fun a U => a = #[(.ref r0), (.int (0 : Int32)), (.int p2), (.int p3)] ∧ Z.Warmed39 U.vm ∧ U.heap = h0) (fun _ _ _ _ _ => True) (fun _ U o U' => ∃ v L, o = .returned v ∧ Q_bad0 Z r0 p2 p3 kA v0 v1 v2 v3 h0 n0 v U'.heap L ∧ FrameEnd U o U' L ({ frames := 1, cells := 0, slots := 0, locals := 12 } : Room).cells ({ frames := 1, cells := 0, slots := 0, locals := 12 } : Room).slots) := by
  refine MetFree.of_bodySF (plainFor_of_name pn_0) hisR ?_
  intro p e s m args below meth c s₁ Bd hml0 hP hK
  obtain ⟨rfl, hZ, hh⟩ := hP
  have hx := Bd.exec
  have hby := Bd.bytes
  have hml : c.maxLocals = 5 := hml0
  have hown : s.vm.findClass "com/example/fieldveil/fieldveil/Utf8FirstUnpairedSurrogatePinLaw" = some m.cls := findClass_of_methodNamed Bd.named
  have hnm := (name_of_methodNamed Bd.named Bd.method).1
  have X0 : Stand p l e ({ frames := 1, cells := 0, slots := 0, locals := 12 } : Room) s m #[(.ref r0), (.int (0 : Int32)), (.int p2), (.int p3)] below meth c s₁ [] 0 0 := Stand.of_body Bd
  have e0 : s₁.heap = h0 := by rw [← hh, Bd.state]; rfl
  have N0 := Fr.nil n0
  have pre0 : ∀ t, Steps p.tables e below (s₁.setTop (mkF m 0 #[.val (.ref r0), .val (.int (0 : Int32)), .val (.int p2), .val (.int p3), .unset] [])) t → Steps p.tables e below (s₁.setTop (entryFrame m #[(.ref r0), (.int (0 : Int32)), (.int p2), (.int p3)] 5)) t := fun t k => castTop (ef_bad0 m r0 p2 p3) k
  have k1 : Go p.tables e below (s₁.setTop (mkF m 0 #[.val (.ref r0), .val (.int (0 : Int32)), .val (.int p2), .val (.int p3), .unset] [])) (s₁.setTop (mkF m 2 #[.val (.ref r0), .val (.int (0 : Int32)), .val (.int p2), .val (.int p3), .unset] [(.int p2), (.int (0 : Int32))])) := by
    intro t ht
    refine XS.iloadN X0.here hx rfl (hb hby d_bad0_0) rfl ?_
    show Steps p.tables e below (s₁.setTop (mkF m 1 #[.val (.ref r0), .val (.int (0 : Int32)), .val (.int p2), .val (.int p3), .unset] [(.int (0 : Int32))])) _
    refine XS.iloadN X0.here hx rfl (hb hby d_bad0_1) rfl ?_
    exact ht
  by_cases hc2 : (0 : Int32) < p2
  · have k3 : Go p.tables e below (s₁.setTop (mkF m 2 #[.val (.ref r0), .val (.int (0 : Int32)), .val (.int p2), .val (.int p3), .unset] [(.int p2), (.int (0 : Int32))])) (s₁.setTop (mkF m 11 #[.val (.ref r0), .val (.int (0 : Int32)), .val (.int p2), .val (.int p3), .unset] [(.int (0 : Int32))])) := by
      intro t ht
      refine XS.icmpYes X0.here hx rfl (pc0 := 2) (pc' := 10) rfl (hb hby d_bad0_2) rfl (tlt hc2).1 (by decide) (by decide) ?_
      show Steps p.tables e below (s₁.setTop (mkF m 10 #[.val (.ref r0), .val (.int (0 : Int32)), .val (.int p2), .val (.int p3), .unset] [])) _
      refine XS.iconst X0.here hx rfl (hb hby d_bad0_10) ?_
      exact ht
    obtain ⟨fs, hr, hrun, hended, hW, hsame⟩ := X0.leave (v := some (.int (0 : Int32))) (fun h => by rw [Bd.returns] at h; cases h)
    refine ⟨_, _, pre0 _ ((goT k1 k3) _ (retN X0 hx (t := .boolean) Bd.returns (by simp) (hb hby d_bad0_11) hr)), hrun, hended, _, _, rfl, ?_, ⟨_, rfl⟩, hW, hsame.mono (by decide) (by decide)⟩
    show Q_bad0 Z r0 p2 p3 kA v0 v1 v2 v3 h0 n0 _ s₁.heap _
    rw [e0]
    exact ⟨by simp only [f_bad0, if_pos hc2], N0, rfl⟩
  · have k4 : Go p.tables e below (s₁.setTop (mkF m 2 #[.val (.ref r0), .val (.int (0 : Int32)), .val (.int p2), .val (.int p3), .unset] [(.int p2), (.int (0 : Int32))])) (s₁.setTop (mkF m 7 #[.val (.ref r0), .val (.int (0 : Int32)), .val (.int p2), .val (.int p3), .unset] [(.int p3), (.int (0 : Int32))])) := by
      intro t ht
      refine XS.icmpNo X0.here hx rfl (hb hby d_bad0_2) rfl (flt hc2).1 ?_
      show Steps p.tables e below (s₁.setTop (mkF m 5 #[.val (.ref r0), .val (.int (0 : Int32)), .val (.int p2), .val (.int p3), .unset] [])) _
      refine XS.iloadN X0.here hx rfl (hb hby d_bad0_5) rfl ?_
      show Steps p.tables e below (s₁.setTop (mkF m 6 #[.val (.ref r0), .val (.int (0 : Int32)), .val (.int p2), .val (.int p3), .unset] [(.int (0 : Int32))])) _
      refine XS.iloadN X0.here hx rfl (hb hby d_bad0_6) rfl ?_
      exact ht
    by_cases hc5 : (0 : Int32) < p3
    · have k6 : Go p.tables e below (s₁.setTop (mkF m 7 #[.val (.ref r0), .val (.int (0 : Int32)), .val (.int p2), .val (.int p3), .unset] [(.int p3), (.int (0 : Int32))])) (s₁.setTop (mkF m 14 #[.val (.ref r0), .val (.int (0 : Int32)), .val (.int p2), .val (.int p3), .unset] [(.int (0 : Int32)), (.ref r0)])) := by
        intro t ht
        refine XS.icmpYes X0.here hx rfl (pc0 := 7) (pc' := 12) rfl (hb hby d_bad0_7) rfl (tlt hc5).1 (by decide) (by decide) ?_
        show Steps p.tables e below (s₁.setTop (mkF m 12 #[.val (.ref r0), .val (.int (0 : Int32)), .val (.int p2), .val (.int p3), .unset] [])) _
        refine XS.aloadN X0.here hx rfl (hb hby d_bad0_12) rfl rfl ?_
        show Steps p.tables e below (s₁.setTop (mkF m 13 #[.val (.ref r0), .val (.int (0 : Int32)), .val (.int p2), .val (.int p3), .unset] [(.ref r0)])) _
        refine XS.iloadN X0.here hx rfl (hb hby d_bad0_13) rfl ?_
        exact ht
      obtain ⟨cl7, Ar7, q7, S7, M7, H7, G7⟩ := id V_A
      have hin7 : ¬ ((0 : Int32) < 0 ∨ cl7.slots.size ≤ ((0 : Int32)).toNatClampNeg) := inb_of S7 ⟨by decide, by decide⟩
      have hat7 : cl7.slots[((0 : Int32)).toNatClampNeg]? = some (.int v0) := (H7 _ (Nat.lt_of_not_le fun y => hin7 (Or.inr y))).trans (congrArg some (rfl))
      have k8 : Go p.tables e below (s₁.setTop (mkF m 14 #[.val (.ref r0), .val (.int (0 : Int32)), .val (.int p2), .val (.int p3), .unset] [(.int (0 : Int32)), (.ref r0)])) (s₁.setTop (mkF m 19 #[.val (.ref r0), .val (.int (0 : Int32)), .val (.int p2), .val (.int p3), .val (.int v0)] [(.int v0)])) := by
        intro t ht
        refine X0.caload hx (j := (0 : Int32)) (v := (.int v0)) (by rw [e0]; exact Ar7.1) (State.isArrayOf_alike hZ.alike Ar7.2.1) Ar7.2.2 hin7 hat7 (g := (mkF m 14 #[.val (.ref r0), .val (.int (0 : Int32)), .val (.int p2), .val (.int p3), .unset] [(.int (0 : Int32)), (.ref r0)])) rfl rfl (hb hby d_bad0_14) _ ?_
        show Steps p.tables e below (s₁.setTop (mkF m 15 #[.val (.ref r0), .val (.int (0 : Int32)), .val (.int p2), .val (.int p3), .unset] [(.int v0)])) _
        refine XS.istore X0.here hx rfl (hb hby d_bad0_15) rfl (l' := #[.val (.ref r0), .val (.int (0 : Int32)), .val (.int p2), .val (.int p3), .val (.int v0)]) rfl ?_
        show Steps p.tables e below (s₁.setTop (mkF m 17 #[.val (.ref r0), .val (.int (0 : Int32)), .val (.int p2), .val (.int p3), .val (.int v0)] [])) _
        refine XS.iload X0.here hx rfl (hb hby d_bad0_17) rfl ?_
        exact ht
      obtain ⟨_, _, ⟨T9, L9, kq9, n9⟩, -, X9, ⟨Lc9, hQ9, l9, y9, z9⟩, st9⟩ := Jvm.LawKit.callS X0 hx (y := (⟨"com/example/fieldveil/fieldveil/Utf8FirstUnpairedSurrogatePinLaw", "isHigh", "(C)Z"⟩ : MethodName)) hown (mvT hZ (hw _ (List.mem_of_getElem? (i := 23) rfl))) (mvT hZ (hw _ (List.mem_of_getElem? (i := 24) rfl))) (mvT hZ (hw _ (List.mem_of_getElem? (i := 3) rfl))) (mvT hZ (hw _ (List.mem_of_getElem? (i := 25) rfl))) (by decide) (backOf (W := 0) (rm_isHigh l Z a0 hw [] v0 h0 n0 Z0 ) hZ (hw _ (List.mem_of_getElem? (i := 25) rfl)) (hw _ (List.mem_of_getElem? (i := 3) rfl)) (by decide) (by decide)) (g := (mkF m 19 #[.val (.ref r0), .val (.int (0 : Int32)), .val (.int p2), .val (.int p3), .val (.int v0)] [(.int v0)])) rfl (by rw [hml]; rfl) (argsL := [(.int v0)]) (rest := []) (lenOf pd_0 rfl) rfl (by show 2 * 0 + _ ≤ _; exact Nat.le_of_eq rfl) (hb hby d_bad0_19) (fun _ _ => ⟨rfl, e0, (by decide : 0 + 0 ≤ _), (by decide : 0 + 0 ≤ _)⟩)
      dsimp only [Pt.U, Pt.locs, Pt.cells, Pt.slots] at X9 l9 y9 z9 st9 hQ9
      subst l9 y9 z9
      obtain ⟨rfl, N9q, eq9⟩ := hQ9
      have N9 := Fr.app N0 N9q
      have k9 : Go p.tables e below (s₁.setTop (mkF m 19 #[.val (.ref r0), .val (.int (0 : Int32)), .val (.int p2), .val (.int p3), .val (.int v0)] [(.int v0)])) (T9.setTop (mkF m 22 #[.val (.ref r0), .val (.int (0 : Int32)), .val (.int p2), .val (.int p3), .val (.int v0)] [(.int (f_isHigh v0))])) := st9
      by_cases hc10 : (f_isHigh v0) = (0 : Int32)
      · have k11 : Go p.tables e below (T9.setTop (mkF m 22 #[.val (.ref r0), .val (.int (0 : Int32)), .val (.int p2), .val (.int p3), .val (.int v0)] [(.int (f_isHigh v0))])) (T9.setTop (mkF m 51 #[.val (.ref r0), .val (.int (0 : Int32)), .val (.int p2), .val (.int p3), .val (.int v0)] [(.int v0)])) := by
          intro t ht
          refine XS.ifYes X9.here hx rfl (pc0 := 22) (pc' := 49) rfl (hb hby d_bad0_22) rfl ((if0 _ _).trans (teq hc10).1) (by decide) (by decide) ?_
          show Steps p.tables e below (T9.setTop (mkF m 49 #[.val (.ref r0), .val (.int (0 : Int32)), .val (.int p2), .val (.int p3), .val (.int v0)] [])) _
          refine XS.iload X9.here hx rfl (hb hby d_bad0_49) rfl ?_
          exact ht
        obtain ⟨_, _, ⟨T12, L12, kq12, n12⟩, -, X12, ⟨Lc12, hQ12, l12, y12, z12⟩, st12⟩ := Jvm.LawKit.callS X9 hx (y := (⟨"com/example/fieldveil/fieldveil/Utf8FirstUnpairedSurrogatePinLaw", "isLow", "(C)Z"⟩ : MethodName)) hown (mvT hZ (hw _ (List.mem_of_getElem? (i := 27) rfl))) (mvT hZ (hw _ (List.mem_of_getElem? (i := 28) rfl))) (mvT hZ (hw _ (List.mem_of_getElem? (i := 3) rfl))) (mvT hZ (hw _ (List.mem_of_getElem? (i := 29) rfl))) (by decide) (backOf (W := 0) (rm_isLow l Z a0 hw [] v0 h0 n0 Z0 ) hZ (hw _ (List.mem_of_getElem? (i := 29) rfl)) (hw _ (List.mem_of_getElem? (i := 3) rfl)) (by decide) (by decide)) (g := (mkF m 51 #[.val (.ref r0), .val (.int (0 : Int32)), .val (.int p2), .val (.int p3), .val (.int v0)] [(.int v0)])) rfl (by rw [hml]; rfl) (argsL := [(.int v0)]) (rest := []) (lenOf pd_0 rfl) rfl (by show 2 * 0 + _ ≤ _; exact Nat.le_of_eq rfl) (hb hby d_bad0_51) (fun _ _ => ⟨rfl, eq9, (by decide : 0 + 0 ≤ _), (by decide : 0 + 0 ≤ _)⟩)
        dsimp only [Pt.U, Pt.locs, Pt.cells, Pt.slots] at X12 l12 y12 z12 st12 hQ12
        subst l12 y12 z12
        obtain ⟨rfl, N12q, eq12⟩ := hQ12
        have N12 := Fr.app N9 N12q
        have k12 : Go p.tables e below (T9.setTop (mkF m 51 #[.val (.ref r0), .val (.int (0 : Int32)), .val (.int p2), .val (.int p3), .val (.int v0)] [(.int v0)])) (T12.setTop (mkF m 54 #[.val (.ref r0), .val (.int (0 : Int32)), .val (.int p2), .val (.int p3), .val (.int v0)] [(.int (f_isLow v0))])) := st12
        by_cases hc13 : (f_isLow v0) = (0 : Int32)
        · have k14 : Go p.tables e below (T12.setTop (mkF m 54 #[.val (.ref r0), .val (.int (0 : Int32)), .val (.int p2), .val (.int p3), .val (.int v0)] [(.int (f_isLow v0))])) (T12.setTop (mkF m 82 #[.val (.ref r0), .val (.int (0 : Int32)), .val (.int p2), .val (.int p3), .val (.int v0)] [(.int (0 : Int32))])) := by
            intro t ht
            refine XS.ifYes X12.here hx rfl (pc0 := 54) (pc' := 81) rfl (hb hby d_bad0_54) rfl ((if0 _ _).trans (teq hc13).1) (by decide) (by decide) ?_
            show Steps p.tables e below (T12.setTop (mkF m 81 #[.val (.ref r0), .val (.int (0 : Int32)), .val (.int p2), .val (.int p3), .val (.int v0)] [])) _
            refine XS.iconst X12.here hx rfl (hb hby d_bad0_81) ?_
            exact ht
          obtain ⟨fs, hr, hrun, hended, hW, hsame⟩ := X12.leave (v := some (.int (0 : Int32))) (fun h => by rw [Bd.returns] at h; cases h)
          refine ⟨_, _, pre0 _ ((goT k1 (goT k4 (goT k6 (goT k8 (goT k9 (goT k11 (goT k12 k14))))))) _ (retN X12 hx (t := .boolean) Bd.returns (by simp) (hb hby d_bad0_82) hr)), hrun, hended, _, _, rfl, ?_, ⟨_, rfl⟩, hW, hsame.mono (by decide) (by decide)⟩
          show Q_bad0 Z r0 p2 p3 kA v0 v1 v2 v3 h0 n0 _ T12.heap _
          rw [eq12]
          exact ⟨by simp only [f_bad0, if_neg hc2, if_pos hc5, if_pos hc10, if_pos hc13], N12, rfl⟩
        · have k15 : Go p.tables e below (T12.setTop (mkF m 54 #[.val (.ref r0), .val (.int (0 : Int32)), .val (.int p2), .val (.int p3), .val (.int v0)] [(.int (f_isLow v0))])) (T12.setTop (mkF m 80 #[.val (.ref r0), .val (.int (0 : Int32)), .val (.int p2), .val (.int p3), .val (.int v0)] [(.int (1 : Int32))])) := by
            intro t ht
            refine XS.ifNo X12.here hx rfl (hb hby d_bad0_54) rfl ((if0 _ _).trans (feq hc13).1) ?_
            show Steps p.tables e below (T12.setTop (mkF m 57 #[.val (.ref r0), .val (.int (0 : Int32)), .val (.int p2), .val (.int p3), .val (.int v0)] [])) _
            refine XS.iloadN X12.here hx rfl (hb hby d_bad0_57) rfl ?_
            show Steps p.tables e below (T12.setTop (mkF m 58 #[.val (.ref r0), .val (.int (0 : Int32)), .val (.int p2), .val (.int p3), .val (.int v0)] [(.int (0 : Int32))])) _
            refine XS.iconst X12.here hx rfl (hb hby d_bad0_58) ?_
            show Steps p.tables e below (T12.setTop (mkF m 59 #[.val (.ref r0), .val (.int (0 : Int32)), .val (.int p2), .val (.int p3), .val (.int v0)] [(.int (1 : Int32)), (.int (0 : Int32))])) _
            refine XS.isub X12.here hx rfl (hb hby d_bad0_59) rfl ?_
            show Steps p.tables e below (T12.setTop (mkF m 60 #[.val (.ref r0), .val (.int (0 : Int32)), .val (.int p2), .val (.int p3), .val (.int v0)] [(.int (-1 : Int32))])) _
            refine XS.iloadN X12.here hx rfl (hb hby d_bad0_60) rfl ?_
            show Steps p.tables e below (T12.setTop (mkF m 61 #[.val (.ref r0), .val (.int (0 : Int32)), .val (.int p2), .val (.int p3), .val (.int v0)] [(.int p2), (.int (-1 : Int32))])) _
            refine XS.icmpYes X12.here hx rfl (pc0 := 61) (pc' := 75) rfl (hb hby d_bad0_61) rfl (tlt (own_b2 hlo : (-1 : Int32) < p2)).1 (by decide) (by decide) ?_
            show Steps p.tables e below (T12.setTop (mkF m 75 #[.val (.ref r0), .val (.int (0 : Int32)), .val (.int p2), .val (.int p3), .val (.int v0)] [])) _
            refine XS.iconst X12.here hx rfl (hb hby d_bad0_75) ?_
            show Steps p.tables e below (T12.setTop (mkF m 76 #[.val (.ref r0), .val (.int (0 : Int32)), .val (.int p2), .val (.int p3), .val (.int v0)] [(.int (1 : Int32))])) _
            refine XS.goto X12.here hx rfl (pc0 := 76) (pc' := 80) rfl (hb hby d_bad0_76) (by decide) (by decide) ?_
            exact ht
          obtain ⟨fs, hr, hrun, hended, hW, hsame⟩ := X12.leave (v := some (.int (1 : Int32))) (fun h => by rw [Bd.returns] at h; cases h)
          refine ⟨_, _, pre0 _ ((goT k1 (goT k4 (goT k6 (goT k8 (goT k9 (goT k11 (goT k12 k15))))))) _ (retN X12 hx (t := .boolean) Bd.returns (by simp) (hb hby d_bad0_80) hr)), hrun, hended, _, _, rfl, ?_, ⟨_, rfl⟩, hW, hsame.mono (by decide) (by decide)⟩
          show Q_bad0 Z r0 p2 p3 kA v0 v1 v2 v3 h0 n0 _ T12.heap _
          rw [eq12]
          exact ⟨by simp only [f_bad0, if_neg hc2, if_pos hc5, if_pos hc10, if_neg hc13], N12, rfl⟩
      · have k16 : Go p.tables e below (T9.setTop (mkF m 22 #[.val (.ref r0), .val (.int (0 : Int32)), .val (.int p2), .val (.int p3), .val (.int v0)] [(.int (f_isHigh v0))])) (T9.setTop (mkF m 29 #[.val (.ref r0), .val (.int (0 : Int32)), .val (.int p2), .val (.int p3), .val (.int v0)] [(.int p3), (.int (1 : Int32))])) := by
          intro t ht
          refine XS.ifNo X9.here hx rfl (hb hby d_bad0_22) rfl ((if0 _ _).trans (feq hc10).1) ?_
          show Steps p.tables e below (T9.setTop (mkF m 25 #[.val (.ref r0), .val (.int (0 : Int32)), .val (.int p2), .val (.int p3), .val (.int v0)] [])) _
          refine XS.iloadN X9.here hx rfl (hb hby d_bad0_25) rfl ?_
          show Steps p.tables e below (T9.setTop (mkF m 26 #[.val (.ref r0), .val (.int (0 : Int32)), .val (.int p2), .val (.int p3), .val (.int v0)] [(.int (0 : Int32))])) _
          refine XS.iconst X9.here hx rfl (hb hby d_bad0_26) ?_
          show Steps p.tables e below (T9.setTop (mkF m 27 #[.val (.ref r0), .val (.int (0 : Int32)), .val (.int p2), .val (.int p3), .val (.int v0)] [(.int (1 : Int32)), (.int (0 : Int32))])) _
          refine XS.iadd X9.here hx rfl (hb hby d_bad0_27) rfl ?_
          show Steps p.tables e below (T9.setTop (mkF m 28 #[.val (.ref r0), .val (.int (0 : Int32)), .val (.int p2), .val (.int p3), .val (.int v0)] [(.int (1 : Int32))])) _
          refine XS.iloadN X9.here hx rfl (hb hby d_bad0_28) rfl ?_
          exact ht
        by_cases hc17 : (1 : Int32) < p3
        · have k18 : Go p.tables e below (T9.setTop (mkF m 29 #[.val (.ref r0), .val (.int (0 : Int32)), .val (.int p2), .val (.int p3), .val (.int v0)] [(.int p3), (.int (1 : Int32))])) (T9.setTop (mkF m 36 #[.val (.ref r0), .val (.int (0 : Int32)), .val (.int p2), .val (.int p3), .val (.int v0)] [(.int (1 : Int32)), (.ref r0)])) := by
            intro t ht
            refine XS.icmpNo X9.here hx rfl (hb hby d_bad0_29) rfl (tlt hc17).2.1 ?_
            show Steps p.tables e below (T9.setTop (mkF m 32 #[.val (.ref r0), .val (.int (0 : Int32)), .val (.int p2), .val (.int p3), .val (.int v0)] [])) _
            refine XS.aloadN X9.here hx rfl (hb hby d_bad0_32) rfl rfl ?_
            show Steps p.tables e below (T9.setTop (mkF m 33 #[.val (.ref r0), .val (.int (0 : Int32)), .val (.int p2), .val (.int p3), .val (.int v0)] [(.ref r0)])) _
            refine XS.iloadN X9.here hx rfl (hb hby d_bad0_33) rfl ?_
            show Steps p.tables e below (T9.setTop (mkF m 34 #[.val (.ref r0), .val (.int (0 : Int32)), .val (.int p2), .val (.int p3), .val (.int v0)] [(.int (0 : Int32)), (.ref r0)])) _
            refine XS.iconst X9.here hx rfl (hb hby d_bad0_34) ?_
            show Steps p.tables e below (T9.setTop (mkF m 35 #[.val (.ref r0), .val (.int (0 : Int32)), .val (.int p2), .val (.int p3), .val (.int v0)] [(.int (1 : Int32)), (.int (0 : Int32)), (.ref r0)])) _
            refine XS.iadd X9.here hx rfl (hb hby d_bad0_35) rfl ?_
            exact ht
          obtain ⟨cl19, Ar19, q19, S19, M19, H19, G19⟩ := id V_A
          have hin19 : ¬ ((1 : Int32) < 0 ∨ cl19.slots.size ≤ ((1 : Int32)).toNatClampNeg) := inb_of S19 ⟨by decide, by decide⟩
          have hat19 : cl19.slots[((1 : Int32)).toNatClampNeg]? = some (.int v1) := (H19 _ (Nat.lt_of_not_le fun y => hin19 (Or.inr y))).trans (congrArg some (rfl))
          have k20 : Go p.tables e below (T9.setTop (mkF m 36 #[.val (.ref r0), .val (.int (0 : Int32)), .val (.int p2), .val (.int p3), .val (.int v0)] [(.int (1 : Int32)), (.ref r0)])) (T9.setTop (mkF m 37 #[.val (.ref r0), .val (.int (0 : Int32)), .val (.int p2), .val (.int p3), .val (.int v0)] [(.int v1)])) := by
            intro t ht
            refine X9.caload hx (j := (1 : Int32)) (v := (.int v1)) (by rw [eq9]; exact Ar19.1) (State.isArrayOf_alike hZ.alike Ar19.2.1) Ar19.2.2 hin19 hat19 (g := (mkF m 36 #[.val (.ref r0), .val (.int (0 : Int32)), .val (.int p2), .val (.int p3), .val (.int v0)] [(.int (1 : Int32)), (.ref r0)])) rfl rfl (hb hby d_bad0_36) _ ?_
            exact ht
          obtain ⟨_, _, ⟨T21, L21, kq21, n21⟩, -, X21, ⟨Lc21, hQ21, l21, y21, z21⟩, st21⟩ := Jvm.LawKit.callS X9 hx (y := (⟨"com/example/fieldveil/fieldveil/Utf8FirstUnpairedSurrogatePinLaw", "isLow", "(C)Z"⟩ : MethodName)) hown (mvT hZ (hw _ (List.mem_of_getElem? (i := 27) rfl))) (mvT hZ (hw _ (List.mem_of_getElem? (i := 28) rfl))) (mvT hZ (hw _ (List.mem_of_getElem? (i := 3) rfl))) (mvT hZ (hw _ (List.mem_of_getElem? (i := 29) rfl))) (by decide) (backOf (W := 0) (rm_isLow l Z a0 hw [] v1 h0 n0 Z0 ) hZ (hw _ (List.mem_of_getElem? (i := 29) rfl)) (hw _ (List.mem_of_getElem? (i := 3) rfl)) (by decide) (by decide)) (g := (mkF m 37 #[.val (.ref r0), .val (.int (0 : Int32)), .val (.int p2), .val (.int p3), .val (.int v0)] [(.int v1)])) rfl (by rw [hml]; rfl) (argsL := [(.int v1)]) (rest := []) (lenOf pd_0 rfl) rfl (by show 2 * 0 + _ ≤ _; exact Nat.le_of_eq rfl) (hb hby d_bad0_37) (fun _ _ => ⟨rfl, eq9, (by decide : 0 + 0 ≤ _), (by decide : 0 + 0 ≤ _)⟩)
          dsimp only [Pt.U, Pt.locs, Pt.cells, Pt.slots] at X21 l21 y21 z21 st21 hQ21
          subst l21 y21 z21
          obtain ⟨rfl, N21q, eq21⟩ := hQ21
          have N21 := Fr.app N9 N21q
          have k21 : Go p.tables e below (T9.setTop (mkF m 37 #[.val (.ref r0), .val (.int (0 : Int32)), .val (.int p2), .val (.int p3), .val (.int v0)] [(.int v1)])) (T21.setTop (mkF m 40 #[.val (.ref r0), .val (.int (0 : Int32)), .val (.int p2), .val (.int p3), .val (.int v0)] [(.int (f_isLow v1))])) := st21
          by_cases hc22 : (f_isLow v1) = (0 : Int32)
          · have k23 : Go p.tables e below (T21.setTop (mkF m 40 #[.val (.ref r0), .val (.int (0 : Int32)), .val (.int p2), .val (.int p3), .val (.int v0)] [(.int (f_isLow v1))])) (T21.setTop (mkF m 48 #[.val (.ref r0), .val (.int (0 : Int32)), .val (.int p2), .val (.int p3), .val (.int v0)] [(.int (1 : Int32))])) := by
              intro t ht
              refine XS.ifNo X21.here hx rfl (hb hby d_bad0_40) rfl ((if0 _ _).trans (teq hc22).2) ?_
              show Steps p.tables e below (T21.setTop (mkF m 43 #[.val (.ref r0), .val (.int (0 : Int32)), .val (.int p2), .val (.int p3), .val (.int v0)] [])) _
              refine XS.iconst X21.here hx rfl (hb hby d_bad0_43) ?_
              show Steps p.tables e below (T21.setTop (mkF m 44 #[.val (.ref r0), .val (.int (0 : Int32)), .val (.int p2), .val (.int p3), .val (.int v0)] [(.int (1 : Int32))])) _
              refine XS.goto X21.here hx rfl (pc0 := 44) (pc' := 48) rfl (hb hby d_bad0_44) (by decide) (by decide) ?_
              exact ht
            obtain ⟨fs, hr, hrun, hended, hW, hsame⟩ := X21.leave (v := some (.int (1 : Int32))) (fun h => by rw [Bd.returns] at h; cases h)
            refine ⟨_, _, pre0 _ ((goT k1 (goT k4 (goT k6 (goT k8 (goT k9 (goT k16 (goT k18 (goT k20 (goT k21 k23))))))))) _ (retN X21 hx (t := .boolean) Bd.returns (by simp) (hb hby d_bad0_48) hr)), hrun, hended, _, _, rfl, ?_, ⟨_, rfl⟩, hW, hsame.mono (by decide) (by decide)⟩
            show Q_bad0 Z r0 p2 p3 kA v0 v1 v2 v3 h0 n0 _ T21.heap _
            rw [eq21]
            exact ⟨by simp only [f_bad0, if_neg hc2, if_pos hc5, if_neg hc10, if_pos hc17, if_pos hc22], N21, rfl⟩
          · have k24 : Go p.tables e below (T21.setTop (mkF m 40 #[.val (.ref r0), .val (.int (0 : Int32)), .val (.int p2), .val (.int p3), .val (.int v0)] [(.int (f_isLow v1))])) (T21.setTop (mkF m 48 #[.val (.ref r0), .val (.int (0 : Int32)), .val (.int p2), .val (.int p3), .val (.int v0)] [(.int (0 : Int32))])) := by
              intro t ht
              refine XS.ifYes X21.here hx rfl (pc0 := 40) (pc' := 47) rfl (hb hby d_bad0_40) rfl ((if0 _ _).trans (feq hc22).2) (by decide) (by decide) ?_
              show Steps p.tables e below (T21.setTop (mkF m 47 #[.val (.ref r0), .val (.int (0 : Int32)), .val (.int p2), .val (.int p3), .val (.int v0)] [])) _
              refine XS.iconst X21.here hx rfl (hb hby d_bad0_47) ?_
              exact ht
            obtain ⟨fs, hr, hrun, hended, hW, hsame⟩ := X21.leave (v := some (.int (0 : Int32))) (fun h => by rw [Bd.returns] at h; cases h)
            refine ⟨_, _, pre0 _ ((goT k1 (goT k4 (goT k6 (goT k8 (goT k9 (goT k16 (goT k18 (goT k20 (goT k21 k24))))))))) _ (retN X21 hx (t := .boolean) Bd.returns (by simp) (hb hby d_bad0_48) hr)), hrun, hended, _, _, rfl, ?_, ⟨_, rfl⟩, hW, hsame.mono (by decide) (by decide)⟩
            show Q_bad0 Z r0 p2 p3 kA v0 v1 v2 v3 h0 n0 _ T21.heap _
            rw [eq21]
            exact ⟨by simp only [f_bad0, if_neg hc2, if_pos hc5, if_neg hc10, if_pos hc17, if_neg hc22], N21, rfl⟩
        · have k25 : Go p.tables e below (T9.setTop (mkF m 29 #[.val (.ref r0), .val (.int (0 : Int32)), .val (.int p2), .val (.int p3), .val (.int v0)] [(.int p3), (.int (1 : Int32))])) (T9.setTop (mkF m 48 #[.val (.ref r0), .val (.int (0 : Int32)), .val (.int p2), .val (.int p3), .val (.int v0)] [(.int (1 : Int32))])) := by
            intro t ht
            refine XS.icmpYes X9.here hx rfl (pc0 := 29) (pc' := 43) rfl (hb hby d_bad0_29) rfl (flt hc17).2.1 (by decide) (by decide) ?_
            show Steps p.tables e below (T9.setTop (mkF m 43 #[.val (.ref r0), .val (.int (0 : Int32)), .val (.int p2), .val (.int p3), .val (.int v0)] [])) _
            refine XS.iconst X9.here hx rfl (hb hby d_bad0_43) ?_
            show Steps p.tables e below (T9.setTop (mkF m 44 #[.val (.ref r0), .val (.int (0 : Int32)), .val (.int p2), .val (.int p3), .val (.int v0)] [(.int (1 : Int32))])) _
            refine XS.goto X9.here hx rfl (pc0 := 44) (pc' := 48) rfl (hb hby d_bad0_44) (by decide) (by decide) ?_
            exact ht
          obtain ⟨fs, hr, hrun, hended, hW, hsame⟩ := X9.leave (v := some (.int (1 : Int32))) (fun h => by rw [Bd.returns] at h; cases h)
          refine ⟨_, _, pre0 _ ((goT k1 (goT k4 (goT k6 (goT k8 (goT k9 (goT k16 k25)))))) _ (retN X9 hx (t := .boolean) Bd.returns (by simp) (hb hby d_bad0_48) hr)), hrun, hended, _, _, rfl, ?_, ⟨_, rfl⟩, hW, hsame.mono (by decide) (by decide)⟩
          show Q_bad0 Z r0 p2 p3 kA v0 v1 v2 v3 h0 n0 _ T9.heap _
          rw [eq9]
          exact ⟨by simp only [f_bad0, if_neg hc2, if_pos hc5, if_neg hc10, if_neg hc17], N9, rfl⟩
    · have k26 : Go p.tables e below (s₁.setTop (mkF m 7 #[.val (.ref r0), .val (.int (0 : Int32)), .val (.int p2), .val (.int p3), .unset] [(.int p3), (.int (0 : Int32))])) (s₁.setTop (mkF m 11 #[.val (.ref r0), .val (.int (0 : Int32)), .val (.int p2), .val (.int p3), .unset] [(.int (0 : Int32))])) := by
        intro t ht
        refine XS.icmpNo X0.here hx rfl (hb hby d_bad0_7) rfl (flt hc5).1 ?_
        show Steps p.tables e below (s₁.setTop (mkF m 10 #[.val (.ref r0), .val (.int (0 : Int32)), .val (.int p2), .val (.int p3), .unset] [])) _
        refine XS.iconst X0.here hx rfl (hb hby d_bad0_10) ?_
        exact ht
      obtain ⟨fs, hr, hrun, hended, hW, hsame⟩ := X0.leave (v := some (.int (0 : Int32))) (fun h => by rw [Bd.returns] at h; cases h)
      refine ⟨_, _, pre0 _ ((goT k1 (goT k4 k26)) _ (retN X0 hx (t := .boolean) Bd.returns (by simp) (hb hby d_bad0_11) hr)), hrun, hended, _, _, rfl, ?_, ⟨_, rfl⟩, hW, hsame.mono (by decide) (by decide)⟩
      show Q_bad0 Z r0 p2 p3 kA v0 v1 v2 v3 h0 n0 _ s₁.heap _
      rw [e0]
      exact ⟨by simp only [f_bad0, if_neg hc2, if_neg hc5], N0, rfl⟩
theorem d_bad1_0 : decode method_5_code 0 = .ok (.iload_n 1, 1) := by decide +kernel
theorem d_bad1_1 : decode method_5_code 1 = .ok (.iload_n 2, 1) := by decide +kernel
theorem d_bad1_2 : decode method_5_code 2 = .ok (.if_icmp .lt 8, 3) := by decide +kernel
theorem d_bad1_5 : decode method_5_code 5 = .ok (.iload_n 1, 1) := by decide +kernel
theorem d_bad1_6 : decode method_5_code 6 = .ok (.iload_n 3, 1) := by decide +kernel
theorem d_bad1_7 : decode method_5_code 7 = .ok (.if_icmp .lt 5, 3) := by decide +kernel
theorem d_bad1_10 : decode method_5_code 10 = .ok (.iconst 0, 1) := by decide +kernel
theorem d_bad1_11 : decode method_5_code 11 = .ok (.ireturn, 1) := by decide +kernel
theorem d_bad1_12 : decode method_5_code 12 = .ok (.aload_n 0, 1) := by decide +kernel
theorem d_bad1_13 : decode method_5_code 13 = .ok (.iload_n 1, 1) := by decide +kernel
theorem d_bad1_14 : decode method_5_code 14 = .ok (.caload, 1) := by decide +kernel
theorem d_bad1_15 : decode method_5_code 15 = .ok (.istore 4, 2) := by decide +kernel
theorem d_bad1_17 : decode method_5_code 17 = .ok (.iload 4, 2) := by decide +kernel
theorem d_bad1_19 : decode method_5_code 19 = .ok (.invokestatic 15, 3) := by decide +kernel
theorem d_bad1_22 : decode method_5_code 22 = .ok (.ifCond .eq 27, 3) := by decide +kernel
theorem d_bad1_25 : decode method_5_code 25 = .ok (.iload_n 1, 1) := by decide +kernel
theorem d_bad1_26 : decode method_5_code 26 = .ok (.iconst 1, 1) := by decide +kernel
theorem d_bad1_27 : decode method_5_code 27 = .ok (.iadd, 1) := by decide +kernel
theorem d_bad1_28 : decode method_5_code 28 = .ok (.iload_n 3, 1) := by decide +kernel
theorem d_bad1_29 : decode method_5_code 29 = .ok (.if_icmp .ge 14, 3) := by decide +kernel
theorem d_bad1_32 : decode method_5_code 32 = .ok (.aload_n 0, 1) := by decide +kernel
theorem d_bad1_33 : decode method_5_code 33 = .ok (.iload_n 1, 1) := by decide +kernel
theorem d_bad1_34 : decode method_5_code 34 = .ok (.iconst 1, 1) := by decide +kernel
theorem d_bad1_35 : decode method_5_code 35 = .ok (.iadd, 1) := by decide +kernel
theorem d_bad1_36 : decode method_5_code 36 = .ok (.caload, 1) := by decide +kernel
theorem d_bad1_37 : decode method_5_code 37 = .ok (.invokestatic 21, 3) := by decide +kernel
theorem d_bad1_40 : decode method_5_code 40 = .ok (.ifCond .ne 7, 3) := by decide +kernel
theorem d_bad1_43 : decode method_5_code 43 = .ok (.iconst 1, 1) := by decide +kernel
theorem d_bad1_44 : decode method_5_code 44 = .ok (.goto 4, 3) := by decide +kernel
theorem d_bad1_47 : decode method_5_code 47 = .ok (.iconst 0, 1) := by decide +kernel
theorem d_bad1_48 : decode method_5_code 48 = .ok (.ireturn, 1) := by decide +kernel
theorem d_bad1_49 : decode method_5_code 49 = .ok (.iload 4, 2) := by decide +kernel
theorem d_bad1_51 : decode method_5_code 51 = .ok (.invokestatic 21, 3) := by decide +kernel
theorem d_bad1_54 : decode method_5_code 54 = .ok (.ifCond .eq 27, 3) := by decide +kernel
theorem d_bad1_57 : decode method_5_code 57 = .ok (.iload_n 1, 1) := by decide +kernel
theorem d_bad1_58 : decode method_5_code 58 = .ok (.iconst 1, 1) := by decide +kernel
theorem d_bad1_59 : decode method_5_code 59 = .ok (.isub, 1) := by decide +kernel
theorem d_bad1_60 : decode method_5_code 60 = .ok (.iload_n 2, 1) := by decide +kernel
theorem d_bad1_61 : decode method_5_code 61 = .ok (.if_icmp .lt 14, 3) := by decide +kernel
theorem d_bad1_64 : decode method_5_code 64 = .ok (.aload_n 0, 1) := by decide +kernel
theorem d_bad1_65 : decode method_5_code 65 = .ok (.iload_n 1, 1) := by decide +kernel
theorem d_bad1_66 : decode method_5_code 66 = .ok (.iconst 1, 1) := by decide +kernel
theorem d_bad1_67 : decode method_5_code 67 = .ok (.isub, 1) := by decide +kernel
theorem d_bad1_68 : decode method_5_code 68 = .ok (.caload, 1) := by decide +kernel
theorem d_bad1_69 : decode method_5_code 69 = .ok (.invokestatic 15, 3) := by decide +kernel
theorem d_bad1_72 : decode method_5_code 72 = .ok (.ifCond .ne 7, 3) := by decide +kernel
theorem d_bad1_75 : decode method_5_code 75 = .ok (.iconst 1, 1) := by decide +kernel
theorem d_bad1_76 : decode method_5_code 76 = .ok (.goto 4, 3) := by decide +kernel
theorem d_bad1_79 : decode method_5_code 79 = .ok (.iconst 0, 1) := by decide +kernel
theorem d_bad1_80 : decode method_5_code 80 = .ok (.ireturn, 1) := by decide +kernel
theorem d_bad1_81 : decode method_5_code 81 = .ok (.iconst 0, 1) := by decide +kernel
theorem d_bad1_82 : decode method_5_code 82 = .ok (.ireturn, 1) := by decide +kernel
theorem ef_bad1 (m : MethodId) (x0 : Addr) (x2 : Int32) (x3 : Int32) : entryFrame m #[(.ref x0), (.int (1 : Int32)), (.int x2), (.int x3)] 5 = mkF m 0 #[.val (.ref x0), .val (.int (1 : Int32)), .val (.int x2), .val (.int x3), .unset] [] := by first | (simp [entryFrame, mkF, argsToLocals, Value.category]; done) | rfl
def f_bad1 (p2 : Int32) (p3 : Int32) (v0 : Int32) (v1 : Int32) (v2 : Int32) : Int32 := (if (1 : Int32) < p2 then (0 : Int32) else (if (1 : Int32) < p3 then (if (f_isHigh v1) = (0 : Int32) then (if (f_isLow v1) = (0 : Int32) then (0 : Int32) else (if (0 : Int32) < p2 then (1 : Int32) else (if (f_isHigh v0) = (0 : Int32) then (1 : Int32) else (0 : Int32)))) else (if (2 : Int32) < p3 then (if (f_isLow v2) = (0 : Int32) then (1 : Int32) else (0 : Int32)) else (1 : Int32))) else (0 : Int32)))
def Q_bad1 (Z : State) (r0 : Addr) (p2 : Int32) (p3 : Int32) (kA : ClassId) (v0 : Int32) (v1 : Int32) (v2 : Int32) (v3 : Int32) (h0 : Heap) (n0 : Nat) (v : Option Value) (h : Heap) (L : List Loc) : Prop := v = some (.int (f_bad1 p2 p3 v0 v1 v2)) ∧ Fr n0 L ∧ h = h0
set_option maxRecDepth 65536 in
set_option maxHeartbeats 40000000 in
theorem rm_bad1 (l : Launch) (Z : State) (a0 : Array Value) (hw : ∀ d ∈ tables_1, d.before a0 Z = true) (ws : List Jvm.Cond) (r0 : Addr) (p2 : Int32) (p3 : Int32) (kA : ClassId) (v0 : Int32) (v1 : Int32) (v2 : Int32) (v3 : Int32) (h0 : Heap) (n0 : Nat) (Z0 : n0 ≤ h0.size) (V_A : Arv Z h0 r0 kA .char (4 : Int32) [(.int v0), (.int v1), (.int v2), (.int v3)] (.int (0 : Int32))) (hlo : ¬ (p2 < (0 : Int32))) (hhi : ¬ ((4 : Int32) < p3)) :
    MetFree l (⟨"com/example/fieldveil/fieldveil/Utf8FirstUnpairedSurrogatePinLaw", "bad", "([CIII)Z"⟩ : MethodName) (head1 (Jvm.Cond.code (⟨"com/example/fieldveil/fieldveil/Utf8FirstUnpairedSurrogatePinLaw", "bad", "([CIII)Z"⟩ : MethodName) method_5_code 5 (some .boolean) :: ws) ({ frames := 1, cells := 0, slots := 0, locals := 12 } : Room)) (fun a U => a = #[(.ref r0), (.int (1 : Int32)), (.int p2), (.int p3)] ∧ Z.Warmed39 U.vm ∧ U.heap = h0) (fun _ _ _ _ _ => True) (fun _ U o U' => ∃ v L, o = .returned v ∧ Q_bad1 Z r0 p2 p3 kA v0 v1 v2 v3 h0 n0 v U'.heap L ∧ FrameEnd U o U' L ({ frames := 1, cells := 0, slots := 0, locals := 12 } : Room).cells ({ frames := 1, cells := 0, slots := 0, locals := 12 } : Room).slots) := by
  refine MetFree.of_bodySF (plainFor_of_name pn_0) hisR ?_
  intro p e s m args below meth c s₁ Bd hml0 hP hK
  obtain ⟨rfl, hZ, hh⟩ := hP
  have hx := Bd.exec
  have hby := Bd.bytes
  have hml : c.maxLocals = 5 := hml0
  have hown : s.vm.findClass "com/example/fieldveil/fieldveil/Utf8FirstUnpairedSurrogatePinLaw" = some m.cls := findClass_of_methodNamed Bd.named
  have hnm := (name_of_methodNamed Bd.named Bd.method).1
  have X0 : Stand p l e ({ frames := 1, cells := 0, slots := 0, locals := 12 } : Room) s m #[(.ref r0), (.int (1 : Int32)), (.int p2), (.int p3)] below meth c s₁ [] 0 0 := Stand.of_body Bd
  have e0 : s₁.heap = h0 := by rw [← hh, Bd.state]; rfl
  have N0 := Fr.nil n0
  have pre0 : ∀ t, Steps p.tables e below (s₁.setTop (mkF m 0 #[.val (.ref r0), .val (.int (1 : Int32)), .val (.int p2), .val (.int p3), .unset] [])) t → Steps p.tables e below (s₁.setTop (entryFrame m #[(.ref r0), (.int (1 : Int32)), (.int p2), (.int p3)] 5)) t := fun t k => castTop (ef_bad1 m r0 p2 p3) k
  have k1 : Go p.tables e below (s₁.setTop (mkF m 0 #[.val (.ref r0), .val (.int (1 : Int32)), .val (.int p2), .val (.int p3), .unset] [])) (s₁.setTop (mkF m 2 #[.val (.ref r0), .val (.int (1 : Int32)), .val (.int p2), .val (.int p3), .unset] [(.int p2), (.int (1 : Int32))])) := by
    intro t ht
    refine XS.iloadN X0.here hx rfl (hb hby d_bad1_0) rfl ?_
    show Steps p.tables e below (s₁.setTop (mkF m 1 #[.val (.ref r0), .val (.int (1 : Int32)), .val (.int p2), .val (.int p3), .unset] [(.int (1 : Int32))])) _
    refine XS.iloadN X0.here hx rfl (hb hby d_bad1_1) rfl ?_
    exact ht
  by_cases hc2 : (1 : Int32) < p2
  · have k3 : Go p.tables e below (s₁.setTop (mkF m 2 #[.val (.ref r0), .val (.int (1 : Int32)), .val (.int p2), .val (.int p3), .unset] [(.int p2), (.int (1 : Int32))])) (s₁.setTop (mkF m 11 #[.val (.ref r0), .val (.int (1 : Int32)), .val (.int p2), .val (.int p3), .unset] [(.int (0 : Int32))])) := by
      intro t ht
      refine XS.icmpYes X0.here hx rfl (pc0 := 2) (pc' := 10) rfl (hb hby d_bad1_2) rfl (tlt hc2).1 (by decide) (by decide) ?_
      show Steps p.tables e below (s₁.setTop (mkF m 10 #[.val (.ref r0), .val (.int (1 : Int32)), .val (.int p2), .val (.int p3), .unset] [])) _
      refine XS.iconst X0.here hx rfl (hb hby d_bad1_10) ?_
      exact ht
    obtain ⟨fs, hr, hrun, hended, hW, hsame⟩ := X0.leave (v := some (.int (0 : Int32))) (fun h => by rw [Bd.returns] at h; cases h)
    refine ⟨_, _, pre0 _ ((goT k1 k3) _ (retN X0 hx (t := .boolean) Bd.returns (by simp) (hb hby d_bad1_11) hr)), hrun, hended, _, _, rfl, ?_, ⟨_, rfl⟩, hW, hsame.mono (by decide) (by decide)⟩
    show Q_bad1 Z r0 p2 p3 kA v0 v1 v2 v3 h0 n0 _ s₁.heap _
    rw [e0]
    exact ⟨by simp only [f_bad1, if_pos hc2], N0, rfl⟩
  · have k4 : Go p.tables e below (s₁.setTop (mkF m 2 #[.val (.ref r0), .val (.int (1 : Int32)), .val (.int p2), .val (.int p3), .unset] [(.int p2), (.int (1 : Int32))])) (s₁.setTop (mkF m 7 #[.val (.ref r0), .val (.int (1 : Int32)), .val (.int p2), .val (.int p3), .unset] [(.int p3), (.int (1 : Int32))])) := by
      intro t ht
      refine XS.icmpNo X0.here hx rfl (hb hby d_bad1_2) rfl (flt hc2).1 ?_
      show Steps p.tables e below (s₁.setTop (mkF m 5 #[.val (.ref r0), .val (.int (1 : Int32)), .val (.int p2), .val (.int p3), .unset] [])) _
      refine XS.iloadN X0.here hx rfl (hb hby d_bad1_5) rfl ?_
      show Steps p.tables e below (s₁.setTop (mkF m 6 #[.val (.ref r0), .val (.int (1 : Int32)), .val (.int p2), .val (.int p3), .unset] [(.int (1 : Int32))])) _
      refine XS.iloadN X0.here hx rfl (hb hby d_bad1_6) rfl ?_
      exact ht
    by_cases hc5 : (1 : Int32) < p3
    · have k6 : Go p.tables e below (s₁.setTop (mkF m 7 #[.val (.ref r0), .val (.int (1 : Int32)), .val (.int p2), .val (.int p3), .unset] [(.int p3), (.int (1 : Int32))])) (s₁.setTop (mkF m 14 #[.val (.ref r0), .val (.int (1 : Int32)), .val (.int p2), .val (.int p3), .unset] [(.int (1 : Int32)), (.ref r0)])) := by
        intro t ht
        refine XS.icmpYes X0.here hx rfl (pc0 := 7) (pc' := 12) rfl (hb hby d_bad1_7) rfl (tlt hc5).1 (by decide) (by decide) ?_
        show Steps p.tables e below (s₁.setTop (mkF m 12 #[.val (.ref r0), .val (.int (1 : Int32)), .val (.int p2), .val (.int p3), .unset] [])) _
        refine XS.aloadN X0.here hx rfl (hb hby d_bad1_12) rfl rfl ?_
        show Steps p.tables e below (s₁.setTop (mkF m 13 #[.val (.ref r0), .val (.int (1 : Int32)), .val (.int p2), .val (.int p3), .unset] [(.ref r0)])) _
        refine XS.iloadN X0.here hx rfl (hb hby d_bad1_13) rfl ?_
        exact ht
      obtain ⟨cl7, Ar7, q7, S7, M7, H7, G7⟩ := id V_A
      have hin7 : ¬ ((1 : Int32) < 0 ∨ cl7.slots.size ≤ ((1 : Int32)).toNatClampNeg) := inb_of S7 ⟨by decide, by decide⟩
      have hat7 : cl7.slots[((1 : Int32)).toNatClampNeg]? = some (.int v1) := (H7 _ (Nat.lt_of_not_le fun y => hin7 (Or.inr y))).trans (congrArg some (rfl))
      have k8 : Go p.tables e below (s₁.setTop (mkF m 14 #[.val (.ref r0), .val (.int (1 : Int32)), .val (.int p2), .val (.int p3), .unset] [(.int (1 : Int32)), (.ref r0)])) (s₁.setTop (mkF m 19 #[.val (.ref r0), .val (.int (1 : Int32)), .val (.int p2), .val (.int p3), .val (.int v1)] [(.int v1)])) := by
        intro t ht
        refine X0.caload hx (j := (1 : Int32)) (v := (.int v1)) (by rw [e0]; exact Ar7.1) (State.isArrayOf_alike hZ.alike Ar7.2.1) Ar7.2.2 hin7 hat7 (g := (mkF m 14 #[.val (.ref r0), .val (.int (1 : Int32)), .val (.int p2), .val (.int p3), .unset] [(.int (1 : Int32)), (.ref r0)])) rfl rfl (hb hby d_bad1_14) _ ?_
        show Steps p.tables e below (s₁.setTop (mkF m 15 #[.val (.ref r0), .val (.int (1 : Int32)), .val (.int p2), .val (.int p3), .unset] [(.int v1)])) _
        refine XS.istore X0.here hx rfl (hb hby d_bad1_15) rfl (l' := #[.val (.ref r0), .val (.int (1 : Int32)), .val (.int p2), .val (.int p3), .val (.int v1)]) rfl ?_
        show Steps p.tables e below (s₁.setTop (mkF m 17 #[.val (.ref r0), .val (.int (1 : Int32)), .val (.int p2), .val (.int p3), .val (.int v1)] [])) _
        refine XS.iload X0.here hx rfl (hb hby d_bad1_17) rfl ?_
        exact ht
      obtain ⟨_, _, ⟨T9, L9, kq9, n9⟩, -, X9, ⟨Lc9, hQ9, l9, y9, z9⟩, st9⟩ := Jvm.LawKit.callS X0 hx (y := (⟨"com/example/fieldveil/fieldveil/Utf8FirstUnpairedSurrogatePinLaw", "isHigh", "(C)Z"⟩ : MethodName)) hown (mvT hZ (hw _ (List.mem_of_getElem? (i := 23) rfl))) (mvT hZ (hw _ (List.mem_of_getElem? (i := 24) rfl))) (mvT hZ (hw _ (List.mem_of_getElem? (i := 3) rfl))) (mvT hZ (hw _ (List.mem_of_getElem? (i := 25) rfl))) (by decide) (backOf (W := 0) (rm_isHigh l Z a0 hw [] v1 h0 n0 Z0 ) hZ (hw _ (List.mem_of_getElem? (i := 25) rfl)) (hw _ (List.mem_of_getElem? (i := 3) rfl)) (by decide) (by decide)) (g := (mkF m 19 #[.val (.ref r0), .val (.int (1 : Int32)), .val (.int p2), .val (.int p3), .val (.int v1)] [(.int v1)])) rfl (by rw [hml]; rfl) (argsL := [(.int v1)]) (rest := []) (lenOf pd_0 rfl) rfl (by show 2 * 0 + _ ≤ _; exact Nat.le_of_eq rfl) (hb hby d_bad1_19) (fun _ _ => ⟨rfl, e0, (by decide : 0 + 0 ≤ _), (by decide : 0 + 0 ≤ _)⟩)
      dsimp only [Pt.U, Pt.locs, Pt.cells, Pt.slots] at X9 l9 y9 z9 st9 hQ9
      subst l9 y9 z9
      obtain ⟨rfl, N9q, eq9⟩ := hQ9
      have N9 := Fr.app N0 N9q
      have k9 : Go p.tables e below (s₁.setTop (mkF m 19 #[.val (.ref r0), .val (.int (1 : Int32)), .val (.int p2), .val (.int p3), .val (.int v1)] [(.int v1)])) (T9.setTop (mkF m 22 #[.val (.ref r0), .val (.int (1 : Int32)), .val (.int p2), .val (.int p3), .val (.int v1)] [(.int (f_isHigh v1))])) := st9
      by_cases hc10 : (f_isHigh v1) = (0 : Int32)
      · have k11 : Go p.tables e below (T9.setTop (mkF m 22 #[.val (.ref r0), .val (.int (1 : Int32)), .val (.int p2), .val (.int p3), .val (.int v1)] [(.int (f_isHigh v1))])) (T9.setTop (mkF m 51 #[.val (.ref r0), .val (.int (1 : Int32)), .val (.int p2), .val (.int p3), .val (.int v1)] [(.int v1)])) := by
          intro t ht
          refine XS.ifYes X9.here hx rfl (pc0 := 22) (pc' := 49) rfl (hb hby d_bad1_22) rfl ((if0 _ _).trans (teq hc10).1) (by decide) (by decide) ?_
          show Steps p.tables e below (T9.setTop (mkF m 49 #[.val (.ref r0), .val (.int (1 : Int32)), .val (.int p2), .val (.int p3), .val (.int v1)] [])) _
          refine XS.iload X9.here hx rfl (hb hby d_bad1_49) rfl ?_
          exact ht
        obtain ⟨_, _, ⟨T12, L12, kq12, n12⟩, -, X12, ⟨Lc12, hQ12, l12, y12, z12⟩, st12⟩ := Jvm.LawKit.callS X9 hx (y := (⟨"com/example/fieldveil/fieldveil/Utf8FirstUnpairedSurrogatePinLaw", "isLow", "(C)Z"⟩ : MethodName)) hown (mvT hZ (hw _ (List.mem_of_getElem? (i := 27) rfl))) (mvT hZ (hw _ (List.mem_of_getElem? (i := 28) rfl))) (mvT hZ (hw _ (List.mem_of_getElem? (i := 3) rfl))) (mvT hZ (hw _ (List.mem_of_getElem? (i := 29) rfl))) (by decide) (backOf (W := 0) (rm_isLow l Z a0 hw [] v1 h0 n0 Z0 ) hZ (hw _ (List.mem_of_getElem? (i := 29) rfl)) (hw _ (List.mem_of_getElem? (i := 3) rfl)) (by decide) (by decide)) (g := (mkF m 51 #[.val (.ref r0), .val (.int (1 : Int32)), .val (.int p2), .val (.int p3), .val (.int v1)] [(.int v1)])) rfl (by rw [hml]; rfl) (argsL := [(.int v1)]) (rest := []) (lenOf pd_0 rfl) rfl (by show 2 * 0 + _ ≤ _; exact Nat.le_of_eq rfl) (hb hby d_bad1_51) (fun _ _ => ⟨rfl, eq9, (by decide : 0 + 0 ≤ _), (by decide : 0 + 0 ≤ _)⟩)
        dsimp only [Pt.U, Pt.locs, Pt.cells, Pt.slots] at X12 l12 y12 z12 st12 hQ12
        subst l12 y12 z12
        obtain ⟨rfl, N12q, eq12⟩ := hQ12
        have N12 := Fr.app N9 N12q
        have k12 : Go p.tables e below (T9.setTop (mkF m 51 #[.val (.ref r0), .val (.int (1 : Int32)), .val (.int p2), .val (.int p3), .val (.int v1)] [(.int v1)])) (T12.setTop (mkF m 54 #[.val (.ref r0), .val (.int (1 : Int32)), .val (.int p2), .val (.int p3), .val (.int v1)] [(.int (f_isLow v1))])) := st12
        by_cases hc13 : (f_isLow v1) = (0 : Int32)
        · have k14 : Go p.tables e below (T12.setTop (mkF m 54 #[.val (.ref r0), .val (.int (1 : Int32)), .val (.int p2), .val (.int p3), .val (.int v1)] [(.int (f_isLow v1))])) (T12.setTop (mkF m 82 #[.val (.ref r0), .val (.int (1 : Int32)), .val (.int p2), .val (.int p3), .val (.int v1)] [(.int (0 : Int32))])) := by
            intro t ht
            refine XS.ifYes X12.here hx rfl (pc0 := 54) (pc' := 81) rfl (hb hby d_bad1_54) rfl ((if0 _ _).trans (teq hc13).1) (by decide) (by decide) ?_
            show Steps p.tables e below (T12.setTop (mkF m 81 #[.val (.ref r0), .val (.int (1 : Int32)), .val (.int p2), .val (.int p3), .val (.int v1)] [])) _
            refine XS.iconst X12.here hx rfl (hb hby d_bad1_81) ?_
            exact ht
          obtain ⟨fs, hr, hrun, hended, hW, hsame⟩ := X12.leave (v := some (.int (0 : Int32))) (fun h => by rw [Bd.returns] at h; cases h)
          refine ⟨_, _, pre0 _ ((goT k1 (goT k4 (goT k6 (goT k8 (goT k9 (goT k11 (goT k12 k14))))))) _ (retN X12 hx (t := .boolean) Bd.returns (by simp) (hb hby d_bad1_82) hr)), hrun, hended, _, _, rfl, ?_, ⟨_, rfl⟩, hW, hsame.mono (by decide) (by decide)⟩
          show Q_bad1 Z r0 p2 p3 kA v0 v1 v2 v3 h0 n0 _ T12.heap _
          rw [eq12]
          exact ⟨by simp only [f_bad1, if_neg hc2, if_pos hc5, if_pos hc10, if_pos hc13], N12, rfl⟩
        · have k15 : Go p.tables e below (T12.setTop (mkF m 54 #[.val (.ref r0), .val (.int (1 : Int32)), .val (.int p2), .val (.int p3), .val (.int v1)] [(.int (f_isLow v1))])) (T12.setTop (mkF m 61 #[.val (.ref r0), .val (.int (1 : Int32)), .val (.int p2), .val (.int p3), .val (.int v1)] [(.int p2), (.int (0 : Int32))])) := by
            intro t ht
            refine XS.ifNo X12.here hx rfl (hb hby d_bad1_54) rfl ((if0 _ _).trans (feq hc13).1) ?_
            show Steps p.tables e below (T12.setTop (mkF m 57 #[.val (.ref r0), .val (.int (1 : Int32)), .val (.int p2), .val (.int p3), .val (.int v1)] [])) _
            refine XS.iloadN X12.here hx rfl (hb hby d_bad1_57) rfl ?_
            show Steps p.tables e below (T12.setTop (mkF m 58 #[.val (.ref r0), .val (.int (1 : Int32)), .val (.int p2), .val (.int p3), .val (.int v1)] [(.int (1 : Int32))])) _
            refine XS.iconst X12.here hx rfl (hb hby d_bad1_58) ?_
            show Steps p.tables e below (T12.setTop (mkF m 59 #[.val (.ref r0), .val (.int (1 : Int32)), .val (.int p2), .val (.int p3), .val (.int v1)] [(.int (1 : Int32)), (.int (1 : Int32))])) _
            refine XS.isub X12.here hx rfl (hb hby d_bad1_59) rfl ?_
            show Steps p.tables e below (T12.setTop (mkF m 60 #[.val (.ref r0), .val (.int (1 : Int32)), .val (.int p2), .val (.int p3), .val (.int v1)] [(.int (0 : Int32))])) _
            refine XS.iloadN X12.here hx rfl (hb hby d_bad1_60) rfl ?_
            exact ht
          by_cases hc16 : (0 : Int32) < p2
          · have k17 : Go p.tables e below (T12.setTop (mkF m 61 #[.val (.ref r0), .val (.int (1 : Int32)), .val (.int p2), .val (.int p3), .val (.int v1)] [(.int p2), (.int (0 : Int32))])) (T12.setTop (mkF m 80 #[.val (.ref r0), .val (.int (1 : Int32)), .val (.int p2), .val (.int p3), .val (.int v1)] [(.int (1 : Int32))])) := by
              intro t ht
              refine XS.icmpYes X12.here hx rfl (pc0 := 61) (pc' := 75) rfl (hb hby d_bad1_61) rfl (tlt hc16).1 (by decide) (by decide) ?_
              show Steps p.tables e below (T12.setTop (mkF m 75 #[.val (.ref r0), .val (.int (1 : Int32)), .val (.int p2), .val (.int p3), .val (.int v1)] [])) _
              refine XS.iconst X12.here hx rfl (hb hby d_bad1_75) ?_
              show Steps p.tables e below (T12.setTop (mkF m 76 #[.val (.ref r0), .val (.int (1 : Int32)), .val (.int p2), .val (.int p3), .val (.int v1)] [(.int (1 : Int32))])) _
              refine XS.goto X12.here hx rfl (pc0 := 76) (pc' := 80) rfl (hb hby d_bad1_76) (by decide) (by decide) ?_
              exact ht
            obtain ⟨fs, hr, hrun, hended, hW, hsame⟩ := X12.leave (v := some (.int (1 : Int32))) (fun h => by rw [Bd.returns] at h; cases h)
            refine ⟨_, _, pre0 _ ((goT k1 (goT k4 (goT k6 (goT k8 (goT k9 (goT k11 (goT k12 (goT k15 k17)))))))) _ (retN X12 hx (t := .boolean) Bd.returns (by simp) (hb hby d_bad1_80) hr)), hrun, hended, _, _, rfl, ?_, ⟨_, rfl⟩, hW, hsame.mono (by decide) (by decide)⟩
            show Q_bad1 Z r0 p2 p3 kA v0 v1 v2 v3 h0 n0 _ T12.heap _
            rw [eq12]
            exact ⟨by simp only [f_bad1, if_neg hc2, if_pos hc5, if_pos hc10, if_neg hc13, if_pos hc16], N12, rfl⟩
          · have k18 : Go p.tables e below (T12.setTop (mkF m 61 #[.val (.ref r0), .val (.int (1 : Int32)), .val (.int p2), .val (.int p3), .val (.int v1)] [(.int p2), (.int (0 : Int32))])) (T12.setTop (mkF m 68 #[.val (.ref r0), .val (.int (1 : Int32)), .val (.int p2), .val (.int p3), .val (.int v1)] [(.int (0 : Int32)), (.ref r0)])) := by
              intro t ht
              refine XS.icmpNo X12.here hx rfl (hb hby d_bad1_61) rfl (flt hc16).1 ?_
              show Steps p.tables e below (T12.setTop (mkF m 64 #[.val (.ref r0), .val (.int (1 : Int32)), .val (.int p2), .val (.int p3), .val (.int v1)] [])) _
              refine XS.aloadN X12.here hx rfl (hb hby d_bad1_64) rfl rfl ?_
              show Steps p.tables e below (T12.setTop (mkF m 65 #[.val (.ref r0), .val (.int (1 : Int32)), .val (.int p2), .val (.int p3), .val (.int v1)] [(.ref r0)])) _
              refine XS.iloadN X12.here hx rfl (hb hby d_bad1_65) rfl ?_
              show Steps p.tables e below (T12.setTop (mkF m 66 #[.val (.ref r0), .val (.int (1 : Int32)), .val (.int p2), .val (.int p3), .val (.int v1)] [(.int (1 : Int32)), (.ref r0)])) _
              refine XS.iconst X12.here hx rfl (hb hby d_bad1_66) ?_
              show Steps p.tables e below (T12.setTop (mkF m 67 #[.val (.ref r0), .val (.int (1 : Int32)), .val (.int p2), .val (.int p3), .val (.int v1)] [(.int (1 : Int32)), (.int (1 : Int32)), (.ref r0)])) _
              refine XS.isub X12.here hx rfl (hb hby d_bad1_67) rfl ?_
              exact ht
            obtain ⟨cl19, Ar19, q19, S19, M19, H19, G19⟩ := id V_A
            have hin19 : ¬ ((0 : Int32) < 0 ∨ cl19.slots.size ≤ ((0 : Int32)).toNatClampNeg) := inb_of S19 ⟨by decide, by decide⟩
            have hat19 : cl19.slots[((0 : Int32)).toNatClampNeg]? = some (.int v0) := (H19 _ (Nat.lt_of_not_le fun y => hin19 (Or.inr y))).trans (congrArg some (rfl))
            have k20 : Go p.tables e below (T12.setTop (mkF m 68 #[.val (.ref r0), .val (.int (1 : Int32)), .val (.int p2), .val (.int p3), .val (.int v1)] [(.int (0 : Int32)), (.ref r0)])) (T12.setTop (mkF m 69 #[.val (.ref r0), .val (.int (1 : Int32)), .val (.int p2), .val (.int p3), .val (.int v1)] [(.int v0)])) := by
              intro t ht
              refine X12.caload hx (j := (0 : Int32)) (v := (.int v0)) (by rw [eq12]; exact Ar19.1) (State.isArrayOf_alike hZ.alike Ar19.2.1) Ar19.2.2 hin19 hat19 (g := (mkF m 68 #[.val (.ref r0), .val (.int (1 : Int32)), .val (.int p2), .val (.int p3), .val (.int v1)] [(.int (0 : Int32)), (.ref r0)])) rfl rfl (hb hby d_bad1_68) _ ?_
              exact ht
            obtain ⟨_, _, ⟨T21, L21, kq21, n21⟩, -, X21, ⟨Lc21, hQ21, l21, y21, z21⟩, st21⟩ := Jvm.LawKit.callS X12 hx (y := (⟨"com/example/fieldveil/fieldveil/Utf8FirstUnpairedSurrogatePinLaw", "isHigh", "(C)Z"⟩ : MethodName)) hown (mvT hZ (hw _ (List.mem_of_getElem? (i := 23) rfl))) (mvT hZ (hw _ (List.mem_of_getElem? (i := 24) rfl))) (mvT hZ (hw _ (List.mem_of_getElem? (i := 3) rfl))) (mvT hZ (hw _ (List.mem_of_getElem? (i := 25) rfl))) (by decide) (backOf (W := 0) (rm_isHigh l Z a0 hw [] v0 h0 n0 Z0 ) hZ (hw _ (List.mem_of_getElem? (i := 25) rfl)) (hw _ (List.mem_of_getElem? (i := 3) rfl)) (by decide) (by decide)) (g := (mkF m 69 #[.val (.ref r0), .val (.int (1 : Int32)), .val (.int p2), .val (.int p3), .val (.int v1)] [(.int v0)])) rfl (by rw [hml]; rfl) (argsL := [(.int v0)]) (rest := []) (lenOf pd_0 rfl) rfl (by show 2 * 0 + _ ≤ _; exact Nat.le_of_eq rfl) (hb hby d_bad1_69) (fun _ _ => ⟨rfl, eq12, (by decide : 0 + 0 ≤ _), (by decide : 0 + 0 ≤ _)⟩)
            dsimp only [Pt.U, Pt.locs, Pt.cells, Pt.slots] at X21 l21 y21 z21 st21 hQ21
            subst l21 y21 z21
            obtain ⟨rfl, N21q, eq21⟩ := hQ21
            have N21 := Fr.app N12 N21q
            have k21 : Go p.tables e below (T12.setTop (mkF m 69 #[.val (.ref r0), .val (.int (1 : Int32)), .val (.int p2), .val (.int p3), .val (.int v1)] [(.int v0)])) (T21.setTop (mkF m 72 #[.val (.ref r0), .val (.int (1 : Int32)), .val (.int p2), .val (.int p3), .val (.int v1)] [(.int (f_isHigh v0))])) := st21
            by_cases hc22 : (f_isHigh v0) = (0 : Int32)
            · have k23 : Go p.tables e below (T21.setTop (mkF m 72 #[.val (.ref r0), .val (.int (1 : Int32)), .val (.int p2), .val (.int p3), .val (.int v1)] [(.int (f_isHigh v0))])) (T21.setTop (mkF m 80 #[.val (.ref r0), .val (.int (1 : Int32)), .val (.int p2), .val (.int p3), .val (.int v1)] [(.int (1 : Int32))])) := by
                intro t ht
                refine XS.ifNo X21.here hx rfl (hb hby d_bad1_72) rfl ((if0 _ _).trans (teq hc22).2) ?_
                show Steps p.tables e below (T21.setTop (mkF m 75 #[.val (.ref r0), .val (.int (1 : Int32)), .val (.int p2), .val (.int p3), .val (.int v1)] [])) _
                refine XS.iconst X21.here hx rfl (hb hby d_bad1_75) ?_
                show Steps p.tables e below (T21.setTop (mkF m 76 #[.val (.ref r0), .val (.int (1 : Int32)), .val (.int p2), .val (.int p3), .val (.int v1)] [(.int (1 : Int32))])) _
                refine XS.goto X21.here hx rfl (pc0 := 76) (pc' := 80) rfl (hb hby d_bad1_76) (by decide) (by decide) ?_
                exact ht
              obtain ⟨fs, hr, hrun, hended, hW, hsame⟩ := X21.leave (v := some (.int (1 : Int32))) (fun h => by rw [Bd.returns] at h; cases h)
              refine ⟨_, _, pre0 _ ((goT k1 (goT k4 (goT k6 (goT k8 (goT k9 (goT k11 (goT k12 (goT k15 (goT k18 (goT k20 (goT k21 k23))))))))))) _ (retN X21 hx (t := .boolean) Bd.returns (by simp) (hb hby d_bad1_80) hr)), hrun, hended, _, _, rfl, ?_, ⟨_, rfl⟩, hW, hsame.mono (by decide) (by decide)⟩
              show Q_bad1 Z r0 p2 p3 kA v0 v1 v2 v3 h0 n0 _ T21.heap _
              rw [eq21]
              exact ⟨by simp only [f_bad1, if_neg hc2, if_pos hc5, if_pos hc10, if_neg hc13, if_neg hc16, if_pos hc22], N21, rfl⟩
            · have k24 : Go p.tables e below (T21.setTop (mkF m 72 #[.val (.ref r0), .val (.int (1 : Int32)), .val (.int p2), .val (.int p3), .val (.int v1)] [(.int (f_isHigh v0))])) (T21.setTop (mkF m 80 #[.val (.ref r0), .val (.int (1 : Int32)), .val (.int p2), .val (.int p3), .val (.int v1)] [(.int (0 : Int32))])) := by
                intro t ht
                refine XS.ifYes X21.here hx rfl (pc0 := 72) (pc' := 79) rfl (hb hby d_bad1_72) rfl ((if0 _ _).trans (feq hc22).2) (by decide) (by decide) ?_
                show Steps p.tables e below (T21.setTop (mkF m 79 #[.val (.ref r0), .val (.int (1 : Int32)), .val (.int p2), .val (.int p3), .val (.int v1)] [])) _
                refine XS.iconst X21.here hx rfl (hb hby d_bad1_79) ?_
                exact ht
              obtain ⟨fs, hr, hrun, hended, hW, hsame⟩ := X21.leave (v := some (.int (0 : Int32))) (fun h => by rw [Bd.returns] at h; cases h)
              refine ⟨_, _, pre0 _ ((goT k1 (goT k4 (goT k6 (goT k8 (goT k9 (goT k11 (goT k12 (goT k15 (goT k18 (goT k20 (goT k21 k24))))))))))) _ (retN X21 hx (t := .boolean) Bd.returns (by simp) (hb hby d_bad1_80) hr)), hrun, hended, _, _, rfl, ?_, ⟨_, rfl⟩, hW, hsame.mono (by decide) (by decide)⟩
              show Q_bad1 Z r0 p2 p3 kA v0 v1 v2 v3 h0 n0 _ T21.heap _
              rw [eq21]
              exact ⟨by simp only [f_bad1, if_neg hc2, if_pos hc5, if_pos hc10, if_neg hc13, if_neg hc16, if_neg hc22], N21, rfl⟩
      · have k25 : Go p.tables e below (T9.setTop (mkF m 22 #[.val (.ref r0), .val (.int (1 : Int32)), .val (.int p2), .val (.int p3), .val (.int v1)] [(.int (f_isHigh v1))])) (T9.setTop (mkF m 29 #[.val (.ref r0), .val (.int (1 : Int32)), .val (.int p2), .val (.int p3), .val (.int v1)] [(.int p3), (.int (2 : Int32))])) := by
          intro t ht
          refine XS.ifNo X9.here hx rfl (hb hby d_bad1_22) rfl ((if0 _ _).trans (feq hc10).1) ?_
          show Steps p.tables e below (T9.setTop (mkF m 25 #[.val (.ref r0), .val (.int (1 : Int32)), .val (.int p2), .val (.int p3), .val (.int v1)] [])) _
          refine XS.iloadN X9.here hx rfl (hb hby d_bad1_25) rfl ?_
          show Steps p.tables e below (T9.setTop (mkF m 26 #[.val (.ref r0), .val (.int (1 : Int32)), .val (.int p2), .val (.int p3), .val (.int v1)] [(.int (1 : Int32))])) _
          refine XS.iconst X9.here hx rfl (hb hby d_bad1_26) ?_
          show Steps p.tables e below (T9.setTop (mkF m 27 #[.val (.ref r0), .val (.int (1 : Int32)), .val (.int p2), .val (.int p3), .val (.int v1)] [(.int (1 : Int32)), (.int (1 : Int32))])) _
          refine XS.iadd X9.here hx rfl (hb hby d_bad1_27) rfl ?_
          show Steps p.tables e below (T9.setTop (mkF m 28 #[.val (.ref r0), .val (.int (1 : Int32)), .val (.int p2), .val (.int p3), .val (.int v1)] [(.int (2 : Int32))])) _
          refine XS.iloadN X9.here hx rfl (hb hby d_bad1_28) rfl ?_
          exact ht
        by_cases hc26 : (2 : Int32) < p3
        · have k27 : Go p.tables e below (T9.setTop (mkF m 29 #[.val (.ref r0), .val (.int (1 : Int32)), .val (.int p2), .val (.int p3), .val (.int v1)] [(.int p3), (.int (2 : Int32))])) (T9.setTop (mkF m 36 #[.val (.ref r0), .val (.int (1 : Int32)), .val (.int p2), .val (.int p3), .val (.int v1)] [(.int (2 : Int32)), (.ref r0)])) := by
            intro t ht
            refine XS.icmpNo X9.here hx rfl (hb hby d_bad1_29) rfl (tlt hc26).2.1 ?_
            show Steps p.tables e below (T9.setTop (mkF m 32 #[.val (.ref r0), .val (.int (1 : Int32)), .val (.int p2), .val (.int p3), .val (.int v1)] [])) _
            refine XS.aloadN X9.here hx rfl (hb hby d_bad1_32) rfl rfl ?_
            show Steps p.tables e below (T9.setTop (mkF m 33 #[.val (.ref r0), .val (.int (1 : Int32)), .val (.int p2), .val (.int p3), .val (.int v1)] [(.ref r0)])) _
            refine XS.iloadN X9.here hx rfl (hb hby d_bad1_33) rfl ?_
            show Steps p.tables e below (T9.setTop (mkF m 34 #[.val (.ref r0), .val (.int (1 : Int32)), .val (.int p2), .val (.int p3), .val (.int v1)] [(.int (1 : Int32)), (.ref r0)])) _
            refine XS.iconst X9.here hx rfl (hb hby d_bad1_34) ?_
            show Steps p.tables e below (T9.setTop (mkF m 35 #[.val (.ref r0), .val (.int (1 : Int32)), .val (.int p2), .val (.int p3), .val (.int v1)] [(.int (1 : Int32)), (.int (1 : Int32)), (.ref r0)])) _
            refine XS.iadd X9.here hx rfl (hb hby d_bad1_35) rfl ?_
            exact ht
          obtain ⟨cl28, Ar28, q28, S28, M28, H28, G28⟩ := id V_A
          have hin28 : ¬ ((2 : Int32) < 0 ∨ cl28.slots.size ≤ ((2 : Int32)).toNatClampNeg) := inb_of S28 ⟨by decide, by decide⟩
          have hat28 : cl28.slots[((2 : Int32)).toNatClampNeg]? = some (.int v2) := (H28 _ (Nat.lt_of_not_le fun y => hin28 (Or.inr y))).trans (congrArg some (rfl))
          have k29 : Go p.tables e below (T9.setTop (mkF m 36 #[.val (.ref r0), .val (.int (1 : Int32)), .val (.int p2), .val (.int p3), .val (.int v1)] [(.int (2 : Int32)), (.ref r0)])) (T9.setTop (mkF m 37 #[.val (.ref r0), .val (.int (1 : Int32)), .val (.int p2), .val (.int p3), .val (.int v1)] [(.int v2)])) := by
            intro t ht
            refine X9.caload hx (j := (2 : Int32)) (v := (.int v2)) (by rw [eq9]; exact Ar28.1) (State.isArrayOf_alike hZ.alike Ar28.2.1) Ar28.2.2 hin28 hat28 (g := (mkF m 36 #[.val (.ref r0), .val (.int (1 : Int32)), .val (.int p2), .val (.int p3), .val (.int v1)] [(.int (2 : Int32)), (.ref r0)])) rfl rfl (hb hby d_bad1_36) _ ?_
            exact ht
          obtain ⟨_, _, ⟨T30, L30, kq30, n30⟩, -, X30, ⟨Lc30, hQ30, l30, y30, z30⟩, st30⟩ := Jvm.LawKit.callS X9 hx (y := (⟨"com/example/fieldveil/fieldveil/Utf8FirstUnpairedSurrogatePinLaw", "isLow", "(C)Z"⟩ : MethodName)) hown (mvT hZ (hw _ (List.mem_of_getElem? (i := 27) rfl))) (mvT hZ (hw _ (List.mem_of_getElem? (i := 28) rfl))) (mvT hZ (hw _ (List.mem_of_getElem? (i := 3) rfl))) (mvT hZ (hw _ (List.mem_of_getElem? (i := 29) rfl))) (by decide) (backOf (W := 0) (rm_isLow l Z a0 hw [] v2 h0 n0 Z0 ) hZ (hw _ (List.mem_of_getElem? (i := 29) rfl)) (hw _ (List.mem_of_getElem? (i := 3) rfl)) (by decide) (by decide)) (g := (mkF m 37 #[.val (.ref r0), .val (.int (1 : Int32)), .val (.int p2), .val (.int p3), .val (.int v1)] [(.int v2)])) rfl (by rw [hml]; rfl) (argsL := [(.int v2)]) (rest := []) (lenOf pd_0 rfl) rfl (by show 2 * 0 + _ ≤ _; exact Nat.le_of_eq rfl) (hb hby d_bad1_37) (fun _ _ => ⟨rfl, eq9, (by decide : 0 + 0 ≤ _), (by decide : 0 + 0 ≤ _)⟩)
          dsimp only [Pt.U, Pt.locs, Pt.cells, Pt.slots] at X30 l30 y30 z30 st30 hQ30
          subst l30 y30 z30
          obtain ⟨rfl, N30q, eq30⟩ := hQ30
          have N30 := Fr.app N9 N30q
          have k30 : Go p.tables e below (T9.setTop (mkF m 37 #[.val (.ref r0), .val (.int (1 : Int32)), .val (.int p2), .val (.int p3), .val (.int v1)] [(.int v2)])) (T30.setTop (mkF m 40 #[.val (.ref r0), .val (.int (1 : Int32)), .val (.int p2), .val (.int p3), .val (.int v1)] [(.int (f_isLow v2))])) := st30
          by_cases hc31 : (f_isLow v2) = (0 : Int32)
          · have k32 : Go p.tables e below (T30.setTop (mkF m 40 #[.val (.ref r0), .val (.int (1 : Int32)), .val (.int p2), .val (.int p3), .val (.int v1)] [(.int (f_isLow v2))])) (T30.setTop (mkF m 48 #[.val (.ref r0), .val (.int (1 : Int32)), .val (.int p2), .val (.int p3), .val (.int v1)] [(.int (1 : Int32))])) := by
              intro t ht
              refine XS.ifNo X30.here hx rfl (hb hby d_bad1_40) rfl ((if0 _ _).trans (teq hc31).2) ?_
              show Steps p.tables e below (T30.setTop (mkF m 43 #[.val (.ref r0), .val (.int (1 : Int32)), .val (.int p2), .val (.int p3), .val (.int v1)] [])) _
              refine XS.iconst X30.here hx rfl (hb hby d_bad1_43) ?_
              show Steps p.tables e below (T30.setTop (mkF m 44 #[.val (.ref r0), .val (.int (1 : Int32)), .val (.int p2), .val (.int p3), .val (.int v1)] [(.int (1 : Int32))])) _
              refine XS.goto X30.here hx rfl (pc0 := 44) (pc' := 48) rfl (hb hby d_bad1_44) (by decide) (by decide) ?_
              exact ht
            obtain ⟨fs, hr, hrun, hended, hW, hsame⟩ := X30.leave (v := some (.int (1 : Int32))) (fun h => by rw [Bd.returns] at h; cases h)
            refine ⟨_, _, pre0 _ ((goT k1 (goT k4 (goT k6 (goT k8 (goT k9 (goT k25 (goT k27 (goT k29 (goT k30 k32))))))))) _ (retN X30 hx (t := .boolean) Bd.returns (by simp) (hb hby d_bad1_48) hr)), hrun, hended, _, _, rfl, ?_, ⟨_, rfl⟩, hW, hsame.mono (by decide) (by decide)⟩
            show Q_bad1 Z r0 p2 p3 kA v0 v1 v2 v3 h0 n0 _ T30.heap _
            rw [eq30]
            exact ⟨by simp only [f_bad1, if_neg hc2, if_pos hc5, if_neg hc10, if_pos hc26, if_pos hc31], N30, rfl⟩
          · have k33 : Go p.tables e below (T30.setTop (mkF m 40 #[.val (.ref r0), .val (.int (1 : Int32)), .val (.int p2), .val (.int p3), .val (.int v1)] [(.int (f_isLow v2))])) (T30.setTop (mkF m 48 #[.val (.ref r0), .val (.int (1 : Int32)), .val (.int p2), .val (.int p3), .val (.int v1)] [(.int (0 : Int32))])) := by
              intro t ht
              refine XS.ifYes X30.here hx rfl (pc0 := 40) (pc' := 47) rfl (hb hby d_bad1_40) rfl ((if0 _ _).trans (feq hc31).2) (by decide) (by decide) ?_
              show Steps p.tables e below (T30.setTop (mkF m 47 #[.val (.ref r0), .val (.int (1 : Int32)), .val (.int p2), .val (.int p3), .val (.int v1)] [])) _
              refine XS.iconst X30.here hx rfl (hb hby d_bad1_47) ?_
              exact ht
            obtain ⟨fs, hr, hrun, hended, hW, hsame⟩ := X30.leave (v := some (.int (0 : Int32))) (fun h => by rw [Bd.returns] at h; cases h)
            refine ⟨_, _, pre0 _ ((goT k1 (goT k4 (goT k6 (goT k8 (goT k9 (goT k25 (goT k27 (goT k29 (goT k30 k33))))))))) _ (retN X30 hx (t := .boolean) Bd.returns (by simp) (hb hby d_bad1_48) hr)), hrun, hended, _, _, rfl, ?_, ⟨_, rfl⟩, hW, hsame.mono (by decide) (by decide)⟩
            show Q_bad1 Z r0 p2 p3 kA v0 v1 v2 v3 h0 n0 _ T30.heap _
            rw [eq30]
            exact ⟨by simp only [f_bad1, if_neg hc2, if_pos hc5, if_neg hc10, if_pos hc26, if_neg hc31], N30, rfl⟩
        · have k34 : Go p.tables e below (T9.setTop (mkF m 29 #[.val (.ref r0), .val (.int (1 : Int32)), .val (.int p2), .val (.int p3), .val (.int v1)] [(.int p3), (.int (2 : Int32))])) (T9.setTop (mkF m 48 #[.val (.ref r0), .val (.int (1 : Int32)), .val (.int p2), .val (.int p3), .val (.int v1)] [(.int (1 : Int32))])) := by
            intro t ht
            refine XS.icmpYes X9.here hx rfl (pc0 := 29) (pc' := 43) rfl (hb hby d_bad1_29) rfl (flt hc26).2.1 (by decide) (by decide) ?_
            show Steps p.tables e below (T9.setTop (mkF m 43 #[.val (.ref r0), .val (.int (1 : Int32)), .val (.int p2), .val (.int p3), .val (.int v1)] [])) _
            refine XS.iconst X9.here hx rfl (hb hby d_bad1_43) ?_
            show Steps p.tables e below (T9.setTop (mkF m 44 #[.val (.ref r0), .val (.int (1 : Int32)), .val (.int p2), .val (.int p3), .val (.int v1)] [(.int (1 : Int32))])) _
            refine XS.goto X9.here hx rfl (pc0 := 44) (pc' := 48) rfl (hb hby d_bad1_44) (by decide) (by decide) ?_
            exact ht
          obtain ⟨fs, hr, hrun, hended, hW, hsame⟩ := X9.leave (v := some (.int (1 : Int32))) (fun h => by rw [Bd.returns] at h; cases h)
          refine ⟨_, _, pre0 _ ((goT k1 (goT k4 (goT k6 (goT k8 (goT k9 (goT k25 k34)))))) _ (retN X9 hx (t := .boolean) Bd.returns (by simp) (hb hby d_bad1_48) hr)), hrun, hended, _, _, rfl, ?_, ⟨_, rfl⟩, hW, hsame.mono (by decide) (by decide)⟩
          show Q_bad1 Z r0 p2 p3 kA v0 v1 v2 v3 h0 n0 _ T9.heap _
          rw [eq9]
          exact ⟨by simp only [f_bad1, if_neg hc2, if_pos hc5, if_neg hc10, if_neg hc26], N9, rfl⟩
    · have k35 : Go p.tables e below (s₁.setTop (mkF m 7 #[.val (.ref r0), .val (.int (1 : Int32)), .val (.int p2), .val (.int p3), .unset] [(.int p3), (.int (1 : Int32))])) (s₁.setTop (mkF m 11 #[.val (.ref r0), .val (.int (1 : Int32)), .val (.int p2), .val (.int p3), .unset] [(.int (0 : Int32))])) := by
        intro t ht
        refine XS.icmpNo X0.here hx rfl (hb hby d_bad1_7) rfl (flt hc5).1 ?_
        show Steps p.tables e below (s₁.setTop (mkF m 10 #[.val (.ref r0), .val (.int (1 : Int32)), .val (.int p2), .val (.int p3), .unset] [])) _
        refine XS.iconst X0.here hx rfl (hb hby d_bad1_10) ?_
        exact ht
      obtain ⟨fs, hr, hrun, hended, hW, hsame⟩ := X0.leave (v := some (.int (0 : Int32))) (fun h => by rw [Bd.returns] at h; cases h)
      refine ⟨_, _, pre0 _ ((goT k1 (goT k4 k35)) _ (retN X0 hx (t := .boolean) Bd.returns (by simp) (hb hby d_bad1_11) hr)), hrun, hended, _, _, rfl, ?_, ⟨_, rfl⟩, hW, hsame.mono (by decide) (by decide)⟩
      show Q_bad1 Z r0 p2 p3 kA v0 v1 v2 v3 h0 n0 _ s₁.heap _
      rw [e0]
      exact ⟨by simp only [f_bad1, if_neg hc2, if_neg hc5], N0, rfl⟩
theorem d_bad2_0 : decode method_5_code 0 = .ok (.iload_n 1, 1) := by decide +kernel
theorem d_bad2_1 : decode method_5_code 1 = .ok (.iload_n 2, 1) := by decide +kernel
theorem d_bad2_2 : decode method_5_code 2 = .ok (.if_icmp .lt 8, 3) := by decide +kernel
theorem d_bad2_5 : decode method_5_code 5 = .ok (.iload_n 1, 1) := by decide +kernel
theorem d_bad2_6 : decode method_5_code 6 = .ok (.iload_n 3, 1) := by decide +kernel
theorem d_bad2_7 : decode method_5_code 7 = .ok (.if_icmp .lt 5, 3) := by decide +kernel
theorem d_bad2_10 : decode method_5_code 10 = .ok (.iconst 0, 1) := by decide +kernel
theorem d_bad2_11 : decode method_5_code 11 = .ok (.ireturn, 1) := by decide +kernel
theorem d_bad2_12 : decode method_5_code 12 = .ok (.aload_n 0, 1) := by decide +kernel
theorem d_bad2_13 : decode method_5_code 13 = .ok (.iload_n 1, 1) := by decide +kernel
theorem d_bad2_14 : decode method_5_code 14 = .ok (.caload, 1) := by decide +kernel
theorem d_bad2_15 : decode method_5_code 15 = .ok (.istore 4, 2) := by decide +kernel
theorem d_bad2_17 : decode method_5_code 17 = .ok (.iload 4, 2) := by decide +kernel
theorem d_bad2_19 : decode method_5_code 19 = .ok (.invokestatic 15, 3) := by decide +kernel
theorem d_bad2_22 : decode method_5_code 22 = .ok (.ifCond .eq 27, 3) := by decide +kernel
theorem d_bad2_25 : decode method_5_code 25 = .ok (.iload_n 1, 1) := by decide +kernel
theorem d_bad2_26 : decode method_5_code 26 = .ok (.iconst 1, 1) := by decide +kernel
theorem d_bad2_27 : decode method_5_code 27 = .ok (.iadd, 1) := by decide +kernel
theorem d_bad2_28 : decode method_5_code 28 = .ok (.iload_n 3, 1) := by decide +kernel
theorem d_bad2_29 : decode method_5_code 29 = .ok (.if_icmp .ge 14, 3) := by decide +kernel
theorem d_bad2_32 : decode method_5_code 32 = .ok (.aload_n 0, 1) := by decide +kernel
theorem d_bad2_33 : decode method_5_code 33 = .ok (.iload_n 1, 1) := by decide +kernel
theorem d_bad2_34 : decode method_5_code 34 = .ok (.iconst 1, 1) := by decide +kernel
theorem d_bad2_35 : decode method_5_code 35 = .ok (.iadd, 1) := by decide +kernel
theorem d_bad2_36 : decode method_5_code 36 = .ok (.caload, 1) := by decide +kernel
theorem d_bad2_37 : decode method_5_code 37 = .ok (.invokestatic 21, 3) := by decide +kernel
theorem d_bad2_40 : decode method_5_code 40 = .ok (.ifCond .ne 7, 3) := by decide +kernel
theorem d_bad2_43 : decode method_5_code 43 = .ok (.iconst 1, 1) := by decide +kernel
theorem d_bad2_44 : decode method_5_code 44 = .ok (.goto 4, 3) := by decide +kernel
theorem d_bad2_47 : decode method_5_code 47 = .ok (.iconst 0, 1) := by decide +kernel
theorem d_bad2_48 : decode method_5_code 48 = .ok (.ireturn, 1) := by decide +kernel
theorem d_bad2_49 : decode method_5_code 49 = .ok (.iload 4, 2) := by decide +kernel
theorem d_bad2_51 : decode method_5_code 51 = .ok (.invokestatic 21, 3) := by decide +kernel
theorem d_bad2_54 : decode method_5_code 54 = .ok (.ifCond .eq 27, 3) := by decide +kernel
theorem d_bad2_57 : decode method_5_code 57 = .ok (.iload_n 1, 1) := by decide +kernel
theorem d_bad2_58 : decode method_5_code 58 = .ok (.iconst 1, 1) := by decide +kernel
theorem d_bad2_59 : decode method_5_code 59 = .ok (.isub, 1) := by decide +kernel
theorem d_bad2_60 : decode method_5_code 60 = .ok (.iload_n 2, 1) := by decide +kernel
theorem d_bad2_61 : decode method_5_code 61 = .ok (.if_icmp .lt 14, 3) := by decide +kernel
theorem d_bad2_64 : decode method_5_code 64 = .ok (.aload_n 0, 1) := by decide +kernel
theorem d_bad2_65 : decode method_5_code 65 = .ok (.iload_n 1, 1) := by decide +kernel
theorem d_bad2_66 : decode method_5_code 66 = .ok (.iconst 1, 1) := by decide +kernel
theorem d_bad2_67 : decode method_5_code 67 = .ok (.isub, 1) := by decide +kernel
theorem d_bad2_68 : decode method_5_code 68 = .ok (.caload, 1) := by decide +kernel
theorem d_bad2_69 : decode method_5_code 69 = .ok (.invokestatic 15, 3) := by decide +kernel
theorem d_bad2_72 : decode method_5_code 72 = .ok (.ifCond .ne 7, 3) := by decide +kernel
theorem d_bad2_75 : decode method_5_code 75 = .ok (.iconst 1, 1) := by decide +kernel
theorem d_bad2_76 : decode method_5_code 76 = .ok (.goto 4, 3) := by decide +kernel
theorem d_bad2_79 : decode method_5_code 79 = .ok (.iconst 0, 1) := by decide +kernel
theorem d_bad2_80 : decode method_5_code 80 = .ok (.ireturn, 1) := by decide +kernel
theorem d_bad2_81 : decode method_5_code 81 = .ok (.iconst 0, 1) := by decide +kernel
theorem d_bad2_82 : decode method_5_code 82 = .ok (.ireturn, 1) := by decide +kernel
theorem ef_bad2 (m : MethodId) (x0 : Addr) (x2 : Int32) (x3 : Int32) : entryFrame m #[(.ref x0), (.int (2 : Int32)), (.int x2), (.int x3)] 5 = mkF m 0 #[.val (.ref x0), .val (.int (2 : Int32)), .val (.int x2), .val (.int x3), .unset] [] := by first | (simp [entryFrame, mkF, argsToLocals, Value.category]; done) | rfl
def f_bad2 (p2 : Int32) (p3 : Int32) (v1 : Int32) (v2 : Int32) (v3 : Int32) : Int32 := (if (2 : Int32) < p2 then (0 : Int32) else (if (2 : Int32) < p3 then (if (f_isHigh v2) = (0 : Int32) then (if (f_isLow v2) = (0 : Int32) then (0 : Int32) else (if (1 : Int32) < p2 then (1 : Int32) else (if (f_isHigh v1) = (0 : Int32) then (1 : Int32) else (0 : Int32)))) else (if (3 : Int32) < p3 then (if (f_isLow v3) = (0 : Int32) then (1 : Int32) else (0 : Int32)) else (1 : Int32))) else (0 : Int32)))
def Q_bad2 (Z : State) (r0 : Addr) (p2 : Int32) (p3 : Int32) (kA : ClassId) (v0 : Int32) (v1 : Int32) (v2 : Int32) (v3 : Int32) (h0 : Heap) (n0 : Nat) (v : Option Value) (h : Heap) (L : List Loc) : Prop := v = some (.int (f_bad2 p2 p3 v1 v2 v3)) ∧ Fr n0 L ∧ h = h0
set_option maxRecDepth 65536 in
set_option maxHeartbeats 40000000 in
theorem rm_bad2 (l : Launch) (Z : State) (a0 : Array Value) (hw : ∀ d ∈ tables_1, d.before a0 Z = true) (ws : List Jvm.Cond) (r0 : Addr) (p2 : Int32) (p3 : Int32) (kA : ClassId) (v0 : Int32) (v1 : Int32) (v2 : Int32) (v3 : Int32) (h0 : Heap) (n0 : Nat) (Z0 : n0 ≤ h0.size) (V_A : Arv Z h0 r0 kA .char (4 : Int32) [(.int v0), (.int v1), (.int v2), (.int v3)] (.int (0 : Int32))) (hlo : ¬ (p2 < (0 : Int32))) (hhi : ¬ ((4 : Int32) < p3)) :
    MetFree l (⟨"com/example/fieldveil/fieldveil/Utf8FirstUnpairedSurrogatePinLaw", "bad", "([CIII)Z"⟩ : MethodName) (head1 (Jvm.Cond.code (⟨"com/example/fieldveil/fieldveil/Utf8FirstUnpairedSurrogatePinLaw", "bad", "([CIII)Z"⟩ : MethodName) method_5_code 5 (some .boolean) :: ws) ({ frames := 1, cells := 0, slots := 0, locals := 12 } : Room)) (fun a U => a = #[(.ref r0), (.int (2 : Int32)), (.int p2), (.int p3)] ∧ Z.Warmed39 U.vm ∧ U.heap = h0) (fun _ _ _ _ _ => True) (fun _ U o U' => ∃ v L, o = .returned v ∧ Q_bad2 Z r0 p2 p3 kA v0 v1 v2 v3 h0 n0 v U'.heap L ∧ FrameEnd U o U' L ({ frames := 1, cells := 0, slots := 0, locals := 12 } : Room).cells ({ frames := 1, cells := 0, slots := 0, locals := 12 } : Room).slots) := by
  refine MetFree.of_bodySF (plainFor_of_name pn_0) hisR ?_
  intro p e s m args below meth c s₁ Bd hml0 hP hK
  obtain ⟨rfl, hZ, hh⟩ := hP
  have hx := Bd.exec
  have hby := Bd.bytes
  have hml : c.maxLocals = 5 := hml0
  have hown : s.vm.findClass "com/example/fieldveil/fieldveil/Utf8FirstUnpairedSurrogatePinLaw" = some m.cls := findClass_of_methodNamed Bd.named
  have hnm := (name_of_methodNamed Bd.named Bd.method).1
  have X0 : Stand p l e ({ frames := 1, cells := 0, slots := 0, locals := 12 } : Room) s m #[(.ref r0), (.int (2 : Int32)), (.int p2), (.int p3)] below meth c s₁ [] 0 0 := Stand.of_body Bd
  have e0 : s₁.heap = h0 := by rw [← hh, Bd.state]; rfl
  have N0 := Fr.nil n0
  have pre0 : ∀ t, Steps p.tables e below (s₁.setTop (mkF m 0 #[.val (.ref r0), .val (.int (2 : Int32)), .val (.int p2), .val (.int p3), .unset] [])) t → Steps p.tables e below (s₁.setTop (entryFrame m #[(.ref r0), (.int (2 : Int32)), (.int p2), (.int p3)] 5)) t := fun t k => castTop (ef_bad2 m r0 p2 p3) k
  have k1 : Go p.tables e below (s₁.setTop (mkF m 0 #[.val (.ref r0), .val (.int (2 : Int32)), .val (.int p2), .val (.int p3), .unset] [])) (s₁.setTop (mkF m 2 #[.val (.ref r0), .val (.int (2 : Int32)), .val (.int p2), .val (.int p3), .unset] [(.int p2), (.int (2 : Int32))])) := by
    intro t ht
    refine XS.iloadN X0.here hx rfl (hb hby d_bad2_0) rfl ?_
    show Steps p.tables e below (s₁.setTop (mkF m 1 #[.val (.ref r0), .val (.int (2 : Int32)), .val (.int p2), .val (.int p3), .unset] [(.int (2 : Int32))])) _
    refine XS.iloadN X0.here hx rfl (hb hby d_bad2_1) rfl ?_
    exact ht
  by_cases hc2 : (2 : Int32) < p2
  · have k3 : Go p.tables e below (s₁.setTop (mkF m 2 #[.val (.ref r0), .val (.int (2 : Int32)), .val (.int p2), .val (.int p3), .unset] [(.int p2), (.int (2 : Int32))])) (s₁.setTop (mkF m 11 #[.val (.ref r0), .val (.int (2 : Int32)), .val (.int p2), .val (.int p3), .unset] [(.int (0 : Int32))])) := by
      intro t ht
      refine XS.icmpYes X0.here hx rfl (pc0 := 2) (pc' := 10) rfl (hb hby d_bad2_2) rfl (tlt hc2).1 (by decide) (by decide) ?_
      show Steps p.tables e below (s₁.setTop (mkF m 10 #[.val (.ref r0), .val (.int (2 : Int32)), .val (.int p2), .val (.int p3), .unset] [])) _
      refine XS.iconst X0.here hx rfl (hb hby d_bad2_10) ?_
      exact ht
    obtain ⟨fs, hr, hrun, hended, hW, hsame⟩ := X0.leave (v := some (.int (0 : Int32))) (fun h => by rw [Bd.returns] at h; cases h)
    refine ⟨_, _, pre0 _ ((goT k1 k3) _ (retN X0 hx (t := .boolean) Bd.returns (by simp) (hb hby d_bad2_11) hr)), hrun, hended, _, _, rfl, ?_, ⟨_, rfl⟩, hW, hsame.mono (by decide) (by decide)⟩
    show Q_bad2 Z r0 p2 p3 kA v0 v1 v2 v3 h0 n0 _ s₁.heap _
    rw [e0]
    exact ⟨by simp only [f_bad2, if_pos hc2], N0, rfl⟩
  · have k4 : Go p.tables e below (s₁.setTop (mkF m 2 #[.val (.ref r0), .val (.int (2 : Int32)), .val (.int p2), .val (.int p3), .unset] [(.int p2), (.int (2 : Int32))])) (s₁.setTop (mkF m 7 #[.val (.ref r0), .val (.int (2 : Int32)), .val (.int p2), .val (.int p3), .unset] [(.int p3), (.int (2 : Int32))])) := by
      intro t ht
      refine XS.icmpNo X0.here hx rfl (hb hby d_bad2_2) rfl (flt hc2).1 ?_
      show Steps p.tables e below (s₁.setTop (mkF m 5 #[.val (.ref r0), .val (.int (2 : Int32)), .val (.int p2), .val (.int p3), .unset] [])) _
      refine XS.iloadN X0.here hx rfl (hb hby d_bad2_5) rfl ?_
      show Steps p.tables e below (s₁.setTop (mkF m 6 #[.val (.ref r0), .val (.int (2 : Int32)), .val (.int p2), .val (.int p3), .unset] [(.int (2 : Int32))])) _
      refine XS.iloadN X0.here hx rfl (hb hby d_bad2_6) rfl ?_
      exact ht
    by_cases hc5 : (2 : Int32) < p3
    · have k6 : Go p.tables e below (s₁.setTop (mkF m 7 #[.val (.ref r0), .val (.int (2 : Int32)), .val (.int p2), .val (.int p3), .unset] [(.int p3), (.int (2 : Int32))])) (s₁.setTop (mkF m 14 #[.val (.ref r0), .val (.int (2 : Int32)), .val (.int p2), .val (.int p3), .unset] [(.int (2 : Int32)), (.ref r0)])) := by
        intro t ht
        refine XS.icmpYes X0.here hx rfl (pc0 := 7) (pc' := 12) rfl (hb hby d_bad2_7) rfl (tlt hc5).1 (by decide) (by decide) ?_
        show Steps p.tables e below (s₁.setTop (mkF m 12 #[.val (.ref r0), .val (.int (2 : Int32)), .val (.int p2), .val (.int p3), .unset] [])) _
        refine XS.aloadN X0.here hx rfl (hb hby d_bad2_12) rfl rfl ?_
        show Steps p.tables e below (s₁.setTop (mkF m 13 #[.val (.ref r0), .val (.int (2 : Int32)), .val (.int p2), .val (.int p3), .unset] [(.ref r0)])) _
        refine XS.iloadN X0.here hx rfl (hb hby d_bad2_13) rfl ?_
        exact ht
      obtain ⟨cl7, Ar7, q7, S7, M7, H7, G7⟩ := id V_A
      have hin7 : ¬ ((2 : Int32) < 0 ∨ cl7.slots.size ≤ ((2 : Int32)).toNatClampNeg) := inb_of S7 ⟨by decide, by decide⟩
      have hat7 : cl7.slots[((2 : Int32)).toNatClampNeg]? = some (.int v2) := (H7 _ (Nat.lt_of_not_le fun y => hin7 (Or.inr y))).trans (congrArg some (rfl))
      have k8 : Go p.tables e below (s₁.setTop (mkF m 14 #[.val (.ref r0), .val (.int (2 : Int32)), .val (.int p2), .val (.int p3), .unset] [(.int (2 : Int32)), (.ref r0)])) (s₁.setTop (mkF m 19 #[.val (.ref r0), .val (.int (2 : Int32)), .val (.int p2), .val (.int p3), .val (.int v2)] [(.int v2)])) := by
        intro t ht
        refine X0.caload hx (j := (2 : Int32)) (v := (.int v2)) (by rw [e0]; exact Ar7.1) (State.isArrayOf_alike hZ.alike Ar7.2.1) Ar7.2.2 hin7 hat7 (g := (mkF m 14 #[.val (.ref r0), .val (.int (2 : Int32)), .val (.int p2), .val (.int p3), .unset] [(.int (2 : Int32)), (.ref r0)])) rfl rfl (hb hby d_bad2_14) _ ?_
        show Steps p.tables e below (s₁.setTop (mkF m 15 #[.val (.ref r0), .val (.int (2 : Int32)), .val (.int p2), .val (.int p3), .unset] [(.int v2)])) _
        refine XS.istore X0.here hx rfl (hb hby d_bad2_15) rfl (l' := #[.val (.ref r0), .val (.int (2 : Int32)), .val (.int p2), .val (.int p3), .val (.int v2)]) rfl ?_
        show Steps p.tables e below (s₁.setTop (mkF m 17 #[.val (.ref r0), .val (.int (2 : Int32)), .val (.int p2), .val (.int p3), .val (.int v2)] [])) _
        refine XS.iload X0.here hx rfl (hb hby d_bad2_17) rfl ?_
        exact ht
      obtain ⟨_, _, ⟨T9, L9, kq9, n9⟩, -, X9, ⟨Lc9, hQ9, l9, y9, z9⟩, st9⟩ := Jvm.LawKit.callS X0 hx (y := (⟨"com/example/fieldveil/fieldveil/Utf8FirstUnpairedSurrogatePinLaw", "isHigh", "(C)Z"⟩ : MethodName)) hown (mvT hZ (hw _ (List.mem_of_getElem? (i := 23) rfl))) (mvT hZ (hw _ (List.mem_of_getElem? (i := 24) rfl))) (mvT hZ (hw _ (List.mem_of_getElem? (i := 3) rfl))) (mvT hZ (hw _ (List.mem_of_getElem? (i := 25) rfl))) (by decide) (backOf (W := 0) (rm_isHigh l Z a0 hw [] v2 h0 n0 Z0 ) hZ (hw _ (List.mem_of_getElem? (i := 25) rfl)) (hw _ (List.mem_of_getElem? (i := 3) rfl)) (by decide) (by decide)) (g := (mkF m 19 #[.val (.ref r0), .val (.int (2 : Int32)), .val (.int p2), .val (.int p3), .val (.int v2)] [(.int v2)])) rfl (by rw [hml]; rfl) (argsL := [(.int v2)]) (rest := []) (lenOf pd_0 rfl) rfl (by show 2 * 0 + _ ≤ _; exact Nat.le_of_eq rfl) (hb hby d_bad2_19) (fun _ _ => ⟨rfl, e0, (by decide : 0 + 0 ≤ _), (by decide : 0 + 0 ≤ _)⟩)
      dsimp only [Pt.U, Pt.locs, Pt.cells, Pt.slots] at X9 l9 y9 z9 st9 hQ9
      subst l9 y9 z9
      obtain ⟨rfl, N9q, eq9⟩ := hQ9
      have N9 := Fr.app N0 N9q
      have k9 : Go p.tables e below (s₁.setTop (mkF m 19 #[.val (.ref r0), .val (.int (2 : Int32)), .val (.int p2), .val (.int p3), .val (.int v2)] [(.int v2)])) (T9.setTop (mkF m 22 #[.val (.ref r0), .val (.int (2 : Int32)), .val (.int p2), .val (.int p3), .val (.int v2)] [(.int (f_isHigh v2))])) := st9
      by_cases hc10 : (f_isHigh v2) = (0 : Int32)
      · have k11 : Go p.tables e below (T9.setTop (mkF m 22 #[.val (.ref r0), .val (.int (2 : Int32)), .val (.int p2), .val (.int p3), .val (.int v2)] [(.int (f_isHigh v2))])) (T9.setTop (mkF m 51 #[.val (.ref r0), .val (.int (2 : Int32)), .val (.int p2), .val (.int p3), .val (.int v2)] [(.int v2)])) := by
          intro t ht
          refine XS.ifYes X9.here hx rfl (pc0 := 22) (pc' := 49) rfl (hb hby d_bad2_22) rfl ((if0 _ _).trans (teq hc10).1) (by decide) (by decide) ?_
          show Steps p.tables e below (T9.setTop (mkF m 49 #[.val (.ref r0), .val (.int (2 : Int32)), .val (.int p2), .val (.int p3), .val (.int v2)] [])) _
          refine XS.iload X9.here hx rfl (hb hby d_bad2_49) rfl ?_
          exact ht
        obtain ⟨_, _, ⟨T12, L12, kq12, n12⟩, -, X12, ⟨Lc12, hQ12, l12, y12, z12⟩, st12⟩ := Jvm.LawKit.callS X9 hx (y := (⟨"com/example/fieldveil/fieldveil/Utf8FirstUnpairedSurrogatePinLaw", "isLow", "(C)Z"⟩ : MethodName)) hown (mvT hZ (hw _ (List.mem_of_getElem? (i := 27) rfl))) (mvT hZ (hw _ (List.mem_of_getElem? (i := 28) rfl))) (mvT hZ (hw _ (List.mem_of_getElem? (i := 3) rfl))) (mvT hZ (hw _ (List.mem_of_getElem? (i := 29) rfl))) (by decide) (backOf (W := 0) (rm_isLow l Z a0 hw [] v2 h0 n0 Z0 ) hZ (hw _ (List.mem_of_getElem? (i := 29) rfl)) (hw _ (List.mem_of_getElem? (i := 3) rfl)) (by decide) (by decide)) (g := (mkF m 51 #[.val (.ref r0), .val (.int (2 : Int32)), .val (.int p2), .val (.int p3), .val (.int v2)] [(.int v2)])) rfl (by rw [hml]; rfl) (argsL := [(.int v2)]) (rest := []) (lenOf pd_0 rfl) rfl (by show 2 * 0 + _ ≤ _; exact Nat.le_of_eq rfl) (hb hby d_bad2_51) (fun _ _ => ⟨rfl, eq9, (by decide : 0 + 0 ≤ _), (by decide : 0 + 0 ≤ _)⟩)
        dsimp only [Pt.U, Pt.locs, Pt.cells, Pt.slots] at X12 l12 y12 z12 st12 hQ12
        subst l12 y12 z12
        obtain ⟨rfl, N12q, eq12⟩ := hQ12
        have N12 := Fr.app N9 N12q
        have k12 : Go p.tables e below (T9.setTop (mkF m 51 #[.val (.ref r0), .val (.int (2 : Int32)), .val (.int p2), .val (.int p3), .val (.int v2)] [(.int v2)])) (T12.setTop (mkF m 54 #[.val (.ref r0), .val (.int (2 : Int32)), .val (.int p2), .val (.int p3), .val (.int v2)] [(.int (f_isLow v2))])) := st12
        by_cases hc13 : (f_isLow v2) = (0 : Int32)
        · have k14 : Go p.tables e below (T12.setTop (mkF m 54 #[.val (.ref r0), .val (.int (2 : Int32)), .val (.int p2), .val (.int p3), .val (.int v2)] [(.int (f_isLow v2))])) (T12.setTop (mkF m 82 #[.val (.ref r0), .val (.int (2 : Int32)), .val (.int p2), .val (.int p3), .val (.int v2)] [(.int (0 : Int32))])) := by
            intro t ht
            refine XS.ifYes X12.here hx rfl (pc0 := 54) (pc' := 81) rfl (hb hby d_bad2_54) rfl ((if0 _ _).trans (teq hc13).1) (by decide) (by decide) ?_
            show Steps p.tables e below (T12.setTop (mkF m 81 #[.val (.ref r0), .val (.int (2 : Int32)), .val (.int p2), .val (.int p3), .val (.int v2)] [])) _
            refine XS.iconst X12.here hx rfl (hb hby d_bad2_81) ?_
            exact ht
          obtain ⟨fs, hr, hrun, hended, hW, hsame⟩ := X12.leave (v := some (.int (0 : Int32))) (fun h => by rw [Bd.returns] at h; cases h)
          refine ⟨_, _, pre0 _ ((goT k1 (goT k4 (goT k6 (goT k8 (goT k9 (goT k11 (goT k12 k14))))))) _ (retN X12 hx (t := .boolean) Bd.returns (by simp) (hb hby d_bad2_82) hr)), hrun, hended, _, _, rfl, ?_, ⟨_, rfl⟩, hW, hsame.mono (by decide) (by decide)⟩
          show Q_bad2 Z r0 p2 p3 kA v0 v1 v2 v3 h0 n0 _ T12.heap _
          rw [eq12]
          exact ⟨by simp only [f_bad2, if_neg hc2, if_pos hc5, if_pos hc10, if_pos hc13], N12, rfl⟩
        · have k15 : Go p.tables e below (T12.setTop (mkF m 54 #[.val (.ref r0), .val (.int (2 : Int32)), .val (.int p2), .val (.int p3), .val (.int v2)] [(.int (f_isLow v2))])) (T12.setTop (mkF m 61 #[.val (.ref r0), .val (.int (2 : Int32)), .val (.int p2), .val (.int p3), .val (.int v2)] [(.int p2), (.int (1 : Int32))])) := by
            intro t ht
            refine XS.ifNo X12.here hx rfl (hb hby d_bad2_54) rfl ((if0 _ _).trans (feq hc13).1) ?_
            show Steps p.tables e below (T12.setTop (mkF m 57 #[.val (.ref r0), .val (.int (2 : Int32)), .val (.int p2), .val (.int p3), .val (.int v2)] [])) _
            refine XS.iloadN X12.here hx rfl (hb hby d_bad2_57) rfl ?_
            show Steps p.tables e below (T12.setTop (mkF m 58 #[.val (.ref r0), .val (.int (2 : Int32)), .val (.int p2), .val (.int p3), .val (.int v2)] [(.int (2 : Int32))])) _
            refine XS.iconst X12.here hx rfl (hb hby d_bad2_58) ?_
            show Steps p.tables e below (T12.setTop (mkF m 59 #[.val (.ref r0), .val (.int (2 : Int32)), .val (.int p2), .val (.int p3), .val (.int v2)] [(.int (1 : Int32)), (.int (2 : Int32))])) _
            refine XS.isub X12.here hx rfl (hb hby d_bad2_59) rfl ?_
            show Steps p.tables e below (T12.setTop (mkF m 60 #[.val (.ref r0), .val (.int (2 : Int32)), .val (.int p2), .val (.int p3), .val (.int v2)] [(.int (1 : Int32))])) _
            refine XS.iloadN X12.here hx rfl (hb hby d_bad2_60) rfl ?_
            exact ht
          by_cases hc16 : (1 : Int32) < p2
          · have k17 : Go p.tables e below (T12.setTop (mkF m 61 #[.val (.ref r0), .val (.int (2 : Int32)), .val (.int p2), .val (.int p3), .val (.int v2)] [(.int p2), (.int (1 : Int32))])) (T12.setTop (mkF m 80 #[.val (.ref r0), .val (.int (2 : Int32)), .val (.int p2), .val (.int p3), .val (.int v2)] [(.int (1 : Int32))])) := by
              intro t ht
              refine XS.icmpYes X12.here hx rfl (pc0 := 61) (pc' := 75) rfl (hb hby d_bad2_61) rfl (tlt hc16).1 (by decide) (by decide) ?_
              show Steps p.tables e below (T12.setTop (mkF m 75 #[.val (.ref r0), .val (.int (2 : Int32)), .val (.int p2), .val (.int p3), .val (.int v2)] [])) _
              refine XS.iconst X12.here hx rfl (hb hby d_bad2_75) ?_
              show Steps p.tables e below (T12.setTop (mkF m 76 #[.val (.ref r0), .val (.int (2 : Int32)), .val (.int p2), .val (.int p3), .val (.int v2)] [(.int (1 : Int32))])) _
              refine XS.goto X12.here hx rfl (pc0 := 76) (pc' := 80) rfl (hb hby d_bad2_76) (by decide) (by decide) ?_
              exact ht
            obtain ⟨fs, hr, hrun, hended, hW, hsame⟩ := X12.leave (v := some (.int (1 : Int32))) (fun h => by rw [Bd.returns] at h; cases h)
            refine ⟨_, _, pre0 _ ((goT k1 (goT k4 (goT k6 (goT k8 (goT k9 (goT k11 (goT k12 (goT k15 k17)))))))) _ (retN X12 hx (t := .boolean) Bd.returns (by simp) (hb hby d_bad2_80) hr)), hrun, hended, _, _, rfl, ?_, ⟨_, rfl⟩, hW, hsame.mono (by decide) (by decide)⟩
            show Q_bad2 Z r0 p2 p3 kA v0 v1 v2 v3 h0 n0 _ T12.heap _
            rw [eq12]
            exact ⟨by simp only [f_bad2, if_neg hc2, if_pos hc5, if_pos hc10, if_neg hc13, if_pos hc16], N12, rfl⟩
          · have k18 : Go p.tables e below (T12.setTop (mkF m 61 #[.val (.ref r0), .val (.int (2 : Int32)), .val (.int p2), .val (.int p3), .val (.int v2)] [(.int p2), (.int (1 : Int32))])) (T12.setTop (mkF m 68 #[.val (.ref r0), .val (.int (2 : Int32)), .val (.int p2), .val (.int p3), .val (.int v2)] [(.int (1 : Int32)), (.ref r0)])) := by
              intro t ht
              refine XS.icmpNo X12.here hx rfl (hb hby d_bad2_61) rfl (flt hc16).1 ?_
              show Steps p.tables e below (T12.setTop (mkF m 64 #[.val (.ref r0), .val (.int (2 : Int32)), .val (.int p2), .val (.int p3), .val (.int v2)] [])) _
              refine XS.aloadN X12.here hx rfl (hb hby d_bad2_64) rfl rfl ?_
              show Steps p.tables e below (T12.setTop (mkF m 65 #[.val (.ref r0), .val (.int (2 : Int32)), .val (.int p2), .val (.int p3), .val (.int v2)] [(.ref r0)])) _
              refine XS.iloadN X12.here hx rfl (hb hby d_bad2_65) rfl ?_
              show Steps p.tables e below (T12.setTop (mkF m 66 #[.val (.ref r0), .val (.int (2 : Int32)), .val (.int p2), .val (.int p3), .val (.int v2)] [(.int (2 : Int32)), (.ref r0)])) _
              refine XS.iconst X12.here hx rfl (hb hby d_bad2_66) ?_
              show Steps p.tables e below (T12.setTop (mkF m 67 #[.val (.ref r0), .val (.int (2 : Int32)), .val (.int p2), .val (.int p3), .val (.int v2)] [(.int (1 : Int32)), (.int (2 : Int32)), (.ref r0)])) _
              refine XS.isub X12.here hx rfl (hb hby d_bad2_67) rfl ?_
              exact ht
            obtain ⟨cl19, Ar19, q19, S19, M19, H19, G19⟩ := id V_A
            have hin19 : ¬ ((1 : Int32) < 0 ∨ cl19.slots.size ≤ ((1 : Int32)).toNatClampNeg) := inb_of S19 ⟨by decide, by decide⟩
            have hat19 : cl19.slots[((1 : Int32)).toNatClampNeg]? = some (.int v1) := (H19 _ (Nat.lt_of_not_le fun y => hin19 (Or.inr y))).trans (congrArg some (rfl))
            have k20 : Go p.tables e below (T12.setTop (mkF m 68 #[.val (.ref r0), .val (.int (2 : Int32)), .val (.int p2), .val (.int p3), .val (.int v2)] [(.int (1 : Int32)), (.ref r0)])) (T12.setTop (mkF m 69 #[.val (.ref r0), .val (.int (2 : Int32)), .val (.int p2), .val (.int p3), .val (.int v2)] [(.int v1)])) := by
              intro t ht
              refine X12.caload hx (j := (1 : Int32)) (v := (.int v1)) (by rw [eq12]; exact Ar19.1) (State.isArrayOf_alike hZ.alike Ar19.2.1) Ar19.2.2 hin19 hat19 (g := (mkF m 68 #[.val (.ref r0), .val (.int (2 : Int32)), .val (.int p2), .val (.int p3), .val (.int v2)] [(.int (1 : Int32)), (.ref r0)])) rfl rfl (hb hby d_bad2_68) _ ?_
              exact ht
            obtain ⟨_, _, ⟨T21, L21, kq21, n21⟩, -, X21, ⟨Lc21, hQ21, l21, y21, z21⟩, st21⟩ := Jvm.LawKit.callS X12 hx (y := (⟨"com/example/fieldveil/fieldveil/Utf8FirstUnpairedSurrogatePinLaw", "isHigh", "(C)Z"⟩ : MethodName)) hown (mvT hZ (hw _ (List.mem_of_getElem? (i := 23) rfl))) (mvT hZ (hw _ (List.mem_of_getElem? (i := 24) rfl))) (mvT hZ (hw _ (List.mem_of_getElem? (i := 3) rfl))) (mvT hZ (hw _ (List.mem_of_getElem? (i := 25) rfl))) (by decide) (backOf (W := 0) (rm_isHigh l Z a0 hw [] v1 h0 n0 Z0 ) hZ (hw _ (List.mem_of_getElem? (i := 25) rfl)) (hw _ (List.mem_of_getElem? (i := 3) rfl)) (by decide) (by decide)) (g := (mkF m 69 #[.val (.ref r0), .val (.int (2 : Int32)), .val (.int p2), .val (.int p3), .val (.int v2)] [(.int v1)])) rfl (by rw [hml]; rfl) (argsL := [(.int v1)]) (rest := []) (lenOf pd_0 rfl) rfl (by show 2 * 0 + _ ≤ _; exact Nat.le_of_eq rfl) (hb hby d_bad2_69) (fun _ _ => ⟨rfl, eq12, (by decide : 0 + 0 ≤ _), (by decide : 0 + 0 ≤ _)⟩)
            dsimp only [Pt.U, Pt.locs, Pt.cells, Pt.slots] at X21 l21 y21 z21 st21 hQ21
            subst l21 y21 z21
            obtain ⟨rfl, N21q, eq21⟩ := hQ21
            have N21 := Fr.app N12 N21q
            have k21 : Go p.tables e below (T12.setTop (mkF m 69 #[.val (.ref r0), .val (.int (2 : Int32)), .val (.int p2), .val (.int p3), .val (.int v2)] [(.int v1)])) (T21.setTop (mkF m 72 #[.val (.ref r0), .val (.int (2 : Int32)), .val (.int p2), .val (.int p3), .val (.int v2)] [(.int (f_isHigh v1))])) := st21
            by_cases hc22 : (f_isHigh v1) = (0 : Int32)
            · have k23 : Go p.tables e below (T21.setTop (mkF m 72 #[.val (.ref r0), .val (.int (2 : Int32)), .val (.int p2), .val (.int p3), .val (.int v2)] [(.int (f_isHigh v1))])) (T21.setTop (mkF m 80 #[.val (.ref r0), .val (.int (2 : Int32)), .val (.int p2), .val (.int p3), .val (.int v2)] [(.int (1 : Int32))])) := by
                intro t ht
                refine XS.ifNo X21.here hx rfl (hb hby d_bad2_72) rfl ((if0 _ _).trans (teq hc22).2) ?_
                show Steps p.tables e below (T21.setTop (mkF m 75 #[.val (.ref r0), .val (.int (2 : Int32)), .val (.int p2), .val (.int p3), .val (.int v2)] [])) _
                refine XS.iconst X21.here hx rfl (hb hby d_bad2_75) ?_
                show Steps p.tables e below (T21.setTop (mkF m 76 #[.val (.ref r0), .val (.int (2 : Int32)), .val (.int p2), .val (.int p3), .val (.int v2)] [(.int (1 : Int32))])) _
                refine XS.goto X21.here hx rfl (pc0 := 76) (pc' := 80) rfl (hb hby d_bad2_76) (by decide) (by decide) ?_
                exact ht
              obtain ⟨fs, hr, hrun, hended, hW, hsame⟩ := X21.leave (v := some (.int (1 : Int32))) (fun h => by rw [Bd.returns] at h; cases h)
              refine ⟨_, _, pre0 _ ((goT k1 (goT k4 (goT k6 (goT k8 (goT k9 (goT k11 (goT k12 (goT k15 (goT k18 (goT k20 (goT k21 k23))))))))))) _ (retN X21 hx (t := .boolean) Bd.returns (by simp) (hb hby d_bad2_80) hr)), hrun, hended, _, _, rfl, ?_, ⟨_, rfl⟩, hW, hsame.mono (by decide) (by decide)⟩
              show Q_bad2 Z r0 p2 p3 kA v0 v1 v2 v3 h0 n0 _ T21.heap _
              rw [eq21]
              exact ⟨by simp only [f_bad2, if_neg hc2, if_pos hc5, if_pos hc10, if_neg hc13, if_neg hc16, if_pos hc22], N21, rfl⟩
            · have k24 : Go p.tables e below (T21.setTop (mkF m 72 #[.val (.ref r0), .val (.int (2 : Int32)), .val (.int p2), .val (.int p3), .val (.int v2)] [(.int (f_isHigh v1))])) (T21.setTop (mkF m 80 #[.val (.ref r0), .val (.int (2 : Int32)), .val (.int p2), .val (.int p3), .val (.int v2)] [(.int (0 : Int32))])) := by
                intro t ht
                refine XS.ifYes X21.here hx rfl (pc0 := 72) (pc' := 79) rfl (hb hby d_bad2_72) rfl ((if0 _ _).trans (feq hc22).2) (by decide) (by decide) ?_
                show Steps p.tables e below (T21.setTop (mkF m 79 #[.val (.ref r0), .val (.int (2 : Int32)), .val (.int p2), .val (.int p3), .val (.int v2)] [])) _
                refine XS.iconst X21.here hx rfl (hb hby d_bad2_79) ?_
                exact ht
              obtain ⟨fs, hr, hrun, hended, hW, hsame⟩ := X21.leave (v := some (.int (0 : Int32))) (fun h => by rw [Bd.returns] at h; cases h)
              refine ⟨_, _, pre0 _ ((goT k1 (goT k4 (goT k6 (goT k8 (goT k9 (goT k11 (goT k12 (goT k15 (goT k18 (goT k20 (goT k21 k24))))))))))) _ (retN X21 hx (t := .boolean) Bd.returns (by simp) (hb hby d_bad2_80) hr)), hrun, hended, _, _, rfl, ?_, ⟨_, rfl⟩, hW, hsame.mono (by decide) (by decide)⟩
              show Q_bad2 Z r0 p2 p3 kA v0 v1 v2 v3 h0 n0 _ T21.heap _
              rw [eq21]
              exact ⟨by simp only [f_bad2, if_neg hc2, if_pos hc5, if_pos hc10, if_neg hc13, if_neg hc16, if_neg hc22], N21, rfl⟩
      · have k25 : Go p.tables e below (T9.setTop (mkF m 22 #[.val (.ref r0), .val (.int (2 : Int32)), .val (.int p2), .val (.int p3), .val (.int v2)] [(.int (f_isHigh v2))])) (T9.setTop (mkF m 29 #[.val (.ref r0), .val (.int (2 : Int32)), .val (.int p2), .val (.int p3), .val (.int v2)] [(.int p3), (.int (3 : Int32))])) := by
          intro t ht
          refine XS.ifNo X9.here hx rfl (hb hby d_bad2_22) rfl ((if0 _ _).trans (feq hc10).1) ?_
          show Steps p.tables e below (T9.setTop (mkF m 25 #[.val (.ref r0), .val (.int (2 : Int32)), .val (.int p2), .val (.int p3), .val (.int v2)] [])) _
          refine XS.iloadN X9.here hx rfl (hb hby d_bad2_25) rfl ?_
          show Steps p.tables e below (T9.setTop (mkF m 26 #[.val (.ref r0), .val (.int (2 : Int32)), .val (.int p2), .val (.int p3), .val (.int v2)] [(.int (2 : Int32))])) _
          refine XS.iconst X9.here hx rfl (hb hby d_bad2_26) ?_
          show Steps p.tables e below (T9.setTop (mkF m 27 #[.val (.ref r0), .val (.int (2 : Int32)), .val (.int p2), .val (.int p3), .val (.int v2)] [(.int (1 : Int32)), (.int (2 : Int32))])) _
          refine XS.iadd X9.here hx rfl (hb hby d_bad2_27) rfl ?_
          show Steps p.tables e below (T9.setTop (mkF m 28 #[.val (.ref r0), .val (.int (2 : Int32)), .val (.int p2), .val (.int p3), .val (.int v2)] [(.int (3 : Int32))])) _
          refine XS.iloadN X9.here hx rfl (hb hby d_bad2_28) rfl ?_
          exact ht
        by_cases hc26 : (3 : Int32) < p3
        · have k27 : Go p.tables e below (T9.setTop (mkF m 29 #[.val (.ref r0), .val (.int (2 : Int32)), .val (.int p2), .val (.int p3), .val (.int v2)] [(.int p3), (.int (3 : Int32))])) (T9.setTop (mkF m 36 #[.val (.ref r0), .val (.int (2 : Int32)), .val (.int p2), .val (.int p3), .val (.int v2)] [(.int (3 : Int32)), (.ref r0)])) := by
            intro t ht
            refine XS.icmpNo X9.here hx rfl (hb hby d_bad2_29) rfl (tlt hc26).2.1 ?_
            show Steps p.tables e below (T9.setTop (mkF m 32 #[.val (.ref r0), .val (.int (2 : Int32)), .val (.int p2), .val (.int p3), .val (.int v2)] [])) _
            refine XS.aloadN X9.here hx rfl (hb hby d_bad2_32) rfl rfl ?_
            show Steps p.tables e below (T9.setTop (mkF m 33 #[.val (.ref r0), .val (.int (2 : Int32)), .val (.int p2), .val (.int p3), .val (.int v2)] [(.ref r0)])) _
            refine XS.iloadN X9.here hx rfl (hb hby d_bad2_33) rfl ?_
            show Steps p.tables e below (T9.setTop (mkF m 34 #[.val (.ref r0), .val (.int (2 : Int32)), .val (.int p2), .val (.int p3), .val (.int v2)] [(.int (2 : Int32)), (.ref r0)])) _
            refine XS.iconst X9.here hx rfl (hb hby d_bad2_34) ?_
            show Steps p.tables e below (T9.setTop (mkF m 35 #[.val (.ref r0), .val (.int (2 : Int32)), .val (.int p2), .val (.int p3), .val (.int v2)] [(.int (1 : Int32)), (.int (2 : Int32)), (.ref r0)])) _
            refine XS.iadd X9.here hx rfl (hb hby d_bad2_35) rfl ?_
            exact ht
          obtain ⟨cl28, Ar28, q28, S28, M28, H28, G28⟩ := id V_A
          have hin28 : ¬ ((3 : Int32) < 0 ∨ cl28.slots.size ≤ ((3 : Int32)).toNatClampNeg) := inb_of S28 ⟨by decide, by decide⟩
          have hat28 : cl28.slots[((3 : Int32)).toNatClampNeg]? = some (.int v3) := (H28 _ (Nat.lt_of_not_le fun y => hin28 (Or.inr y))).trans (congrArg some (rfl))
          have k29 : Go p.tables e below (T9.setTop (mkF m 36 #[.val (.ref r0), .val (.int (2 : Int32)), .val (.int p2), .val (.int p3), .val (.int v2)] [(.int (3 : Int32)), (.ref r0)])) (T9.setTop (mkF m 37 #[.val (.ref r0), .val (.int (2 : Int32)), .val (.int p2), .val (.int p3), .val (.int v2)] [(.int v3)])) := by
            intro t ht
            refine X9.caload hx (j := (3 : Int32)) (v := (.int v3)) (by rw [eq9]; exact Ar28.1) (State.isArrayOf_alike hZ.alike Ar28.2.1) Ar28.2.2 hin28 hat28 (g := (mkF m 36 #[.val (.ref r0), .val (.int (2 : Int32)), .val (.int p2), .val (.int p3), .val (.int v2)] [(.int (3 : Int32)), (.ref r0)])) rfl rfl (hb hby d_bad2_36) _ ?_
            exact ht
          obtain ⟨_, _, ⟨T30, L30, kq30, n30⟩, -, X30, ⟨Lc30, hQ30, l30, y30, z30⟩, st30⟩ := Jvm.LawKit.callS X9 hx (y := (⟨"com/example/fieldveil/fieldveil/Utf8FirstUnpairedSurrogatePinLaw", "isLow", "(C)Z"⟩ : MethodName)) hown (mvT hZ (hw _ (List.mem_of_getElem? (i := 27) rfl))) (mvT hZ (hw _ (List.mem_of_getElem? (i := 28) rfl))) (mvT hZ (hw _ (List.mem_of_getElem? (i := 3) rfl))) (mvT hZ (hw _ (List.mem_of_getElem? (i := 29) rfl))) (by decide) (backOf (W := 0) (rm_isLow l Z a0 hw [] v3 h0 n0 Z0 ) hZ (hw _ (List.mem_of_getElem? (i := 29) rfl)) (hw _ (List.mem_of_getElem? (i := 3) rfl)) (by decide) (by decide)) (g := (mkF m 37 #[.val (.ref r0), .val (.int (2 : Int32)), .val (.int p2), .val (.int p3), .val (.int v2)] [(.int v3)])) rfl (by rw [hml]; rfl) (argsL := [(.int v3)]) (rest := []) (lenOf pd_0 rfl) rfl (by show 2 * 0 + _ ≤ _; exact Nat.le_of_eq rfl) (hb hby d_bad2_37) (fun _ _ => ⟨rfl, eq9, (by decide : 0 + 0 ≤ _), (by decide : 0 + 0 ≤ _)⟩)
          dsimp only [Pt.U, Pt.locs, Pt.cells, Pt.slots] at X30 l30 y30 z30 st30 hQ30
          subst l30 y30 z30
          obtain ⟨rfl, N30q, eq30⟩ := hQ30
          have N30 := Fr.app N9 N30q
          have k30 : Go p.tables e below (T9.setTop (mkF m 37 #[.val (.ref r0), .val (.int (2 : Int32)), .val (.int p2), .val (.int p3), .val (.int v2)] [(.int v3)])) (T30.setTop (mkF m 40 #[.val (.ref r0), .val (.int (2 : Int32)), .val (.int p2), .val (.int p3), .val (.int v2)] [(.int (f_isLow v3))])) := st30
          by_cases hc31 : (f_isLow v3) = (0 : Int32)
          · have k32 : Go p.tables e below (T30.setTop (mkF m 40 #[.val (.ref r0), .val (.int (2 : Int32)), .val (.int p2), .val (.int p3), .val (.int v2)] [(.int (f_isLow v3))])) (T30.setTop (mkF m 48 #[.val (.ref r0), .val (.int (2 : Int32)), .val (.int p2), .val (.int p3), .val (.int v2)] [(.int (1 : Int32))])) := by
              intro t ht
              refine XS.ifNo X30.here hx rfl (hb hby d_bad2_40) rfl ((if0 _ _).trans (teq hc31).2) ?_
              show Steps p.tables e below (T30.setTop (mkF m 43 #[.val (.ref r0), .val (.int (2 : Int32)), .val (.int p2), .val (.int p3), .val (.int v2)] [])) _
              refine XS.iconst X30.here hx rfl (hb hby d_bad2_43) ?_
              show Steps p.tables e below (T30.setTop (mkF m 44 #[.val (.ref r0), .val (.int (2 : Int32)), .val (.int p2), .val (.int p3), .val (.int v2)] [(.int (1 : Int32))])) _
              refine XS.goto X30.here hx rfl (pc0 := 44) (pc' := 48) rfl (hb hby d_bad2_44) (by decide) (by decide) ?_
              exact ht
            obtain ⟨fs, hr, hrun, hended, hW, hsame⟩ := X30.leave (v := some (.int (1 : Int32))) (fun h => by rw [Bd.returns] at h; cases h)
            refine ⟨_, _, pre0 _ ((goT k1 (goT k4 (goT k6 (goT k8 (goT k9 (goT k25 (goT k27 (goT k29 (goT k30 k32))))))))) _ (retN X30 hx (t := .boolean) Bd.returns (by simp) (hb hby d_bad2_48) hr)), hrun, hended, _, _, rfl, ?_, ⟨_, rfl⟩, hW, hsame.mono (by decide) (by decide)⟩
            show Q_bad2 Z r0 p2 p3 kA v0 v1 v2 v3 h0 n0 _ T30.heap _
            rw [eq30]
            exact ⟨by simp only [f_bad2, if_neg hc2, if_pos hc5, if_neg hc10, if_pos hc26, if_pos hc31], N30, rfl⟩
          · have k33 : Go p.tables e below (T30.setTop (mkF m 40 #[.val (.ref r0), .val (.int (2 : Int32)), .val (.int p2), .val (.int p3), .val (.int v2)] [(.int (f_isLow v3))])) (T30.setTop (mkF m 48 #[.val (.ref r0), .val (.int (2 : Int32)), .val (.int p2), .val (.int p3), .val (.int v2)] [(.int (0 : Int32))])) := by
              intro t ht
              refine XS.ifYes X30.here hx rfl (pc0 := 40) (pc' := 47) rfl (hb hby d_bad2_40) rfl ((if0 _ _).trans (feq hc31).2) (by decide) (by decide) ?_
              show Steps p.tables e below (T30.setTop (mkF m 47 #[.val (.ref r0), .val (.int (2 : Int32)), .val (.int p2), .val (.int p3), .val (.int v2)] [])) _
              refine XS.iconst X30.here hx rfl (hb hby d_bad2_47) ?_
              exact ht
            obtain ⟨fs, hr, hrun, hended, hW, hsame⟩ := X30.leave (v := some (.int (0 : Int32))) (fun h => by rw [Bd.returns] at h; cases h)
            refine ⟨_, _, pre0 _ ((goT k1 (goT k4 (goT k6 (goT k8 (goT k9 (goT k25 (goT k27 (goT k29 (goT k30 k33))))))))) _ (retN X30 hx (t := .boolean) Bd.returns (by simp) (hb hby d_bad2_48) hr)), hrun, hended, _, _, rfl, ?_, ⟨_, rfl⟩, hW, hsame.mono (by decide) (by decide)⟩
            show Q_bad2 Z r0 p2 p3 kA v0 v1 v2 v3 h0 n0 _ T30.heap _
            rw [eq30]
            exact ⟨by simp only [f_bad2, if_neg hc2, if_pos hc5, if_neg hc10, if_pos hc26, if_neg hc31], N30, rfl⟩
        · have k34 : Go p.tables e below (T9.setTop (mkF m 29 #[.val (.ref r0), .val (.int (2 : Int32)), .val (.int p2), .val (.int p3), .val (.int v2)] [(.int p3), (.int (3 : Int32))])) (T9.setTop (mkF m 48 #[.val (.ref r0), .val (.int (2 : Int32)), .val (.int p2), .val (.int p3), .val (.int v2)] [(.int (1 : Int32))])) := by
            intro t ht
            refine XS.icmpYes X9.here hx rfl (pc0 := 29) (pc' := 43) rfl (hb hby d_bad2_29) rfl (flt hc26).2.1 (by decide) (by decide) ?_
            show Steps p.tables e below (T9.setTop (mkF m 43 #[.val (.ref r0), .val (.int (2 : Int32)), .val (.int p2), .val (.int p3), .val (.int v2)] [])) _
            refine XS.iconst X9.here hx rfl (hb hby d_bad2_43) ?_
            show Steps p.tables e below (T9.setTop (mkF m 44 #[.val (.ref r0), .val (.int (2 : Int32)), .val (.int p2), .val (.int p3), .val (.int v2)] [(.int (1 : Int32))])) _
            refine XS.goto X9.here hx rfl (pc0 := 44) (pc' := 48) rfl (hb hby d_bad2_44) (by decide) (by decide) ?_
            exact ht
          obtain ⟨fs, hr, hrun, hended, hW, hsame⟩ := X9.leave (v := some (.int (1 : Int32))) (fun h => by rw [Bd.returns] at h; cases h)
          refine ⟨_, _, pre0 _ ((goT k1 (goT k4 (goT k6 (goT k8 (goT k9 (goT k25 k34)))))) _ (retN X9 hx (t := .boolean) Bd.returns (by simp) (hb hby d_bad2_48) hr)), hrun, hended, _, _, rfl, ?_, ⟨_, rfl⟩, hW, hsame.mono (by decide) (by decide)⟩
          show Q_bad2 Z r0 p2 p3 kA v0 v1 v2 v3 h0 n0 _ T9.heap _
          rw [eq9]
          exact ⟨by simp only [f_bad2, if_neg hc2, if_pos hc5, if_neg hc10, if_neg hc26], N9, rfl⟩
    · have k35 : Go p.tables e below (s₁.setTop (mkF m 7 #[.val (.ref r0), .val (.int (2 : Int32)), .val (.int p2), .val (.int p3), .unset] [(.int p3), (.int (2 : Int32))])) (s₁.setTop (mkF m 11 #[.val (.ref r0), .val (.int (2 : Int32)), .val (.int p2), .val (.int p3), .unset] [(.int (0 : Int32))])) := by
        intro t ht
        refine XS.icmpNo X0.here hx rfl (hb hby d_bad2_7) rfl (flt hc5).1 ?_
        show Steps p.tables e below (s₁.setTop (mkF m 10 #[.val (.ref r0), .val (.int (2 : Int32)), .val (.int p2), .val (.int p3), .unset] [])) _
        refine XS.iconst X0.here hx rfl (hb hby d_bad2_10) ?_
        exact ht
      obtain ⟨fs, hr, hrun, hended, hW, hsame⟩ := X0.leave (v := some (.int (0 : Int32))) (fun h => by rw [Bd.returns] at h; cases h)
      refine ⟨_, _, pre0 _ ((goT k1 (goT k4 k35)) _ (retN X0 hx (t := .boolean) Bd.returns (by simp) (hb hby d_bad2_11) hr)), hrun, hended, _, _, rfl, ?_, ⟨_, rfl⟩, hW, hsame.mono (by decide) (by decide)⟩
      show Q_bad2 Z r0 p2 p3 kA v0 v1 v2 v3 h0 n0 _ s₁.heap _
      rw [e0]
      exact ⟨by simp only [f_bad2, if_neg hc2, if_neg hc5], N0, rfl⟩
theorem d_bad3_0 : decode method_5_code 0 = .ok (.iload_n 1, 1) := by decide +kernel
theorem d_bad3_1 : decode method_5_code 1 = .ok (.iload_n 2, 1) := by decide +kernel
theorem d_bad3_2 : decode method_5_code 2 = .ok (.if_icmp .lt 8, 3) := by decide +kernel
theorem d_bad3_5 : decode method_5_code 5 = .ok (.iload_n 1, 1) := by decide +kernel
theorem d_bad3_6 : decode method_5_code 6 = .ok (.iload_n 3, 1) := by decide +kernel
theorem d_bad3_7 : decode method_5_code 7 = .ok (.if_icmp .lt 5, 3) := by decide +kernel
theorem d_bad3_10 : decode method_5_code 10 = .ok (.iconst 0, 1) := by decide +kernel
theorem d_bad3_11 : decode method_5_code 11 = .ok (.ireturn, 1) := by decide +kernel
theorem d_bad3_12 : decode method_5_code 12 = .ok (.aload_n 0, 1) := by decide +kernel
theorem d_bad3_13 : decode method_5_code 13 = .ok (.iload_n 1, 1) := by decide +kernel
theorem d_bad3_14 : decode method_5_code 14 = .ok (.caload, 1) := by decide +kernel
theorem d_bad3_15 : decode method_5_code 15 = .ok (.istore 4, 2) := by decide +kernel
theorem d_bad3_17 : decode method_5_code 17 = .ok (.iload 4, 2) := by decide +kernel
theorem d_bad3_19 : decode method_5_code 19 = .ok (.invokestatic 15, 3) := by decide +kernel
theorem d_bad3_22 : decode method_5_code 22 = .ok (.ifCond .eq 27, 3) := by decide +kernel
theorem d_bad3_25 : decode method_5_code 25 = .ok (.iload_n 1, 1) := by decide +kernel
theorem d_bad3_26 : decode method_5_code 26 = .ok (.iconst 1, 1) := by decide +kernel
theorem d_bad3_27 : decode method_5_code 27 = .ok (.iadd, 1) := by decide +kernel
theorem d_bad3_28 : decode method_5_code 28 = .ok (.iload_n 3, 1) := by decide +kernel
theorem d_bad3_29 : decode method_5_code 29 = .ok (.if_icmp .ge 14, 3) := by decide +kernel
theorem d_bad3_43 : decode method_5_code 43 = .ok (.iconst 1, 1) := by decide +kernel
theorem d_bad3_44 : decode method_5_code 44 = .ok (.goto 4, 3) := by decide +kernel
theorem d_bad3_48 : decode method_5_code 48 = .ok (.ireturn, 1) := by decide +kernel
theorem d_bad3_49 : decode method_5_code 49 = .ok (.iload 4, 2) := by decide +kernel
theorem d_bad3_51 : decode method_5_code 51 = .ok (.invokestatic 21, 3) := by decide +kernel
theorem d_bad3_54 : decode method_5_code 54 = .ok (.ifCond .eq 27, 3) := by decide +kernel
theorem d_bad3_57 : decode method_5_code 57 = .ok (.iload_n 1, 1) := by decide +kernel
theorem d_bad3_58 : decode method_5_code 58 = .ok (.iconst 1, 1) := by decide +kernel
theorem d_bad3_59 : decode method_5_code 59 = .ok (.isub, 1) := by decide +kernel
theorem d_bad3_60 : decode method_5_code 60 = .ok (.iload_n 2, 1) := by decide +kernel
theorem d_bad3_61 : decode method_5_code 61 = .ok (.if_icmp .lt 14, 3) := by decide +kernel
theorem d_bad3_64 : decode method_5_code 64 = .ok (.aload_n 0, 1) := by decide +kernel
theorem d_bad3_65 : decode method_5_code 65 = .ok (.iload_n 1, 1) := by decide +kernel
theorem d_bad3_66 : decode method_5_code 66 = .ok (.iconst 1, 1) := by decide +kernel
theorem d_bad3_67 : decode method_5_code 67 = .ok (.isub, 1) := by decide +kernel
theorem d_bad3_68 : decode method_5_code 68 = .ok (.caload, 1) := by decide +kernel
theorem d_bad3_69 : decode method_5_code 69 = .ok (.invokestatic 15, 3) := by decide +kernel
theorem d_bad3_72 : decode method_5_code 72 = .ok (.ifCond .ne 7, 3) := by decide +kernel
theorem d_bad3_75 : decode method_5_code 75 = .ok (.iconst 1, 1) := by decide +kernel
theorem d_bad3_76 : decode method_5_code 76 = .ok (.goto 4, 3) := by decide +kernel
theorem d_bad3_79 : decode method_5_code 79 = .ok (.iconst 0, 1) := by decide +kernel
theorem d_bad3_80 : decode method_5_code 80 = .ok (.ireturn, 1) := by decide +kernel
theorem d_bad3_81 : decode method_5_code 81 = .ok (.iconst 0, 1) := by decide +kernel
theorem d_bad3_82 : decode method_5_code 82 = .ok (.ireturn, 1) := by decide +kernel
theorem ef_bad3 (m : MethodId) (x0 : Addr) (x2 : Int32) (x3 : Int32) : entryFrame m #[(.ref x0), (.int (3 : Int32)), (.int x2), (.int x3)] 5 = mkF m 0 #[.val (.ref x0), .val (.int (3 : Int32)), .val (.int x2), .val (.int x3), .unset] [] := by first | (simp [entryFrame, mkF, argsToLocals, Value.category]; done) | rfl
def f_bad3 (p2 : Int32) (p3 : Int32) (v2 : Int32) (v3 : Int32) : Int32 := (if (3 : Int32) < p2 then (0 : Int32) else (if (3 : Int32) < p3 then (if (f_isHigh v3) = (0 : Int32) then (if (f_isLow v3) = (0 : Int32) then (0 : Int32) else (if (2 : Int32) < p2 then (1 : Int32) else (if (f_isHigh v2) = (0 : Int32) then (1 : Int32) else (0 : Int32)))) else (1 : Int32)) else (0 : Int32)))
def Q_bad3 (Z : State) (r0 : Addr) (p2 : Int32) (p3 : Int32) (kA : ClassId) (v0 : Int32) (v1 : Int32) (v2 : Int32) (v3 : Int32) (h0 : Heap) (n0 : Nat) (v : Option Value) (h : Heap) (L : List Loc) : Prop := v = some (.int (f_bad3 p2 p3 v2 v3)) ∧ Fr n0 L ∧ h = h0
set_option maxRecDepth 65536 in
set_option maxHeartbeats 40000000 in
theorem rm_bad3 (l : Launch) (Z : State) (a0 : Array Value) (hw : ∀ d ∈ tables_1, d.before a0 Z = true) (ws : List Jvm.Cond) (r0 : Addr) (p2 : Int32) (p3 : Int32) (kA : ClassId) (v0 : Int32) (v1 : Int32) (v2 : Int32) (v3 : Int32) (h0 : Heap) (n0 : Nat) (Z0 : n0 ≤ h0.size) (V_A : Arv Z h0 r0 kA .char (4 : Int32) [(.int v0), (.int v1), (.int v2), (.int v3)] (.int (0 : Int32))) (hlo : ¬ (p2 < (0 : Int32))) (hhi : ¬ ((4 : Int32) < p3)) :
    MetFree l (⟨"com/example/fieldveil/fieldveil/Utf8FirstUnpairedSurrogatePinLaw", "bad", "([CIII)Z"⟩ : MethodName) (head1 (Jvm.Cond.code (⟨"com/example/fieldveil/fieldveil/Utf8FirstUnpairedSurrogatePinLaw", "bad", "([CIII)Z"⟩ : MethodName) method_5_code 5 (some .boolean) :: ws) ({ frames := 1, cells := 0, slots := 0, locals := 12 } : Room)) (fun a U => a = #[(.ref r0), (.int (3 : Int32)), (.int p2), (.int p3)] ∧ Z.Warmed39 U.vm ∧ U.heap = h0) (fun _ _ _ _ _ => True) (fun _ U o U' => ∃ v L, o = .returned v ∧ Q_bad3 Z r0 p2 p3 kA v0 v1 v2 v3 h0 n0 v U'.heap L ∧ FrameEnd U o U' L ({ frames := 1, cells := 0, slots := 0, locals := 12 } : Room).cells ({ frames := 1, cells := 0, slots := 0, locals := 12 } : Room).slots) := by
  refine MetFree.of_bodySF (plainFor_of_name pn_0) hisR ?_
  intro p e s m args below meth c s₁ Bd hml0 hP hK
  obtain ⟨rfl, hZ, hh⟩ := hP
  have hx := Bd.exec
  have hby := Bd.bytes
  have hml : c.maxLocals = 5 := hml0
  have hown : s.vm.findClass "com/example/fieldveil/fieldveil/Utf8FirstUnpairedSurrogatePinLaw" = some m.cls := findClass_of_methodNamed Bd.named
  have hnm := (name_of_methodNamed Bd.named Bd.method).1
  have X0 : Stand p l e ({ frames := 1, cells := 0, slots := 0, locals := 12 } : Room) s m #[(.ref r0), (.int (3 : Int32)), (.int p2), (.int p3)] below meth c s₁ [] 0 0 := Stand.of_body Bd
  have e0 : s₁.heap = h0 := by rw [← hh, Bd.state]; rfl
  have N0 := Fr.nil n0
  have pre0 : ∀ t, Steps p.tables e below (s₁.setTop (mkF m 0 #[.val (.ref r0), .val (.int (3 : Int32)), .val (.int p2), .val (.int p3), .unset] [])) t → Steps p.tables e below (s₁.setTop (entryFrame m #[(.ref r0), (.int (3 : Int32)), (.int p2), (.int p3)] 5)) t := fun t k => castTop (ef_bad3 m r0 p2 p3) k
  have k1 : Go p.tables e below (s₁.setTop (mkF m 0 #[.val (.ref r0), .val (.int (3 : Int32)), .val (.int p2), .val (.int p3), .unset] [])) (s₁.setTop (mkF m 2 #[.val (.ref r0), .val (.int (3 : Int32)), .val (.int p2), .val (.int p3), .unset] [(.int p2), (.int (3 : Int32))])) := by
    intro t ht
    refine XS.iloadN X0.here hx rfl (hb hby d_bad3_0) rfl ?_
    show Steps p.tables e below (s₁.setTop (mkF m 1 #[.val (.ref r0), .val (.int (3 : Int32)), .val (.int p2), .val (.int p3), .unset] [(.int (3 : Int32))])) _
    refine XS.iloadN X0.here hx rfl (hb hby d_bad3_1) rfl ?_
    exact ht
  by_cases hc2 : (3 : Int32) < p2
  · have k3 : Go p.tables e below (s₁.setTop (mkF m 2 #[.val (.ref r0), .val (.int (3 : Int32)), .val (.int p2), .val (.int p3), .unset] [(.int p2), (.int (3 : Int32))])) (s₁.setTop (mkF m 11 #[.val (.ref r0), .val (.int (3 : Int32)), .val (.int p2), .val (.int p3), .unset] [(.int (0 : Int32))])) := by
      intro t ht
      refine XS.icmpYes X0.here hx rfl (pc0 := 2) (pc' := 10) rfl (hb hby d_bad3_2) rfl (tlt hc2).1 (by decide) (by decide) ?_
      show Steps p.tables e below (s₁.setTop (mkF m 10 #[.val (.ref r0), .val (.int (3 : Int32)), .val (.int p2), .val (.int p3), .unset] [])) _
      refine XS.iconst X0.here hx rfl (hb hby d_bad3_10) ?_
      exact ht
    obtain ⟨fs, hr, hrun, hended, hW, hsame⟩ := X0.leave (v := some (.int (0 : Int32))) (fun h => by rw [Bd.returns] at h; cases h)
    refine ⟨_, _, pre0 _ ((goT k1 k3) _ (retN X0 hx (t := .boolean) Bd.returns (by simp) (hb hby d_bad3_11) hr)), hrun, hended, _, _, rfl, ?_, ⟨_, rfl⟩, hW, hsame.mono (by decide) (by decide)⟩
    show Q_bad3 Z r0 p2 p3 kA v0 v1 v2 v3 h0 n0 _ s₁.heap _
    rw [e0]
    exact ⟨by simp only [f_bad3, if_pos hc2], N0, rfl⟩
  · have k4 : Go p.tables e below (s₁.setTop (mkF m 2 #[.val (.ref r0), .val (.int (3 : Int32)), .val (.int p2), .val (.int p3), .unset] [(.int p2), (.int (3 : Int32))])) (s₁.setTop (mkF m 7 #[.val (.ref r0), .val (.int (3 : Int32)), .val (.int p2), .val (.int p3), .unset] [(.int p3), (.int (3 : Int32))])) := by
      intro t ht
      refine XS.icmpNo X0.here hx rfl (hb hby d_bad3_2) rfl (flt hc2).1 ?_
      show Steps p.tables e below (s₁.setTop (mkF m 5 #[.val (.ref r0), .val (.int (3 : Int32)), .val (.int p2), .val (.int p3), .unset] [])) _
      refine XS.iloadN X0.here hx rfl (hb hby d_bad3_5) rfl ?_
      show Steps p.tables e below (s₁.setTop (mkF m 6 #[.val (.ref r0), .val (.int (3 : Int32)), .val (.int p2), .val (.int p3), .unset] [(.int (3 : Int32))])) _
      refine XS.iloadN X0.here hx rfl (hb hby d_bad3_6) rfl ?_
      exact ht
    by_cases hc5 : (3 : Int32) < p3
    · have k6 : Go p.tables e below (s₁.setTop (mkF m 7 #[.val (.ref r0), .val (.int (3 : Int32)), .val (.int p2), .val (.int p3), .unset] [(.int p3), (.int (3 : Int32))])) (s₁.setTop (mkF m 14 #[.val (.ref r0), .val (.int (3 : Int32)), .val (.int p2), .val (.int p3), .unset] [(.int (3 : Int32)), (.ref r0)])) := by
        intro t ht
        refine XS.icmpYes X0.here hx rfl (pc0 := 7) (pc' := 12) rfl (hb hby d_bad3_7) rfl (tlt hc5).1 (by decide) (by decide) ?_
        show Steps p.tables e below (s₁.setTop (mkF m 12 #[.val (.ref r0), .val (.int (3 : Int32)), .val (.int p2), .val (.int p3), .unset] [])) _
        refine XS.aloadN X0.here hx rfl (hb hby d_bad3_12) rfl rfl ?_
        show Steps p.tables e below (s₁.setTop (mkF m 13 #[.val (.ref r0), .val (.int (3 : Int32)), .val (.int p2), .val (.int p3), .unset] [(.ref r0)])) _
        refine XS.iloadN X0.here hx rfl (hb hby d_bad3_13) rfl ?_
        exact ht
      obtain ⟨cl7, Ar7, q7, S7, M7, H7, G7⟩ := id V_A
      have hin7 : ¬ ((3 : Int32) < 0 ∨ cl7.slots.size ≤ ((3 : Int32)).toNatClampNeg) := inb_of S7 ⟨by decide, by decide⟩
      have hat7 : cl7.slots[((3 : Int32)).toNatClampNeg]? = some (.int v3) := (H7 _ (Nat.lt_of_not_le fun y => hin7 (Or.inr y))).trans (congrArg some (rfl))
      have k8 : Go p.tables e below (s₁.setTop (mkF m 14 #[.val (.ref r0), .val (.int (3 : Int32)), .val (.int p2), .val (.int p3), .unset] [(.int (3 : Int32)), (.ref r0)])) (s₁.setTop (mkF m 19 #[.val (.ref r0), .val (.int (3 : Int32)), .val (.int p2), .val (.int p3), .val (.int v3)] [(.int v3)])) := by
        intro t ht
        refine X0.caload hx (j := (3 : Int32)) (v := (.int v3)) (by rw [e0]; exact Ar7.1) (State.isArrayOf_alike hZ.alike Ar7.2.1) Ar7.2.2 hin7 hat7 (g := (mkF m 14 #[.val (.ref r0), .val (.int (3 : Int32)), .val (.int p2), .val (.int p3), .unset] [(.int (3 : Int32)), (.ref r0)])) rfl rfl (hb hby d_bad3_14) _ ?_
        show Steps p.tables e below (s₁.setTop (mkF m 15 #[.val (.ref r0), .val (.int (3 : Int32)), .val (.int p2), .val (.int p3), .unset] [(.int v3)])) _
        refine XS.istore X0.here hx rfl (hb hby d_bad3_15) rfl (l' := #[.val (.ref r0), .val (.int (3 : Int32)), .val (.int p2), .val (.int p3), .val (.int v3)]) rfl ?_
        show Steps p.tables e below (s₁.setTop (mkF m 17 #[.val (.ref r0), .val (.int (3 : Int32)), .val (.int p2), .val (.int p3), .val (.int v3)] [])) _
        refine XS.iload X0.here hx rfl (hb hby d_bad3_17) rfl ?_
        exact ht
      obtain ⟨_, _, ⟨T9, L9, kq9, n9⟩, -, X9, ⟨Lc9, hQ9, l9, y9, z9⟩, st9⟩ := Jvm.LawKit.callS X0 hx (y := (⟨"com/example/fieldveil/fieldveil/Utf8FirstUnpairedSurrogatePinLaw", "isHigh", "(C)Z"⟩ : MethodName)) hown (mvT hZ (hw _ (List.mem_of_getElem? (i := 23) rfl))) (mvT hZ (hw _ (List.mem_of_getElem? (i := 24) rfl))) (mvT hZ (hw _ (List.mem_of_getElem? (i := 3) rfl))) (mvT hZ (hw _ (List.mem_of_getElem? (i := 25) rfl))) (by decide) (backOf (W := 0) (rm_isHigh l Z a0 hw [] v3 h0 n0 Z0 ) hZ (hw _ (List.mem_of_getElem? (i := 25) rfl)) (hw _ (List.mem_of_getElem? (i := 3) rfl)) (by decide) (by decide)) (g := (mkF m 19 #[.val (.ref r0), .val (.int (3 : Int32)), .val (.int p2), .val (.int p3), .val (.int v3)] [(.int v3)])) rfl (by rw [hml]; rfl) (argsL := [(.int v3)]) (rest := []) (lenOf pd_0 rfl) rfl (by show 2 * 0 + _ ≤ _; exact Nat.le_of_eq rfl) (hb hby d_bad3_19) (fun _ _ => ⟨rfl, e0, (by decide : 0 + 0 ≤ _), (by decide : 0 + 0 ≤ _)⟩)
      dsimp only [Pt.U, Pt.locs, Pt.cells, Pt.slots] at X9 l9 y9 z9 st9 hQ9
      subst l9 y9 z9
      obtain ⟨rfl, N9q, eq9⟩ := hQ9
      have N9 := Fr.app N0 N9q
      have k9 : Go p.tables e below (s₁.setTop (mkF m 19 #[.val (.ref r0), .val (.int (3 : Int32)), .val (.int p2), .val (.int p3), .val (.int v3)] [(.int v3)])) (T9.setTop (mkF m 22 #[.val (.ref r0), .val (.int (3 : Int32)), .val (.int p2), .val (.int p3), .val (.int v3)] [(.int (f_isHigh v3))])) := st9
      by_cases hc10 : (f_isHigh v3) = (0 : Int32)
      · have k11 : Go p.tables e below (T9.setTop (mkF m 22 #[.val (.ref r0), .val (.int (3 : Int32)), .val (.int p2), .val (.int p3), .val (.int v3)] [(.int (f_isHigh v3))])) (T9.setTop (mkF m 51 #[.val (.ref r0), .val (.int (3 : Int32)), .val (.int p2), .val (.int p3), .val (.int v3)] [(.int v3)])) := by
          intro t ht
          refine XS.ifYes X9.here hx rfl (pc0 := 22) (pc' := 49) rfl (hb hby d_bad3_22) rfl ((if0 _ _).trans (teq hc10).1) (by decide) (by decide) ?_
          show Steps p.tables e below (T9.setTop (mkF m 49 #[.val (.ref r0), .val (.int (3 : Int32)), .val (.int p2), .val (.int p3), .val (.int v3)] [])) _
          refine XS.iload X9.here hx rfl (hb hby d_bad3_49) rfl ?_
          exact ht
        obtain ⟨_, _, ⟨T12, L12, kq12, n12⟩, -, X12, ⟨Lc12, hQ12, l12, y12, z12⟩, st12⟩ := Jvm.LawKit.callS X9 hx (y := (⟨"com/example/fieldveil/fieldveil/Utf8FirstUnpairedSurrogatePinLaw", "isLow", "(C)Z"⟩ : MethodName)) hown (mvT hZ (hw _ (List.mem_of_getElem? (i := 27) rfl))) (mvT hZ (hw _ (List.mem_of_getElem? (i := 28) rfl))) (mvT hZ (hw _ (List.mem_of_getElem? (i := 3) rfl))) (mvT hZ (hw _ (List.mem_of_getElem? (i := 29) rfl))) (by decide) (backOf (W := 0) (rm_isLow l Z a0 hw [] v3 h0 n0 Z0 ) hZ (hw _ (List.mem_of_getElem? (i := 29) rfl)) (hw _ (List.mem_of_getElem? (i := 3) rfl)) (by decide) (by decide)) (g := (mkF m 51 #[.val (.ref r0), .val (.int (3 : Int32)), .val (.int p2), .val (.int p3), .val (.int v3)] [(.int v3)])) rfl (by rw [hml]; rfl) (argsL := [(.int v3)]) (rest := []) (lenOf pd_0 rfl) rfl (by show 2 * 0 + _ ≤ _; exact Nat.le_of_eq rfl) (hb hby d_bad3_51) (fun _ _ => ⟨rfl, eq9, (by decide : 0 + 0 ≤ _), (by decide : 0 + 0 ≤ _)⟩)
        dsimp only [Pt.U, Pt.locs, Pt.cells, Pt.slots] at X12 l12 y12 z12 st12 hQ12
        subst l12 y12 z12
        obtain ⟨rfl, N12q, eq12⟩ := hQ12
        have N12 := Fr.app N9 N12q
        have k12 : Go p.tables e below (T9.setTop (mkF m 51 #[.val (.ref r0), .val (.int (3 : Int32)), .val (.int p2), .val (.int p3), .val (.int v3)] [(.int v3)])) (T12.setTop (mkF m 54 #[.val (.ref r0), .val (.int (3 : Int32)), .val (.int p2), .val (.int p3), .val (.int v3)] [(.int (f_isLow v3))])) := st12
        by_cases hc13 : (f_isLow v3) = (0 : Int32)
        · have k14 : Go p.tables e below (T12.setTop (mkF m 54 #[.val (.ref r0), .val (.int (3 : Int32)), .val (.int p2), .val (.int p3), .val (.int v3)] [(.int (f_isLow v3))])) (T12.setTop (mkF m 82 #[.val (.ref r0), .val (.int (3 : Int32)), .val (.int p2), .val (.int p3), .val (.int v3)] [(.int (0 : Int32))])) := by
            intro t ht
            refine XS.ifYes X12.here hx rfl (pc0 := 54) (pc' := 81) rfl (hb hby d_bad3_54) rfl ((if0 _ _).trans (teq hc13).1) (by decide) (by decide) ?_
            show Steps p.tables e below (T12.setTop (mkF m 81 #[.val (.ref r0), .val (.int (3 : Int32)), .val (.int p2), .val (.int p3), .val (.int v3)] [])) _
            refine XS.iconst X12.here hx rfl (hb hby d_bad3_81) ?_
            exact ht
          obtain ⟨fs, hr, hrun, hended, hW, hsame⟩ := X12.leave (v := some (.int (0 : Int32))) (fun h => by rw [Bd.returns] at h; cases h)
          refine ⟨_, _, pre0 _ ((goT k1 (goT k4 (goT k6 (goT k8 (goT k9 (goT k11 (goT k12 k14))))))) _ (retN X12 hx (t := .boolean) Bd.returns (by simp) (hb hby d_bad3_82) hr)), hrun, hended, _, _, rfl, ?_, ⟨_, rfl⟩, hW, hsame.mono (by decide) (by decide)⟩
          show Q_bad3 Z r0 p2 p3 kA v0 v1 v2 v3 h0 n0 _ T12.heap _
          rw [eq12]
          exact ⟨by simp only [f_bad3, if_neg hc2, if_pos hc5, if_pos hc10, if_pos hc13], N12, rfl⟩
        · have k15 : Go p.tables e below (T12.setTop (mkF m 54 #[.val (.ref r0), .val (.int (3 : Int32)), .val (.int p2), .val (.int p3), .val (.int v3)] [(.int (f_isLow v3))])) (T12.setTop (mkF m 61 #[.val (.ref r0), .val (.int (3 : Int32)), .val (.int p2), .val (.int p3), .val (.int v3)] [(.int p2), (.int (2 : Int32))])) := by
            intro t ht
            refine XS.ifNo X12.here hx rfl (hb hby d_bad3_54) rfl ((if0 _ _).trans (feq hc13).1) ?_
            show Steps p.tables e below (T12.setTop (mkF m 57 #[.val (.ref r0), .val (.int (3 : Int32)), .val (.int p2), .val (.int p3), .val (.int v3)] [])) _
            refine XS.iloadN X12.here hx rfl (hb hby d_bad3_57) rfl ?_
            show Steps p.tables e below (T12.setTop (mkF m 58 #[.val (.ref r0), .val (.int (3 : Int32)), .val (.int p2), .val (.int p3), .val (.int v3)] [(.int (3 : Int32))])) _
            refine XS.iconst X12.here hx rfl (hb hby d_bad3_58) ?_
            show Steps p.tables e below (T12.setTop (mkF m 59 #[.val (.ref r0), .val (.int (3 : Int32)), .val (.int p2), .val (.int p3), .val (.int v3)] [(.int (1 : Int32)), (.int (3 : Int32))])) _
            refine XS.isub X12.here hx rfl (hb hby d_bad3_59) rfl ?_
            show Steps p.tables e below (T12.setTop (mkF m 60 #[.val (.ref r0), .val (.int (3 : Int32)), .val (.int p2), .val (.int p3), .val (.int v3)] [(.int (2 : Int32))])) _
            refine XS.iloadN X12.here hx rfl (hb hby d_bad3_60) rfl ?_
            exact ht
          by_cases hc16 : (2 : Int32) < p2
          · have k17 : Go p.tables e below (T12.setTop (mkF m 61 #[.val (.ref r0), .val (.int (3 : Int32)), .val (.int p2), .val (.int p3), .val (.int v3)] [(.int p2), (.int (2 : Int32))])) (T12.setTop (mkF m 80 #[.val (.ref r0), .val (.int (3 : Int32)), .val (.int p2), .val (.int p3), .val (.int v3)] [(.int (1 : Int32))])) := by
              intro t ht
              refine XS.icmpYes X12.here hx rfl (pc0 := 61) (pc' := 75) rfl (hb hby d_bad3_61) rfl (tlt hc16).1 (by decide) (by decide) ?_
              show Steps p.tables e below (T12.setTop (mkF m 75 #[.val (.ref r0), .val (.int (3 : Int32)), .val (.int p2), .val (.int p3), .val (.int v3)] [])) _
              refine XS.iconst X12.here hx rfl (hb hby d_bad3_75) ?_
              show Steps p.tables e below (T12.setTop (mkF m 76 #[.val (.ref r0), .val (.int (3 : Int32)), .val (.int p2), .val (.int p3), .val (.int v3)] [(.int (1 : Int32))])) _
              refine XS.goto X12.here hx rfl (pc0 := 76) (pc' := 80) rfl (hb hby d_bad3_76) (by decide) (by decide) ?_
              exact ht
            obtain ⟨fs, hr, hrun, hended, hW, hsame⟩ := X12.leave (v := some (.int (1 : Int32))) (fun h => by rw [Bd.returns] at h; cases h)
            refine ⟨_, _, pre0 _ ((goT k1 (goT k4 (goT k6 (goT k8 (goT k9 (goT k11 (goT k12 (goT k15 k17)))))))) _ (retN X12 hx (t := .boolean) Bd.returns (by simp) (hb hby d_bad3_80) hr)), hrun, hended, _, _, rfl, ?_, ⟨_, rfl⟩, hW, hsame.mono (by decide) (by decide)⟩
            show Q_bad3 Z r0 p2 p3 kA v0 v1 v2 v3 h0 n0 _ T12.heap _
            rw [eq12]
            exact ⟨by simp only [f_bad3, if_neg hc2, if_pos hc5, if_pos hc10, if_neg hc13, if_pos hc16], N12, rfl⟩
          · have k18 : Go p.tables e below (T12.setTop (mkF m 61 #[.val (.ref r0), .val (.int (3 : Int32)), .val (.int p2), .val (.int p3), .val (.int v3)] [(.int p2), (.int (2 : Int32))])) (T12.setTop (mkF m 68 #[.val (.ref r0), .val (.int (3 : Int32)), .val (.int p2), .val (.int p3), .val (.int v3)] [(.int (2 : Int32)), (.ref r0)])) := by
              intro t ht
              refine XS.icmpNo X12.here hx rfl (hb hby d_bad3_61) rfl (flt hc16).1 ?_
              show Steps p.tables e below (T12.setTop (mkF m 64 #[.val (.ref r0), .val (.int (3 : Int32)), .val (.int p2), .val (.int p3), .val (.int v3)] [])) _
              refine XS.aloadN X12.here hx rfl (hb hby d_bad3_64) rfl rfl ?_
              show Steps p.tables e below (T12.setTop (mkF m 65 #[.val (.ref r0), .val (.int (3 : Int32)), .val (.int p2), .val (.int p3), .val (.int v3)] [(.ref r0)])) _
              refine XS.iloadN X12.here hx rfl (hb hby d_bad3_65) rfl ?_
              show Steps p.tables e below (T12.setTop (mkF m 66 #[.val (.ref r0), .val (.int (3 : Int32)), .val (.int p2), .val (.int p3), .val (.int v3)] [(.int (3 : Int32)), (.ref r0)])) _
              refine XS.iconst X12.here hx rfl (hb hby d_bad3_66) ?_
              show Steps p.tables e below (T12.setTop (mkF m 67 #[.val (.ref r0), .val (.int (3 : Int32)), .val (.int p2), .val (.int p3), .val (.int v3)] [(.int (1 : Int32)), (.int (3 : Int32)), (.ref r0)])) _
              refine XS.isub X12.here hx rfl (hb hby d_bad3_67) rfl ?_
              exact ht
            obtain ⟨cl19, Ar19, q19, S19, M19, H19, G19⟩ := id V_A
            have hin19 : ¬ ((2 : Int32) < 0 ∨ cl19.slots.size ≤ ((2 : Int32)).toNatClampNeg) := inb_of S19 ⟨by decide, by decide⟩
            have hat19 : cl19.slots[((2 : Int32)).toNatClampNeg]? = some (.int v2) := (H19 _ (Nat.lt_of_not_le fun y => hin19 (Or.inr y))).trans (congrArg some (rfl))
            have k20 : Go p.tables e below (T12.setTop (mkF m 68 #[.val (.ref r0), .val (.int (3 : Int32)), .val (.int p2), .val (.int p3), .val (.int v3)] [(.int (2 : Int32)), (.ref r0)])) (T12.setTop (mkF m 69 #[.val (.ref r0), .val (.int (3 : Int32)), .val (.int p2), .val (.int p3), .val (.int v3)] [(.int v2)])) := by
              intro t ht
              refine X12.caload hx (j := (2 : Int32)) (v := (.int v2)) (by rw [eq12]; exact Ar19.1) (State.isArrayOf_alike hZ.alike Ar19.2.1) Ar19.2.2 hin19 hat19 (g := (mkF m 68 #[.val (.ref r0), .val (.int (3 : Int32)), .val (.int p2), .val (.int p3), .val (.int v3)] [(.int (2 : Int32)), (.ref r0)])) rfl rfl (hb hby d_bad3_68) _ ?_
              exact ht
            obtain ⟨_, _, ⟨T21, L21, kq21, n21⟩, -, X21, ⟨Lc21, hQ21, l21, y21, z21⟩, st21⟩ := Jvm.LawKit.callS X12 hx (y := (⟨"com/example/fieldveil/fieldveil/Utf8FirstUnpairedSurrogatePinLaw", "isHigh", "(C)Z"⟩ : MethodName)) hown (mvT hZ (hw _ (List.mem_of_getElem? (i := 23) rfl))) (mvT hZ (hw _ (List.mem_of_getElem? (i := 24) rfl))) (mvT hZ (hw _ (List.mem_of_getElem? (i := 3) rfl))) (mvT hZ (hw _ (List.mem_of_getElem? (i := 25) rfl))) (by decide) (backOf (W := 0) (rm_isHigh l Z a0 hw [] v2 h0 n0 Z0 ) hZ (hw _ (List.mem_of_getElem? (i := 25) rfl)) (hw _ (List.mem_of_getElem? (i := 3) rfl)) (by decide) (by decide)) (g := (mkF m 69 #[.val (.ref r0), .val (.int (3 : Int32)), .val (.int p2), .val (.int p3), .val (.int v3)] [(.int v2)])) rfl (by rw [hml]; rfl) (argsL := [(.int v2)]) (rest := []) (lenOf pd_0 rfl) rfl (by show 2 * 0 + _ ≤ _; exact Nat.le_of_eq rfl) (hb hby d_bad3_69) (fun _ _ => ⟨rfl, eq12, (by decide : 0 + 0 ≤ _), (by decide : 0 + 0 ≤ _)⟩)
            dsimp only [Pt.U, Pt.locs, Pt.cells, Pt.slots] at X21 l21 y21 z21 st21 hQ21
            subst l21 y21 z21
            obtain ⟨rfl, N21q, eq21⟩ := hQ21
            have N21 := Fr.app N12 N21q
            have k21 : Go p.tables e below (T12.setTop (mkF m 69 #[.val (.ref r0), .val (.int (3 : Int32)), .val (.int p2), .val (.int p3), .val (.int v3)] [(.int v2)])) (T21.setTop (mkF m 72 #[.val (.ref r0), .val (.int (3 : Int32)), .val (.int p2), .val (.int p3), .val (.int v3)] [(.int (f_isHigh v2))])) := st21
            by_cases hc22 : (f_isHigh v2) = (0 : Int32)
            · have k23 : Go p.tables e below (T21.setTop (mkF m 72 #[.val (.ref r0), .val (.int (3 : Int32)), .val (.int p2), .val (.int p3), .val (.int v3)] [(.int (f_isHigh v2))])) (T21.setTop (mkF m 80 #[.val (.ref r0), .val (.int (3 : Int32)), .val (.int p2), .val (.int p3), .val (.int v3)] [(.int (1 : Int32))])) := by
                intro t ht
                refine XS.ifNo X21.here hx rfl (hb hby d_bad3_72) rfl ((if0 _ _).trans (teq hc22).2) ?_
                show Steps p.tables e below (T21.setTop (mkF m 75 #[.val (.ref r0), .val (.int (3 : Int32)), .val (.int p2), .val (.int p3), .val (.int v3)] [])) _
                refine XS.iconst X21.here hx rfl (hb hby d_bad3_75) ?_
                show Steps p.tables e below (T21.setTop (mkF m 76 #[.val (.ref r0), .val (.int (3 : Int32)), .val (.int p2), .val (.int p3), .val (.int v3)] [(.int (1 : Int32))])) _
                refine XS.goto X21.here hx rfl (pc0 := 76) (pc' := 80) rfl (hb hby d_bad3_76) (by decide) (by decide) ?_
                exact ht
              obtain ⟨fs, hr, hrun, hended, hW, hsame⟩ := X21.leave (v := some (.int (1 : Int32))) (fun h => by rw [Bd.returns] at h; cases h)
              refine ⟨_, _, pre0 _ ((goT k1 (goT k4 (goT k6 (goT k8 (goT k9 (goT k11 (goT k12 (goT k15 (goT k18 (goT k20 (goT k21 k23))))))))))) _ (retN X21 hx (t := .boolean) Bd.returns (by simp) (hb hby d_bad3_80) hr)), hrun, hended, _, _, rfl, ?_, ⟨_, rfl⟩, hW, hsame.mono (by decide) (by decide)⟩
              show Q_bad3 Z r0 p2 p3 kA v0 v1 v2 v3 h0 n0 _ T21.heap _
              rw [eq21]
              exact ⟨by simp only [f_bad3, if_neg hc2, if_pos hc5, if_pos hc10, if_neg hc13, if_neg hc16, if_pos hc22], N21, rfl⟩
            · have k24 : Go p.tables e below (T21.setTop (mkF m 72 #[.val (.ref r0), .val (.int (3 : Int32)), .val (.int p2), .val (.int p3), .val (.int v3)] [(.int (f_isHigh v2))])) (T21.setTop (mkF m 80 #[.val (.ref r0), .val (.int (3 : Int32)), .val (.int p2), .val (.int p3), .val (.int v3)] [(.int (0 : Int32))])) := by
                intro t ht
                refine XS.ifYes X21.here hx rfl (pc0 := 72) (pc' := 79) rfl (hb hby d_bad3_72) rfl ((if0 _ _).trans (feq hc22).2) (by decide) (by decide) ?_
                show Steps p.tables e below (T21.setTop (mkF m 79 #[.val (.ref r0), .val (.int (3 : Int32)), .val (.int p2), .val (.int p3), .val (.int v3)] [])) _
                refine XS.iconst X21.here hx rfl (hb hby d_bad3_79) ?_
                exact ht
              obtain ⟨fs, hr, hrun, hended, hW, hsame⟩ := X21.leave (v := some (.int (0 : Int32))) (fun h => by rw [Bd.returns] at h; cases h)
              refine ⟨_, _, pre0 _ ((goT k1 (goT k4 (goT k6 (goT k8 (goT k9 (goT k11 (goT k12 (goT k15 (goT k18 (goT k20 (goT k21 k24))))))))))) _ (retN X21 hx (t := .boolean) Bd.returns (by simp) (hb hby d_bad3_80) hr)), hrun, hended, _, _, rfl, ?_, ⟨_, rfl⟩, hW, hsame.mono (by decide) (by decide)⟩
              show Q_bad3 Z r0 p2 p3 kA v0 v1 v2 v3 h0 n0 _ T21.heap _
              rw [eq21]
              exact ⟨by simp only [f_bad3, if_neg hc2, if_pos hc5, if_pos hc10, if_neg hc13, if_neg hc16, if_neg hc22], N21, rfl⟩
      · have k25 : Go p.tables e below (T9.setTop (mkF m 22 #[.val (.ref r0), .val (.int (3 : Int32)), .val (.int p2), .val (.int p3), .val (.int v3)] [(.int (f_isHigh v3))])) (T9.setTop (mkF m 48 #[.val (.ref r0), .val (.int (3 : Int32)), .val (.int p2), .val (.int p3), .val (.int v3)] [(.int (1 : Int32))])) := by
          intro t ht
          refine XS.ifNo X9.here hx rfl (hb hby d_bad3_22) rfl ((if0 _ _).trans (feq hc10).1) ?_
          show Steps p.tables e below (T9.setTop (mkF m 25 #[.val (.ref r0), .val (.int (3 : Int32)), .val (.int p2), .val (.int p3), .val (.int v3)] [])) _
          refine XS.iloadN X9.here hx rfl (hb hby d_bad3_25) rfl ?_
          show Steps p.tables e below (T9.setTop (mkF m 26 #[.val (.ref r0), .val (.int (3 : Int32)), .val (.int p2), .val (.int p3), .val (.int v3)] [(.int (3 : Int32))])) _
          refine XS.iconst X9.here hx rfl (hb hby d_bad3_26) ?_
          show Steps p.tables e below (T9.setTop (mkF m 27 #[.val (.ref r0), .val (.int (3 : Int32)), .val (.int p2), .val (.int p3), .val (.int v3)] [(.int (1 : Int32)), (.int (3 : Int32))])) _
          refine XS.iadd X9.here hx rfl (hb hby d_bad3_27) rfl ?_
          show Steps p.tables e below (T9.setTop (mkF m 28 #[.val (.ref r0), .val (.int (3 : Int32)), .val (.int p2), .val (.int p3), .val (.int v3)] [(.int (4 : Int32))])) _
          refine XS.iloadN X9.here hx rfl (hb hby d_bad3_28) rfl ?_
          show Steps p.tables e below (T9.setTop (mkF m 29 #[.val (.ref r0), .val (.int (3 : Int32)), .val (.int p2), .val (.int p3), .val (.int v3)] [(.int p3), (.int (4 : Int32))])) _
          refine XS.icmpYes X9.here hx rfl (pc0 := 29) (pc' := 43) rfl (hb hby d_bad3_29) rfl (flt (own_b1 hhi : ¬ ((4 : Int32) < p3))).2.1 (by decide) (by decide) ?_
          show Steps p.tables e below (T9.setTop (mkF m 43 #[.val (.ref r0), .val (.int (3 : Int32)), .val (.int p2), .val (.int p3), .val (.int v3)] [])) _
          refine XS.iconst X9.here hx rfl (hb hby d_bad3_43) ?_
          show Steps p.tables e below (T9.setTop (mkF m 44 #[.val (.ref r0), .val (.int (3 : Int32)), .val (.int p2), .val (.int p3), .val (.int v3)] [(.int (1 : Int32))])) _
          refine XS.goto X9.here hx rfl (pc0 := 44) (pc' := 48) rfl (hb hby d_bad3_44) (by decide) (by decide) ?_
          exact ht
        obtain ⟨fs, hr, hrun, hended, hW, hsame⟩ := X9.leave (v := some (.int (1 : Int32))) (fun h => by rw [Bd.returns] at h; cases h)
        refine ⟨_, _, pre0 _ ((goT k1 (goT k4 (goT k6 (goT k8 (goT k9 k25))))) _ (retN X9 hx (t := .boolean) Bd.returns (by simp) (hb hby d_bad3_48) hr)), hrun, hended, _, _, rfl, ?_, ⟨_, rfl⟩, hW, hsame.mono (by decide) (by decide)⟩
        show Q_bad3 Z r0 p2 p3 kA v0 v1 v2 v3 h0 n0 _ T9.heap _
        rw [eq9]
        exact ⟨by simp only [f_bad3, if_neg hc2, if_pos hc5, if_neg hc10], N9, rfl⟩
    · have k26 : Go p.tables e below (s₁.setTop (mkF m 7 #[.val (.ref r0), .val (.int (3 : Int32)), .val (.int p2), .val (.int p3), .unset] [(.int p3), (.int (3 : Int32))])) (s₁.setTop (mkF m 11 #[.val (.ref r0), .val (.int (3 : Int32)), .val (.int p2), .val (.int p3), .unset] [(.int (0 : Int32))])) := by
        intro t ht
        refine XS.icmpNo X0.here hx rfl (hb hby d_bad3_7) rfl (flt hc5).1 ?_
        show Steps p.tables e below (s₁.setTop (mkF m 10 #[.val (.ref r0), .val (.int (3 : Int32)), .val (.int p2), .val (.int p3), .unset] [])) _
        refine XS.iconst X0.here hx rfl (hb hby d_bad3_10) ?_
        exact ht
      obtain ⟨fs, hr, hrun, hended, hW, hsame⟩ := X0.leave (v := some (.int (0 : Int32))) (fun h => by rw [Bd.returns] at h; cases h)
      refine ⟨_, _, pre0 _ ((goT k1 (goT k4 k26)) _ (retN X0 hx (t := .boolean) Bd.returns (by simp) (hb hby d_bad3_11) hr)), hrun, hended, _, _, rfl, ?_, ⟨_, rfl⟩, hW, hsame.mono (by decide) (by decide)⟩
      show Q_bad3 Z r0 p2 p3 kA v0 v1 v2 v3 h0 n0 _ s₁.heap _
      rw [e0]
      exact ⟨by simp only [f_bad3, if_neg hc2, if_neg hc5], N0, rfl⟩
theorem d_tail5_2 : decode prog_9_method_3_code 2 = .ok (.iload_n 3, 1) := by decide +kernel
theorem d_tail5_3 : decode prog_9_method_3_code 3 = .ok (.iload_n 2, 1) := by decide +kernel
theorem d_tail5_4 : decode prog_9_method_3_code 4 = .ok (.if_icmp .ge 56, 3) := by decide +kernel
theorem d_tail5_60 : decode prog_9_method_3_code 60 = .ok (.iconst (-1), 1) := by decide +kernel
theorem d_tail5_61 : decode prog_9_method_3_code 61 = .ok (.ireturn, 1) := by decide +kernel
def f_tail5 (v0 v1 v2 v3 p2 : Int32) : Int32 := (-1 : Int32)
set_option maxRecDepth 65536 in
set_option maxHeartbeats 40000000 in
theorem pc_tail5 {p : Program} {l : Launch} {e : Env} {s : State} {m : MethodId} {below : List Frame} {meth : Method} {c : Code} {T0 : State} {locs : List Loc} {Z : State} {a0 : Array Value} {h0 : Heap} {n0 : Nat} (r0 : Addr) (p1 p2 : Int32) (kA : ClassId) (v0 v1 v2 v3 : Int32) (s4 : Slot)
    (X0 : Stand p l e ({ frames := 1, cells := 0, slots := 0, locals := 12 } : Room) s m #[(.ref r0), (.int p1), (.int p2)] below meth c T0 locs 0 0) (hx : p.tables.exec = Jvm.exec) (hZ : Z.Warmed39 s.vm) (hw : ∀ d ∈ tables_1, d.before a0 Z = true) (hby : c.code = prog_9_method_3_code) (hml : c.maxLocals = 5) (hown : s.vm.findClass "com/example/fieldveil/fieldveil/Utf8" = some m.cls) (e0 : T0.heap = h0) (N0 : Fr n0 locs) (Z0 : n0 ≤ h0.size) (V_A : Arv Z h0 r0 kA .char (4 : Int32) [(.int v0), (.int v1), (.int v2), (.int v3)] (.int (0 : Int32))) (h4 : One s4) (hhi : ¬ ((4 : Int32) < p2)) :
    ∃ (T' : State) (L' : List Loc) (pc : Nat) (Ls : Array Slot), Stand p l e ({ frames := 1, cells := 0, slots := 0, locals := 12 } : Room) s m #[(.ref r0), (.int p1), (.int p2)] below meth c T' L' 0 0 ∧ Fr n0 L' ∧ T'.heap = h0 ∧ decode c.code pc = .ok (.ireturn, 1) ∧ Go p.tables e below (T0.setTop (mkF m 2 #[.val (.ref r0), .val (.int p1), .val (.int p2), .val (.int (5 : Int32)), s4] [])) (T'.setTop (mkF m pc Ls [(.int (f_tail5 v0 v1 v2 v3 p2))])) := by
  have k1 : Go p.tables e below (T0.setTop (mkF m 2 #[.val (.ref r0), .val (.int p1), .val (.int p2), .val (.int (5 : Int32)), s4] [])) (T0.setTop (mkF m 61 #[.val (.ref r0), .val (.int p1), .val (.int p2), .val (.int (5 : Int32)), s4] [(.int (-1 : Int32))])) := by
    intro t ht
    refine XS.iloadN X0.here hx rfl (hb hby d_tail5_2) rfl ?_
    show Steps p.tables e below (T0.setTop (mkF m 3 #[.val (.ref r0), .val (.int p1), .val (.int p2), .val (.int (5 : Int32)), s4] [(.int (5 : Int32))])) _
    refine XS.iloadN X0.here hx rfl (hb hby d_tail5_3) rfl ?_
    show Steps p.tables e below (T0.setTop (mkF m 4 #[.val (.ref r0), .val (.int p1), .val (.int p2), .val (.int (5 : Int32)), s4] [(.int p2), (.int (5 : Int32))])) _
    refine XS.icmpYes X0.here hx rfl (pc0 := 4) (pc' := 60) rfl (hb hby d_tail5_4) rfl (flt (own_t5 hhi : ¬ ((5 : Int32) < p2))).2.1 (by decide) (by decide) ?_
    show Steps p.tables e below (T0.setTop (mkF m 60 #[.val (.ref r0), .val (.int p1), .val (.int p2), .val (.int (5 : Int32)), s4] [])) _
    refine XS.iconst X0.here hx rfl (hb hby d_tail5_60) ?_
    exact ht
  refine ⟨T0, _, 61, #[.val (.ref r0), .val (.int p1), .val (.int p2), .val (.int (5 : Int32)), s4], X0, N0, e0, (hb hby d_tail5_61), ?_⟩
  have kk := k1
  simpa only [f_tail5] using kk
theorem d_tail4_2 : decode prog_9_method_3_code 2 = .ok (.iload_n 3, 1) := by decide +kernel
theorem d_tail4_3 : decode prog_9_method_3_code 3 = .ok (.iload_n 2, 1) := by decide +kernel
theorem d_tail4_4 : decode prog_9_method_3_code 4 = .ok (.if_icmp .ge 56, 3) := by decide +kernel
theorem d_tail4_60 : decode prog_9_method_3_code 60 = .ok (.iconst (-1), 1) := by decide +kernel
theorem d_tail4_61 : decode prog_9_method_3_code 61 = .ok (.ireturn, 1) := by decide +kernel
def f_tail4 (v0 v1 v2 v3 p2 : Int32) : Int32 := (-1 : Int32)
set_option maxRecDepth 65536 in
set_option maxHeartbeats 40000000 in
theorem pc_tail4 {p : Program} {l : Launch} {e : Env} {s : State} {m : MethodId} {below : List Frame} {meth : Method} {c : Code} {T0 : State} {locs : List Loc} {Z : State} {a0 : Array Value} {h0 : Heap} {n0 : Nat} (r0 : Addr) (p1 p2 : Int32) (kA : ClassId) (v0 v1 v2 v3 : Int32) (s4 : Slot)
    (X0 : Stand p l e ({ frames := 1, cells := 0, slots := 0, locals := 12 } : Room) s m #[(.ref r0), (.int p1), (.int p2)] below meth c T0 locs 0 0) (hx : p.tables.exec = Jvm.exec) (hZ : Z.Warmed39 s.vm) (hw : ∀ d ∈ tables_1, d.before a0 Z = true) (hby : c.code = prog_9_method_3_code) (hml : c.maxLocals = 5) (hown : s.vm.findClass "com/example/fieldveil/fieldveil/Utf8" = some m.cls) (e0 : T0.heap = h0) (N0 : Fr n0 locs) (Z0 : n0 ≤ h0.size) (V_A : Arv Z h0 r0 kA .char (4 : Int32) [(.int v0), (.int v1), (.int v2), (.int v3)] (.int (0 : Int32))) (h4 : One s4) (hhi : ¬ ((4 : Int32) < p2)) :
    ∃ (T' : State) (L' : List Loc) (pc : Nat) (Ls : Array Slot), Stand p l e ({ frames := 1, cells := 0, slots := 0, locals := 12 } : Room) s m #[(.ref r0), (.int p1), (.int p2)] below meth c T' L' 0 0 ∧ Fr n0 L' ∧ T'.heap = h0 ∧ decode c.code pc = .ok (.ireturn, 1) ∧ Go p.tables e below (T0.setTop (mkF m 2 #[.val (.ref r0), .val (.int p1), .val (.int p2), .val (.int (4 : Int32)), s4] [])) (T'.setTop (mkF m pc Ls [(.int (f_tail4 v0 v1 v2 v3 p2))])) := by
  have k1 : Go p.tables e below (T0.setTop (mkF m 2 #[.val (.ref r0), .val (.int p1), .val (.int p2), .val (.int (4 : Int32)), s4] [])) (T0.setTop (mkF m 61 #[.val (.ref r0), .val (.int p1), .val (.int p2), .val (.int (4 : Int32)), s4] [(.int (-1 : Int32))])) := by
    intro t ht
    refine XS.iloadN X0.here hx rfl (hb hby d_tail4_2) rfl ?_
    show Steps p.tables e below (T0.setTop (mkF m 3 #[.val (.ref r0), .val (.int p1), .val (.int p2), .val (.int (4 : Int32)), s4] [(.int (4 : Int32))])) _
    refine XS.iloadN X0.here hx rfl (hb hby d_tail4_3) rfl ?_
    show Steps p.tables e below (T0.setTop (mkF m 4 #[.val (.ref r0), .val (.int p1), .val (.int p2), .val (.int (4 : Int32)), s4] [(.int p2), (.int (4 : Int32))])) _
    refine XS.icmpYes X0.here hx rfl (pc0 := 4) (pc' := 60) rfl (hb hby d_tail4_4) rfl (flt (own_t4 hhi : ¬ ((4 : Int32) < p2))).2.1 (by decide) (by decide) ?_
    show Steps p.tables e below (T0.setTop (mkF m 60 #[.val (.ref r0), .val (.int p1), .val (.int p2), .val (.int (4 : Int32)), s4] [])) _
    refine XS.iconst X0.here hx rfl (hb hby d_tail4_60) ?_
    exact ht
  refine ⟨T0, _, 61, #[.val (.ref r0), .val (.int p1), .val (.int p2), .val (.int (4 : Int32)), s4], X0, N0, e0, (hb hby d_tail4_61), ?_⟩
  have kk := k1
  simpa only [f_tail4] using kk
theorem d_tail3_2 : decode prog_9_method_3_code 2 = .ok (.iload_n 3, 1) := by decide +kernel
theorem d_tail3_3 : decode prog_9_method_3_code 3 = .ok (.iload_n 2, 1) := by decide +kernel
theorem d_tail3_4 : decode prog_9_method_3_code 4 = .ok (.if_icmp .ge 56, 3) := by decide +kernel
theorem d_tail3_7 : decode prog_9_method_3_code 7 = .ok (.aload_n 0, 1) := by decide +kernel
theorem d_tail3_8 : decode prog_9_method_3_code 8 = .ok (.iload_n 3, 1) := by decide +kernel
theorem d_tail3_9 : decode prog_9_method_3_code 9 = .ok (.caload, 1) := by decide +kernel
theorem d_tail3_10 : decode prog_9_method_3_code 10 = .ok (.istore 4, 2) := by decide +kernel
theorem d_tail3_12 : decode prog_9_method_3_code 12 = .ok (.iload 4, 2) := by decide +kernel
theorem d_tail3_14 : decode prog_9_method_3_code 14 = .ok (.invokestatic 27, 3) := by decide +kernel
theorem d_tail3_17 : decode prog_9_method_3_code 17 = .ok (.ifCond .eq 27, 3) := by decide +kernel
theorem d_tail3_20 : decode prog_9_method_3_code 20 = .ok (.iload_n 3, 1) := by decide +kernel
theorem d_tail3_21 : decode prog_9_method_3_code 21 = .ok (.iconst 1, 1) := by decide +kernel
theorem d_tail3_22 : decode prog_9_method_3_code 22 = .ok (.iadd, 1) := by decide +kernel
theorem d_tail3_23 : decode prog_9_method_3_code 23 = .ok (.iload_n 2, 1) := by decide +kernel
theorem d_tail3_24 : decode prog_9_method_3_code 24 = .ok (.if_icmp .ge 20, 3) := by decide +kernel
theorem d_tail3_44 : decode prog_9_method_3_code 44 = .ok (.iload 4, 2) := by decide +kernel
theorem d_tail3_46 : decode prog_9_method_3_code 46 = .ok (.invokestatic 36, 3) := by decide +kernel
theorem d_tail3_49 : decode prog_9_method_3_code 49 = .ok (.ifCond .eq 5, 3) := by decide +kernel
theorem d_tail3_52 : decode prog_9_method_3_code 52 = .ok (.iload_n 3, 1) := by decide +kernel
theorem d_tail3_53 : decode prog_9_method_3_code 53 = .ok (.ireturn, 1) := by decide +kernel
theorem d_tail3_54 : decode prog_9_method_3_code 54 = .ok (.iinc 3 1, 3) := by decide +kernel
theorem d_tail3_57 : decode prog_9_method_3_code 57 = .ok (.goto (-55), 3) := by decide +kernel
theorem d_tail3_60 : decode prog_9_method_3_code 60 = .ok (.iconst (-1), 1) := by decide +kernel
theorem d_tail3_61 : decode prog_9_method_3_code 61 = .ok (.ireturn, 1) := by decide +kernel
def f_tail3 (v0 v1 v2 v3 p2 : Int32) : Int32 := (if (3 : Int32) < p2 then (if (f_isHighSurrogate v3) = (0 : Int32) then (if (f_isSurrogate v3) = (0 : Int32) then (f_tail4 v0 v1 v2 v3 p2) else (3 : Int32)) else (if (f_isSurrogate v3) = (0 : Int32) then (f_tail4 v0 v1 v2 v3 p2) else (3 : Int32))) else (-1 : Int32))
set_option maxRecDepth 65536 in
set_option maxHeartbeats 40000000 in
theorem pc_tail3 {p : Program} {l : Launch} {e : Env} {s : State} {m : MethodId} {below : List Frame} {meth : Method} {c : Code} {T0 : State} {locs : List Loc} {Z : State} {a0 : Array Value} {h0 : Heap} {n0 : Nat} (r0 : Addr) (p1 p2 : Int32) (kA : ClassId) (v0 v1 v2 v3 : Int32) (s4 : Slot)
    (X0 : Stand p l e ({ frames := 1, cells := 0, slots := 0, locals := 12 } : Room) s m #[(.ref r0), (.int p1), (.int p2)] below meth c T0 locs 0 0) (hx : p.tables.exec = Jvm.exec) (hZ : Z.Warmed39 s.vm) (hw : ∀ d ∈ tables_1, d.before a0 Z = true) (hby : c.code = prog_9_method_3_code) (hml : c.maxLocals = 5) (hown : s.vm.findClass "com/example/fieldveil/fieldveil/Utf8" = some m.cls) (e0 : T0.heap = h0) (N0 : Fr n0 locs) (Z0 : n0 ≤ h0.size) (V_A : Arv Z h0 r0 kA .char (4 : Int32) [(.int v0), (.int v1), (.int v2), (.int v3)] (.int (0 : Int32))) (h4 : One s4) (hhi : ¬ ((4 : Int32) < p2)) :
    ∃ (T' : State) (L' : List Loc) (pc : Nat) (Ls : Array Slot), Stand p l e ({ frames := 1, cells := 0, slots := 0, locals := 12 } : Room) s m #[(.ref r0), (.int p1), (.int p2)] below meth c T' L' 0 0 ∧ Fr n0 L' ∧ T'.heap = h0 ∧ decode c.code pc = .ok (.ireturn, 1) ∧ Go p.tables e below (T0.setTop (mkF m 2 #[.val (.ref r0), .val (.int p1), .val (.int p2), .val (.int (3 : Int32)), s4] [])) (T'.setTop (mkF m pc Ls [(.int (f_tail3 v0 v1 v2 v3 p2))])) := by
  have k1 : Go p.tables e below (T0.setTop (mkF m 2 #[.val (.ref r0), .val (.int p1), .val (.int p2), .val (.int (3 : Int32)), s4] [])) (T0.setTop (mkF m 4 #[.val (.ref r0), .val (.int p1), .val (.int p2), .val (.int (3 : Int32)), s4] [(.int p2), (.int (3 : Int32))])) := by
    intro t ht
    refine XS.iloadN X0.here hx rfl (hb hby d_tail3_2) rfl ?_
    show Steps p.tables e below (T0.setTop (mkF m 3 #[.val (.ref r0), .val (.int p1), .val (.int p2), .val (.int (3 : Int32)), s4] [(.int (3 : Int32))])) _
    refine XS.iloadN X0.here hx rfl (hb hby d_tail3_3) rfl ?_
    exact ht
  by_cases hc2 : (3 : Int32) < p2
  · have k3 : Go p.tables e below (T0.setTop (mkF m 4 #[.val (.ref r0), .val (.int p1), .val (.int p2), .val (.int (3 : Int32)), s4] [(.int p2), (.int (3 : Int32))])) (T0.setTop (mkF m 9 #[.val (.ref r0), .val (.int p1), .val (.int p2), .val (.int (3 : Int32)), s4] [(.int (3 : Int32)), (.ref r0)])) := by
      intro t ht
      refine XS.icmpNo X0.here hx rfl (hb hby d_tail3_4) rfl (tlt hc2).2.1 ?_
      show Steps p.tables e below (T0.setTop (mkF m 7 #[.val (.ref r0), .val (.int p1), .val (.int p2), .val (.int (3 : Int32)), s4] [])) _
      refine XS.aloadN X0.here hx rfl (hb hby d_tail3_7) rfl rfl ?_
      show Steps p.tables e below (T0.setTop (mkF m 8 #[.val (.ref r0), .val (.int p1), .val (.int p2), .val (.int (3 : Int32)), s4] [(.ref r0)])) _
      refine XS.iloadN X0.here hx rfl (hb hby d_tail3_8) rfl ?_
      exact ht
    obtain ⟨cl4, Ar4, q4, S4, M4, H4, G4⟩ := id V_A
    have hin4 : ¬ ((3 : Int32) < 0 ∨ cl4.slots.size ≤ ((3 : Int32)).toNatClampNeg) := inb_of S4 ⟨by decide, by decide⟩
    have hat4 : cl4.slots[((3 : Int32)).toNatClampNeg]? = some (.int v3) := (H4 _ (Nat.lt_of_not_le fun y => hin4 (Or.inr y))).trans (congrArg some (rfl))
    have k5 : Go p.tables e below (T0.setTop (mkF m 9 #[.val (.ref r0), .val (.int p1), .val (.int p2), .val (.int (3 : Int32)), s4] [(.int (3 : Int32)), (.ref r0)])) (T0.setTop (mkF m 14 #[.val (.ref r0), .val (.int p1), .val (.int p2), .val (.int (3 : Int32)), .val (.int v3)] [(.int v3)])) := by
      intro t ht
      refine X0.caload hx (j := (3 : Int32)) (v := (.int v3)) (by rw [e0]; exact Ar4.1) (State.isArrayOf_alike hZ.alike Ar4.2.1) Ar4.2.2 hin4 hat4 (g := (mkF m 9 #[.val (.ref r0), .val (.int p1), .val (.int p2), .val (.int (3 : Int32)), s4] [(.int (3 : Int32)), (.ref r0)])) rfl rfl (hb hby d_tail3_9) _ ?_
      show Steps p.tables e below (T0.setTop (mkF m 10 #[.val (.ref r0), .val (.int p1), .val (.int p2), .val (.int (3 : Int32)), s4] [(.int v3)])) _
      refine XS.istore X0.here hx rfl (hb hby d_tail3_10) rfl (l' := #[.val (.ref r0), .val (.int p1), .val (.int p2), .val (.int (3 : Int32)), .val (.int v3)]) (own_st4 h4) ?_
      show Steps p.tables e below (T0.setTop (mkF m 12 #[.val (.ref r0), .val (.int p1), .val (.int p2), .val (.int (3 : Int32)), .val (.int v3)] [])) _
      refine XS.iload X0.here hx rfl (hb hby d_tail3_12) rfl ?_
      exact ht
    obtain ⟨_, _, ⟨T6, L6, kq6, n6⟩, -, X6, ⟨Lc6, hQ6, l6, y6, z6⟩, st6⟩ := Jvm.LawKit.callS X0 hx (y := (⟨"java/lang/Character", "isHighSurrogate", "(C)Z"⟩ : MethodName)) hown (mvT hZ (hw _ (List.mem_of_getElem? (i := 30) rfl))) (mvT hZ (hw _ (List.mem_of_getElem? (i := 31) rfl))) (mvT hZ (hw _ (List.mem_of_getElem? (i := 32) rfl))) (mvT hZ (hw _ (List.mem_of_getElem? (i := 33) rfl))) (by decide) (backOf (W := 0) (rm_isHighSurrogate l Z a0 hw [] v3 h0 n0 Z0 ) hZ (hw _ (List.mem_of_getElem? (i := 33) rfl)) (hw _ (List.mem_of_getElem? (i := 32) rfl)) (by decide) (by decide)) (g := (mkF m 14 #[.val (.ref r0), .val (.int p1), .val (.int p2), .val (.int (3 : Int32)), .val (.int v3)] [(.int v3)])) rfl (by rw [hml]; rfl) (argsL := [(.int v3)]) (rest := []) (lenOf pd_0 rfl) rfl (by show 2 * 0 + _ ≤ _; exact Nat.le_of_eq rfl) (hb hby d_tail3_14) (fun _ _ => ⟨rfl, e0, (by decide : 0 + 0 ≤ _), (by decide : 0 + 0 ≤ _)⟩)
    dsimp only [Pt.U, Pt.locs, Pt.cells, Pt.slots] at X6 l6 y6 z6 st6 hQ6
    subst l6 y6 z6
    obtain ⟨rfl, N6q, eq6⟩ := hQ6
    have N6 := Fr.app N0 N6q
    have k6 : Go p.tables e below (T0.setTop (mkF m 14 #[.val (.ref r0), .val (.int p1), .val (.int p2), .val (.int (3 : Int32)), .val (.int v3)] [(.int v3)])) (T6.setTop (mkF m 17 #[.val (.ref r0), .val (.int p1), .val (.int p2), .val (.int (3 : Int32)), .val (.int v3)] [(.int (f_isHighSurrogate v3))])) := st6
    by_cases hc7 : (f_isHighSurrogate v3) = (0 : Int32)
    · have k8 : Go p.tables e below (T6.setTop (mkF m 17 #[.val (.ref r0), .val (.int p1), .val (.int p2), .val (.int (3 : Int32)), .val (.int v3)] [(.int (f_isHighSurrogate v3))])) (T6.setTop (mkF m 46 #[.val (.ref r0), .val (.int p1), .val (.int p2), .val (.int (3 : Int32)), .val (.int v3)] [(.int v3)])) := by
        intro t ht
        refine XS.ifYes X6.here hx rfl (pc0 := 17) (pc' := 44) rfl (hb hby d_tail3_17) rfl ((if0 _ _).trans (teq hc7).1) (by decide) (by decide) ?_
        show Steps p.tables e below (T6.setTop (mkF m 44 #[.val (.ref r0), .val (.int p1), .val (.int p2), .val (.int (3 : Int32)), .val (.int v3)] [])) _
        refine XS.iload X6.here hx rfl (hb hby d_tail3_44) rfl ?_
        exact ht
      obtain ⟨_, _, ⟨T9, L9, kq9, n9⟩, -, X9, ⟨Lc9, hQ9, l9, y9, z9⟩, st9⟩ := Jvm.LawKit.callS X6 hx (y := (⟨"java/lang/Character", "isSurrogate", "(C)Z"⟩ : MethodName)) hown (mvT hZ (hw _ (List.mem_of_getElem? (i := 39) rfl))) (mvT hZ (hw _ (List.mem_of_getElem? (i := 40) rfl))) (mvT hZ (hw _ (List.mem_of_getElem? (i := 32) rfl))) (mvT hZ (hw _ (List.mem_of_getElem? (i := 41) rfl))) (by decide) (backOf (W := 0) (rm_isSurrogate l Z a0 hw [] v3 h0 n0 Z0 ) hZ (hw _ (List.mem_of_getElem? (i := 41) rfl)) (hw _ (List.mem_of_getElem? (i := 32) rfl)) (by decide) (by decide)) (g := (mkF m 46 #[.val (.ref r0), .val (.int p1), .val (.int p2), .val (.int (3 : Int32)), .val (.int v3)] [(.int v3)])) rfl (by rw [hml]; rfl) (argsL := [(.int v3)]) (rest := []) (lenOf pd_0 rfl) rfl (by show 2 * 0 + _ ≤ _; exact Nat.le_of_eq rfl) (hb hby d_tail3_46) (fun _ _ => ⟨rfl, eq6, (by decide : 0 + 0 ≤ _), (by decide : 0 + 0 ≤ _)⟩)
      dsimp only [Pt.U, Pt.locs, Pt.cells, Pt.slots] at X9 l9 y9 z9 st9 hQ9
      subst l9 y9 z9
      obtain ⟨rfl, N9q, eq9⟩ := hQ9
      have N9 := Fr.app N6 N9q
      have k9 : Go p.tables e below (T6.setTop (mkF m 46 #[.val (.ref r0), .val (.int p1), .val (.int p2), .val (.int (3 : Int32)), .val (.int v3)] [(.int v3)])) (T9.setTop (mkF m 49 #[.val (.ref r0), .val (.int p1), .val (.int p2), .val (.int (3 : Int32)), .val (.int v3)] [(.int (f_isSurrogate v3))])) := st9
      by_cases hc10 : (f_isSurrogate v3) = (0 : Int32)
      · have k11 : Go p.tables e below (T9.setTop (mkF m 49 #[.val (.ref r0), .val (.int p1), .val (.int p2), .val (.int (3 : Int32)), .val (.int v3)] [(.int (f_isSurrogate v3))])) (T9.setTop (mkF m 2 #[.val (.ref r0), .val (.int p1), .val (.int p2), .val (.int (4 : Int32)), .val (.int v3)] [])) := by
          intro t ht
          refine XS.ifYes X9.here hx rfl (pc0 := 49) (pc' := 54) rfl (hb hby d_tail3_49) rfl ((if0 _ _).trans (teq hc10).1) (by decide) (by decide) ?_
          show Steps p.tables e below (T9.setTop (mkF m 54 #[.val (.ref r0), .val (.int p1), .val (.int p2), .val (.int (3 : Int32)), .val (.int v3)] [])) _
          refine XS.iinc X9.here hx rfl (hb hby d_tail3_54) rfl (l' := #[.val (.ref r0), .val (.int p1), .val (.int p2), .val (.int (4 : Int32)), .val (.int v3)]) rfl ?_
          show Steps p.tables e below (T9.setTop (mkF m 57 #[.val (.ref r0), .val (.int p1), .val (.int p2), .val (.int (4 : Int32)), .val (.int v3)] [])) _
          refine XS.goto X9.here hx rfl (pc0 := 57) (pc' := 2) rfl (hb hby d_tail3_57) (by decide) (by decide) ?_
          exact ht
        obtain ⟨T12, L12, pc12, Ls12, X12, N12, e12, hd12, kr12⟩ := pc_tail4 r0 p1 p2 kA v0 v1 v2 v3 (.val (.int v3)) X9 hx hZ hw hby hml hown eq9 N9 Z0 V_A (One.val rfl) hhi
        refine ⟨T12, L12, pc12, Ls12, X12, N12, e12, hd12, ?_⟩
        have kk := goT (goT k1 (goT k3 (goT k5 (goT k6 (goT k8 (goT k9 k11)))))) kr12
        simpa only [f_tail3, if_pos hc2, if_pos hc7, if_pos hc10] using kk
      · have k13 : Go p.tables e below (T9.setTop (mkF m 49 #[.val (.ref r0), .val (.int p1), .val (.int p2), .val (.int (3 : Int32)), .val (.int v3)] [(.int (f_isSurrogate v3))])) (T9.setTop (mkF m 53 #[.val (.ref r0), .val (.int p1), .val (.int p2), .val (.int (3 : Int32)), .val (.int v3)] [(.int (3 : Int32))])) := by
          intro t ht
          refine XS.ifNo X9.here hx rfl (hb hby d_tail3_49) rfl ((if0 _ _).trans (feq hc10).1) ?_
          show Steps p.tables e below (T9.setTop (mkF m 52 #[.val (.ref r0), .val (.int p1), .val (.int p2), .val (.int (3 : Int32)), .val (.int v3)] [])) _
          refine XS.iloadN X9.here hx rfl (hb hby d_tail3_52) rfl ?_
          exact ht
        refine ⟨T9, _, 53, #[.val (.ref r0), .val (.int p1), .val (.int p2), .val (.int (3 : Int32)), .val (.int v3)], X9, N9, eq9, (hb hby d_tail3_53), ?_⟩
        have kk := (goT k1 (goT k3 (goT k5 (goT k6 (goT k8 (goT k9 k13))))))
        simpa only [f_tail3, if_pos hc2, if_pos hc7, if_neg hc10] using kk
    · have k14 : Go p.tables e below (T6.setTop (mkF m 17 #[.val (.ref r0), .val (.int p1), .val (.int p2), .val (.int (3 : Int32)), .val (.int v3)] [(.int (f_isHighSurrogate v3))])) (T6.setTop (mkF m 46 #[.val (.ref r0), .val (.int p1), .val (.int p2), .val (.int (3 : Int32)), .val (.int v3)] [(.int v3)])) := by
        intro t ht
        refine XS.ifNo X6.here hx rfl (hb hby d_tail3_17) rfl ((if0 _ _).trans (feq hc7).1) ?_
        show Steps p.tables e below (T6.setTop (mkF m 20 #[.val (.ref r0), .val (.int p1), .val (.int p2), .val (.int (3 : Int32)), .val (.int v3)] [])) _
        refine XS.iloadN X6.here hx rfl (hb hby d_tail3_20) rfl ?_
        show Steps p.tables e below (T6.setTop (mkF m 21 #[.val (.ref r0), .val (.int p1), .val (.int p2), .val (.int (3 : Int32)), .val (.int v3)] [(.int (3 : Int32))])) _
        refine XS.iconst X6.here hx rfl (hb hby d_tail3_21) ?_
        show Steps p.tables e below (T6.setTop (mkF m 22 #[.val (.ref r0), .val (.int p1), .val (.int p2), .val (.int (3 : Int32)), .val (.int v3)] [(.int (1 : Int32)), (.int (3 : Int32))])) _
        refine XS.iadd X6.here hx rfl (hb hby d_tail3_22) rfl ?_
        show Steps p.tables e below (T6.setTop (mkF m 23 #[.val (.ref r0), .val (.int p1), .val (.int p2), .val (.int (3 : Int32)), .val (.int v3)] [(.int (4 : Int32))])) _
        refine XS.iloadN X6.here hx rfl (hb hby d_tail3_23) rfl ?_
        show Steps p.tables e below (T6.setTop (mkF m 24 #[.val (.ref r0), .val (.int p1), .val (.int p2), .val (.int (3 : Int32)), .val (.int v3)] [(.int p2), (.int (4 : Int32))])) _
        refine XS.icmpYes X6.here hx rfl (pc0 := 24) (pc' := 44) rfl (hb hby d_tail3_24) rfl (flt (own_b1 hhi : ¬ ((4 : Int32) < p2))).2.1 (by decide) (by decide) ?_
        show Steps p.tables e below (T6.setTop (mkF m 44 #[.val (.ref r0), .val (.int p1), .val (.int p2), .val (.int (3 : Int32)), .val (.int v3)] [])) _
        refine XS.iload X6.here hx rfl (hb hby d_tail3_44) rfl ?_
        exact ht
      obtain ⟨_, _, ⟨T15, L15, kq15, n15⟩, -, X15, ⟨Lc15, hQ15, l15, y15, z15⟩, st15⟩ := Jvm.LawKit.callS X6 hx (y := (⟨"java/lang/Character", "isSurrogate", "(C)Z"⟩ : MethodName)) hown (mvT hZ (hw _ (List.mem_of_getElem? (i := 39) rfl))) (mvT hZ (hw _ (List.mem_of_getElem? (i := 40) rfl))) (mvT hZ (hw _ (List.mem_of_getElem? (i := 32) rfl))) (mvT hZ (hw _ (List.mem_of_getElem? (i := 41) rfl))) (by decide) (backOf (W := 0) (rm_isSurrogate l Z a0 hw [] v3 h0 n0 Z0 ) hZ (hw _ (List.mem_of_getElem? (i := 41) rfl)) (hw _ (List.mem_of_getElem? (i := 32) rfl)) (by decide) (by decide)) (g := (mkF m 46 #[.val (.ref r0), .val (.int p1), .val (.int p2), .val (.int (3 : Int32)), .val (.int v3)] [(.int v3)])) rfl (by rw [hml]; rfl) (argsL := [(.int v3)]) (rest := []) (lenOf pd_0 rfl) rfl (by show 2 * 0 + _ ≤ _; exact Nat.le_of_eq rfl) (hb hby d_tail3_46) (fun _ _ => ⟨rfl, eq6, (by decide : 0 + 0 ≤ _), (by decide : 0 + 0 ≤ _)⟩)
      dsimp only [Pt.U, Pt.locs, Pt.cells, Pt.slots] at X15 l15 y15 z15 st15 hQ15
      subst l15 y15 z15
      obtain ⟨rfl, N15q, eq15⟩ := hQ15
      have N15 := Fr.app N6 N15q
      have k15 : Go p.tables e below (T6.setTop (mkF m 46 #[.val (.ref r0), .val (.int p1), .val (.int p2), .val (.int (3 : Int32)), .val (.int v3)] [(.int v3)])) (T15.setTop (mkF m 49 #[.val (.ref r0), .val (.int p1), .val (.int p2), .val (.int (3 : Int32)), .val (.int v3)] [(.int (f_isSurrogate v3))])) := st15
      by_cases hc16 : (f_isSurrogate v3) = (0 : Int32)
      · have k17 : Go p.tables e below (T15.setTop (mkF m 49 #[.val (.ref r0), .val (.int p1), .val (.int p2), .val (.int (3 : Int32)), .val (.int v3)] [(.int (f_isSurrogate v3))])) (T15.setTop (mkF m 2 #[.val (.ref r0), .val (.int p1), .val (.int p2), .val (.int (4 : Int32)), .val (.int v3)] [])) := by
          intro t ht
          refine XS.ifYes X15.here hx rfl (pc0 := 49) (pc' := 54) rfl (hb hby d_tail3_49) rfl ((if0 _ _).trans (teq hc16).1) (by decide) (by decide) ?_
          show Steps p.tables e below (T15.setTop (mkF m 54 #[.val (.ref r0), .val (.int p1), .val (.int p2), .val (.int (3 : Int32)), .val (.int v3)] [])) _
          refine XS.iinc X15.here hx rfl (hb hby d_tail3_54) rfl (l' := #[.val (.ref r0), .val (.int p1), .val (.int p2), .val (.int (4 : Int32)), .val (.int v3)]) rfl ?_
          show Steps p.tables e below (T15.setTop (mkF m 57 #[.val (.ref r0), .val (.int p1), .val (.int p2), .val (.int (4 : Int32)), .val (.int v3)] [])) _
          refine XS.goto X15.here hx rfl (pc0 := 57) (pc' := 2) rfl (hb hby d_tail3_57) (by decide) (by decide) ?_
          exact ht
        obtain ⟨T18, L18, pc18, Ls18, X18, N18, e18, hd18, kr18⟩ := pc_tail4 r0 p1 p2 kA v0 v1 v2 v3 (.val (.int v3)) X15 hx hZ hw hby hml hown eq15 N15 Z0 V_A (One.val rfl) hhi
        refine ⟨T18, L18, pc18, Ls18, X18, N18, e18, hd18, ?_⟩
        have kk := goT (goT k1 (goT k3 (goT k5 (goT k6 (goT k14 (goT k15 k17)))))) kr18
        simpa only [f_tail3, if_pos hc2, if_neg hc7, if_pos hc16] using kk
      · have k19 : Go p.tables e below (T15.setTop (mkF m 49 #[.val (.ref r0), .val (.int p1), .val (.int p2), .val (.int (3 : Int32)), .val (.int v3)] [(.int (f_isSurrogate v3))])) (T15.setTop (mkF m 53 #[.val (.ref r0), .val (.int p1), .val (.int p2), .val (.int (3 : Int32)), .val (.int v3)] [(.int (3 : Int32))])) := by
          intro t ht
          refine XS.ifNo X15.here hx rfl (hb hby d_tail3_49) rfl ((if0 _ _).trans (feq hc16).1) ?_
          show Steps p.tables e below (T15.setTop (mkF m 52 #[.val (.ref r0), .val (.int p1), .val (.int p2), .val (.int (3 : Int32)), .val (.int v3)] [])) _
          refine XS.iloadN X15.here hx rfl (hb hby d_tail3_52) rfl ?_
          exact ht
        refine ⟨T15, _, 53, #[.val (.ref r0), .val (.int p1), .val (.int p2), .val (.int (3 : Int32)), .val (.int v3)], X15, N15, eq15, (hb hby d_tail3_53), ?_⟩
        have kk := (goT k1 (goT k3 (goT k5 (goT k6 (goT k14 (goT k15 k19))))))
        simpa only [f_tail3, if_pos hc2, if_neg hc7, if_neg hc16] using kk
  · have k20 : Go p.tables e below (T0.setTop (mkF m 4 #[.val (.ref r0), .val (.int p1), .val (.int p2), .val (.int (3 : Int32)), s4] [(.int p2), (.int (3 : Int32))])) (T0.setTop (mkF m 61 #[.val (.ref r0), .val (.int p1), .val (.int p2), .val (.int (3 : Int32)), s4] [(.int (-1 : Int32))])) := by
      intro t ht
      refine XS.icmpYes X0.here hx rfl (pc0 := 4) (pc' := 60) rfl (hb hby d_tail3_4) rfl (flt hc2).2.1 (by decide) (by decide) ?_
      show Steps p.tables e below (T0.setTop (mkF m 60 #[.val (.ref r0), .val (.int p1), .val (.int p2), .val (.int (3 : Int32)), s4] [])) _
      refine XS.iconst X0.here hx rfl (hb hby d_tail3_60) ?_
      exact ht
    refine ⟨T0, _, 61, #[.val (.ref r0), .val (.int p1), .val (.int p2), .val (.int (3 : Int32)), s4], X0, N0, e0, (hb hby d_tail3_61), ?_⟩
    have kk := (goT k1 k20)
    simpa only [f_tail3, if_neg hc2] using kk
theorem d_tail2_2 : decode prog_9_method_3_code 2 = .ok (.iload_n 3, 1) := by decide +kernel
theorem d_tail2_3 : decode prog_9_method_3_code 3 = .ok (.iload_n 2, 1) := by decide +kernel
theorem d_tail2_4 : decode prog_9_method_3_code 4 = .ok (.if_icmp .ge 56, 3) := by decide +kernel
theorem d_tail2_7 : decode prog_9_method_3_code 7 = .ok (.aload_n 0, 1) := by decide +kernel
theorem d_tail2_8 : decode prog_9_method_3_code 8 = .ok (.iload_n 3, 1) := by decide +kernel
theorem d_tail2_9 : decode prog_9_method_3_code 9 = .ok (.caload, 1) := by decide +kernel
theorem d_tail2_10 : decode prog_9_method_3_code 10 = .ok (.istore 4, 2) := by decide +kernel
theorem d_tail2_12 : decode prog_9_method_3_code 12 = .ok (.iload 4, 2) := by decide +kernel
theorem d_tail2_14 : decode prog_9_method_3_code 14 = .ok (.invokestatic 27, 3) := by decide +kernel
theorem d_tail2_17 : decode prog_9_method_3_code 17 = .ok (.ifCond .eq 27, 3) := by decide +kernel
theorem d_tail2_20 : decode prog_9_method_3_code 20 = .ok (.iload_n 3, 1) := by decide +kernel
theorem d_tail2_21 : decode prog_9_method_3_code 21 = .ok (.iconst 1, 1) := by decide +kernel
theorem d_tail2_22 : decode prog_9_method_3_code 22 = .ok (.iadd, 1) := by decide +kernel
theorem d_tail2_23 : decode prog_9_method_3_code 23 = .ok (.iload_n 2, 1) := by decide +kernel
theorem d_tail2_24 : decode prog_9_method_3_code 24 = .ok (.if_icmp .ge 20, 3) := by decide +kernel
theorem d_tail2_27 : decode prog_9_method_3_code 27 = .ok (.aload_n 0, 1) := by decide +kernel
theorem d_tail2_28 : decode prog_9_method_3_code 28 = .ok (.iload_n 3, 1) := by decide +kernel
theorem d_tail2_29 : decode prog_9_method_3_code 29 = .ok (.iconst 1, 1) := by decide +kernel
theorem d_tail2_30 : decode prog_9_method_3_code 30 = .ok (.iadd, 1) := by decide +kernel
theorem d_tail2_31 : decode prog_9_method_3_code 31 = .ok (.caload, 1) := by decide +kernel
theorem d_tail2_32 : decode prog_9_method_3_code 32 = .ok (.invokestatic 33, 3) := by decide +kernel
theorem d_tail2_35 : decode prog_9_method_3_code 35 = .ok (.ifCond .eq 9, 3) := by decide +kernel
theorem d_tail2_38 : decode prog_9_method_3_code 38 = .ok (.iinc 3 2, 3) := by decide +kernel
theorem d_tail2_41 : decode prog_9_method_3_code 41 = .ok (.goto 16, 3) := by decide +kernel
theorem d_tail2_44 : decode prog_9_method_3_code 44 = .ok (.iload 4, 2) := by decide +kernel
theorem d_tail2_46 : decode prog_9_method_3_code 46 = .ok (.invokestatic 36, 3) := by decide +kernel
theorem d_tail2_49 : decode prog_9_method_3_code 49 = .ok (.ifCond .eq 5, 3) := by decide +kernel
theorem d_tail2_52 : decode prog_9_method_3_code 52 = .ok (.iload_n 3, 1) := by decide +kernel
theorem d_tail2_53 : decode prog_9_method_3_code 53 = .ok (.ireturn, 1) := by decide +kernel
theorem d_tail2_54 : decode prog_9_method_3_code 54 = .ok (.iinc 3 1, 3) := by decide +kernel
theorem d_tail2_57 : decode prog_9_method_3_code 57 = .ok (.goto (-55), 3) := by decide +kernel
theorem d_tail2_60 : decode prog_9_method_3_code 60 = .ok (.iconst (-1), 1) := by decide +kernel
theorem d_tail2_61 : decode prog_9_method_3_code 61 = .ok (.ireturn, 1) := by decide +kernel
def f_tail2 (v0 v1 v2 v3 p2 : Int32) : Int32 := (if (2 : Int32) < p2 then (if (f_isHighSurrogate v2) = (0 : Int32) then (if (f_isSurrogate v2) = (0 : Int32) then (f_tail3 v0 v1 v2 v3 p2) else (2 : Int32)) else (if (3 : Int32) < p2 then (if (f_isLowSurrogate v3) = (0 : Int32) then (if (f_isSurrogate v2) = (0 : Int32) then (f_tail3 v0 v1 v2 v3 p2) else (2 : Int32)) else (f_tail4 v0 v1 v2 v3 p2)) else (if (f_isSurrogate v2) = (0 : Int32) then (f_tail3 v0 v1 v2 v3 p2) else (2 : Int32)))) else (-1 : Int32))
set_option maxRecDepth 65536 in
set_option maxHeartbeats 40000000 in
theorem pc_tail2 {p : Program} {l : Launch} {e : Env} {s : State} {m : MethodId} {below : List Frame} {meth : Method} {c : Code} {T0 : State} {locs : List Loc} {Z : State} {a0 : Array Value} {h0 : Heap} {n0 : Nat} (r0 : Addr) (p1 p2 : Int32) (kA : ClassId) (v0 v1 v2 v3 : Int32) (s4 : Slot)
    (X0 : Stand p l e ({ frames := 1, cells := 0, slots := 0, locals := 12 } : Room) s m #[(.ref r0), (.int p1), (.int p2)] below meth c T0 locs 0 0) (hx : p.tables.exec = Jvm.exec) (hZ : Z.Warmed39 s.vm) (hw : ∀ d ∈ tables_1, d.before a0 Z = true) (hby : c.code = prog_9_method_3_code) (hml : c.maxLocals = 5) (hown : s.vm.findClass "com/example/fieldveil/fieldveil/Utf8" = some m.cls) (e0 : T0.heap = h0) (N0 : Fr n0 locs) (Z0 : n0 ≤ h0.size) (V_A : Arv Z h0 r0 kA .char (4 : Int32) [(.int v0), (.int v1), (.int v2), (.int v3)] (.int (0 : Int32))) (h4 : One s4) (hhi : ¬ ((4 : Int32) < p2)) :
    ∃ (T' : State) (L' : List Loc) (pc : Nat) (Ls : Array Slot), Stand p l e ({ frames := 1, cells := 0, slots := 0, locals := 12 } : Room) s m #[(.ref r0), (.int p1), (.int p2)] below meth c T' L' 0 0 ∧ Fr n0 L' ∧ T'.heap = h0 ∧ decode c.code pc = .ok (.ireturn, 1) ∧ Go p.tables e below (T0.setTop (mkF m 2 #[.val (.ref r0), .val (.int p1), .val (.int p2), .val (.int (2 : Int32)), s4] [])) (T'.setTop (mkF m pc Ls [(.int (f_tail2 v0 v1 v2 v3 p2))])) := by
  have k1 : Go p.tables e below (T0.setTop (mkF m 2 #[.val (.ref r0), .val (.int p1), .val (.int p2), .val (.int (2 : Int32)), s4] [])) (T0.setTop (mkF m 4 #[.val (.ref r0), .val (.int p1), .val (.int p2), .val (.int (2 : Int32)), s4] [(.int p2), (.int (2 : Int32))])) := by
    intro t ht
    refine XS.iloadN X0.here hx rfl (hb hby d_tail2_2) rfl ?_
    show Steps p.tables e below (T0.setTop (mkF m 3 #[.val (.ref r0), .val (.int p1), .val (.int p2), .val (.int (2 : Int32)), s4] [(.int (2 : Int32))])) _
    refine XS.iloadN X0.here hx rfl (hb hby d_tail2_3) rfl ?_
    exact ht
  by_cases hc2 : (2 : Int32) < p2
  · have k3 : Go p.tables e below (T0.setTop (mkF m 4 #[.val (.ref r0), .val (.int p1), .val (.int p2), .val (.int (2 : Int32)), s4] [(.int p2), (.int (2 : Int32))])) (T0.setTop (mkF m 9 #[.val (.ref r0), .val (.int p1), .val (.int p2), .val (.int (2 : Int32)), s4] [(.int (2 : Int32)), (.ref r0)])) := by
      intro t ht
      refine XS.icmpNo X0.here hx rfl (hb hby d_tail2_4) rfl (tlt hc2).2.1 ?_
      show Steps p.tables e below (T0.setTop (mkF m 7 #[.val (.ref r0), .val (.int p1), .val (.int p2), .val (.int (2 : Int32)), s4] [])) _
      refine XS.aloadN X0.here hx rfl (hb hby d_tail2_7) rfl rfl ?_
      show Steps p.tables e below (T0.setTop (mkF m 8 #[.val (.ref r0), .val (.int p1), .val (.int p2), .val (.int (2 : Int32)), s4] [(.ref r0)])) _
      refine XS.iloadN X0.here hx rfl (hb hby d_tail2_8) rfl ?_
      exact ht
    obtain ⟨cl4, Ar4, q4, S4, M4, H4, G4⟩ := id V_A
    have hin4 : ¬ ((2 : Int32) < 0 ∨ cl4.slots.size ≤ ((2 : Int32)).toNatClampNeg) := inb_of S4 ⟨by decide, by decide⟩
    have hat4 : cl4.slots[((2 : Int32)).toNatClampNeg]? = some (.int v2) := (H4 _ (Nat.lt_of_not_le fun y => hin4 (Or.inr y))).trans (congrArg some (rfl))
    have k5 : Go p.tables e below (T0.setTop (mkF m 9 #[.val (.ref r0), .val (.int p1), .val (.int p2), .val (.int (2 : Int32)), s4] [(.int (2 : Int32)), (.ref r0)])) (T0.setTop (mkF m 14 #[.val (.ref r0), .val (.int p1), .val (.int p2), .val (.int (2 : Int32)), .val (.int v2)] [(.int v2)])) := by
      intro t ht
      refine X0.caload hx (j := (2 : Int32)) (v := (.int v2)) (by rw [e0]; exact Ar4.1) (State.isArrayOf_alike hZ.alike Ar4.2.1) Ar4.2.2 hin4 hat4 (g := (mkF m 9 #[.val (.ref r0), .val (.int p1), .val (.int p2), .val (.int (2 : Int32)), s4] [(.int (2 : Int32)), (.ref r0)])) rfl rfl (hb hby d_tail2_9) _ ?_
      show Steps p.tables e below (T0.setTop (mkF m 10 #[.val (.ref r0), .val (.int p1), .val (.int p2), .val (.int (2 : Int32)), s4] [(.int v2)])) _
      refine XS.istore X0.here hx rfl (hb hby d_tail2_10) rfl (l' := #[.val (.ref r0), .val (.int p1), .val (.int p2), .val (.int (2 : Int32)), .val (.int v2)]) (own_st4 h4) ?_
      show Steps p.tables e below (T0.setTop (mkF m 12 #[.val (.ref r0), .val (.int p1), .val (.int p2), .val (.int (2 : Int32)), .val (.int v2)] [])) _
      refine XS.iload X0.here hx rfl (hb hby d_tail2_12) rfl ?_
      exact ht
    obtain ⟨_, _, ⟨T6, L6, kq6, n6⟩, -, X6, ⟨Lc6, hQ6, l6, y6, z6⟩, st6⟩ := Jvm.LawKit.callS X0 hx (y := (⟨"java/lang/Character", "isHighSurrogate", "(C)Z"⟩ : MethodName)) hown (mvT hZ (hw _ (List.mem_of_getElem? (i := 30) rfl))) (mvT hZ (hw _ (List.mem_of_getElem? (i := 31) rfl))) (mvT hZ (hw _ (List.mem_of_getElem? (i := 32) rfl))) (mvT hZ (hw _ (List.mem_of_getElem? (i := 33) rfl))) (by decide) (backOf (W := 0) (rm_isHighSurrogate l Z a0 hw [] v2 h0 n0 Z0 ) hZ (hw _ (List.mem_of_getElem? (i := 33) rfl)) (hw _ (List.mem_of_getElem? (i := 32) rfl)) (by decide) (by decide)) (g := (mkF m 14 #[.val (.ref r0), .val (.int p1), .val (.int p2), .val (.int (2 : Int32)), .val (.int v2)] [(.int v2)])) rfl (by rw [hml]; rfl) (argsL := [(.int v2)]) (rest := []) (lenOf pd_0 rfl) rfl (by show 2 * 0 + _ ≤ _; exact Nat.le_of_eq rfl) (hb hby d_tail2_14) (fun _ _ => ⟨rfl, e0, (by decide : 0 + 0 ≤ _), (by decide : 0 + 0 ≤ _)⟩)
    dsimp only [Pt.U, Pt.locs, Pt.cells, Pt.slots] at X6 l6 y6 z6 st6 hQ6
    subst l6 y6 z6
    obtain ⟨rfl, N6q, eq6⟩ := hQ6
    have N6 := Fr.app N0 N6q
    have k6 : Go p.tables e below (T0.setTop (mkF m 14 #[.val (.ref r0), .val (.int p1), .val (.int p2), .val (.int (2 : Int32)), .val (.int v2)] [(.int v2)])) (T6.setTop (mkF m 17 #[.val (.ref r0), .val (.int p1), .val (.int p2), .val (.int (2 : Int32)), .val (.int v2)] [(.int (f_isHighSurrogate v2))])) := st6
    by_cases hc7 : (f_isHighSurrogate v2) = (0 : Int32)
    · have k8 : Go p.tables e below (T6.setTop (mkF m 17 #[.val (.ref r0), .val (.int p1), .val (.int p2), .val (.int (2 : Int32)), .val (.int v2)] [(.int (f_isHighSurrogate v2))])) (T6.setTop (mkF m 46 #[.val (.ref r0), .val (.int p1), .val (.int p2), .val (.int (2 : Int32)), .val (.int v2)] [(.int v2)])) := by
        intro t ht
        refine XS.ifYes X6.here hx rfl (pc0 := 17) (pc' := 44) rfl (hb hby d_tail2_17) rfl ((if0 _ _).trans (teq hc7).1) (by decide) (by decide) ?_
        show Steps p.tables e below (T6.setTop (mkF m 44 #[.val (.ref r0), .val (.int p1), .val (.int p2), .val (.int (2 : Int32)), .val (.int v2)] [])) _
        refine XS.iload X6.here hx rfl (hb hby d_tail2_44) rfl ?_
        exact ht
      obtain ⟨_, _, ⟨T9, L9, kq9, n9⟩, -, X9, ⟨Lc9, hQ9, l9, y9, z9⟩, st9⟩ := Jvm.LawKit.callS X6 hx (y := (⟨"java/lang/Character", "isSurrogate", "(C)Z"⟩ : MethodName)) hown (mvT hZ (hw _ (List.mem_of_getElem? (i := 39) rfl))) (mvT hZ (hw _ (List.mem_of_getElem? (i := 40) rfl))) (mvT hZ (hw _ (List.mem_of_getElem? (i := 32) rfl))) (mvT hZ (hw _ (List.mem_of_getElem? (i := 41) rfl))) (by decide) (backOf (W := 0) (rm_isSurrogate l Z a0 hw [] v2 h0 n0 Z0 ) hZ (hw _ (List.mem_of_getElem? (i := 41) rfl)) (hw _ (List.mem_of_getElem? (i := 32) rfl)) (by decide) (by decide)) (g := (mkF m 46 #[.val (.ref r0), .val (.int p1), .val (.int p2), .val (.int (2 : Int32)), .val (.int v2)] [(.int v2)])) rfl (by rw [hml]; rfl) (argsL := [(.int v2)]) (rest := []) (lenOf pd_0 rfl) rfl (by show 2 * 0 + _ ≤ _; exact Nat.le_of_eq rfl) (hb hby d_tail2_46) (fun _ _ => ⟨rfl, eq6, (by decide : 0 + 0 ≤ _), (by decide : 0 + 0 ≤ _)⟩)
      dsimp only [Pt.U, Pt.locs, Pt.cells, Pt.slots] at X9 l9 y9 z9 st9 hQ9
      subst l9 y9 z9
      obtain ⟨rfl, N9q, eq9⟩ := hQ9
      have N9 := Fr.app N6 N9q
      have k9 : Go p.tables e below (T6.setTop (mkF m 46 #[.val (.ref r0), .val (.int p1), .val (.int p2), .val (.int (2 : Int32)), .val (.int v2)] [(.int v2)])) (T9.setTop (mkF m 49 #[.val (.ref r0), .val (.int p1), .val (.int p2), .val (.int (2 : Int32)), .val (.int v2)] [(.int (f_isSurrogate v2))])) := st9
      by_cases hc10 : (f_isSurrogate v2) = (0 : Int32)
      · have k11 : Go p.tables e below (T9.setTop (mkF m 49 #[.val (.ref r0), .val (.int p1), .val (.int p2), .val (.int (2 : Int32)), .val (.int v2)] [(.int (f_isSurrogate v2))])) (T9.setTop (mkF m 2 #[.val (.ref r0), .val (.int p1), .val (.int p2), .val (.int (3 : Int32)), .val (.int v2)] [])) := by
          intro t ht
          refine XS.ifYes X9.here hx rfl (pc0 := 49) (pc' := 54) rfl (hb hby d_tail2_49) rfl ((if0 _ _).trans (teq hc10).1) (by decide) (by decide) ?_
          show Steps p.tables e below (T9.setTop (mkF m 54 #[.val (.ref r0), .val (.int p1), .val (.int p2), .val (.int (2 : Int32)), .val (.int v2)] [])) _
          refine XS.iinc X9.here hx rfl (hb hby d_tail2_54) rfl (l' := #[.val (.ref r0), .val (.int p1), .val (.int p2), .val (.int (3 : Int32)), .val (.int v2)]) rfl ?_
          show Steps p.tables e below (T9.setTop (mkF m 57 #[.val (.ref r0), .val (.int p1), .val (.int p2), .val (.int (3 : Int32)), .val (.int v2)] [])) _
          refine XS.goto X9.here hx rfl (pc0 := 57) (pc' := 2) rfl (hb hby d_tail2_57) (by decide) (by decide) ?_
          exact ht
        obtain ⟨T12, L12, pc12, Ls12, X12, N12, e12, hd12, kr12⟩ := pc_tail3 r0 p1 p2 kA v0 v1 v2 v3 (.val (.int v2)) X9 hx hZ hw hby hml hown eq9 N9 Z0 V_A (One.val rfl) hhi
        refine ⟨T12, L12, pc12, Ls12, X12, N12, e12, hd12, ?_⟩
        have kk := goT (goT k1 (goT k3 (goT k5 (goT k6 (goT k8 (goT k9 k11)))))) kr12
        simpa only [f_tail2, if_pos hc2, if_pos hc7, if_pos hc10] using kk
      · have k13 : Go p.tables e below (T9.setTop (mkF m 49 #[.val (.ref r0), .val (.int p1), .val (.int p2), .val (.int (2 : Int32)), .val (.int v2)] [(.int (f_isSurrogate v2))])) (T9.setTop (mkF m 53 #[.val (.ref r0), .val (.int p1), .val (.int p2), .val (.int (2 : Int32)), .val (.int v2)] [(.int (2 : Int32))])) := by
          intro t ht
          refine XS.ifNo X9.here hx rfl (hb hby d_tail2_49) rfl ((if0 _ _).trans (feq hc10).1) ?_
          show Steps p.tables e below (T9.setTop (mkF m 52 #[.val (.ref r0), .val (.int p1), .val (.int p2), .val (.int (2 : Int32)), .val (.int v2)] [])) _
          refine XS.iloadN X9.here hx rfl (hb hby d_tail2_52) rfl ?_
          exact ht
        refine ⟨T9, _, 53, #[.val (.ref r0), .val (.int p1), .val (.int p2), .val (.int (2 : Int32)), .val (.int v2)], X9, N9, eq9, (hb hby d_tail2_53), ?_⟩
        have kk := (goT k1 (goT k3 (goT k5 (goT k6 (goT k8 (goT k9 k13))))))
        simpa only [f_tail2, if_pos hc2, if_pos hc7, if_neg hc10] using kk
    · have k14 : Go p.tables e below (T6.setTop (mkF m 17 #[.val (.ref r0), .val (.int p1), .val (.int p2), .val (.int (2 : Int32)), .val (.int v2)] [(.int (f_isHighSurrogate v2))])) (T6.setTop (mkF m 24 #[.val (.ref r0), .val (.int p1), .val (.int p2), .val (.int (2 : Int32)), .val (.int v2)] [(.int p2), (.int (3 : Int32))])) := by
        intro t ht
        refine XS.ifNo X6.here hx rfl (hb hby d_tail2_17) rfl ((if0 _ _).trans (feq hc7).1) ?_
        show Steps p.tables e below (T6.setTop (mkF m 20 #[.val (.ref r0), .val (.int p1), .val (.int p2), .val (.int (2 : Int32)), .val (.int v2)] [])) _
        refine XS.iloadN X6.here hx rfl (hb hby d_tail2_20) rfl ?_
        show Steps p.tables e below (T6.setTop (mkF m 21 #[.val (.ref r0), .val (.int p1), .val (.int p2), .val (.int (2 : Int32)), .val (.int v2)] [(.int (2 : Int32))])) _
        refine XS.iconst X6.here hx rfl (hb hby d_tail2_21) ?_
        show Steps p.tables e below (T6.setTop (mkF m 22 #[.val (.ref r0), .val (.int p1), .val (.int p2), .val (.int (2 : Int32)), .val (.int v2)] [(.int (1 : Int32)), (.int (2 : Int32))])) _
        refine XS.iadd X6.here hx rfl (hb hby d_tail2_22) rfl ?_
        show Steps p.tables e below (T6.setTop (mkF m 23 #[.val (.ref r0), .val (.int p1), .val (.int p2), .val (.int (2 : Int32)), .val (.int v2)] [(.int (3 : Int32))])) _
        refine XS.iloadN X6.here hx rfl (hb hby d_tail2_23) rfl ?_
        exact ht
      by_cases hc15 : (3 : Int32) < p2
      · have k16 : Go p.tables e below (T6.setTop (mkF m 24 #[.val (.ref r0), .val (.int p1), .val (.int p2), .val (.int (2 : Int32)), .val (.int v2)] [(.int p2), (.int (3 : Int32))])) (T6.setTop (mkF m 31 #[.val (.ref r0), .val (.int p1), .val (.int p2), .val (.int (2 : Int32)), .val (.int v2)] [(.int (3 : Int32)), (.ref r0)])) := by
          intro t ht
          refine XS.icmpNo X6.here hx rfl (hb hby d_tail2_24) rfl (tlt hc15).2.1 ?_
          show Steps p.tables e below (T6.setTop (mkF m 27 #[.val (.ref r0), .val (.int p1), .val (.int p2), .val (.int (2 : Int32)), .val (.int v2)] [])) _
          refine XS.aloadN X6.here hx rfl (hb hby d_tail2_27) rfl rfl ?_
          show Steps p.tables e below (T6.setTop (mkF m 28 #[.val (.ref r0), .val (.int p1), .val (.int p2), .val (.int (2 : Int32)), .val (.int v2)] [(.ref r0)])) _
          refine XS.iloadN X6.here hx rfl (hb hby d_tail2_28) rfl ?_
          show Steps p.tables e below (T6.setTop (mkF m 29 #[.val (.ref r0), .val (.int p1), .val (.int p2), .val (.int (2 : Int32)), .val (.int v2)] [(.int (2 : Int32)), (.ref r0)])) _
          refine XS.iconst X6.here hx rfl (hb hby d_tail2_29) ?_
          show Steps p.tables e below (T6.setTop (mkF m 30 #[.val (.ref r0), .val (.int p1), .val (.int p2), .val (.int (2 : Int32)), .val (.int v2)] [(.int (1 : Int32)), (.int (2 : Int32)), (.ref r0)])) _
          refine XS.iadd X6.here hx rfl (hb hby d_tail2_30) rfl ?_
          exact ht
        obtain ⟨cl17, Ar17, q17, S17, M17, H17, G17⟩ := id V_A
        have hin17 : ¬ ((3 : Int32) < 0 ∨ cl17.slots.size ≤ ((3 : Int32)).toNatClampNeg) := inb_of S17 ⟨by decide, by decide⟩
        have hat17 : cl17.slots[((3 : Int32)).toNatClampNeg]? = some (.int v3) := (H17 _ (Nat.lt_of_not_le fun y => hin17 (Or.inr y))).trans (congrArg some (rfl))
        have k18 : Go p.tables e below (T6.setTop (mkF m 31 #[.val (.ref r0), .val (.int p1), .val (.int p2), .val (.int (2 : Int32)), .val (.int v2)] [(.int (3 : Int32)), (.ref r0)])) (T6.setTop (mkF m 32 #[.val (.ref r0), .val (.int p1), .val (.int p2), .val (.int (2 : Int32)), .val (.int v2)] [(.int v3)])) := by
          intro t ht
          refine X6.caload hx (j := (3 : Int32)) (v := (.int v3)) (by rw [eq6]; exact Ar17.1) (State.isArrayOf_alike hZ.alike Ar17.2.1) Ar17.2.2 hin17 hat17 (g := (mkF m 31 #[.val (.ref r0), .val (.int p1), .val (.int p2), .val (.int (2 : Int32)), .val (.int v2)] [(.int (3 : Int32)), (.ref r0)])) rfl rfl (hb hby d_tail2_31) _ ?_
          exact ht
        obtain ⟨_, _, ⟨T19, L19, kq19, n19⟩, -, X19, ⟨Lc19, hQ19, l19, y19, z19⟩, st19⟩ := Jvm.LawKit.callS X6 hx (y := (⟨"java/lang/Character", "isLowSurrogate", "(C)Z"⟩ : MethodName)) hown (mvT hZ (hw _ (List.mem_of_getElem? (i := 36) rfl))) (mvT hZ (hw _ (List.mem_of_getElem? (i := 37) rfl))) (mvT hZ (hw _ (List.mem_of_getElem? (i := 32) rfl))) (mvT hZ (hw _ (List.mem_of_getElem? (i := 38) rfl))) (by decide) (backOf (W := 0) (rm_isLowSurrogate l Z a0 hw [] v3 h0 n0 Z0 ) hZ (hw _ (List.mem_of_getElem? (i := 38) rfl)) (hw _ (List.mem_of_getElem? (i := 32) rfl)) (by decide) (by decide)) (g := (mkF m 32 #[.val (.ref r0), .val (.int p1), .val (.int p2), .val (.int (2 : Int32)), .val (.int v2)] [(.int v3)])) rfl (by rw [hml]; rfl) (argsL := [(.int v3)]) (rest := []) (lenOf pd_0 rfl) rfl (by show 2 * 0 + _ ≤ _; exact Nat.le_of_eq rfl) (hb hby d_tail2_32) (fun _ _ => ⟨rfl, eq6, (by decide : 0 + 0 ≤ _), (by decide : 0 + 0 ≤ _)⟩)
        dsimp only [Pt.U, Pt.locs, Pt.cells, Pt.slots] at X19 l19 y19 z19 st19 hQ19
        subst l19 y19 z19
        obtain ⟨rfl, N19q, eq19⟩ := hQ19
        have N19 := Fr.app N6 N19q
        have k19 : Go p.tables e below (T6.setTop (mkF m 32 #[.val (.ref r0), .val (.int p1), .val (.int p2), .val (.int (2 : Int32)), .val (.int v2)] [(.int v3)])) (T19.setTop (mkF m 35 #[.val (.ref r0), .val (.int p1), .val (.int p2), .val (.int (2 : Int32)), .val (.int v2)] [(.int (f_isLowSurrogate v3))])) := st19
        by_cases hc20 : (f_isLowSurrogate v3) = (0 : Int32)
        · have k21 : Go p.tables e below (T19.setTop (mkF m 35 #[.val (.ref r0), .val (.int p1), .val (.int p2), .val (.int (2 : Int32)), .val (.int v2)] [(.int (f_isLowSurrogate v3))])) (T19.setTop (mkF m 46 #[.val (.ref r0), .val (.int p1), .val (.int p2), .val (.int (2 : Int32)), .val (.int v2)] [(.int v2)])) := by
            intro t ht
            refine XS.ifYes X19.here hx rfl (pc0 := 35) (pc' := 44) rfl (hb hby d_tail2_35) rfl ((if0 _ _).trans (teq hc20).1) (by decide) (by decide) ?_
            show Steps p.tables e below (T19.setTop (mkF m 44 #[.val (.ref r0), .val (.int p1), .val (.int p2), .val (.int (2 : Int32)), .val (.int v2)] [])) _
            refine XS.iload X19.here hx rfl (hb hby d_tail2_44) rfl ?_
            exact ht
          obtain ⟨_, _, ⟨T22, L22, kq22, n22⟩, -, X22, ⟨Lc22, hQ22, l22, y22, z22⟩, st22⟩ := Jvm.LawKit.callS X19 hx (y := (⟨"java/lang/Character", "isSurrogate", "(C)Z"⟩ : MethodName)) hown (mvT hZ (hw _ (List.mem_of_getElem? (i := 39) rfl))) (mvT hZ (hw _ (List.mem_of_getElem? (i := 40) rfl))) (mvT hZ (hw _ (List.mem_of_getElem? (i := 32) rfl))) (mvT hZ (hw _ (List.mem_of_getElem? (i := 41) rfl))) (by decide) (backOf (W := 0) (rm_isSurrogate l Z a0 hw [] v2 h0 n0 Z0 ) hZ (hw _ (List.mem_of_getElem? (i := 41) rfl)) (hw _ (List.mem_of_getElem? (i := 32) rfl)) (by decide) (by decide)) (g := (mkF m 46 #[.val (.ref r0), .val (.int p1), .val (.int p2), .val (.int (2 : Int32)), .val (.int v2)] [(.int v2)])) rfl (by rw [hml]; rfl) (argsL := [(.int v2)]) (rest := []) (lenOf pd_0 rfl) rfl (by show 2 * 0 + _ ≤ _; exact Nat.le_of_eq rfl) (hb hby d_tail2_46) (fun _ _ => ⟨rfl, eq19, (by decide : 0 + 0 ≤ _), (by decide : 0 + 0 ≤ _)⟩)
          dsimp only [Pt.U, Pt.locs, Pt.cells, Pt.slots] at X22 l22 y22 z22 st22 hQ22
          subst l22 y22 z22
          obtain ⟨rfl, N22q, eq22⟩ := hQ22
          have N22 := Fr.app N19 N22q
          have k22 : Go p.tables e below (T19.setTop (mkF m 46 #[.val (.ref r0), .val (.int p1), .val (.int p2), .val (.int (2 : Int32)), .val (.int v2)] [(.int v2)])) (T22.setTop (mkF m 49 #[.val (.ref r0), .val (.int p1), .val (.int p2), .val (.int (2 : Int32)), .val (.int v2)] [(.int (f_isSurrogate v2))])) := st22
          by_cases hc23 : (f_isSurrogate v2) = (0 : Int32)
          · have k24 : Go p.tables e below (T22.setTop (mkF m 49 #[.val (.ref r0), .val (.int p1), .val (.int p2), .val (.int (2 : Int32)), .val (.int v2)] [(.int (f_isSurrogate v2))])) (T22.setTop (mkF m 2 #[.val (.ref r0), .val (.int p1), .val (.int p2), .val (.int (3 : Int32)), .val (.int v2)] [])) := by
              intro t ht
              refine XS.ifYes X22.here hx rfl (pc0 := 49) (pc' := 54) rfl (hb hby d_tail2_49) rfl ((if0 _ _).trans (teq hc23).1) (by decide) (by decide) ?_
              show Steps p.tables e below (T22.setTop (mkF m 54 #[.val (.ref r0), .val (.int p1), .val (.int p2), .val (.int (2 : Int32)), .val (.int v2)] [])) _
              refine XS.iinc X22.here hx rfl (hb hby d_tail2_54) rfl (l' := #[.val (.ref r0), .val (.int p1), .val (.int p2), .val (.int (3 : Int32)), .val (.int v2)]) rfl ?_
              show Steps p.tables e below (T22.setTop (mkF m 57 #[.val (.ref r0), .val (.int p1), .val (.int p2), .val (.int (3 : Int32)), .val (.int v2)] [])) _
              refine XS.goto X22.here hx rfl (pc0 := 57) (pc' := 2) rfl (hb hby d_tail2_57) (by decide) (by decide) ?_
              exact ht
            obtain ⟨T25, L25, pc25, Ls25, X25, N25, e25, hd25, kr25⟩ := pc_tail3 r0 p1 p2 kA v0 v1 v2 v3 (.val (.int v2)) X22 hx hZ hw hby hml hown eq22 N22 Z0 V_A (One.val rfl) hhi
            refine ⟨T25, L25, pc25, Ls25, X25, N25, e25, hd25, ?_⟩
            have kk := goT (goT k1 (goT k3 (goT k5 (goT k6 (goT k14 (goT k16 (goT k18 (goT k19 (goT k21 (goT k22 k24)))))))))) kr25
            simpa only [f_tail2, if_pos hc2, if_neg hc7, if_pos hc15, if_pos hc20, if_pos hc23] using kk
          · have k26 : Go p.tables e below (T22.setTop (mkF m 49 #[.val (.ref r0), .val (.int p1), .val (.int p2), .val (.int (2 : Int32)), .val (.int v2)] [(.int (f_isSurrogate v2))])) (T22.setTop (mkF m 53 #[.val (.ref r0), .val (.int p1), .val (.int p2), .val (.int (2 : Int32)), .val (.int v2)] [(.int (2 : Int32))])) := by
              intro t ht
              refine XS.ifNo X22.here hx rfl (hb hby d_tail2_49) rfl ((if0 _ _).trans (feq hc23).1) ?_
              show Steps p.tables e below (T22.setTop (mkF m 52 #[.val (.ref r0), .val (.int p1), .val (.int p2), .val (.int (2 : Int32)), .val (.int v2)] [])) _
              refine XS.iloadN X22.here hx rfl (hb hby d_tail2_52) rfl ?_
              exact ht
            refine ⟨T22, _, 53, #[.val (.ref r0), .val (.int p1), .val (.int p2), .val (.int (2 : Int32)), .val (.int v2)], X22, N22, eq22, (hb hby d_tail2_53), ?_⟩
            have kk := (goT k1 (goT k3 (goT k5 (goT k6 (goT k14 (goT k16 (goT k18 (goT k19 (goT k21 (goT k22 k26))))))))))
            simpa only [f_tail2, if_pos hc2, if_neg hc7, if_pos hc15, if_pos hc20, if_neg hc23] using kk
        · have k27 : Go p.tables e below (T19.setTop (mkF m 35 #[.val (.ref r0), .val (.int p1), .val (.int p2), .val (.int (2 : Int32)), .val (.int v2)] [(.int (f_isLowSurrogate v3))])) (T19.setTop (mkF m 2 #[.val (.ref r0), .val (.int p1), .val (.int p2), .val (.int (4 : Int32)), .val (.int v2)] [])) := by
            intro t ht
            refine XS.ifNo X19.here hx rfl (hb hby d_tail2_35) rfl ((if0 _ _).trans (feq hc20).1) ?_
            show Steps p.tables e below (T19.setTop (mkF m 38 #[.val (.ref r0), .val (.int p1), .val (.int p2), .val (.int (2 : Int32)), .val (.int v2)] [])) _
            refine XS.iinc X19.here hx rfl (hb hby d_tail2_38) rfl (l' := #[.val (.ref r0), .val (.int p1), .val (.int p2), .val (.int (4 : Int32)), .val (.int v2)]) rfl ?_
            show Steps p.tables e below (T19.setTop (mkF m 41 #[.val (.ref r0), .val (.int p1), .val (.int p2), .val (.int (4 : Int32)), .val (.int v2)] [])) _
            refine XS.goto X19.here hx rfl (pc0 := 41) (pc' := 57) rfl (hb hby d_tail2_41) (by decide) (by decide) ?_
            show Steps p.tables e below (T19.setTop (mkF m 57 #[.val (.ref r0), .val (.int p1), .val (.int p2), .val (.int (4 : Int32)), .val (.int v2)] [])) _
            refine XS.goto X19.here hx rfl (pc0 := 57) (pc' := 2) rfl (hb hby d_tail2_57) (by decide) (by decide) ?_
            exact ht
          obtain ⟨T28, L28, pc28, Ls28, X28, N28, e28, hd28, kr28⟩ := pc_tail4 r0 p1 p2 kA v0 v1 v2 v3 (.val (.int v2)) X19 hx hZ hw hby hml hown eq19 N19 Z0 V_A (One.val rfl) hhi
          refine ⟨T28, L28, pc28, Ls28, X28, N28, e28, hd28, ?_⟩
          have kk := goT (goT k1 (goT k3 (goT k5 (goT k6 (goT k14 (goT k16 (goT k18 (goT k19 k27)))))))) kr28
          simpa only [f_tail2, if_pos hc2, if_neg hc7, if_pos hc15, if_neg hc20] using kk
      · have k29 : Go p.tables e below (T6.setTop (mkF m 24 #[.val (.ref r0), .val (.int p1), .val (.int p2), .val (.int (2 : Int32)), .val (.int v2)] [(.int p2), (.int (3 : Int32))])) (T6.setTop (mkF m 46 #[.val (.ref r0), .val (.int p1), .val (.int p2), .val (.int (2 : Int32)), .val (.int v2)] [(.int v2)])) := by
          intro t ht
          refine XS.icmpYes X6.here hx rfl (pc0 := 24) (pc' := 44) rfl (hb hby d_tail2_24) rfl (flt hc15).2.1 (by decide) (by decide) ?_
          show Steps p.tables e below (T6.setTop (mkF m 44 #[.val (.ref r0), .val (.int p1), .val (.int p2), .val (.int (2 : Int32)), .val (.int v2)] [])) _
          refine XS.iload X6.here hx rfl (hb hby d_tail2_44) rfl ?_
          exact ht
        obtain ⟨_, _, ⟨T30, L30, kq30, n30⟩, -, X30, ⟨Lc30, hQ30, l30, y30, z30⟩, st30⟩ := Jvm.LawKit.callS X6 hx (y := (⟨"java/lang/Character", "isSurrogate", "(C)Z"⟩ : MethodName)) hown (mvT hZ (hw _ (List.mem_of_getElem? (i := 39) rfl))) (mvT hZ (hw _ (List.mem_of_getElem? (i := 40) rfl))) (mvT hZ (hw _ (List.mem_of_getElem? (i := 32) rfl))) (mvT hZ (hw _ (List.mem_of_getElem? (i := 41) rfl))) (by decide) (backOf (W := 0) (rm_isSurrogate l Z a0 hw [] v2 h0 n0 Z0 ) hZ (hw _ (List.mem_of_getElem? (i := 41) rfl)) (hw _ (List.mem_of_getElem? (i := 32) rfl)) (by decide) (by decide)) (g := (mkF m 46 #[.val (.ref r0), .val (.int p1), .val (.int p2), .val (.int (2 : Int32)), .val (.int v2)] [(.int v2)])) rfl (by rw [hml]; rfl) (argsL := [(.int v2)]) (rest := []) (lenOf pd_0 rfl) rfl (by show 2 * 0 + _ ≤ _; exact Nat.le_of_eq rfl) (hb hby d_tail2_46) (fun _ _ => ⟨rfl, eq6, (by decide : 0 + 0 ≤ _), (by decide : 0 + 0 ≤ _)⟩)
        dsimp only [Pt.U, Pt.locs, Pt.cells, Pt.slots] at X30 l30 y30 z30 st30 hQ30
        subst l30 y30 z30
        obtain ⟨rfl, N30q, eq30⟩ := hQ30
        have N30 := Fr.app N6 N30q
        have k30 : Go p.tables e below (T6.setTop (mkF m 46 #[.val (.ref r0), .val (.int p1), .val (.int p2), .val (.int (2 : Int32)), .val (.int v2)] [(.int v2)])) (T30.setTop (mkF m 49 #[.val (.ref r0), .val (.int p1), .val (.int p2), .val (.int (2 : Int32)), .val (.int v2)] [(.int (f_isSurrogate v2))])) := st30
        by_cases hc31 : (f_isSurrogate v2) = (0 : Int32)
        · have k32 : Go p.tables e below (T30.setTop (mkF m 49 #[.val (.ref r0), .val (.int p1), .val (.int p2), .val (.int (2 : Int32)), .val (.int v2)] [(.int (f_isSurrogate v2))])) (T30.setTop (mkF m 2 #[.val (.ref r0), .val (.int p1), .val (.int p2), .val (.int (3 : Int32)), .val (.int v2)] [])) := by
            intro t ht
            refine XS.ifYes X30.here hx rfl (pc0 := 49) (pc' := 54) rfl (hb hby d_tail2_49) rfl ((if0 _ _).trans (teq hc31).1) (by decide) (by decide) ?_
            show Steps p.tables e below (T30.setTop (mkF m 54 #[.val (.ref r0), .val (.int p1), .val (.int p2), .val (.int (2 : Int32)), .val (.int v2)] [])) _
            refine XS.iinc X30.here hx rfl (hb hby d_tail2_54) rfl (l' := #[.val (.ref r0), .val (.int p1), .val (.int p2), .val (.int (3 : Int32)), .val (.int v2)]) rfl ?_
            show Steps p.tables e below (T30.setTop (mkF m 57 #[.val (.ref r0), .val (.int p1), .val (.int p2), .val (.int (3 : Int32)), .val (.int v2)] [])) _
            refine XS.goto X30.here hx rfl (pc0 := 57) (pc' := 2) rfl (hb hby d_tail2_57) (by decide) (by decide) ?_
            exact ht
          obtain ⟨T33, L33, pc33, Ls33, X33, N33, e33, hd33, kr33⟩ := pc_tail3 r0 p1 p2 kA v0 v1 v2 v3 (.val (.int v2)) X30 hx hZ hw hby hml hown eq30 N30 Z0 V_A (One.val rfl) hhi
          refine ⟨T33, L33, pc33, Ls33, X33, N33, e33, hd33, ?_⟩
          have kk := goT (goT k1 (goT k3 (goT k5 (goT k6 (goT k14 (goT k29 (goT k30 k32))))))) kr33
          simpa only [f_tail2, if_pos hc2, if_neg hc7, if_neg hc15, if_pos hc31] using kk
        · have k34 : Go p.tables e below (T30.setTop (mkF m 49 #[.val (.ref r0), .val (.int p1), .val (.int p2), .val (.int (2 : Int32)), .val (.int v2)] [(.int (f_isSurrogate v2))])) (T30.setTop (mkF m 53 #[.val (.ref r0), .val (.int p1), .val (.int p2), .val (.int (2 : Int32)), .val (.int v2)] [(.int (2 : Int32))])) := by
            intro t ht
            refine XS.ifNo X30.here hx rfl (hb hby d_tail2_49) rfl ((if0 _ _).trans (feq hc31).1) ?_
            show Steps p.tables e below (T30.setTop (mkF m 52 #[.val (.ref r0), .val (.int p1), .val (.int p2), .val (.int (2 : Int32)), .val (.int v2)] [])) _
            refine XS.iloadN X30.here hx rfl (hb hby d_tail2_52) rfl ?_
            exact ht
          refine ⟨T30, _, 53, #[.val (.ref r0), .val (.int p1), .val (.int p2), .val (.int (2 : Int32)), .val (.int v2)], X30, N30, eq30, (hb hby d_tail2_53), ?_⟩
          have kk := (goT k1 (goT k3 (goT k5 (goT k6 (goT k14 (goT k29 (goT k30 k34)))))))
          simpa only [f_tail2, if_pos hc2, if_neg hc7, if_neg hc15, if_neg hc31] using kk
  · have k35 : Go p.tables e below (T0.setTop (mkF m 4 #[.val (.ref r0), .val (.int p1), .val (.int p2), .val (.int (2 : Int32)), s4] [(.int p2), (.int (2 : Int32))])) (T0.setTop (mkF m 61 #[.val (.ref r0), .val (.int p1), .val (.int p2), .val (.int (2 : Int32)), s4] [(.int (-1 : Int32))])) := by
      intro t ht
      refine XS.icmpYes X0.here hx rfl (pc0 := 4) (pc' := 60) rfl (hb hby d_tail2_4) rfl (flt hc2).2.1 (by decide) (by decide) ?_
      show Steps p.tables e below (T0.setTop (mkF m 60 #[.val (.ref r0), .val (.int p1), .val (.int p2), .val (.int (2 : Int32)), s4] [])) _
      refine XS.iconst X0.here hx rfl (hb hby d_tail2_60) ?_
      exact ht
    refine ⟨T0, _, 61, #[.val (.ref r0), .val (.int p1), .val (.int p2), .val (.int (2 : Int32)), s4], X0, N0, e0, (hb hby d_tail2_61), ?_⟩
    have kk := (goT k1 k35)
    simpa only [f_tail2, if_neg hc2] using kk
theorem d_tail1_2 : decode prog_9_method_3_code 2 = .ok (.iload_n 3, 1) := by decide +kernel
theorem d_tail1_3 : decode prog_9_method_3_code 3 = .ok (.iload_n 2, 1) := by decide +kernel
theorem d_tail1_4 : decode prog_9_method_3_code 4 = .ok (.if_icmp .ge 56, 3) := by decide +kernel
theorem d_tail1_7 : decode prog_9_method_3_code 7 = .ok (.aload_n 0, 1) := by decide +kernel
theorem d_tail1_8 : decode prog_9_method_3_code 8 = .ok (.iload_n 3, 1) := by decide +kernel
theorem d_tail1_9 : decode prog_9_method_3_code 9 = .ok (.caload, 1) := by decide +kernel
theorem d_tail1_10 : decode prog_9_method_3_code 10 = .ok (.istore 4, 2) := by decide +kernel
theorem d_tail1_12 : decode prog_9_method_3_code 12 = .ok (.iload 4, 2) := by decide +kernel
theorem d_tail1_14 : decode prog_9_method_3_code 14 = .ok (.invokestatic 27, 3) := by decide +kernel
theorem d_tail1_17 : decode prog_9_method_3_code 17 = .ok (.ifCond .eq 27, 3) := by decide +kernel
theorem d_tail1_20 : decode prog_9_method_3_code 20 = .ok (.iload_n 3, 1) := by decide +kernel
theorem d_tail1_21 : decode prog_9_method_3_code 21 = .ok (.iconst 1, 1) := by decide +kernel
theorem d_tail1_22 : decode prog_9_method_3_code 22 = .ok (.iadd, 1) := by decide +kernel
theorem d_tail1_23 : decode prog_9_method_3_code 23 = .ok (.iload_n 2, 1) := by decide +kernel
theorem d_tail1_24 : decode prog_9_method_3_code 24 = .ok (.if_icmp .ge 20, 3) := by decide +kernel
theorem d_tail1_27 : decode prog_9_method_3_code 27 = .ok (.aload_n 0, 1) := by decide +kernel
theorem d_tail1_28 : decode prog_9_method_3_code 28 = .ok (.iload_n 3, 1) := by decide +kernel
theorem d_tail1_29 : decode prog_9_method_3_code 29 = .ok (.iconst 1, 1) := by decide +kernel
theorem d_tail1_30 : decode prog_9_method_3_code 30 = .ok (.iadd, 1) := by decide +kernel
theorem d_tail1_31 : decode prog_9_method_3_code 31 = .ok (.caload, 1) := by decide +kernel
theorem d_tail1_32 : decode prog_9_method_3_code 32 = .ok (.invokestatic 33, 3) := by decide +kernel
theorem d_tail1_35 : decode prog_9_method_3_code 35 = .ok (.ifCond .eq 9, 3) := by decide +kernel
theorem d_tail1_38 : decode prog_9_method_3_code 38 = .ok (.iinc 3 2, 3) := by decide +kernel
theorem d_tail1_41 : decode prog_9_method_3_code 41 = .ok (.goto 16, 3) := by decide +kernel
theorem d_tail1_44 : decode prog_9_method_3_code 44 = .ok (.iload 4, 2) := by decide +kernel
theorem d_tail1_46 : decode prog_9_method_3_code 46 = .ok (.invokestatic 36, 3) := by decide +kernel
theorem d_tail1_49 : decode prog_9_method_3_code 49 = .ok (.ifCond .eq 5, 3) := by decide +kernel
theorem d_tail1_52 : decode prog_9_method_3_code 52 = .ok (.iload_n 3, 1) := by decide +kernel
theorem d_tail1_53 : decode prog_9_method_3_code 53 = .ok (.ireturn, 1) := by decide +kernel
theorem d_tail1_54 : decode prog_9_method_3_code 54 = .ok (.iinc 3 1, 3) := by decide +kernel
theorem d_tail1_57 : decode prog_9_method_3_code 57 = .ok (.goto (-55), 3) := by decide +kernel
theorem d_tail1_60 : decode prog_9_method_3_code 60 = .ok (.iconst (-1), 1) := by decide +kernel
theorem d_tail1_61 : decode prog_9_method_3_code 61 = .ok (.ireturn, 1) := by decide +kernel
def f_tail1 (v0 v1 v2 v3 p2 : Int32) : Int32 := (if (1 : Int32) < p2 then (if (f_isHighSurrogate v1) = (0 : Int32) then (if (f_isSurrogate v1) = (0 : Int32) then (f_tail2 v0 v1 v2 v3 p2) else (1 : Int32)) else (if (2 : Int32) < p2 then (if (f_isLowSurrogate v2) = (0 : Int32) then (if (f_isSurrogate v1) = (0 : Int32) then (f_tail2 v0 v1 v2 v3 p2) else (1 : Int32)) else (f_tail3 v0 v1 v2 v3 p2)) else (if (f_isSurrogate v1) = (0 : Int32) then (f_tail2 v0 v1 v2 v3 p2) else (1 : Int32)))) else (-1 : Int32))
set_option maxRecDepth 65536 in
set_option maxHeartbeats 40000000 in
theorem pc_tail1 {p : Program} {l : Launch} {e : Env} {s : State} {m : MethodId} {below : List Frame} {meth : Method} {c : Code} {T0 : State} {locs : List Loc} {Z : State} {a0 : Array Value} {h0 : Heap} {n0 : Nat} (r0 : Addr) (p1 p2 : Int32) (kA : ClassId) (v0 v1 v2 v3 : Int32) (s4 : Slot)
    (X0 : Stand p l e ({ frames := 1, cells := 0, slots := 0, locals := 12 } : Room) s m #[(.ref r0), (.int p1), (.int p2)] below meth c T0 locs 0 0) (hx : p.tables.exec = Jvm.exec) (hZ : Z.Warmed39 s.vm) (hw : ∀ d ∈ tables_1, d.before a0 Z = true) (hby : c.code = prog_9_method_3_code) (hml : c.maxLocals = 5) (hown : s.vm.findClass "com/example/fieldveil/fieldveil/Utf8" = some m.cls) (e0 : T0.heap = h0) (N0 : Fr n0 locs) (Z0 : n0 ≤ h0.size) (V_A : Arv Z h0 r0 kA .char (4 : Int32) [(.int v0), (.int v1), (.int v2), (.int v3)] (.int (0 : Int32))) (h4 : One s4) (hhi : ¬ ((4 : Int32) < p2)) :
    ∃ (T' : State) (L' : List Loc) (pc : Nat) (Ls : Array Slot), Stand p l e ({ frames := 1, cells := 0, slots := 0, locals := 12 } : Room) s m #[(.ref r0), (.int p1), (.int p2)] below meth c T' L' 0 0 ∧ Fr n0 L' ∧ T'.heap = h0 ∧ decode c.code pc = .ok (.ireturn, 1) ∧ Go p.tables e below (T0.setTop (mkF m 2 #[.val (.ref r0), .val (.int p1), .val (.int p2), .val (.int (1 : Int32)), s4] [])) (T'.setTop (mkF m pc Ls [(.int (f_tail1 v0 v1 v2 v3 p2))])) := by
  have k1 : Go p.tables e below (T0.setTop (mkF m 2 #[.val (.ref r0), .val (.int p1), .val (.int p2), .val (.int (1 : Int32)), s4] [])) (T0.setTop (mkF m 4 #[.val (.ref r0), .val (.int p1), .val (.int p2), .val (.int (1 : Int32)), s4] [(.int p2), (.int (1 : Int32))])) := by
    intro t ht
    refine XS.iloadN X0.here hx rfl (hb hby d_tail1_2) rfl ?_
    show Steps p.tables e below (T0.setTop (mkF m 3 #[.val (.ref r0), .val (.int p1), .val (.int p2), .val (.int (1 : Int32)), s4] [(.int (1 : Int32))])) _
    refine XS.iloadN X0.here hx rfl (hb hby d_tail1_3) rfl ?_
    exact ht
  by_cases hc2 : (1 : Int32) < p2
  · have k3 : Go p.tables e below (T0.setTop (mkF m 4 #[.val (.ref r0), .val (.int p1), .val (.int p2), .val (.int (1 : Int32)), s4] [(.int p2), (.int (1 : Int32))])) (T0.setTop (mkF m 9 #[.val (.ref r0), .val (.int p1), .val (.int p2), .val (.int (1 : Int32)), s4] [(.int (1 : Int32)), (.ref r0)])) := by
      intro t ht
      refine XS.icmpNo X0.here hx rfl (hb hby d_tail1_4) rfl (tlt hc2).2.1 ?_
      show Steps p.tables e below (T0.setTop (mkF m 7 #[.val (.ref r0), .val (.int p1), .val (.int p2), .val (.int (1 : Int32)), s4] [])) _
      refine XS.aloadN X0.here hx rfl (hb hby d_tail1_7) rfl rfl ?_
      show Steps p.tables e below (T0.setTop (mkF m 8 #[.val (.ref r0), .val (.int p1), .val (.int p2), .val (.int (1 : Int32)), s4] [(.ref r0)])) _
      refine XS.iloadN X0.here hx rfl (hb hby d_tail1_8) rfl ?_
      exact ht
    obtain ⟨cl4, Ar4, q4, S4, M4, H4, G4⟩ := id V_A
    have hin4 : ¬ ((1 : Int32) < 0 ∨ cl4.slots.size ≤ ((1 : Int32)).toNatClampNeg) := inb_of S4 ⟨by decide, by decide⟩
    have hat4 : cl4.slots[((1 : Int32)).toNatClampNeg]? = some (.int v1) := (H4 _ (Nat.lt_of_not_le fun y => hin4 (Or.inr y))).trans (congrArg some (rfl))
    have k5 : Go p.tables e below (T0.setTop (mkF m 9 #[.val (.ref r0), .val (.int p1), .val (.int p2), .val (.int (1 : Int32)), s4] [(.int (1 : Int32)), (.ref r0)])) (T0.setTop (mkF m 14 #[.val (.ref r0), .val (.int p1), .val (.int p2), .val (.int (1 : Int32)), .val (.int v1)] [(.int v1)])) := by
      intro t ht
      refine X0.caload hx (j := (1 : Int32)) (v := (.int v1)) (by rw [e0]; exact Ar4.1) (State.isArrayOf_alike hZ.alike Ar4.2.1) Ar4.2.2 hin4 hat4 (g := (mkF m 9 #[.val (.ref r0), .val (.int p1), .val (.int p2), .val (.int (1 : Int32)), s4] [(.int (1 : Int32)), (.ref r0)])) rfl rfl (hb hby d_tail1_9) _ ?_
      show Steps p.tables e below (T0.setTop (mkF m 10 #[.val (.ref r0), .val (.int p1), .val (.int p2), .val (.int (1 : Int32)), s4] [(.int v1)])) _
      refine XS.istore X0.here hx rfl (hb hby d_tail1_10) rfl (l' := #[.val (.ref r0), .val (.int p1), .val (.int p2), .val (.int (1 : Int32)), .val (.int v1)]) (own_st4 h4) ?_
      show Steps p.tables e below (T0.setTop (mkF m 12 #[.val (.ref r0), .val (.int p1), .val (.int p2), .val (.int (1 : Int32)), .val (.int v1)] [])) _
      refine XS.iload X0.here hx rfl (hb hby d_tail1_12) rfl ?_
      exact ht
    obtain ⟨_, _, ⟨T6, L6, kq6, n6⟩, -, X6, ⟨Lc6, hQ6, l6, y6, z6⟩, st6⟩ := Jvm.LawKit.callS X0 hx (y := (⟨"java/lang/Character", "isHighSurrogate", "(C)Z"⟩ : MethodName)) hown (mvT hZ (hw _ (List.mem_of_getElem? (i := 30) rfl))) (mvT hZ (hw _ (List.mem_of_getElem? (i := 31) rfl))) (mvT hZ (hw _ (List.mem_of_getElem? (i := 32) rfl))) (mvT hZ (hw _ (List.mem_of_getElem? (i := 33) rfl))) (by decide) (backOf (W := 0) (rm_isHighSurrogate l Z a0 hw [] v1 h0 n0 Z0 ) hZ (hw _ (List.mem_of_getElem? (i := 33) rfl)) (hw _ (List.mem_of_getElem? (i := 32) rfl)) (by decide) (by decide)) (g := (mkF m 14 #[.val (.ref r0), .val (.int p1), .val (.int p2), .val (.int (1 : Int32)), .val (.int v1)] [(.int v1)])) rfl (by rw [hml]; rfl) (argsL := [(.int v1)]) (rest := []) (lenOf pd_0 rfl) rfl (by show 2 * 0 + _ ≤ _; exact Nat.le_of_eq rfl) (hb hby d_tail1_14) (fun _ _ => ⟨rfl, e0, (by decide : 0 + 0 ≤ _), (by decide : 0 + 0 ≤ _)⟩)
    dsimp only [Pt.U, Pt.locs, Pt.cells, Pt.slots] at X6 l6 y6 z6 st6 hQ6
    subst l6 y6 z6
    obtain ⟨rfl, N6q, eq6⟩ := hQ6
    have N6 := Fr.app N0 N6q
    have k6 : Go p.tables e below (T0.setTop (mkF m 14 #[.val (.ref r0), .val (.int p1), .val (.int p2), .val (.int (1 : Int32)), .val (.int v1)] [(.int v1)])) (T6.setTop (mkF m 17 #[.val (.ref r0), .val (.int p1), .val (.int p2), .val (.int (1 : Int32)), .val (.int v1)] [(.int (f_isHighSurrogate v1))])) := st6
    by_cases hc7 : (f_isHighSurrogate v1) = (0 : Int32)
    · have k8 : Go p.tables e below (T6.setTop (mkF m 17 #[.val (.ref r0), .val (.int p1), .val (.int p2), .val (.int (1 : Int32)), .val (.int v1)] [(.int (f_isHighSurrogate v1))])) (T6.setTop (mkF m 46 #[.val (.ref r0), .val (.int p1), .val (.int p2), .val (.int (1 : Int32)), .val (.int v1)] [(.int v1)])) := by
        intro t ht
        refine XS.ifYes X6.here hx rfl (pc0 := 17) (pc' := 44) rfl (hb hby d_tail1_17) rfl ((if0 _ _).trans (teq hc7).1) (by decide) (by decide) ?_
        show Steps p.tables e below (T6.setTop (mkF m 44 #[.val (.ref r0), .val (.int p1), .val (.int p2), .val (.int (1 : Int32)), .val (.int v1)] [])) _
        refine XS.iload X6.here hx rfl (hb hby d_tail1_44) rfl ?_
        exact ht
      obtain ⟨_, _, ⟨T9, L9, kq9, n9⟩, -, X9, ⟨Lc9, hQ9, l9, y9, z9⟩, st9⟩ := Jvm.LawKit.callS X6 hx (y := (⟨"java/lang/Character", "isSurrogate", "(C)Z"⟩ : MethodName)) hown (mvT hZ (hw _ (List.mem_of_getElem? (i := 39) rfl))) (mvT hZ (hw _ (List.mem_of_getElem? (i := 40) rfl))) (mvT hZ (hw _ (List.mem_of_getElem? (i := 32) rfl))) (mvT hZ (hw _ (List.mem_of_getElem? (i := 41) rfl))) (by decide) (backOf (W := 0) (rm_isSurrogate l Z a0 hw [] v1 h0 n0 Z0 ) hZ (hw _ (List.mem_of_getElem? (i := 41) rfl)) (hw _ (List.mem_of_getElem? (i := 32) rfl)) (by decide) (by decide)) (g := (mkF m 46 #[.val (.ref r0), .val (.int p1), .val (.int p2), .val (.int (1 : Int32)), .val (.int v1)] [(.int v1)])) rfl (by rw [hml]; rfl) (argsL := [(.int v1)]) (rest := []) (lenOf pd_0 rfl) rfl (by show 2 * 0 + _ ≤ _; exact Nat.le_of_eq rfl) (hb hby d_tail1_46) (fun _ _ => ⟨rfl, eq6, (by decide : 0 + 0 ≤ _), (by decide : 0 + 0 ≤ _)⟩)
      dsimp only [Pt.U, Pt.locs, Pt.cells, Pt.slots] at X9 l9 y9 z9 st9 hQ9
      subst l9 y9 z9
      obtain ⟨rfl, N9q, eq9⟩ := hQ9
      have N9 := Fr.app N6 N9q
      have k9 : Go p.tables e below (T6.setTop (mkF m 46 #[.val (.ref r0), .val (.int p1), .val (.int p2), .val (.int (1 : Int32)), .val (.int v1)] [(.int v1)])) (T9.setTop (mkF m 49 #[.val (.ref r0), .val (.int p1), .val (.int p2), .val (.int (1 : Int32)), .val (.int v1)] [(.int (f_isSurrogate v1))])) := st9
      by_cases hc10 : (f_isSurrogate v1) = (0 : Int32)
      · have k11 : Go p.tables e below (T9.setTop (mkF m 49 #[.val (.ref r0), .val (.int p1), .val (.int p2), .val (.int (1 : Int32)), .val (.int v1)] [(.int (f_isSurrogate v1))])) (T9.setTop (mkF m 2 #[.val (.ref r0), .val (.int p1), .val (.int p2), .val (.int (2 : Int32)), .val (.int v1)] [])) := by
          intro t ht
          refine XS.ifYes X9.here hx rfl (pc0 := 49) (pc' := 54) rfl (hb hby d_tail1_49) rfl ((if0 _ _).trans (teq hc10).1) (by decide) (by decide) ?_
          show Steps p.tables e below (T9.setTop (mkF m 54 #[.val (.ref r0), .val (.int p1), .val (.int p2), .val (.int (1 : Int32)), .val (.int v1)] [])) _
          refine XS.iinc X9.here hx rfl (hb hby d_tail1_54) rfl (l' := #[.val (.ref r0), .val (.int p1), .val (.int p2), .val (.int (2 : Int32)), .val (.int v1)]) rfl ?_
          show Steps p.tables e below (T9.setTop (mkF m 57 #[.val (.ref r0), .val (.int p1), .val (.int p2), .val (.int (2 : Int32)), .val (.int v1)] [])) _
          refine XS.goto X9.here hx rfl (pc0 := 57) (pc' := 2) rfl (hb hby d_tail1_57) (by decide) (by decide) ?_
          exact ht
        obtain ⟨T12, L12, pc12, Ls12, X12, N12, e12, hd12, kr12⟩ := pc_tail2 r0 p1 p2 kA v0 v1 v2 v3 (.val (.int v1)) X9 hx hZ hw hby hml hown eq9 N9 Z0 V_A (One.val rfl) hhi
        refine ⟨T12, L12, pc12, Ls12, X12, N12, e12, hd12, ?_⟩
        have kk := goT (goT k1 (goT k3 (goT k5 (goT k6 (goT k8 (goT k9 k11)))))) kr12
        simpa only [f_tail1, if_pos hc2, if_pos hc7, if_pos hc10] using kk
      · have k13 : Go p.tables e below (T9.setTop (mkF m 49 #[.val (.ref r0), .val (.int p1), .val (.int p2), .val (.int (1 : Int32)), .val (.int v1)] [(.int (f_isSurrogate v1))])) (T9.setTop (mkF m 53 #[.val (.ref r0), .val (.int p1), .val (.int p2), .val (.int (1 : Int32)), .val (.int v1)] [(.int (1 : Int32))])) := by
          intro t ht
          refine XS.ifNo X9.here hx rfl (hb hby d_tail1_49) rfl ((if0 _ _).trans (feq hc10).1) ?_
          show Steps p.tables e below (T9.setTop (mkF m 52 #[.val (.ref r0), .val (.int p1), .val (.int p2), .val (.int (1 : Int32)), .val (.int v1)] [])) _
          refine XS.iloadN X9.here hx rfl (hb hby d_tail1_52) rfl ?_
          exact ht
        refine ⟨T9, _, 53, #[.val (.ref r0), .val (.int p1), .val (.int p2), .val (.int (1 : Int32)), .val (.int v1)], X9, N9, eq9, (hb hby d_tail1_53), ?_⟩
        have kk := (goT k1 (goT k3 (goT k5 (goT k6 (goT k8 (goT k9 k13))))))
        simpa only [f_tail1, if_pos hc2, if_pos hc7, if_neg hc10] using kk
    · have k14 : Go p.tables e below (T6.setTop (mkF m 17 #[.val (.ref r0), .val (.int p1), .val (.int p2), .val (.int (1 : Int32)), .val (.int v1)] [(.int (f_isHighSurrogate v1))])) (T6.setTop (mkF m 24 #[.val (.ref r0), .val (.int p1), .val (.int p2), .val (.int (1 : Int32)), .val (.int v1)] [(.int p2), (.int (2 : Int32))])) := by
        intro t ht
        refine XS.ifNo X6.here hx rfl (hb hby d_tail1_17) rfl ((if0 _ _).trans (feq hc7).1) ?_
        show Steps p.tables e below (T6.setTop (mkF m 20 #[.val (.ref r0), .val (.int p1), .val (.int p2), .val (.int (1 : Int32)), .val (.int v1)] [])) _
        refine XS.iloadN X6.here hx rfl (hb hby d_tail1_20) rfl ?_
        show Steps p.tables e below (T6.setTop (mkF m 21 #[.val (.ref r0), .val (.int p1), .val (.int p2), .val (.int (1 : Int32)), .val (.int v1)] [(.int (1 : Int32))])) _
        refine XS.iconst X6.here hx rfl (hb hby d_tail1_21) ?_
        show Steps p.tables e below (T6.setTop (mkF m 22 #[.val (.ref r0), .val (.int p1), .val (.int p2), .val (.int (1 : Int32)), .val (.int v1)] [(.int (1 : Int32)), (.int (1 : Int32))])) _
        refine XS.iadd X6.here hx rfl (hb hby d_tail1_22) rfl ?_
        show Steps p.tables e below (T6.setTop (mkF m 23 #[.val (.ref r0), .val (.int p1), .val (.int p2), .val (.int (1 : Int32)), .val (.int v1)] [(.int (2 : Int32))])) _
        refine XS.iloadN X6.here hx rfl (hb hby d_tail1_23) rfl ?_
        exact ht
      by_cases hc15 : (2 : Int32) < p2
      · have k16 : Go p.tables e below (T6.setTop (mkF m 24 #[.val (.ref r0), .val (.int p1), .val (.int p2), .val (.int (1 : Int32)), .val (.int v1)] [(.int p2), (.int (2 : Int32))])) (T6.setTop (mkF m 31 #[.val (.ref r0), .val (.int p1), .val (.int p2), .val (.int (1 : Int32)), .val (.int v1)] [(.int (2 : Int32)), (.ref r0)])) := by
          intro t ht
          refine XS.icmpNo X6.here hx rfl (hb hby d_tail1_24) rfl (tlt hc15).2.1 ?_
          show Steps p.tables e below (T6.setTop (mkF m 27 #[.val (.ref r0), .val (.int p1), .val (.int p2), .val (.int (1 : Int32)), .val (.int v1)] [])) _
          refine XS.aloadN X6.here hx rfl (hb hby d_tail1_27) rfl rfl ?_
          show Steps p.tables e below (T6.setTop (mkF m 28 #[.val (.ref r0), .val (.int p1), .val (.int p2), .val (.int (1 : Int32)), .val (.int v1)] [(.ref r0)])) _
          refine XS.iloadN X6.here hx rfl (hb hby d_tail1_28) rfl ?_
          show Steps p.tables e below (T6.setTop (mkF m 29 #[.val (.ref r0), .val (.int p1), .val (.int p2), .val (.int (1 : Int32)), .val (.int v1)] [(.int (1 : Int32)), (.ref r0)])) _
          refine XS.iconst X6.here hx rfl (hb hby d_tail1_29) ?_
          show Steps p.tables e below (T6.setTop (mkF m 30 #[.val (.ref r0), .val (.int p1), .val (.int p2), .val (.int (1 : Int32)), .val (.int v1)] [(.int (1 : Int32)), (.int (1 : Int32)), (.ref r0)])) _
          refine XS.iadd X6.here hx rfl (hb hby d_tail1_30) rfl ?_
          exact ht
        obtain ⟨cl17, Ar17, q17, S17, M17, H17, G17⟩ := id V_A
        have hin17 : ¬ ((2 : Int32) < 0 ∨ cl17.slots.size ≤ ((2 : Int32)).toNatClampNeg) := inb_of S17 ⟨by decide, by decide⟩
        have hat17 : cl17.slots[((2 : Int32)).toNatClampNeg]? = some (.int v2) := (H17 _ (Nat.lt_of_not_le fun y => hin17 (Or.inr y))).trans (congrArg some (rfl))
        have k18 : Go p.tables e below (T6.setTop (mkF m 31 #[.val (.ref r0), .val (.int p1), .val (.int p2), .val (.int (1 : Int32)), .val (.int v1)] [(.int (2 : Int32)), (.ref r0)])) (T6.setTop (mkF m 32 #[.val (.ref r0), .val (.int p1), .val (.int p2), .val (.int (1 : Int32)), .val (.int v1)] [(.int v2)])) := by
          intro t ht
          refine X6.caload hx (j := (2 : Int32)) (v := (.int v2)) (by rw [eq6]; exact Ar17.1) (State.isArrayOf_alike hZ.alike Ar17.2.1) Ar17.2.2 hin17 hat17 (g := (mkF m 31 #[.val (.ref r0), .val (.int p1), .val (.int p2), .val (.int (1 : Int32)), .val (.int v1)] [(.int (2 : Int32)), (.ref r0)])) rfl rfl (hb hby d_tail1_31) _ ?_
          exact ht
        obtain ⟨_, _, ⟨T19, L19, kq19, n19⟩, -, X19, ⟨Lc19, hQ19, l19, y19, z19⟩, st19⟩ := Jvm.LawKit.callS X6 hx (y := (⟨"java/lang/Character", "isLowSurrogate", "(C)Z"⟩ : MethodName)) hown (mvT hZ (hw _ (List.mem_of_getElem? (i := 36) rfl))) (mvT hZ (hw _ (List.mem_of_getElem? (i := 37) rfl))) (mvT hZ (hw _ (List.mem_of_getElem? (i := 32) rfl))) (mvT hZ (hw _ (List.mem_of_getElem? (i := 38) rfl))) (by decide) (backOf (W := 0) (rm_isLowSurrogate l Z a0 hw [] v2 h0 n0 Z0 ) hZ (hw _ (List.mem_of_getElem? (i := 38) rfl)) (hw _ (List.mem_of_getElem? (i := 32) rfl)) (by decide) (by decide)) (g := (mkF m 32 #[.val (.ref r0), .val (.int p1), .val (.int p2), .val (.int (1 : Int32)), .val (.int v1)] [(.int v2)])) rfl (by rw [hml]; rfl) (argsL := [(.int v2)]) (rest := []) (lenOf pd_0 rfl) rfl (by show 2 * 0 + _ ≤ _; exact Nat.le_of_eq rfl) (hb hby d_tail1_32) (fun _ _ => ⟨rfl, eq6, (by decide : 0 + 0 ≤ _), (by decide : 0 + 0 ≤ _)⟩)
        dsimp only [Pt.U, Pt.locs, Pt.cells, Pt.slots] at X19 l19 y19 z19 st19 hQ19
        subst l19 y19 z19
        obtain ⟨rfl, N19q, eq19⟩ := hQ19
        have N19 := Fr.app N6 N19q
        have k19 : Go p.tables e below (T6.setTop (mkF m 32 #[.val (.ref r0), .val (.int p1), .val (.int p2), .val (.int (1 : Int32)), .val (.int v1)] [(.int v2)])) (T19.setTop (mkF m 35 #[.val (.ref r0), .val (.int p1), .val (.int p2), .val (.int (1 : Int32)), .val (.int v1)] [(.int (f_isLowSurrogate v2))])) := st19
        by_cases hc20 : (f_isLowSurrogate v2) = (0 : Int32)
        · have k21 : Go p.tables e below (T19.setTop (mkF m 35 #[.val (.ref r0), .val (.int p1), .val (.int p2), .val (.int (1 : Int32)), .val (.int v1)] [(.int (f_isLowSurrogate v2))])) (T19.setTop (mkF m 46 #[.val (.ref r0), .val (.int p1), .val (.int p2), .val (.int (1 : Int32)), .val (.int v1)] [(.int v1)])) := by
            intro t ht
            refine XS.ifYes X19.here hx rfl (pc0 := 35) (pc' := 44) rfl (hb hby d_tail1_35) rfl ((if0 _ _).trans (teq hc20).1) (by decide) (by decide) ?_
            show Steps p.tables e below (T19.setTop (mkF m 44 #[.val (.ref r0), .val (.int p1), .val (.int p2), .val (.int (1 : Int32)), .val (.int v1)] [])) _
            refine XS.iload X19.here hx rfl (hb hby d_tail1_44) rfl ?_
            exact ht
          obtain ⟨_, _, ⟨T22, L22, kq22, n22⟩, -, X22, ⟨Lc22, hQ22, l22, y22, z22⟩, st22⟩ := Jvm.LawKit.callS X19 hx (y := (⟨"java/lang/Character", "isSurrogate", "(C)Z"⟩ : MethodName)) hown (mvT hZ (hw _ (List.mem_of_getElem? (i := 39) rfl))) (mvT hZ (hw _ (List.mem_of_getElem? (i := 40) rfl))) (mvT hZ (hw _ (List.mem_of_getElem? (i := 32) rfl))) (mvT hZ (hw _ (List.mem_of_getElem? (i := 41) rfl))) (by decide) (backOf (W := 0) (rm_isSurrogate l Z a0 hw [] v1 h0 n0 Z0 ) hZ (hw _ (List.mem_of_getElem? (i := 41) rfl)) (hw _ (List.mem_of_getElem? (i := 32) rfl)) (by decide) (by decide)) (g := (mkF m 46 #[.val (.ref r0), .val (.int p1), .val (.int p2), .val (.int (1 : Int32)), .val (.int v1)] [(.int v1)])) rfl (by rw [hml]; rfl) (argsL := [(.int v1)]) (rest := []) (lenOf pd_0 rfl) rfl (by show 2 * 0 + _ ≤ _; exact Nat.le_of_eq rfl) (hb hby d_tail1_46) (fun _ _ => ⟨rfl, eq19, (by decide : 0 + 0 ≤ _), (by decide : 0 + 0 ≤ _)⟩)
          dsimp only [Pt.U, Pt.locs, Pt.cells, Pt.slots] at X22 l22 y22 z22 st22 hQ22
          subst l22 y22 z22
          obtain ⟨rfl, N22q, eq22⟩ := hQ22
          have N22 := Fr.app N19 N22q
          have k22 : Go p.tables e below (T19.setTop (mkF m 46 #[.val (.ref r0), .val (.int p1), .val (.int p2), .val (.int (1 : Int32)), .val (.int v1)] [(.int v1)])) (T22.setTop (mkF m 49 #[.val (.ref r0), .val (.int p1), .val (.int p2), .val (.int (1 : Int32)), .val (.int v1)] [(.int (f_isSurrogate v1))])) := st22
          by_cases hc23 : (f_isSurrogate v1) = (0 : Int32)
          · have k24 : Go p.tables e below (T22.setTop (mkF m 49 #[.val (.ref r0), .val (.int p1), .val (.int p2), .val (.int (1 : Int32)), .val (.int v1)] [(.int (f_isSurrogate v1))])) (T22.setTop (mkF m 2 #[.val (.ref r0), .val (.int p1), .val (.int p2), .val (.int (2 : Int32)), .val (.int v1)] [])) := by
              intro t ht
              refine XS.ifYes X22.here hx rfl (pc0 := 49) (pc' := 54) rfl (hb hby d_tail1_49) rfl ((if0 _ _).trans (teq hc23).1) (by decide) (by decide) ?_
              show Steps p.tables e below (T22.setTop (mkF m 54 #[.val (.ref r0), .val (.int p1), .val (.int p2), .val (.int (1 : Int32)), .val (.int v1)] [])) _
              refine XS.iinc X22.here hx rfl (hb hby d_tail1_54) rfl (l' := #[.val (.ref r0), .val (.int p1), .val (.int p2), .val (.int (2 : Int32)), .val (.int v1)]) rfl ?_
              show Steps p.tables e below (T22.setTop (mkF m 57 #[.val (.ref r0), .val (.int p1), .val (.int p2), .val (.int (2 : Int32)), .val (.int v1)] [])) _
              refine XS.goto X22.here hx rfl (pc0 := 57) (pc' := 2) rfl (hb hby d_tail1_57) (by decide) (by decide) ?_
              exact ht
            obtain ⟨T25, L25, pc25, Ls25, X25, N25, e25, hd25, kr25⟩ := pc_tail2 r0 p1 p2 kA v0 v1 v2 v3 (.val (.int v1)) X22 hx hZ hw hby hml hown eq22 N22 Z0 V_A (One.val rfl) hhi
            refine ⟨T25, L25, pc25, Ls25, X25, N25, e25, hd25, ?_⟩
            have kk := goT (goT k1 (goT k3 (goT k5 (goT k6 (goT k14 (goT k16 (goT k18 (goT k19 (goT k21 (goT k22 k24)))))))))) kr25
            simpa only [f_tail1, if_pos hc2, if_neg hc7, if_pos hc15, if_pos hc20, if_pos hc23] using kk
          · have k26 : Go p.tables e below (T22.setTop (mkF m 49 #[.val (.ref r0), .val (.int p1), .val (.int p2), .val (.int (1 : Int32)), .val (.int v1)] [(.int (f_isSurrogate v1))])) (T22.setTop (mkF m 53 #[.val (.ref r0), .val (.int p1), .val (.int p2), .val (.int (1 : Int32)), .val (.int v1)] [(.int (1 : Int32))])) := by
              intro t ht
              refine XS.ifNo X22.here hx rfl (hb hby d_tail1_49) rfl ((if0 _ _).trans (feq hc23).1) ?_
              show Steps p.tables e below (T22.setTop (mkF m 52 #[.val (.ref r0), .val (.int p1), .val (.int p2), .val (.int (1 : Int32)), .val (.int v1)] [])) _
              refine XS.iloadN X22.here hx rfl (hb hby d_tail1_52) rfl ?_
              exact ht
            refine ⟨T22, _, 53, #[.val (.ref r0), .val (.int p1), .val (.int p2), .val (.int (1 : Int32)), .val (.int v1)], X22, N22, eq22, (hb hby d_tail1_53), ?_⟩
            have kk := (goT k1 (goT k3 (goT k5 (goT k6 (goT k14 (goT k16 (goT k18 (goT k19 (goT k21 (goT k22 k26))))))))))
            simpa only [f_tail1, if_pos hc2, if_neg hc7, if_pos hc15, if_pos hc20, if_neg hc23] using kk
        · have k27 : Go p.tables e below (T19.setTop (mkF m 35 #[.val (.ref r0), .val (.int p1), .val (.int p2), .val (.int (1 : Int32)), .val (.int v1)] [(.int (f_isLowSurrogate v2))])) (T19.setTop (mkF m 2 #[.val (.ref r0), .val (.int p1), .val (.int p2), .val (.int (3 : Int32)), .val (.int v1)] [])) := by
            intro t ht
            refine XS.ifNo X19.here hx rfl (hb hby d_tail1_35) rfl ((if0 _ _).trans (feq hc20).1) ?_
            show Steps p.tables e below (T19.setTop (mkF m 38 #[.val (.ref r0), .val (.int p1), .val (.int p2), .val (.int (1 : Int32)), .val (.int v1)] [])) _
            refine XS.iinc X19.here hx rfl (hb hby d_tail1_38) rfl (l' := #[.val (.ref r0), .val (.int p1), .val (.int p2), .val (.int (3 : Int32)), .val (.int v1)]) rfl ?_
            show Steps p.tables e below (T19.setTop (mkF m 41 #[.val (.ref r0), .val (.int p1), .val (.int p2), .val (.int (3 : Int32)), .val (.int v1)] [])) _
            refine XS.goto X19.here hx rfl (pc0 := 41) (pc' := 57) rfl (hb hby d_tail1_41) (by decide) (by decide) ?_
            show Steps p.tables e below (T19.setTop (mkF m 57 #[.val (.ref r0), .val (.int p1), .val (.int p2), .val (.int (3 : Int32)), .val (.int v1)] [])) _
            refine XS.goto X19.here hx rfl (pc0 := 57) (pc' := 2) rfl (hb hby d_tail1_57) (by decide) (by decide) ?_
            exact ht
          obtain ⟨T28, L28, pc28, Ls28, X28, N28, e28, hd28, kr28⟩ := pc_tail3 r0 p1 p2 kA v0 v1 v2 v3 (.val (.int v1)) X19 hx hZ hw hby hml hown eq19 N19 Z0 V_A (One.val rfl) hhi
          refine ⟨T28, L28, pc28, Ls28, X28, N28, e28, hd28, ?_⟩
          have kk := goT (goT k1 (goT k3 (goT k5 (goT k6 (goT k14 (goT k16 (goT k18 (goT k19 k27)))))))) kr28
          simpa only [f_tail1, if_pos hc2, if_neg hc7, if_pos hc15, if_neg hc20] using kk
      · have k29 : Go p.tables e below (T6.setTop (mkF m 24 #[.val (.ref r0), .val (.int p1), .val (.int p2), .val (.int (1 : Int32)), .val (.int v1)] [(.int p2), (.int (2 : Int32))])) (T6.setTop (mkF m 46 #[.val (.ref r0), .val (.int p1), .val (.int p2), .val (.int (1 : Int32)), .val (.int v1)] [(.int v1)])) := by
          intro t ht
          refine XS.icmpYes X6.here hx rfl (pc0 := 24) (pc' := 44) rfl (hb hby d_tail1_24) rfl (flt hc15).2.1 (by decide) (by decide) ?_
          show Steps p.tables e below (T6.setTop (mkF m 44 #[.val (.ref r0), .val (.int p1), .val (.int p2), .val (.int (1 : Int32)), .val (.int v1)] [])) _
          refine XS.iload X6.here hx rfl (hb hby d_tail1_44) rfl ?_
          exact ht
        obtain ⟨_, _, ⟨T30, L30, kq30, n30⟩, -, X30, ⟨Lc30, hQ30, l30, y30, z30⟩, st30⟩ := Jvm.LawKit.callS X6 hx (y := (⟨"java/lang/Character", "isSurrogate", "(C)Z"⟩ : MethodName)) hown (mvT hZ (hw _ (List.mem_of_getElem? (i := 39) rfl))) (mvT hZ (hw _ (List.mem_of_getElem? (i := 40) rfl))) (mvT hZ (hw _ (List.mem_of_getElem? (i := 32) rfl))) (mvT hZ (hw _ (List.mem_of_getElem? (i := 41) rfl))) (by decide) (backOf (W := 0) (rm_isSurrogate l Z a0 hw [] v1 h0 n0 Z0 ) hZ (hw _ (List.mem_of_getElem? (i := 41) rfl)) (hw _ (List.mem_of_getElem? (i := 32) rfl)) (by decide) (by decide)) (g := (mkF m 46 #[.val (.ref r0), .val (.int p1), .val (.int p2), .val (.int (1 : Int32)), .val (.int v1)] [(.int v1)])) rfl (by rw [hml]; rfl) (argsL := [(.int v1)]) (rest := []) (lenOf pd_0 rfl) rfl (by show 2 * 0 + _ ≤ _; exact Nat.le_of_eq rfl) (hb hby d_tail1_46) (fun _ _ => ⟨rfl, eq6, (by decide : 0 + 0 ≤ _), (by decide : 0 + 0 ≤ _)⟩)
        dsimp only [Pt.U, Pt.locs, Pt.cells, Pt.slots] at X30 l30 y30 z30 st30 hQ30
        subst l30 y30 z30
        obtain ⟨rfl, N30q, eq30⟩ := hQ30
        have N30 := Fr.app N6 N30q
        have k30 : Go p.tables e below (T6.setTop (mkF m 46 #[.val (.ref r0), .val (.int p1), .val (.int p2), .val (.int (1 : Int32)), .val (.int v1)] [(.int v1)])) (T30.setTop (mkF m 49 #[.val (.ref r0), .val (.int p1), .val (.int p2), .val (.int (1 : Int32)), .val (.int v1)] [(.int (f_isSurrogate v1))])) := st30
        by_cases hc31 : (f_isSurrogate v1) = (0 : Int32)
        · have k32 : Go p.tables e below (T30.setTop (mkF m 49 #[.val (.ref r0), .val (.int p1), .val (.int p2), .val (.int (1 : Int32)), .val (.int v1)] [(.int (f_isSurrogate v1))])) (T30.setTop (mkF m 2 #[.val (.ref r0), .val (.int p1), .val (.int p2), .val (.int (2 : Int32)), .val (.int v1)] [])) := by
            intro t ht
            refine XS.ifYes X30.here hx rfl (pc0 := 49) (pc' := 54) rfl (hb hby d_tail1_49) rfl ((if0 _ _).trans (teq hc31).1) (by decide) (by decide) ?_
            show Steps p.tables e below (T30.setTop (mkF m 54 #[.val (.ref r0), .val (.int p1), .val (.int p2), .val (.int (1 : Int32)), .val (.int v1)] [])) _
            refine XS.iinc X30.here hx rfl (hb hby d_tail1_54) rfl (l' := #[.val (.ref r0), .val (.int p1), .val (.int p2), .val (.int (2 : Int32)), .val (.int v1)]) rfl ?_
            show Steps p.tables e below (T30.setTop (mkF m 57 #[.val (.ref r0), .val (.int p1), .val (.int p2), .val (.int (2 : Int32)), .val (.int v1)] [])) _
            refine XS.goto X30.here hx rfl (pc0 := 57) (pc' := 2) rfl (hb hby d_tail1_57) (by decide) (by decide) ?_
            exact ht
          obtain ⟨T33, L33, pc33, Ls33, X33, N33, e33, hd33, kr33⟩ := pc_tail2 r0 p1 p2 kA v0 v1 v2 v3 (.val (.int v1)) X30 hx hZ hw hby hml hown eq30 N30 Z0 V_A (One.val rfl) hhi
          refine ⟨T33, L33, pc33, Ls33, X33, N33, e33, hd33, ?_⟩
          have kk := goT (goT k1 (goT k3 (goT k5 (goT k6 (goT k14 (goT k29 (goT k30 k32))))))) kr33
          simpa only [f_tail1, if_pos hc2, if_neg hc7, if_neg hc15, if_pos hc31] using kk
        · have k34 : Go p.tables e below (T30.setTop (mkF m 49 #[.val (.ref r0), .val (.int p1), .val (.int p2), .val (.int (1 : Int32)), .val (.int v1)] [(.int (f_isSurrogate v1))])) (T30.setTop (mkF m 53 #[.val (.ref r0), .val (.int p1), .val (.int p2), .val (.int (1 : Int32)), .val (.int v1)] [(.int (1 : Int32))])) := by
            intro t ht
            refine XS.ifNo X30.here hx rfl (hb hby d_tail1_49) rfl ((if0 _ _).trans (feq hc31).1) ?_
            show Steps p.tables e below (T30.setTop (mkF m 52 #[.val (.ref r0), .val (.int p1), .val (.int p2), .val (.int (1 : Int32)), .val (.int v1)] [])) _
            refine XS.iloadN X30.here hx rfl (hb hby d_tail1_52) rfl ?_
            exact ht
          refine ⟨T30, _, 53, #[.val (.ref r0), .val (.int p1), .val (.int p2), .val (.int (1 : Int32)), .val (.int v1)], X30, N30, eq30, (hb hby d_tail1_53), ?_⟩
          have kk := (goT k1 (goT k3 (goT k5 (goT k6 (goT k14 (goT k29 (goT k30 k34)))))))
          simpa only [f_tail1, if_pos hc2, if_neg hc7, if_neg hc15, if_neg hc31] using kk
  · have k35 : Go p.tables e below (T0.setTop (mkF m 4 #[.val (.ref r0), .val (.int p1), .val (.int p2), .val (.int (1 : Int32)), s4] [(.int p2), (.int (1 : Int32))])) (T0.setTop (mkF m 61 #[.val (.ref r0), .val (.int p1), .val (.int p2), .val (.int (1 : Int32)), s4] [(.int (-1 : Int32))])) := by
      intro t ht
      refine XS.icmpYes X0.here hx rfl (pc0 := 4) (pc' := 60) rfl (hb hby d_tail1_4) rfl (flt hc2).2.1 (by decide) (by decide) ?_
      show Steps p.tables e below (T0.setTop (mkF m 60 #[.val (.ref r0), .val (.int p1), .val (.int p2), .val (.int (1 : Int32)), s4] [])) _
      refine XS.iconst X0.here hx rfl (hb hby d_tail1_60) ?_
      exact ht
    refine ⟨T0, _, 61, #[.val (.ref r0), .val (.int p1), .val (.int p2), .val (.int (1 : Int32)), s4], X0, N0, e0, (hb hby d_tail1_61), ?_⟩
    have kk := (goT k1 k35)
    simpa only [f_tail1, if_neg hc2] using kk
theorem d_tail0_2 : decode prog_9_method_3_code 2 = .ok (.iload_n 3, 1) := by decide +kernel
theorem d_tail0_3 : decode prog_9_method_3_code 3 = .ok (.iload_n 2, 1) := by decide +kernel
theorem d_tail0_4 : decode prog_9_method_3_code 4 = .ok (.if_icmp .ge 56, 3) := by decide +kernel
theorem d_tail0_7 : decode prog_9_method_3_code 7 = .ok (.aload_n 0, 1) := by decide +kernel
theorem d_tail0_8 : decode prog_9_method_3_code 8 = .ok (.iload_n 3, 1) := by decide +kernel
theorem d_tail0_9 : decode prog_9_method_3_code 9 = .ok (.caload, 1) := by decide +kernel
theorem d_tail0_10 : decode prog_9_method_3_code 10 = .ok (.istore 4, 2) := by decide +kernel
theorem d_tail0_12 : decode prog_9_method_3_code 12 = .ok (.iload 4, 2) := by decide +kernel
theorem d_tail0_14 : decode prog_9_method_3_code 14 = .ok (.invokestatic 27, 3) := by decide +kernel
theorem d_tail0_17 : decode prog_9_method_3_code 17 = .ok (.ifCond .eq 27, 3) := by decide +kernel
theorem d_tail0_20 : decode prog_9_method_3_code 20 = .ok (.iload_n 3, 1) := by decide +kernel
theorem d_tail0_21 : decode prog_9_method_3_code 21 = .ok (.iconst 1, 1) := by decide +kernel
theorem d_tail0_22 : decode prog_9_method_3_code 22 = .ok (.iadd, 1) := by decide +kernel
theorem d_tail0_23 : decode prog_9_method_3_code 23 = .ok (.iload_n 2, 1) := by decide +kernel
theorem d_tail0_24 : decode prog_9_method_3_code 24 = .ok (.if_icmp .ge 20, 3) := by decide +kernel
theorem d_tail0_27 : decode prog_9_method_3_code 27 = .ok (.aload_n 0, 1) := by decide +kernel
theorem d_tail0_28 : decode prog_9_method_3_code 28 = .ok (.iload_n 3, 1) := by decide +kernel
theorem d_tail0_29 : decode prog_9_method_3_code 29 = .ok (.iconst 1, 1) := by decide +kernel
theorem d_tail0_30 : decode prog_9_method_3_code 30 = .ok (.iadd, 1) := by decide +kernel
theorem d_tail0_31 : decode prog_9_method_3_code 31 = .ok (.caload, 1) := by decide +kernel
theorem d_tail0_32 : decode prog_9_method_3_code 32 = .ok (.invokestatic 33, 3) := by decide +kernel
theorem d_tail0_35 : decode prog_9_method_3_code 35 = .ok (.ifCond .eq 9, 3) := by decide +kernel
theorem d_tail0_38 : decode prog_9_method_3_code 38 = .ok (.iinc 3 2, 3) := by decide +kernel
theorem d_tail0_41 : decode prog_9_method_3_code 41 = .ok (.goto 16, 3) := by decide +kernel
theorem d_tail0_44 : decode prog_9_method_3_code 44 = .ok (.iload 4, 2) := by decide +kernel
theorem d_tail0_46 : decode prog_9_method_3_code 46 = .ok (.invokestatic 36, 3) := by decide +kernel
theorem d_tail0_49 : decode prog_9_method_3_code 49 = .ok (.ifCond .eq 5, 3) := by decide +kernel
theorem d_tail0_52 : decode prog_9_method_3_code 52 = .ok (.iload_n 3, 1) := by decide +kernel
theorem d_tail0_53 : decode prog_9_method_3_code 53 = .ok (.ireturn, 1) := by decide +kernel
theorem d_tail0_54 : decode prog_9_method_3_code 54 = .ok (.iinc 3 1, 3) := by decide +kernel
theorem d_tail0_57 : decode prog_9_method_3_code 57 = .ok (.goto (-55), 3) := by decide +kernel
theorem d_tail0_60 : decode prog_9_method_3_code 60 = .ok (.iconst (-1), 1) := by decide +kernel
theorem d_tail0_61 : decode prog_9_method_3_code 61 = .ok (.ireturn, 1) := by decide +kernel
def f_tail0 (v0 v1 v2 v3 p2 : Int32) : Int32 := (if (0 : Int32) < p2 then (if (f_isHighSurrogate v0) = (0 : Int32) then (if (f_isSurrogate v0) = (0 : Int32) then (f_tail1 v0 v1 v2 v3 p2) else (0 : Int32)) else (if (1 : Int32) < p2 then (if (f_isLowSurrogate v1) = (0 : Int32) then (if (f_isSurrogate v0) = (0 : Int32) then (f_tail1 v0 v1 v2 v3 p2) else (0 : Int32)) else (f_tail2 v0 v1 v2 v3 p2)) else (if (f_isSurrogate v0) = (0 : Int32) then (f_tail1 v0 v1 v2 v3 p2) else (0 : Int32)))) else (-1 : Int32))
set_option maxRecDepth 65536 in
set_option maxHeartbeats 40000000 in
theorem pc_tail0 {p : Program} {l : Launch} {e : Env} {s : State} {m : MethodId} {below : List Frame} {meth : Method} {c : Code} {T0 : State} {locs : List Loc} {Z : State} {a0 : Array Value} {h0 : Heap} {n0 : Nat} (r0 : Addr) (p1 p2 : Int32) (kA : ClassId) (v0 v1 v2 v3 : Int32) (s4 : Slot)
    (X0 : Stand p l e ({ frames := 1, cells := 0, slots := 0, locals := 12 } : Room) s m #[(.ref r0), (.int p1), (.int p2)] below meth c T0 locs 0 0) (hx : p.tables.exec = Jvm.exec) (hZ : Z.Warmed39 s.vm) (hw : ∀ d ∈ tables_1, d.before a0 Z = true) (hby : c.code = prog_9_method_3_code) (hml : c.maxLocals = 5) (hown : s.vm.findClass "com/example/fieldveil/fieldveil/Utf8" = some m.cls) (e0 : T0.heap = h0) (N0 : Fr n0 locs) (Z0 : n0 ≤ h0.size) (V_A : Arv Z h0 r0 kA .char (4 : Int32) [(.int v0), (.int v1), (.int v2), (.int v3)] (.int (0 : Int32))) (h4 : One s4) (hhi : ¬ ((4 : Int32) < p2)) :
    ∃ (T' : State) (L' : List Loc) (pc : Nat) (Ls : Array Slot), Stand p l e ({ frames := 1, cells := 0, slots := 0, locals := 12 } : Room) s m #[(.ref r0), (.int p1), (.int p2)] below meth c T' L' 0 0 ∧ Fr n0 L' ∧ T'.heap = h0 ∧ decode c.code pc = .ok (.ireturn, 1) ∧ Go p.tables e below (T0.setTop (mkF m 2 #[.val (.ref r0), .val (.int p1), .val (.int p2), .val (.int (0 : Int32)), s4] [])) (T'.setTop (mkF m pc Ls [(.int (f_tail0 v0 v1 v2 v3 p2))])) := by
  have k1 : Go p.tables e below (T0.setTop (mkF m 2 #[.val (.ref r0), .val (.int p1), .val (.int p2), .val (.int (0 : Int32)), s4] [])) (T0.setTop (mkF m 4 #[.val (.ref r0), .val (.int p1), .val (.int p2), .val (.int (0 : Int32)), s4] [(.int p2), (.int (0 : Int32))])) := by
    intro t ht
    refine XS.iloadN X0.here hx rfl (hb hby d_tail0_2) rfl ?_
    show Steps p.tables e below (T0.setTop (mkF m 3 #[.val (.ref r0), .val (.int p1), .val (.int p2), .val (.int (0 : Int32)), s4] [(.int (0 : Int32))])) _
    refine XS.iloadN X0.here hx rfl (hb hby d_tail0_3) rfl ?_
    exact ht
  by_cases hc2 : (0 : Int32) < p2
  · have k3 : Go p.tables e below (T0.setTop (mkF m 4 #[.val (.ref r0), .val (.int p1), .val (.int p2), .val (.int (0 : Int32)), s4] [(.int p2), (.int (0 : Int32))])) (T0.setTop (mkF m 9 #[.val (.ref r0), .val (.int p1), .val (.int p2), .val (.int (0 : Int32)), s4] [(.int (0 : Int32)), (.ref r0)])) := by
      intro t ht
      refine XS.icmpNo X0.here hx rfl (hb hby d_tail0_4) rfl (tlt hc2).2.1 ?_
      show Steps p.tables e below (T0.setTop (mkF m 7 #[.val (.ref r0), .val (.int p1), .val (.int p2), .val (.int (0 : Int32)), s4] [])) _
      refine XS.aloadN X0.here hx rfl (hb hby d_tail0_7) rfl rfl ?_
      show Steps p.tables e below (T0.setTop (mkF m 8 #[.val (.ref r0), .val (.int p1), .val (.int p2), .val (.int (0 : Int32)), s4] [(.ref r0)])) _
      refine XS.iloadN X0.here hx rfl (hb hby d_tail0_8) rfl ?_
      exact ht
    obtain ⟨cl4, Ar4, q4, S4, M4, H4, G4⟩ := id V_A
    have hin4 : ¬ ((0 : Int32) < 0 ∨ cl4.slots.size ≤ ((0 : Int32)).toNatClampNeg) := inb_of S4 ⟨by decide, by decide⟩
    have hat4 : cl4.slots[((0 : Int32)).toNatClampNeg]? = some (.int v0) := (H4 _ (Nat.lt_of_not_le fun y => hin4 (Or.inr y))).trans (congrArg some (rfl))
    have k5 : Go p.tables e below (T0.setTop (mkF m 9 #[.val (.ref r0), .val (.int p1), .val (.int p2), .val (.int (0 : Int32)), s4] [(.int (0 : Int32)), (.ref r0)])) (T0.setTop (mkF m 14 #[.val (.ref r0), .val (.int p1), .val (.int p2), .val (.int (0 : Int32)), .val (.int v0)] [(.int v0)])) := by
      intro t ht
      refine X0.caload hx (j := (0 : Int32)) (v := (.int v0)) (by rw [e0]; exact Ar4.1) (State.isArrayOf_alike hZ.alike Ar4.2.1) Ar4.2.2 hin4 hat4 (g := (mkF m 9 #[.val (.ref r0), .val (.int p1), .val (.int p2), .val (.int (0 : Int32)), s4] [(.int (0 : Int32)), (.ref r0)])) rfl rfl (hb hby d_tail0_9) _ ?_
      show Steps p.tables e below (T0.setTop (mkF m 10 #[.val (.ref r0), .val (.int p1), .val (.int p2), .val (.int (0 : Int32)), s4] [(.int v0)])) _
      refine XS.istore X0.here hx rfl (hb hby d_tail0_10) rfl (l' := #[.val (.ref r0), .val (.int p1), .val (.int p2), .val (.int (0 : Int32)), .val (.int v0)]) (own_st4 h4) ?_
      show Steps p.tables e below (T0.setTop (mkF m 12 #[.val (.ref r0), .val (.int p1), .val (.int p2), .val (.int (0 : Int32)), .val (.int v0)] [])) _
      refine XS.iload X0.here hx rfl (hb hby d_tail0_12) rfl ?_
      exact ht
    obtain ⟨_, _, ⟨T6, L6, kq6, n6⟩, -, X6, ⟨Lc6, hQ6, l6, y6, z6⟩, st6⟩ := Jvm.LawKit.callS X0 hx (y := (⟨"java/lang/Character", "isHighSurrogate", "(C)Z"⟩ : MethodName)) hown (mvT hZ (hw _ (List.mem_of_getElem? (i := 30) rfl))) (mvT hZ (hw _ (List.mem_of_getElem? (i := 31) rfl))) (mvT hZ (hw _ (List.mem_of_getElem? (i := 32) rfl))) (mvT hZ (hw _ (List.mem_of_getElem? (i := 33) rfl))) (by decide) (backOf (W := 0) (rm_isHighSurrogate l Z a0 hw [] v0 h0 n0 Z0 ) hZ (hw _ (List.mem_of_getElem? (i := 33) rfl)) (hw _ (List.mem_of_getElem? (i := 32) rfl)) (by decide) (by decide)) (g := (mkF m 14 #[.val (.ref r0), .val (.int p1), .val (.int p2), .val (.int (0 : Int32)), .val (.int v0)] [(.int v0)])) rfl (by rw [hml]; rfl) (argsL := [(.int v0)]) (rest := []) (lenOf pd_0 rfl) rfl (by show 2 * 0 + _ ≤ _; exact Nat.le_of_eq rfl) (hb hby d_tail0_14) (fun _ _ => ⟨rfl, e0, (by decide : 0 + 0 ≤ _), (by decide : 0 + 0 ≤ _)⟩)
    dsimp only [Pt.U, Pt.locs, Pt.cells, Pt.slots] at X6 l6 y6 z6 st6 hQ6
    subst l6 y6 z6
    obtain ⟨rfl, N6q, eq6⟩ := hQ6
    have N6 := Fr.app N0 N6q
    have k6 : Go p.tables e below (T0.setTop (mkF m 14 #[.val (.ref r0), .val (.int p1), .val (.int p2), .val (.int (0 : Int32)), .val (.int v0)] [(.int v0)])) (T6.setTop (mkF m 17 #[.val (.ref r0), .val (.int p1), .val (.int p2), .val (.int (0 : Int32)), .val (.int v0)] [(.int (f_isHighSurrogate v0))])) := st6
    by_cases hc7 : (f_isHighSurrogate v0) = (0 : Int32)
    · have k8 : Go p.tables e below (T6.setTop (mkF m 17 #[.val (.ref r0), .val (.int p1), .val (.int p2), .val (.int (0 : Int32)), .val (.int v0)] [(.int (f_isHighSurrogate v0))])) (T6.setTop (mkF m 46 #[.val (.ref r0), .val (.int p1), .val (.int p2), .val (.int (0 : Int32)), .val (.int v0)] [(.int v0)])) := by
        intro t ht
        refine XS.ifYes X6.here hx rfl (pc0 := 17) (pc' := 44) rfl (hb hby d_tail0_17) rfl ((if0 _ _).trans (teq hc7).1) (by decide) (by decide) ?_
        show Steps p.tables e below (T6.setTop (mkF m 44 #[.val (.ref r0), .val (.int p1), .val (.int p2), .val (.int (0 : Int32)), .val (.int v0)] [])) _
        refine XS.iload X6.here hx rfl (hb hby d_tail0_44) rfl ?_
        exact ht
      obtain ⟨_, _, ⟨T9, L9, kq9, n9⟩, -, X9, ⟨Lc9, hQ9, l9, y9, z9⟩, st9⟩ := Jvm.LawKit.callS X6 hx (y := (⟨"java/lang/Character", "isSurrogate", "(C)Z"⟩ : MethodName)) hown (mvT hZ (hw _ (List.mem_of_getElem? (i := 39) rfl))) (mvT hZ (hw _ (List.mem_of_getElem? (i := 40) rfl))) (mvT hZ (hw _ (List.mem_of_getElem? (i := 32) rfl))) (mvT hZ (hw _ (List.mem_of_getElem? (i := 41) rfl))) (by decide) (backOf (W := 0) (rm_isSurrogate l Z a0 hw [] v0 h0 n0 Z0 ) hZ (hw _ (List.mem_of_getElem? (i := 41) rfl)) (hw _ (List.mem_of_getElem? (i := 32) rfl)) (by decide) (by decide)) (g := (mkF m 46 #[.val (.ref r0), .val (.int p1), .val (.int p2), .val (.int (0 : Int32)), .val (.int v0)] [(.int v0)])) rfl (by rw [hml]; rfl) (argsL := [(.int v0)]) (rest := []) (lenOf pd_0 rfl) rfl (by show 2 * 0 + _ ≤ _; exact Nat.le_of_eq rfl) (hb hby d_tail0_46) (fun _ _ => ⟨rfl, eq6, (by decide : 0 + 0 ≤ _), (by decide : 0 + 0 ≤ _)⟩)
      dsimp only [Pt.U, Pt.locs, Pt.cells, Pt.slots] at X9 l9 y9 z9 st9 hQ9
      subst l9 y9 z9
      obtain ⟨rfl, N9q, eq9⟩ := hQ9
      have N9 := Fr.app N6 N9q
      have k9 : Go p.tables e below (T6.setTop (mkF m 46 #[.val (.ref r0), .val (.int p1), .val (.int p2), .val (.int (0 : Int32)), .val (.int v0)] [(.int v0)])) (T9.setTop (mkF m 49 #[.val (.ref r0), .val (.int p1), .val (.int p2), .val (.int (0 : Int32)), .val (.int v0)] [(.int (f_isSurrogate v0))])) := st9
      by_cases hc10 : (f_isSurrogate v0) = (0 : Int32)
      · have k11 : Go p.tables e below (T9.setTop (mkF m 49 #[.val (.ref r0), .val (.int p1), .val (.int p2), .val (.int (0 : Int32)), .val (.int v0)] [(.int (f_isSurrogate v0))])) (T9.setTop (mkF m 2 #[.val (.ref r0), .val (.int p1), .val (.int p2), .val (.int (1 : Int32)), .val (.int v0)] [])) := by
          intro t ht
          refine XS.ifYes X9.here hx rfl (pc0 := 49) (pc' := 54) rfl (hb hby d_tail0_49) rfl ((if0 _ _).trans (teq hc10).1) (by decide) (by decide) ?_
          show Steps p.tables e below (T9.setTop (mkF m 54 #[.val (.ref r0), .val (.int p1), .val (.int p2), .val (.int (0 : Int32)), .val (.int v0)] [])) _
          refine XS.iinc X9.here hx rfl (hb hby d_tail0_54) rfl (l' := #[.val (.ref r0), .val (.int p1), .val (.int p2), .val (.int (1 : Int32)), .val (.int v0)]) rfl ?_
          show Steps p.tables e below (T9.setTop (mkF m 57 #[.val (.ref r0), .val (.int p1), .val (.int p2), .val (.int (1 : Int32)), .val (.int v0)] [])) _
          refine XS.goto X9.here hx rfl (pc0 := 57) (pc' := 2) rfl (hb hby d_tail0_57) (by decide) (by decide) ?_
          exact ht
        obtain ⟨T12, L12, pc12, Ls12, X12, N12, e12, hd12, kr12⟩ := pc_tail1 r0 p1 p2 kA v0 v1 v2 v3 (.val (.int v0)) X9 hx hZ hw hby hml hown eq9 N9 Z0 V_A (One.val rfl) hhi
        refine ⟨T12, L12, pc12, Ls12, X12, N12, e12, hd12, ?_⟩
        have kk := goT (goT k1 (goT k3 (goT k5 (goT k6 (goT k8 (goT k9 k11)))))) kr12
        simpa only [f_tail0, if_pos hc2, if_pos hc7, if_pos hc10] using kk
      · have k13 : Go p.tables e below (T9.setTop (mkF m 49 #[.val (.ref r0), .val (.int p1), .val (.int p2), .val (.int (0 : Int32)), .val (.int v0)] [(.int (f_isSurrogate v0))])) (T9.setTop (mkF m 53 #[.val (.ref r0), .val (.int p1), .val (.int p2), .val (.int (0 : Int32)), .val (.int v0)] [(.int (0 : Int32))])) := by
          intro t ht
          refine XS.ifNo X9.here hx rfl (hb hby d_tail0_49) rfl ((if0 _ _).trans (feq hc10).1) ?_
          show Steps p.tables e below (T9.setTop (mkF m 52 #[.val (.ref r0), .val (.int p1), .val (.int p2), .val (.int (0 : Int32)), .val (.int v0)] [])) _
          refine XS.iloadN X9.here hx rfl (hb hby d_tail0_52) rfl ?_
          exact ht
        refine ⟨T9, _, 53, #[.val (.ref r0), .val (.int p1), .val (.int p2), .val (.int (0 : Int32)), .val (.int v0)], X9, N9, eq9, (hb hby d_tail0_53), ?_⟩
        have kk := (goT k1 (goT k3 (goT k5 (goT k6 (goT k8 (goT k9 k13))))))
        simpa only [f_tail0, if_pos hc2, if_pos hc7, if_neg hc10] using kk
    · have k14 : Go p.tables e below (T6.setTop (mkF m 17 #[.val (.ref r0), .val (.int p1), .val (.int p2), .val (.int (0 : Int32)), .val (.int v0)] [(.int (f_isHighSurrogate v0))])) (T6.setTop (mkF m 24 #[.val (.ref r0), .val (.int p1), .val (.int p2), .val (.int (0 : Int32)), .val (.int v0)] [(.int p2), (.int (1 : Int32))])) := by
        intro t ht
        refine XS.ifNo X6.here hx rfl (hb hby d_tail0_17) rfl ((if0 _ _).trans (feq hc7).1) ?_
        show Steps p.tables e below (T6.setTop (mkF m 20 #[.val (.ref r0), .val (.int p1), .val (.int p2), .val (.int (0 : Int32)), .val (.int v0)] [])) _
        refine XS.iloadN X6.here hx rfl (hb hby d_tail0_20) rfl ?_
        show Steps p.tables e below (T6.setTop (mkF m 21 #[.val (.ref r0), .val (.int p1), .val (.int p2), .val (.int (0 : Int32)), .val (.int v0)] [(.int (0 : Int32))])) _
        refine XS.iconst X6.here hx rfl (hb hby d_tail0_21) ?_
        show Steps p.tables e below (T6.setTop (mkF m 22 #[.val (.ref r0), .val (.int p1), .val (.int p2), .val (.int (0 : Int32)), .val (.int v0)] [(.int (1 : Int32)), (.int (0 : Int32))])) _
        refine XS.iadd X6.here hx rfl (hb hby d_tail0_22) rfl ?_
        show Steps p.tables e below (T6.setTop (mkF m 23 #[.val (.ref r0), .val (.int p1), .val (.int p2), .val (.int (0 : Int32)), .val (.int v0)] [(.int (1 : Int32))])) _
        refine XS.iloadN X6.here hx rfl (hb hby d_tail0_23) rfl ?_
        exact ht
      by_cases hc15 : (1 : Int32) < p2
      · have k16 : Go p.tables e below (T6.setTop (mkF m 24 #[.val (.ref r0), .val (.int p1), .val (.int p2), .val (.int (0 : Int32)), .val (.int v0)] [(.int p2), (.int (1 : Int32))])) (T6.setTop (mkF m 31 #[.val (.ref r0), .val (.int p1), .val (.int p2), .val (.int (0 : Int32)), .val (.int v0)] [(.int (1 : Int32)), (.ref r0)])) := by
          intro t ht
          refine XS.icmpNo X6.here hx rfl (hb hby d_tail0_24) rfl (tlt hc15).2.1 ?_
          show Steps p.tables e below (T6.setTop (mkF m 27 #[.val (.ref r0), .val (.int p1), .val (.int p2), .val (.int (0 : Int32)), .val (.int v0)] [])) _
          refine XS.aloadN X6.here hx rfl (hb hby d_tail0_27) rfl rfl ?_
          show Steps p.tables e below (T6.setTop (mkF m 28 #[.val (.ref r0), .val (.int p1), .val (.int p2), .val (.int (0 : Int32)), .val (.int v0)] [(.ref r0)])) _
          refine XS.iloadN X6.here hx rfl (hb hby d_tail0_28) rfl ?_
          show Steps p.tables e below (T6.setTop (mkF m 29 #[.val (.ref r0), .val (.int p1), .val (.int p2), .val (.int (0 : Int32)), .val (.int v0)] [(.int (0 : Int32)), (.ref r0)])) _
          refine XS.iconst X6.here hx rfl (hb hby d_tail0_29) ?_
          show Steps p.tables e below (T6.setTop (mkF m 30 #[.val (.ref r0), .val (.int p1), .val (.int p2), .val (.int (0 : Int32)), .val (.int v0)] [(.int (1 : Int32)), (.int (0 : Int32)), (.ref r0)])) _
          refine XS.iadd X6.here hx rfl (hb hby d_tail0_30) rfl ?_
          exact ht
        obtain ⟨cl17, Ar17, q17, S17, M17, H17, G17⟩ := id V_A
        have hin17 : ¬ ((1 : Int32) < 0 ∨ cl17.slots.size ≤ ((1 : Int32)).toNatClampNeg) := inb_of S17 ⟨by decide, by decide⟩
        have hat17 : cl17.slots[((1 : Int32)).toNatClampNeg]? = some (.int v1) := (H17 _ (Nat.lt_of_not_le fun y => hin17 (Or.inr y))).trans (congrArg some (rfl))
        have k18 : Go p.tables e below (T6.setTop (mkF m 31 #[.val (.ref r0), .val (.int p1), .val (.int p2), .val (.int (0 : Int32)), .val (.int v0)] [(.int (1 : Int32)), (.ref r0)])) (T6.setTop (mkF m 32 #[.val (.ref r0), .val (.int p1), .val (.int p2), .val (.int (0 : Int32)), .val (.int v0)] [(.int v1)])) := by
          intro t ht
          refine X6.caload hx (j := (1 : Int32)) (v := (.int v1)) (by rw [eq6]; exact Ar17.1) (State.isArrayOf_alike hZ.alike Ar17.2.1) Ar17.2.2 hin17 hat17 (g := (mkF m 31 #[.val (.ref r0), .val (.int p1), .val (.int p2), .val (.int (0 : Int32)), .val (.int v0)] [(.int (1 : Int32)), (.ref r0)])) rfl rfl (hb hby d_tail0_31) _ ?_
          exact ht
        obtain ⟨_, _, ⟨T19, L19, kq19, n19⟩, -, X19, ⟨Lc19, hQ19, l19, y19, z19⟩, st19⟩ := Jvm.LawKit.callS X6 hx (y := (⟨"java/lang/Character", "isLowSurrogate", "(C)Z"⟩ : MethodName)) hown (mvT hZ (hw _ (List.mem_of_getElem? (i := 36) rfl))) (mvT hZ (hw _ (List.mem_of_getElem? (i := 37) rfl))) (mvT hZ (hw _ (List.mem_of_getElem? (i := 32) rfl))) (mvT hZ (hw _ (List.mem_of_getElem? (i := 38) rfl))) (by decide) (backOf (W := 0) (rm_isLowSurrogate l Z a0 hw [] v1 h0 n0 Z0 ) hZ (hw _ (List.mem_of_getElem? (i := 38) rfl)) (hw _ (List.mem_of_getElem? (i := 32) rfl)) (by decide) (by decide)) (g := (mkF m 32 #[.val (.ref r0), .val (.int p1), .val (.int p2), .val (.int (0 : Int32)), .val (.int v0)] [(.int v1)])) rfl (by rw [hml]; rfl) (argsL := [(.int v1)]) (rest := []) (lenOf pd_0 rfl) rfl (by show 2 * 0 + _ ≤ _; exact Nat.le_of_eq rfl) (hb hby d_tail0_32) (fun _ _ => ⟨rfl, eq6, (by decide : 0 + 0 ≤ _), (by decide : 0 + 0 ≤ _)⟩)
        dsimp only [Pt.U, Pt.locs, Pt.cells, Pt.slots] at X19 l19 y19 z19 st19 hQ19
        subst l19 y19 z19
        obtain ⟨rfl, N19q, eq19⟩ := hQ19
        have N19 := Fr.app N6 N19q
        have k19 : Go p.tables e below (T6.setTop (mkF m 32 #[.val (.ref r0), .val (.int p1), .val (.int p2), .val (.int (0 : Int32)), .val (.int v0)] [(.int v1)])) (T19.setTop (mkF m 35 #[.val (.ref r0), .val (.int p1), .val (.int p2), .val (.int (0 : Int32)), .val (.int v0)] [(.int (f_isLowSurrogate v1))])) := st19
        by_cases hc20 : (f_isLowSurrogate v1) = (0 : Int32)
        · have k21 : Go p.tables e below (T19.setTop (mkF m 35 #[.val (.ref r0), .val (.int p1), .val (.int p2), .val (.int (0 : Int32)), .val (.int v0)] [(.int (f_isLowSurrogate v1))])) (T19.setTop (mkF m 46 #[.val (.ref r0), .val (.int p1), .val (.int p2), .val (.int (0 : Int32)), .val (.int v0)] [(.int v0)])) := by
            intro t ht
            refine XS.ifYes X19.here hx rfl (pc0 := 35) (pc' := 44) rfl (hb hby d_tail0_35) rfl ((if0 _ _).trans (teq hc20).1) (by decide) (by decide) ?_
            show Steps p.tables e below (T19.setTop (mkF m 44 #[.val (.ref r0), .val (.int p1), .val (.int p2), .val (.int (0 : Int32)), .val (.int v0)] [])) _
            refine XS.iload X19.here hx rfl (hb hby d_tail0_44) rfl ?_
            exact ht
          obtain ⟨_, _, ⟨T22, L22, kq22, n22⟩, -, X22, ⟨Lc22, hQ22, l22, y22, z22⟩, st22⟩ := Jvm.LawKit.callS X19 hx (y := (⟨"java/lang/Character", "isSurrogate", "(C)Z"⟩ : MethodName)) hown (mvT hZ (hw _ (List.mem_of_getElem? (i := 39) rfl))) (mvT hZ (hw _ (List.mem_of_getElem? (i := 40) rfl))) (mvT hZ (hw _ (List.mem_of_getElem? (i := 32) rfl))) (mvT hZ (hw _ (List.mem_of_getElem? (i := 41) rfl))) (by decide) (backOf (W := 0) (rm_isSurrogate l Z a0 hw [] v0 h0 n0 Z0 ) hZ (hw _ (List.mem_of_getElem? (i := 41) rfl)) (hw _ (List.mem_of_getElem? (i := 32) rfl)) (by decide) (by decide)) (g := (mkF m 46 #[.val (.ref r0), .val (.int p1), .val (.int p2), .val (.int (0 : Int32)), .val (.int v0)] [(.int v0)])) rfl (by rw [hml]; rfl) (argsL := [(.int v0)]) (rest := []) (lenOf pd_0 rfl) rfl (by show 2 * 0 + _ ≤ _; exact Nat.le_of_eq rfl) (hb hby d_tail0_46) (fun _ _ => ⟨rfl, eq19, (by decide : 0 + 0 ≤ _), (by decide : 0 + 0 ≤ _)⟩)
          dsimp only [Pt.U, Pt.locs, Pt.cells, Pt.slots] at X22 l22 y22 z22 st22 hQ22
          subst l22 y22 z22
          obtain ⟨rfl, N22q, eq22⟩ := hQ22
          have N22 := Fr.app N19 N22q
          have k22 : Go p.tables e below (T19.setTop (mkF m 46 #[.val (.ref r0), .val (.int p1), .val (.int p2), .val (.int (0 : Int32)), .val (.int v0)] [(.int v0)])) (T22.setTop (mkF m 49 #[.val (.ref r0), .val (.int p1), .val (.int p2), .val (.int (0 : Int32)), .val (.int v0)] [(.int (f_isSurrogate v0))])) := st22
          by_cases hc23 : (f_isSurrogate v0) = (0 : Int32)
          · have k24 : Go p.tables e below (T22.setTop (mkF m 49 #[.val (.ref r0), .val (.int p1), .val (.int p2), .val (.int (0 : Int32)), .val (.int v0)] [(.int (f_isSurrogate v0))])) (T22.setTop (mkF m 2 #[.val (.ref r0), .val (.int p1), .val (.int p2), .val (.int (1 : Int32)), .val (.int v0)] [])) := by
              intro t ht
              refine XS.ifYes X22.here hx rfl (pc0 := 49) (pc' := 54) rfl (hb hby d_tail0_49) rfl ((if0 _ _).trans (teq hc23).1) (by decide) (by decide) ?_
              show Steps p.tables e below (T22.setTop (mkF m 54 #[.val (.ref r0), .val (.int p1), .val (.int p2), .val (.int (0 : Int32)), .val (.int v0)] [])) _
              refine XS.iinc X22.here hx rfl (hb hby d_tail0_54) rfl (l' := #[.val (.ref r0), .val (.int p1), .val (.int p2), .val (.int (1 : Int32)), .val (.int v0)]) rfl ?_
              show Steps p.tables e below (T22.setTop (mkF m 57 #[.val (.ref r0), .val (.int p1), .val (.int p2), .val (.int (1 : Int32)), .val (.int v0)] [])) _
              refine XS.goto X22.here hx rfl (pc0 := 57) (pc' := 2) rfl (hb hby d_tail0_57) (by decide) (by decide) ?_
              exact ht
            obtain ⟨T25, L25, pc25, Ls25, X25, N25, e25, hd25, kr25⟩ := pc_tail1 r0 p1 p2 kA v0 v1 v2 v3 (.val (.int v0)) X22 hx hZ hw hby hml hown eq22 N22 Z0 V_A (One.val rfl) hhi
            refine ⟨T25, L25, pc25, Ls25, X25, N25, e25, hd25, ?_⟩
            have kk := goT (goT k1 (goT k3 (goT k5 (goT k6 (goT k14 (goT k16 (goT k18 (goT k19 (goT k21 (goT k22 k24)))))))))) kr25
            simpa only [f_tail0, if_pos hc2, if_neg hc7, if_pos hc15, if_pos hc20, if_pos hc23] using kk
          · have k26 : Go p.tables e below (T22.setTop (mkF m 49 #[.val (.ref r0), .val (.int p1), .val (.int p2), .val (.int (0 : Int32)), .val (.int v0)] [(.int (f_isSurrogate v0))])) (T22.setTop (mkF m 53 #[.val (.ref r0), .val (.int p1), .val (.int p2), .val (.int (0 : Int32)), .val (.int v0)] [(.int (0 : Int32))])) := by
              intro t ht
              refine XS.ifNo X22.here hx rfl (hb hby d_tail0_49) rfl ((if0 _ _).trans (feq hc23).1) ?_
              show Steps p.tables e below (T22.setTop (mkF m 52 #[.val (.ref r0), .val (.int p1), .val (.int p2), .val (.int (0 : Int32)), .val (.int v0)] [])) _
              refine XS.iloadN X22.here hx rfl (hb hby d_tail0_52) rfl ?_
              exact ht
            refine ⟨T22, _, 53, #[.val (.ref r0), .val (.int p1), .val (.int p2), .val (.int (0 : Int32)), .val (.int v0)], X22, N22, eq22, (hb hby d_tail0_53), ?_⟩
            have kk := (goT k1 (goT k3 (goT k5 (goT k6 (goT k14 (goT k16 (goT k18 (goT k19 (goT k21 (goT k22 k26))))))))))
            simpa only [f_tail0, if_pos hc2, if_neg hc7, if_pos hc15, if_pos hc20, if_neg hc23] using kk
        · have k27 : Go p.tables e below (T19.setTop (mkF m 35 #[.val (.ref r0), .val (.int p1), .val (.int p2), .val (.int (0 : Int32)), .val (.int v0)] [(.int (f_isLowSurrogate v1))])) (T19.setTop (mkF m 2 #[.val (.ref r0), .val (.int p1), .val (.int p2), .val (.int (2 : Int32)), .val (.int v0)] [])) := by
            intro t ht
            refine XS.ifNo X19.here hx rfl (hb hby d_tail0_35) rfl ((if0 _ _).trans (feq hc20).1) ?_
            show Steps p.tables e below (T19.setTop (mkF m 38 #[.val (.ref r0), .val (.int p1), .val (.int p2), .val (.int (0 : Int32)), .val (.int v0)] [])) _
            refine XS.iinc X19.here hx rfl (hb hby d_tail0_38) rfl (l' := #[.val (.ref r0), .val (.int p1), .val (.int p2), .val (.int (2 : Int32)), .val (.int v0)]) rfl ?_
            show Steps p.tables e below (T19.setTop (mkF m 41 #[.val (.ref r0), .val (.int p1), .val (.int p2), .val (.int (2 : Int32)), .val (.int v0)] [])) _
            refine XS.goto X19.here hx rfl (pc0 := 41) (pc' := 57) rfl (hb hby d_tail0_41) (by decide) (by decide) ?_
            show Steps p.tables e below (T19.setTop (mkF m 57 #[.val (.ref r0), .val (.int p1), .val (.int p2), .val (.int (2 : Int32)), .val (.int v0)] [])) _
            refine XS.goto X19.here hx rfl (pc0 := 57) (pc' := 2) rfl (hb hby d_tail0_57) (by decide) (by decide) ?_
            exact ht
          obtain ⟨T28, L28, pc28, Ls28, X28, N28, e28, hd28, kr28⟩ := pc_tail2 r0 p1 p2 kA v0 v1 v2 v3 (.val (.int v0)) X19 hx hZ hw hby hml hown eq19 N19 Z0 V_A (One.val rfl) hhi
          refine ⟨T28, L28, pc28, Ls28, X28, N28, e28, hd28, ?_⟩
          have kk := goT (goT k1 (goT k3 (goT k5 (goT k6 (goT k14 (goT k16 (goT k18 (goT k19 k27)))))))) kr28
          simpa only [f_tail0, if_pos hc2, if_neg hc7, if_pos hc15, if_neg hc20] using kk
      · have k29 : Go p.tables e below (T6.setTop (mkF m 24 #[.val (.ref r0), .val (.int p1), .val (.int p2), .val (.int (0 : Int32)), .val (.int v0)] [(.int p2), (.int (1 : Int32))])) (T6.setTop (mkF m 46 #[.val (.ref r0), .val (.int p1), .val (.int p2), .val (.int (0 : Int32)), .val (.int v0)] [(.int v0)])) := by
          intro t ht
          refine XS.icmpYes X6.here hx rfl (pc0 := 24) (pc' := 44) rfl (hb hby d_tail0_24) rfl (flt hc15).2.1 (by decide) (by decide) ?_
          show Steps p.tables e below (T6.setTop (mkF m 44 #[.val (.ref r0), .val (.int p1), .val (.int p2), .val (.int (0 : Int32)), .val (.int v0)] [])) _
          refine XS.iload X6.here hx rfl (hb hby d_tail0_44) rfl ?_
          exact ht
        obtain ⟨_, _, ⟨T30, L30, kq30, n30⟩, -, X30, ⟨Lc30, hQ30, l30, y30, z30⟩, st30⟩ := Jvm.LawKit.callS X6 hx (y := (⟨"java/lang/Character", "isSurrogate", "(C)Z"⟩ : MethodName)) hown (mvT hZ (hw _ (List.mem_of_getElem? (i := 39) rfl))) (mvT hZ (hw _ (List.mem_of_getElem? (i := 40) rfl))) (mvT hZ (hw _ (List.mem_of_getElem? (i := 32) rfl))) (mvT hZ (hw _ (List.mem_of_getElem? (i := 41) rfl))) (by decide) (backOf (W := 0) (rm_isSurrogate l Z a0 hw [] v0 h0 n0 Z0 ) hZ (hw _ (List.mem_of_getElem? (i := 41) rfl)) (hw _ (List.mem_of_getElem? (i := 32) rfl)) (by decide) (by decide)) (g := (mkF m 46 #[.val (.ref r0), .val (.int p1), .val (.int p2), .val (.int (0 : Int32)), .val (.int v0)] [(.int v0)])) rfl (by rw [hml]; rfl) (argsL := [(.int v0)]) (rest := []) (lenOf pd_0 rfl) rfl (by show 2 * 0 + _ ≤ _; exact Nat.le_of_eq rfl) (hb hby d_tail0_46) (fun _ _ => ⟨rfl, eq6, (by decide : 0 + 0 ≤ _), (by decide : 0 + 0 ≤ _)⟩)
        dsimp only [Pt.U, Pt.locs, Pt.cells, Pt.slots] at X30 l30 y30 z30 st30 hQ30
        subst l30 y30 z30
        obtain ⟨rfl, N30q, eq30⟩ := hQ30
        have N30 := Fr.app N6 N30q
        have k30 : Go p.tables e below (T6.setTop (mkF m 46 #[.val (.ref r0), .val (.int p1), .val (.int p2), .val (.int (0 : Int32)), .val (.int v0)] [(.int v0)])) (T30.setTop (mkF m 49 #[.val (.ref r0), .val (.int p1), .val (.int p2), .val (.int (0 : Int32)), .val (.int v0)] [(.int (f_isSurrogate v0))])) := st30
        by_cases hc31 : (f_isSurrogate v0) = (0 : Int32)
        · have k32 : Go p.tables e below (T30.setTop (mkF m 49 #[.val (.ref r0), .val (.int p1), .val (.int p2), .val (.int (0 : Int32)), .val (.int v0)] [(.int (f_isSurrogate v0))])) (T30.setTop (mkF m 2 #[.val (.ref r0), .val (.int p1), .val (.int p2), .val (.int (1 : Int32)), .val (.int v0)] [])) := by
            intro t ht
            refine XS.ifYes X30.here hx rfl (pc0 := 49) (pc' := 54) rfl (hb hby d_tail0_49) rfl ((if0 _ _).trans (teq hc31).1) (by decide) (by decide) ?_
            show Steps p.tables e below (T30.setTop (mkF m 54 #[.val (.ref r0), .val (.int p1), .val (.int p2), .val (.int (0 : Int32)), .val (.int v0)] [])) _
            refine XS.iinc X30.here hx rfl (hb hby d_tail0_54) rfl (l' := #[.val (.ref r0), .val (.int p1), .val (.int p2), .val (.int (1 : Int32)), .val (.int v0)]) rfl ?_
            show Steps p.tables e below (T30.setTop (mkF m 57 #[.val (.ref r0), .val (.int p1), .val (.int p2), .val (.int (1 : Int32)), .val (.int v0)] [])) _
            refine XS.goto X30.here hx rfl (pc0 := 57) (pc' := 2) rfl (hb hby d_tail0_57) (by decide) (by decide) ?_
            exact ht
          obtain ⟨T33, L33, pc33, Ls33, X33, N33, e33, hd33, kr33⟩ := pc_tail1 r0 p1 p2 kA v0 v1 v2 v3 (.val (.int v0)) X30 hx hZ hw hby hml hown eq30 N30 Z0 V_A (One.val rfl) hhi
          refine ⟨T33, L33, pc33, Ls33, X33, N33, e33, hd33, ?_⟩
          have kk := goT (goT k1 (goT k3 (goT k5 (goT k6 (goT k14 (goT k29 (goT k30 k32))))))) kr33
          simpa only [f_tail0, if_pos hc2, if_neg hc7, if_neg hc15, if_pos hc31] using kk
        · have k34 : Go p.tables e below (T30.setTop (mkF m 49 #[.val (.ref r0), .val (.int p1), .val (.int p2), .val (.int (0 : Int32)), .val (.int v0)] [(.int (f_isSurrogate v0))])) (T30.setTop (mkF m 53 #[.val (.ref r0), .val (.int p1), .val (.int p2), .val (.int (0 : Int32)), .val (.int v0)] [(.int (0 : Int32))])) := by
            intro t ht
            refine XS.ifNo X30.here hx rfl (hb hby d_tail0_49) rfl ((if0 _ _).trans (feq hc31).1) ?_
            show Steps p.tables e below (T30.setTop (mkF m 52 #[.val (.ref r0), .val (.int p1), .val (.int p2), .val (.int (0 : Int32)), .val (.int v0)] [])) _
            refine XS.iloadN X30.here hx rfl (hb hby d_tail0_52) rfl ?_
            exact ht
          refine ⟨T30, _, 53, #[.val (.ref r0), .val (.int p1), .val (.int p2), .val (.int (0 : Int32)), .val (.int v0)], X30, N30, eq30, (hb hby d_tail0_53), ?_⟩
          have kk := (goT k1 (goT k3 (goT k5 (goT k6 (goT k14 (goT k29 (goT k30 k34)))))))
          simpa only [f_tail0, if_pos hc2, if_neg hc7, if_neg hc15, if_neg hc31] using kk
  · have k35 : Go p.tables e below (T0.setTop (mkF m 4 #[.val (.ref r0), .val (.int p1), .val (.int p2), .val (.int (0 : Int32)), s4] [(.int p2), (.int (0 : Int32))])) (T0.setTop (mkF m 61 #[.val (.ref r0), .val (.int p1), .val (.int p2), .val (.int (0 : Int32)), s4] [(.int (-1 : Int32))])) := by
      intro t ht
      refine XS.icmpYes X0.here hx rfl (pc0 := 4) (pc' := 60) rfl (hb hby d_tail0_4) rfl (flt hc2).2.1 (by decide) (by decide) ?_
      show Steps p.tables e below (T0.setTop (mkF m 60 #[.val (.ref r0), .val (.int p1), .val (.int p2), .val (.int (0 : Int32)), s4] [])) _
      refine XS.iconst X0.here hx rfl (hb hby d_tail0_60) ?_
      exact ht
    refine ⟨T0, _, 61, #[.val (.ref r0), .val (.int p1), .val (.int p2), .val (.int (0 : Int32)), s4], X0, N0, e0, (hb hby d_tail0_61), ?_⟩
    have kk := (goT k1 k35)
    simpa only [f_tail0, if_neg hc2] using kk
def f_first (v0 v1 v2 v3 p1 p2 : Int32) : Int32 := if p1 = 0 then f_tail0 v0 v1 v2 v3 p2 else if p1 = 1 then f_tail1 v0 v1 v2 v3 p2 else if p1 = 2 then f_tail2 v0 v1 v2 v3 p2 else if p1 = 3 then f_tail3 v0 v1 v2 v3 p2 else f_tail4 v0 v1 v2 v3 p2
theorem d_first_0 : decode prog_9_method_3_code 0 = .ok (.iload_n 1, 1) := by decide +kernel
theorem d_first_1 : decode prog_9_method_3_code 1 = .ok (.istore_n 3, 1) := by decide +kernel
theorem pn_2 : plainName "com/example/fieldveil/fieldveil/Utf8" = true := by first | (simp [plainName, overriddenIn]; done) | decide +kernel
theorem ef_first (m : MethodId) (x0 : Addr) (x1 : Int32) (x2 : Int32) : entryFrame m #[(.ref x0), (.int x1), (.int x2)] 5 = mkF m 0 #[.val (.ref x0), .val (.int x1), .val (.int x2), .unset, .unset] [] := by first | (simp [entryFrame, mkF, argsToLocals, Value.category]; done) | rfl
def Q_first (Z : State) (r0 : Addr) (p1 : Int32) (p2 : Int32) (kA : ClassId) (v0 : Int32) (v1 : Int32) (v2 : Int32) (v3 : Int32) (h0 : Heap) (n0 : Nat) (v : Option Value) (h : Heap) (L : List Loc) : Prop := v = some (.int (f_first v0 v1 v2 v3 p1 p2)) ∧ Fr n0 L ∧ h = h0
set_option maxRecDepth 65536 in
set_option maxHeartbeats 40000000 in
theorem rm_first (l : Launch) (Z : State) (a0 : Array Value) (hw : ∀ d ∈ tables_1, d.before a0 Z = true) (ws : List Jvm.Cond) (r0 : Addr) (p1 : Int32) (p2 : Int32) (kA : ClassId) (v0 : Int32) (v1 : Int32) (v2 : Int32) (v3 : Int32) (h0 : Heap) (n0 : Nat) (Z0 : n0 ≤ h0.size) (V_A : Arv Z h0 r0 kA .char (4 : Int32) [(.int v0), (.int v1), (.int v2), (.int v3)] (.int (0 : Int32))) (hlo : ¬ (p1 < (0 : Int32))) (hmi : ¬ ((4 : Int32) < p1)) (hhi : ¬ ((4 : Int32) < p2)) :
    MetFree l (⟨"com/example/fieldveil/fieldveil/Utf8", "firstUnpairedSurrogate", "([CII)I"⟩ : MethodName) (head1 (Jvm.Cond.code (⟨"com/example/fieldveil/fieldveil/Utf8", "firstUnpairedSurrogate", "([CII)I"⟩ : MethodName) prog_9_method_3_code 5 (some .int) :: ws) ({ frames := 1, cells := 0, slots := 0, locals := 12 } : Room)) (fun a U => a = #[(.ref r0), (.int p1), (.int p2)] ∧ Z.Warmed39 U.vm ∧ U.heap = h0) (fun _ _ _ _ _ => True) (fun _ U o U' => ∃ v L, o = .returned v ∧ Q_first Z r0 p1 p2 kA v0 v1 v2 v3 h0 n0 v U'.heap L ∧ FrameEnd U o U' L ({ frames := 1, cells := 0, slots := 0, locals := 12 } : Room).cells ({ frames := 1, cells := 0, slots := 0, locals := 12 } : Room).slots) := by
  refine MetFree.of_bodySF (plainFor_of_name pn_2) hisR ?_
  intro p e s m args below meth c s₁ Bd hml0 hP hK
  obtain ⟨rfl, hZ, hh⟩ := hP
  have hx := Bd.exec
  have hby := Bd.bytes
  have hml : c.maxLocals = 5 := hml0
  have hown : s.vm.findClass "com/example/fieldveil/fieldveil/Utf8" = some m.cls := findClass_of_methodNamed Bd.named
  have hnm := (name_of_methodNamed Bd.named Bd.method).1
  have X0 : Stand p l e ({ frames := 1, cells := 0, slots := 0, locals := 12 } : Room) s m #[(.ref r0), (.int p1), (.int p2)] below meth c s₁ [] 0 0 := Stand.of_body Bd
  have e0 : s₁.heap = h0 := by rw [← hh, Bd.state]; rfl
  have N0 := Fr.nil n0
  have pre0 : ∀ t, Steps p.tables e below (s₁.setTop (mkF m 0 #[.val (.ref r0), .val (.int p1), .val (.int p2), .unset, .unset] [])) t → Steps p.tables e below (s₁.setTop (entryFrame m #[(.ref r0), (.int p1), (.int p2)] 5)) t := fun t k => castTop (ef_first m r0 p1 p2) k
  have k1 : Go p.tables e below (s₁.setTop (mkF m 0 #[.val (.ref r0), .val (.int p1), .val (.int p2), .unset, .unset] [])) (s₁.setTop (mkF m 2 #[.val (.ref r0), .val (.int p1), .val (.int p2), .val (.int p1), .unset] [])) := by
    intro t ht
    refine XS.iloadN X0.here hx rfl (hb hby d_first_0) rfl ?_
    show Steps p.tables e below (s₁.setTop (mkF m 1 #[.val (.ref r0), .val (.int p1), .val (.int p2), .unset, .unset] [(.int p1)])) _
    refine XS.istoreN X0.here hx rfl (hb hby d_first_1) rfl (l' := #[.val (.ref r0), .val (.int p1), .val (.int p2), .val (.int p1), .unset]) rfl ?_
    exact ht
  rcases own_five hlo hmi with rfl | rfl | rfl | rfl | rfl
  · obtain ⟨T1, L1, pc1, Ls1, X1, N1, e1, hd1, kr1⟩ := pc_tail0 r0 (0 : Int32) p2 kA v0 v1 v2 v3 .unset X0 hx hZ hw hby hml hown e0 N0 Z0 V_A One.u hhi
    obtain ⟨fs, hr, hrun, hended, hW, hsame⟩ := X1.leave (v := some (.int (f_tail0 v0 v1 v2 v3 p2))) (fun h => by rw [Bd.returns] at h; cases h)
    refine ⟨_, _, pre0 _ ((goT k1 kr1) _ (retI X1 hx Bd.returns hd1 hr)), hrun, hended, _, _, rfl, ?_, ⟨_, rfl⟩, hW, hsame.mono (by decide) (by decide)⟩
    show Q_first Z r0 (0 : Int32) p2 kA v0 v1 v2 v3 h0 n0 _ T1.heap _
    rw [e1]
    exact ⟨rfl, N1, rfl⟩
  · obtain ⟨T1, L1, pc1, Ls1, X1, N1, e1, hd1, kr1⟩ := pc_tail1 r0 (1 : Int32) p2 kA v0 v1 v2 v3 .unset X0 hx hZ hw hby hml hown e0 N0 Z0 V_A One.u hhi
    obtain ⟨fs, hr, hrun, hended, hW, hsame⟩ := X1.leave (v := some (.int (f_tail1 v0 v1 v2 v3 p2))) (fun h => by rw [Bd.returns] at h; cases h)
    refine ⟨_, _, pre0 _ ((goT k1 kr1) _ (retI X1 hx Bd.returns hd1 hr)), hrun, hended, _, _, rfl, ?_, ⟨_, rfl⟩, hW, hsame.mono (by decide) (by decide)⟩
    show Q_first Z r0 (1 : Int32) p2 kA v0 v1 v2 v3 h0 n0 _ T1.heap _
    rw [e1]
    exact ⟨rfl, N1, rfl⟩
  · obtain ⟨T1, L1, pc1, Ls1, X1, N1, e1, hd1, kr1⟩ := pc_tail2 r0 (2 : Int32) p2 kA v0 v1 v2 v3 .unset X0 hx hZ hw hby hml hown e0 N0 Z0 V_A One.u hhi
    obtain ⟨fs, hr, hrun, hended, hW, hsame⟩ := X1.leave (v := some (.int (f_tail2 v0 v1 v2 v3 p2))) (fun h => by rw [Bd.returns] at h; cases h)
    refine ⟨_, _, pre0 _ ((goT k1 kr1) _ (retI X1 hx Bd.returns hd1 hr)), hrun, hended, _, _, rfl, ?_, ⟨_, rfl⟩, hW, hsame.mono (by decide) (by decide)⟩
    show Q_first Z r0 (2 : Int32) p2 kA v0 v1 v2 v3 h0 n0 _ T1.heap _
    rw [e1]
    exact ⟨rfl, N1, rfl⟩
  · obtain ⟨T1, L1, pc1, Ls1, X1, N1, e1, hd1, kr1⟩ := pc_tail3 r0 (3 : Int32) p2 kA v0 v1 v2 v3 .unset X0 hx hZ hw hby hml hown e0 N0 Z0 V_A One.u hhi
    obtain ⟨fs, hr, hrun, hended, hW, hsame⟩ := X1.leave (v := some (.int (f_tail3 v0 v1 v2 v3 p2))) (fun h => by rw [Bd.returns] at h; cases h)
    refine ⟨_, _, pre0 _ ((goT k1 kr1) _ (retI X1 hx Bd.returns hd1 hr)), hrun, hended, _, _, rfl, ?_, ⟨_, rfl⟩, hW, hsame.mono (by decide) (by decide)⟩
    show Q_first Z r0 (3 : Int32) p2 kA v0 v1 v2 v3 h0 n0 _ T1.heap _
    rw [e1]
    exact ⟨rfl, N1, rfl⟩
  · obtain ⟨T1, L1, pc1, Ls1, X1, N1, e1, hd1, kr1⟩ := pc_tail4 r0 (4 : Int32) p2 kA v0 v1 v2 v3 .unset X0 hx hZ hw hby hml hown e0 N0 Z0 V_A One.u hhi
    obtain ⟨fs, hr, hrun, hended, hW, hsame⟩ := X1.leave (v := some (.int (f_tail4 v0 v1 v2 v3 p2))) (fun h => by rw [Bd.returns] at h; cases h)
    refine ⟨_, _, pre0 _ ((goT k1 kr1) _ (retI X1 hx Bd.returns hd1 hr)), hrun, hended, _, _, rfl, ?_, ⟨_, rfl⟩, hW, hsame.mono (by decide) (by decide)⟩
    show Q_first Z r0 (4 : Int32) p2 kA v0 v1 v2 v3 h0 n0 _ T1.heap _
    rw [e1]
    exact ⟨rfl, N1, rfl⟩
theorem own_hs (v : Int32) : f_isHighSurrogate v = f_isHigh v := by
  have c0 : (55296 : Int32).toInt = 55296 := rfl
  have c1 : (56319 : Int32).toInt = 56319 := rfl
  have c2 : (56320 : Int32).toInt = 56320 := rfl
  simp only [f_isHighSurrogate, f_isHigh, Int32.lt_iff_toInt_lt, c0, c1, c2]
  split <;> (try split) <;> (try split) <;> first | rfl | omega
theorem own_ls (v : Int32) : f_isLowSurrogate v = f_isLow v := by
  have c0 : (56320 : Int32).toInt = 56320 := rfl
  have c1 : (57343 : Int32).toInt = 57343 := rfl
  have c2 : (57344 : Int32).toInt = 57344 := rfl
  simp only [f_isLowSurrogate, f_isLow, Int32.lt_iff_toInt_lt, c0, c1, c2]
  split <;> (try split) <;> (try split) <;> first | rfl | omega
theorem own_s (v : Int32) : (f_isSurrogate v = (0 : Int32)) = (f_isHigh v = (0 : Int32) ∧ f_isLow v = (0 : Int32)) := by
  have c0 : (55296 : Int32).toInt = 55296 := rfl
  have c1 : (56319 : Int32).toInt = 56319 := rfl
  have c2 : (56320 : Int32).toInt = 56320 := rfl
  have c3 : (57343 : Int32).toInt = 57343 := rfl
  have c4 : (57344 : Int32).toInt = 57344 := rfl
  have n : ¬ ((1 : Int32) = 0) := by decide
  simp only [f_isSurrogate, f_isHigh, f_isLow, Int32.lt_iff_toInt_lt, c0, c1, c2, c3, c4]
  split <;> (try split) <;> (try split) <;> (try split) <;> (try split) <;> first | (simp [n]; done) | omega
theorem own_x (v : Int32) : f_isHigh v = (0 : Int32) ∨ f_isLow v = (0 : Int32) := by
  have c1 : (56319 : Int32).toInt = 56319 := rfl
  have c2 : (56320 : Int32).toInt = 56320 := rfl
  by_cases h : v < (56320 : Int32)
  · right; simp only [f_isLow, if_pos h]
  · left
    have h' : (56319 : Int32) < v := by rw [Int32.lt_iff_toInt_lt] at *; omega
    simp only [f_isHigh, if_pos h']
    split <;> rfl
theorem own_law (v0 v1 v2 v3 fr to : Int32) (hlo : ¬ (fr < (0 : Int32))) (hle : ¬ (to < fr)) (hhi : ¬ ((4 : Int32) < to)) :
    f_first v0 v1 v2 v3 fr to = (if (f_bad0 fr to v0 v1) = (0 : Int32) then (if (f_bad1 fr to v0 v1 v2) = (0 : Int32) then (if (f_bad2 fr to v1 v2 v3) = (0 : Int32) then (if (f_bad3 fr to v2 v3) = (0 : Int32) then (-1 : Int32) else (3 : Int32)) else (2 : Int32)) else (1 : Int32)) else (0 : Int32)) := by
  have h2 : ¬ (to < (0 : Int32)) := by
    rw [Int32.lt_iff_toInt_lt] at *; omega
  have h3 : ¬ ((4 : Int32) < fr) := by
    rw [Int32.lt_iff_toInt_lt] at *; omega
  have E : ∀ P : Prop, ∃ b : Bool, P = (b = true) := fun P => by
    by_cases h : P
    · exact ⟨true, by simp [h]⟩
    · exact ⟨false, by simp [h]⟩
  obtain ⟨a0, e0⟩ := E (f_isHigh v0 = (0 : Int32))
  obtain ⟨a1, e1⟩ := E (f_isHigh v1 = (0 : Int32))
  obtain ⟨a2, e2⟩ := E (f_isHigh v2 = (0 : Int32))
  obtain ⟨a3, e3⟩ := E (f_isHigh v3 = (0 : Int32))
  obtain ⟨b0, g0⟩ := E (f_isLow v0 = (0 : Int32))
  obtain ⟨b1, g1⟩ := E (f_isLow v1 = (0 : Int32))
  obtain ⟨b2, g2⟩ := E (f_isLow v2 = (0 : Int32))
  obtain ⟨b3, g3⟩ := E (f_isLow v3 = (0 : Int32))
  have x0 := own_x v0
  have x1 := own_x v1
  have x2 := own_x v2
  have x3 := own_x v3
  rw [e0, g0] at x0
  rw [e1, g1] at x1
  rw [e2, g2] at x2
  rw [e3, g3] at x3
  simp only [f_first, f_tail0, f_tail1, f_tail2, f_tail3, f_tail4, f_bad0, f_bad1, f_bad2, f_bad3, own_hs, own_ls, own_s, e0, e1, e2, e3, g0, g1, g2, g3]
  clear e0 e1 e2 e3 g0 g1 g2 g3
  rcases own_five hlo h3 with rfl | rfl | rfl | rfl | rfl <;> rcases own_five h2 hhi with rfl | rfl | rfl | rfl | rfl <;>
    first | exact absurd (by decide) hle | (clear hlo hle hhi h2 h3; revert x0 x1 x2 x3; revert a0 a1 a2 a3 b0 b1 b2 b3; decide +kernel)
theorem own_range (p : Int32) : ¬ (f_min ((p &&& (7 : Int32)) - (((p &&& (7 : Int32)) / (5 : Int32)) * (5 : Int32))) ((((p.toUInt32 >>> ((3 : Int32) &&& 31).toUInt32).toInt32) &&& (7 : Int32)) - (((((p.toUInt32 >>> ((3 : Int32) &&& 31).toUInt32).toInt32) &&& (7 : Int32)) / (5 : Int32)) * (5 : Int32))) < (0 : Int32)) ∧ ¬ ((4 : Int32) < f_min ((p &&& (7 : Int32)) - (((p &&& (7 : Int32)) / (5 : Int32)) * (5 : Int32))) ((((p.toUInt32 >>> ((3 : Int32) &&& 31).toUInt32).toInt32) &&& (7 : Int32)) - (((((p.toUInt32 >>> ((3 : Int32) &&& 31).toUInt32).toInt32) &&& (7 : Int32)) / (5 : Int32)) * (5 : Int32)))) ∧
    ¬ (f_max ((p &&& (7 : Int32)) - (((p &&& (7 : Int32)) / (5 : Int32)) * (5 : Int32))) ((((p.toUInt32 >>> ((3 : Int32) &&& 31).toUInt32).toInt32) &&& (7 : Int32)) - (((((p.toUInt32 >>> ((3 : Int32) &&& 31).toUInt32).toInt32) &&& (7 : Int32)) / (5 : Int32)) * (5 : Int32))) < f_min ((p &&& (7 : Int32)) - (((p &&& (7 : Int32)) / (5 : Int32)) * (5 : Int32))) ((((p.toUInt32 >>> ((3 : Int32) &&& 31).toUInt32).toInt32) &&& (7 : Int32)) - (((((p.toUInt32 >>> ((3 : Int32) &&& 31).toUInt32).toInt32) &&& (7 : Int32)) / (5 : Int32)) * (5 : Int32)))) ∧ ¬ ((4 : Int32) < f_max ((p &&& (7 : Int32)) - (((p &&& (7 : Int32)) / (5 : Int32)) * (5 : Int32))) ((((p.toUInt32 >>> ((3 : Int32) &&& 31).toUInt32).toInt32) &&& (7 : Int32)) - (((((p.toUInt32 >>> ((3 : Int32) &&& 31).toUInt32).toInt32) &&& (7 : Int32)) / (5 : Int32)) * (5 : Int32)))) := by
  generalize (p.toUInt32 >>> ((3 : Int32) &&& 31).toUInt32).toInt32 = q
  rw [own_and p 7 3 (by decide) (by decide), own_and q 7 3 (by decide) (by decide)]
  have h1 : p.toBitVec.toNat % 2 ^ 3 < 8 := Nat.mod_lt _ (by decide)
  have h2 : q.toBitVec.toNat % 2 ^ 3 < 8 := Nat.mod_lt _ (by decide)
  generalize p.toBitVec.toNat % 2 ^ 3 = a at h1
  generalize q.toBitVec.toNat % 2 ^ 3 = b at h2
  have := (by decide +kernel : ∀ (n m : Fin 8), ¬ (f_min (Int32.ofNat n.val - ((Int32.ofNat n.val / 5) * 5)) (Int32.ofNat m.val - ((Int32.ofNat m.val / 5) * 5)) < (0 : Int32)) ∧ ¬ ((4 : Int32) < f_min (Int32.ofNat n.val - ((Int32.ofNat n.val / 5) * 5)) (Int32.ofNat m.val - ((Int32.ofNat m.val / 5) * 5))) ∧ ¬ (f_max (Int32.ofNat n.val - ((Int32.ofNat n.val / 5) * 5)) (Int32.ofNat m.val - ((Int32.ofNat m.val / 5) * 5)) < f_min (Int32.ofNat n.val - ((Int32.ofNat n.val / 5) * 5)) (Int32.ofNat m.val - ((Int32.ofNat m.val / 5) * 5))) ∧ ¬ ((4 : Int32) < f_max (Int32.ofNat n.val - ((Int32.ofNat n.val / 5) * 5)) (Int32.ofNat m.val - ((Int32.ofNat m.val / 5) * 5)))) ⟨a, h1⟩ ⟨b, h2⟩
  exact this
theorem pd_1 : parseMethodDescriptor "(J)C" = some ⟨[.long], some .char⟩ := by decide +kernel
theorem pd_2 : parseMethodDescriptor "(II)I" = some ⟨[.int, .int], some .int⟩ := by decide +kernel
theorem pd_3 : parseMethodDescriptor "([CIII)Z" = some ⟨[(.array .char), .int, .int, .int], some .boolean⟩ := by decide +kernel
theorem pd_4 : parseMethodDescriptor "([CII)I" = some ⟨[(.array .char), .int, .int], some .int⟩ := by decide +kernel
theorem ef_law (m : MethodId) (x0 : Int64) (x1 : Int64) (x2 : Int32) : entryFrame m #[(.long x0), (.long x1), (.int x2)] maxLocals = mkF m 0 #[.val (.long x0), .second, .val (.long x1), .second, .val (.int x2), .unset, .unset, .unset, .unset, .unset, .unset, .unset] [] := by first | (simp [entryFrame, mkF, argsToLocals, Value.category, maxLocals]; done) | rfl
def Q_law (Z : State) (q0 : Int64) (q1 : Int64) (p2 : Int32) (h0 : Heap) (n0 : Nat) (v : Option Value) (h : Heap) (L : List Loc) : Prop := v = some (.int (1 : Int32)) ∧ Fr n0 L
set_option maxRecDepth 65536 in
set_option maxHeartbeats 40000000 in
theorem rm_law (l : Launch) (Z : State) (a0 : Array Value) (hw : ∀ d ∈ tables_1, d.before a0 Z = true) (ws : List Jvm.Cond) (q0 : Int64) (q1 : Int64) (p2 : Int32) (h0 : Heap) (n0 : Nat) (Z0 : n0 ≤ h0.size) :
    MetFree l x (head1 (Jvm.Cond.code x code maxLocals ret :: ws) room_1) (fun a U => a = #[(.long q0), (.long q1), (.int p2)] ∧ Z.Warmed39 U.vm ∧ U.heap = h0) (fun _ _ _ _ _ => True) (fun _ U o U' => ∃ v L, o = .returned v ∧ Q_law Z q0 q1 p2 h0 n0 v U'.heap L ∧ FrameEnd U o U' L room_1.cells room_1.slots) := by
  refine MetFree.of_bodySF (plainFor_of_name pn_0) hisR ?_
  intro p e s m args below meth c s₁ Bd hml0 hP hK
  obtain ⟨rfl, hZ, hh⟩ := hP
  have hx := Bd.exec
  have hby := Bd.bytes
  have hml : c.maxLocals = 12 := hml0
  have hown : s.vm.findClass "com/example/fieldveil/fieldveil/Utf8FirstUnpairedSurrogatePinLaw" = some m.cls := findClass_of_methodNamed Bd.named
  have hnm := (name_of_methodNamed Bd.named Bd.method).1
  have X0 : Stand p l e room_1 s m #[(.long q0), (.long q1), (.int p2)] below meth c s₁ [] 0 0 := Stand.of_body Bd
  have e0 : s₁.heap = h0 := by rw [← hh, Bd.state]; rfl
  have N0 := Fr.nil n0
  have pre0 : ∀ t, Steps p.tables e below (s₁.setTop (mkF m 0 #[.val (.long q0), .second, .val (.long q1), .second, .val (.int p2), .unset, .unset, .unset, .unset, .unset, .unset, .unset] [])) t → Steps p.tables e below (s₁.setTop (entryFrame m #[(.long q0), (.long q1), (.int p2)] maxLocals)) t := fun t k => castTop (ef_law m q0 q1 p2) k
  have k1 : Go p.tables e below (s₁.setTop (mkF m 0 #[.val (.long q0), .second, .val (.long q1), .second, .val (.int p2), .unset, .unset, .unset, .unset, .unset, .unset, .unset] [])) (s₁.setTop (mkF m 1 #[.val (.long q0), .second, .val (.long q1), .second, .val (.int p2), .unset, .unset, .unset, .unset, .unset, .unset, .unset] [(.int (4 : Int32))])) := by
    intro t ht
    refine XS.iconst X0.here hx rfl (hb hby at_0) ?_
    exact ht
  obtain ⟨T2, h2, kc2, X2, e2, E2, A2, st2⟩ := newP X0 hx hZ (hw _ (List.mem_of_getElem? (i := 0) rfl)) e0 (g := (mkF m 1 #[.val (.long q0), .second, .val (.long q1), .second, .val (.int p2), .unset, .unset, .unset, .unset, .unset, .unset, .unset] [(.int (4 : Int32))])) rfl (hb hby at_1) rfl (by decide) (cap := 4) (by decide) (by decide) (by decide) (by decide)
  obtain ⟨b2, g2⟩ : ∃ z, z = h0.size := ⟨_, rfl⟩
  rw [← g2] at A2 st2
  have g_b2 : n0 ≤ b2 := Nat.le_trans Z0 (Nat.le_of_eq g2.symm)
  have sz_b2 : h0.size ≤ b2 := Nat.le_trans (Keep.refl h0 []).1 (Nat.le_of_eq g2.symm)
  have Kp2 : Keep h0 h2 [] := (Keep.refl h0 []).ext E2
  have Z2 : n0 ≤ h2.size := Nat.le_trans Z0 E2.1
  have V_b2 : Arv Z h2 b2 kc2 .char (4 : Int32) [(.int (0 : Int32)), (.int (0 : Int32)), (.int (0 : Int32)), (.int (0 : Int32))] (.int (0 : Int32)) := (Arv.new A2 (by decide)).pad (pad_rep [] (.int (0 : Int32)) 4)
  have k2 : Go p.tables e below (s₁.setTop (mkF m 1 #[.val (.long q0), .second, .val (.long q1), .second, .val (.int p2), .unset, .unset, .unset, .unset, .unset, .unset, .unset] [(.int (4 : Int32))])) (T2.setTop (mkF m 3 #[.val (.long q0), .second, .val (.long q1), .second, .val (.int p2), .unset, .unset, .unset, .unset, .unset, .unset, .unset] [(.ref b2)])) := st2
  have k3 : Go p.tables e below (T2.setTop (mkF m 3 #[.val (.long q0), .second, .val (.long q1), .second, .val (.int p2), .unset, .unset, .unset, .unset, .unset, .unset, .unset] [(.ref b2)])) (T2.setTop (mkF m 9 #[.val (.long q0), .second, .val (.long q1), .second, .val (.int p2), .val (.ref b2), .unset, .unset, .unset, .unset, .unset, .unset] [(.long q0), (.int (0 : Int32)), (.ref b2)])) := by
    intro t ht
    refine XS.astore X2.here hx rfl (hb hby at_3) rfl rfl (l' := #[.val (.long q0), .second, .val (.long q1), .second, .val (.int p2), .val (.ref b2), .unset, .unset, .unset, .unset, .unset, .unset]) rfl ?_
    show Steps p.tables e below (T2.setTop (mkF m 5 #[.val (.long q0), .second, .val (.long q1), .second, .val (.int p2), .val (.ref b2), .unset, .unset, .unset, .unset, .unset, .unset] [])) _
    refine XS.aload X2.here hx rfl (hb hby at_5) rfl rfl ?_
    show Steps p.tables e below (T2.setTop (mkF m 7 #[.val (.long q0), .second, .val (.long q1), .second, .val (.int p2), .val (.ref b2), .unset, .unset, .unset, .unset, .unset, .unset] [(.ref b2)])) _
    refine XS.iconst X2.here hx rfl (hb hby at_7) ?_
    show Steps p.tables e below (T2.setTop (mkF m 8 #[.val (.long q0), .second, .val (.long q1), .second, .val (.int p2), .val (.ref b2), .unset, .unset, .unset, .unset, .unset, .unset] [(.int (0 : Int32)), (.ref b2)])) _
    refine XS.lloadN X2.here hx rfl (hb hby at_8) rfl ?_
    exact ht
  obtain ⟨_, _, ⟨T4, L4, kq4, n4⟩, -, X4, ⟨Lc4, hQ4, l4, y4, z4⟩, st4⟩ := Jvm.LawKit.callS X2 hx (y := (⟨"com/example/fieldveil/fieldveil/Utf8FirstUnpairedSurrogatePinLaw", "ch", "(J)C"⟩ : MethodName)) hown (mvT hZ (hw _ (List.mem_of_getElem? (i := 1) rfl))) (mvT hZ (hw _ (List.mem_of_getElem? (i := 2) rfl))) (mvT hZ (hw _ (List.mem_of_getElem? (i := 3) rfl))) (mvT hZ (hw _ (List.mem_of_getElem? (i := 4) rfl))) (by decide) (backOf (W := 2) (rm_ch l Z a0 hw [] q0 h2 n0 Z2 ) hZ (hw _ (List.mem_of_getElem? (i := 4) rfl)) (hw _ (List.mem_of_getElem? (i := 3) rfl)) (by decide) (by decide)) (g := (mkF m 9 #[.val (.long q0), .second, .val (.long q1), .second, .val (.int p2), .val (.ref b2), .unset, .unset, .unset, .unset, .unset, .unset] [(.long q0), (.int (0 : Int32)), (.ref b2)])) rfl (by rw [hml]; rfl) (argsL := [(.long q0)]) (rest := [(.int (0 : Int32)), (.ref b2)]) (lenOf pd_1 rfl) rfl (by show 2 * 0 + _ ≤ _; exact Nat.le_of_eq rfl) (hb hby at_9) (fun _ _ => ⟨rfl, e2, (by decide : 1 + 0 ≤ _), (by decide : 4 + 0 ≤ _)⟩)
  dsimp only [Pt.U, Pt.locs, Pt.cells, Pt.slots] at X4 l4 y4 z4 st4 hQ4
  subst l4 y4 z4
  obtain ⟨rfl, N4q, eq4⟩ := hQ4
  have N4 := Fr.app N0 N4q
  have k4 : Go p.tables e below (T2.setTop (mkF m 9 #[.val (.long q0), .second, .val (.long q1), .second, .val (.int p2), .val (.ref b2), .unset, .unset, .unset, .unset, .unset, .unset] [(.long q0), (.int (0 : Int32)), (.ref b2)])) (T4.setTop (mkF m 12 #[.val (.long q0), .second, .val (.long q1), .second, .val (.int p2), .val (.ref b2), .unset, .unset, .unset, .unset, .unset, .unset] [(.int (f_ch q0)), (.int (0 : Int32)), (.ref b2)])) := st4
  obtain ⟨cl5, Ar5, q5, S5, M5, H5, G5⟩ := id V_b2
  have hin5 : ¬ ((0 : Int32) < 0 ∨ cl5.slots.size ≤ ((0 : Int32)).toNatClampNeg) := inb_of S5 ⟨by decide, by decide⟩
  obtain ⟨T5, h5, X5, e5, W5, st5⟩ := stC X4 hx hZ eq4 Ar5 (j := (0 : Int32)) hin5 (g := (mkF m 12 #[.val (.long q0), .second, .val (.long q1), .second, .val (.int p2), .val (.ref b2), .unset, .unset, .unset, .unset, .unset, .unset] [(.int (f_ch q0)), (.int (0 : Int32)), (.ref b2)])) rfl rfl (hb hby at_12)
  have V5_b2 : Arv Z h5 b2 kc2 .char (4 : Int32) [(.int (nar .char (f_ch q0))), (.int (0 : Int32)), (.int (0 : Int32)), (.int (0 : Int32))] (.int (0 : Int32)) := Arv.set Ar5 q5 S5 M5 H5 G5 (fits_nar_char _) W5 0 rfl (Nat.le_of_ble_eq_true rfl)
  have Kp5 : Keep h0 h5 [] := Kp2.wr W5 (Or.inr sz_b2)
  have Z5 : n0 ≤ h5.size := Nat.le_trans Z2 (Keep.of_wr W5).1
  have k5 : Go p.tables e below (T4.setTop (mkF m 12 #[.val (.long q0), .second, .val (.long q1), .second, .val (.int p2), .val (.ref b2), .unset, .unset, .unset, .unset, .unset, .unset] [(.int (f_ch q0)), (.int (0 : Int32)), (.ref b2)])) (T5.setTop (mkF m 13 #[.val (.long q0), .second, .val (.long q1), .second, .val (.int p2), .val (.ref b2), .unset, .unset, .unset, .unset, .unset, .unset] [])) := st5
  have N5 := Fr.snoc X5 N4 g_b2
  have k6 : Go p.tables e below (T5.setTop (mkF m 13 #[.val (.long q0), .second, .val (.long q1), .second, .val (.int p2), .val (.ref b2), .unset, .unset, .unset, .unset, .unset, .unset] [])) (T5.setTop (mkF m 20 #[.val (.long q0), .second, .val (.long q1), .second, .val (.int p2), .val (.ref b2), .unset, .unset, .unset, .unset, .unset, .unset] [(.long ((q0.toUInt64 >>> ((18 : Int32) &&& 0x3f).toInt64.toUInt64).toInt64)), (.int (1 : Int32)), (.ref b2)])) := by
    intro t ht
    refine XS.aload X5.here hx rfl (hb hby at_13) rfl rfl ?_
    show Steps p.tables e below (T5.setTop (mkF m 15 #[.val (.long q0), .second, .val (.long q1), .second, .val (.int p2), .val (.ref b2), .unset, .unset, .unset, .unset, .unset, .unset] [(.ref b2)])) _
    refine XS.iconst X5.here hx rfl (hb hby at_15) ?_
    show Steps p.tables e below (T5.setTop (mkF m 16 #[.val (.long q0), .second, .val (.long q1), .second, .val (.int p2), .val (.ref b2), .unset, .unset, .unset, .unset, .unset, .unset] [(.int (1 : Int32)), (.ref b2)])) _
    refine XS.lloadN X5.here hx rfl (hb hby at_16) rfl ?_
    show Steps p.tables e below (T5.setTop (mkF m 17 #[.val (.long q0), .second, .val (.long q1), .second, .val (.int p2), .val (.ref b2), .unset, .unset, .unset, .unset, .unset, .unset] [(.long q0), (.int (1 : Int32)), (.ref b2)])) _
    refine XS.bipush X5.here hx rfl (hb hby at_17) ?_
    show Steps p.tables e below (T5.setTop (mkF m 19 #[.val (.long q0), .second, .val (.long q1), .second, .val (.int p2), .val (.ref b2), .unset, .unset, .unset, .unset, .unset, .unset] [(.int (18 : Int32)), (.long q0), (.int (1 : Int32)), (.ref b2)])) _
    refine XS.lushr X5.here hx rfl (hb hby at_19) rfl ?_
    exact ht
  obtain ⟨_, _, ⟨T7, L7, kq7, n7⟩, -, X7, ⟨Lc7, hQ7, l7, y7, z7⟩, st7⟩ := Jvm.LawKit.callS X5 hx (y := (⟨"com/example/fieldveil/fieldveil/Utf8FirstUnpairedSurrogatePinLaw", "ch", "(J)C"⟩ : MethodName)) hown (mvT hZ (hw _ (List.mem_of_getElem? (i := 1) rfl))) (mvT hZ (hw _ (List.mem_of_getElem? (i := 2) rfl))) (mvT hZ (hw _ (List.mem_of_getElem? (i := 3) rfl))) (mvT hZ (hw _ (List.mem_of_getElem? (i := 4) rfl))) (by decide) (backOf (W := 2) (rm_ch l Z a0 hw [] ((q0.toUInt64 >>> ((18 : Int32) &&& 0x3f).toInt64.toUInt64).toInt64) h5 n0 Z5 ) hZ (hw _ (List.mem_of_getElem? (i := 4) rfl)) (hw _ (List.mem_of_getElem? (i := 3) rfl)) (by decide) (by decide)) (g := (mkF m 20 #[.val (.long q0), .second, .val (.long q1), .second, .val (.int p2), .val (.ref b2), .unset, .unset, .unset, .unset, .unset, .unset] [(.long ((q0.toUInt64 >>> ((18 : Int32) &&& 0x3f).toInt64.toUInt64).toInt64)), (.int (1 : Int32)), (.ref b2)])) rfl (by rw [hml]; rfl) (argsL := [(.long ((q0.toUInt64 >>> ((18 : Int32) &&& 0x3f).toInt64.toUInt64).toInt64))]) (rest := [(.int (1 : Int32)), (.ref b2)]) (lenOf pd_1 rfl) rfl (by show 2 * 0 + _ ≤ _; exact Nat.le_of_eq rfl) (hb hby at_20) (fun _ _ => ⟨rfl, e5, (by decide : 1 + 0 ≤ _), (by decide : 4 + 0 ≤ _)⟩)
  dsimp only [Pt.U, Pt.locs, Pt.cells, Pt.slots] at X7 l7 y7 z7 st7 hQ7
  subst l7 y7 z7
  obtain ⟨rfl, N7q, eq7⟩ := hQ7
  have N7 := Fr.app N5 N7q
  have k7 : Go p.tables e below (T5.setTop (mkF m 20 #[.val (.long q0), .second, .val (.long q1), .second, .val (.int p2), .val (.ref b2), .unset, .unset, .unset, .unset, .unset, .unset] [(.long ((q0.toUInt64 >>> ((18 : Int32) &&& 0x3f).toInt64.toUInt64).toInt64)), (.int (1 : Int32)), (.ref b2)])) (T7.setTop (mkF m 23 #[.val (.long q0), .second, .val (.long q1), .second, .val (.int p2), .val (.ref b2), .unset, .unset, .unset, .unset, .unset, .unset] [(.int (f_ch ((q0.toUInt64 >>> ((18 : Int32) &&& 0x3f).toInt64.toUInt64).toInt64))), (.int (1 : Int32)), (.ref b2)])) := st7
  obtain ⟨cl8, Ar8, q8, S8, M8, H8, G8⟩ := id V5_b2
  have hin8 : ¬ ((1 : Int32) < 0 ∨ cl8.slots.size ≤ ((1 : Int32)).toNatClampNeg) := inb_of S8 ⟨by decide, by decide⟩
  obtain ⟨T8, h8, X8, e8, W8, st8⟩ := stC X7 hx hZ eq7 Ar8 (j := (1 : Int32)) hin8 (g := (mkF m 23 #[.val (.long q0), .second, .val (.long q1), .second, .val (.int p2), .val (.ref b2), .unset, .unset, .unset, .unset, .unset, .unset] [(.int (f_ch ((q0.toUInt64 >>> ((18 : Int32) &&& 0x3f).toInt64.toUInt64).toInt64))), (.int (1 : Int32)), (.ref b2)])) rfl rfl (hb hby at_23)
  have V8_b2 : Arv Z h8 b2 kc2 .char (4 : Int32) [(.int (nar .char (f_ch q0))), (.int (nar .char (f_ch ((q0.toUInt64 >>> ((18 : Int32) &&& 0x3f).toInt64.toUInt64).toInt64)))), (.int (0 : Int32)), (.int (0 : Int32))] (.int (0 : Int32)) := Arv.set Ar8 q8 S8 M8 H8 G8 (fits_nar_char _) W8 1 rfl (Nat.le_of_ble_eq_true rfl)
  have Kp8 : Keep h0 h8 [] := Kp5.wr W8 (Or.inr sz_b2)
  have Z8 : n0 ≤ h8.size := Nat.le_trans Z5 (Keep.of_wr W8).1
  have k8 : Go p.tables e below (T7.setTop (mkF m 23 #[.val (.long q0), .second, .val (.long q1), .second, .val (.int p2), .val (.ref b2), .unset, .unset, .unset, .unset, .unset, .unset] [(.int (f_ch ((q0.toUInt64 >>> ((18 : Int32) &&& 0x3f).toInt64.toUInt64).toInt64))), (.int (1 : Int32)), (.ref b2)])) (T8.setTop (mkF m 24 #[.val (.long q0), .second, .val (.long q1), .second, .val (.int p2), .val (.ref b2), .unset, .unset, .unset, .unset, .unset, .unset] [])) := st8
  have N8 := Fr.snoc X8 N7 g_b2
  have k9 : Go p.tables e below (T8.setTop (mkF m 24 #[.val (.long q0), .second, .val (.long q1), .second, .val (.int p2), .val (.ref b2), .unset, .unset, .unset, .unset, .unset, .unset] [])) (T8.setTop (mkF m 28 #[.val (.long q0), .second, .val (.long q1), .second, .val (.int p2), .val (.ref b2), .unset, .unset, .unset, .unset, .unset, .unset] [(.long q1), (.int (2 : Int32)), (.ref b2)])) := by
    intro t ht
    refine XS.aload X8.here hx rfl (hb hby at_24) rfl rfl ?_
    show Steps p.tables e below (T8.setTop (mkF m 26 #[.val (.long q0), .second, .val (.long q1), .second, .val (.int p2), .val (.ref b2), .unset, .unset, .unset, .unset, .unset, .unset] [(.ref b2)])) _
    refine XS.iconst X8.here hx rfl (hb hby at_26) ?_
    show Steps p.tables e below (T8.setTop (mkF m 27 #[.val (.long q0), .second, .val (.long q1), .second, .val (.int p2), .val (.ref b2), .unset, .unset, .unset, .unset, .unset, .unset] [(.int (2 : Int32)), (.ref b2)])) _
    refine XS.lloadN X8.here hx rfl (hb hby at_27) rfl ?_
    exact ht
  obtain ⟨_, _, ⟨T10, L10, kq10, n10⟩, -, X10, ⟨Lc10, hQ10, l10, y10, z10⟩, st10⟩ := Jvm.LawKit.callS X8 hx (y := (⟨"com/example/fieldveil/fieldveil/Utf8FirstUnpairedSurrogatePinLaw", "ch", "(J)C"⟩ : MethodName)) hown (mvT hZ (hw _ (List.mem_of_getElem? (i := 1) rfl))) (mvT hZ (hw _ (List.mem_of_getElem? (i := 2) rfl))) (mvT hZ (hw _ (List.mem_of_getElem? (i := 3) rfl))) (mvT hZ (hw _ (List.mem_of_getElem? (i := 4) rfl))) (by decide) (backOf (W := 2) (rm_ch l Z a0 hw [] q1 h8 n0 Z8 ) hZ (hw _ (List.mem_of_getElem? (i := 4) rfl)) (hw _ (List.mem_of_getElem? (i := 3) rfl)) (by decide) (by decide)) (g := (mkF m 28 #[.val (.long q0), .second, .val (.long q1), .second, .val (.int p2), .val (.ref b2), .unset, .unset, .unset, .unset, .unset, .unset] [(.long q1), (.int (2 : Int32)), (.ref b2)])) rfl (by rw [hml]; rfl) (argsL := [(.long q1)]) (rest := [(.int (2 : Int32)), (.ref b2)]) (lenOf pd_1 rfl) rfl (by show 2 * 0 + _ ≤ _; exact Nat.le_of_eq rfl) (hb hby at_28) (fun _ _ => ⟨rfl, e8, (by decide : 1 + 0 ≤ _), (by decide : 4 + 0 ≤ _)⟩)
  dsimp only [Pt.U, Pt.locs, Pt.cells, Pt.slots] at X10 l10 y10 z10 st10 hQ10
  subst l10 y10 z10
  obtain ⟨rfl, N10q, eq10⟩ := hQ10
  have N10 := Fr.app N8 N10q
  have k10 : Go p.tables e below (T8.setTop (mkF m 28 #[.val (.long q0), .second, .val (.long q1), .second, .val (.int p2), .val (.ref b2), .unset, .unset, .unset, .unset, .unset, .unset] [(.long q1), (.int (2 : Int32)), (.ref b2)])) (T10.setTop (mkF m 31 #[.val (.long q0), .second, .val (.long q1), .second, .val (.int p2), .val (.ref b2), .unset, .unset, .unset, .unset, .unset, .unset] [(.int (f_ch q1)), (.int (2 : Int32)), (.ref b2)])) := st10
  obtain ⟨cl11, Ar11, q11, S11, M11, H11, G11⟩ := id V8_b2
  have hin11 : ¬ ((2 : Int32) < 0 ∨ cl11.slots.size ≤ ((2 : Int32)).toNatClampNeg) := inb_of S11 ⟨by decide, by decide⟩
  obtain ⟨T11, h11, X11, e11, W11, st11⟩ := stC X10 hx hZ eq10 Ar11 (j := (2 : Int32)) hin11 (g := (mkF m 31 #[.val (.long q0), .second, .val (.long q1), .second, .val (.int p2), .val (.ref b2), .unset, .unset, .unset, .unset, .unset, .unset] [(.int (f_ch q1)), (.int (2 : Int32)), (.ref b2)])) rfl rfl (hb hby at_31)
  have V11_b2 : Arv Z h11 b2 kc2 .char (4 : Int32) [(.int (nar .char (f_ch q0))), (.int (nar .char (f_ch ((q0.toUInt64 >>> ((18 : Int32) &&& 0x3f).toInt64.toUInt64).toInt64)))), (.int (nar .char (f_ch q1))), (.int (0 : Int32))] (.int (0 : Int32)) := Arv.set Ar11 q11 S11 M11 H11 G11 (fits_nar_char _) W11 2 rfl (Nat.le_of_ble_eq_true rfl)
  have Kp11 : Keep h0 h11 [] := Kp8.wr W11 (Or.inr sz_b2)
  have Z11 : n0 ≤ h11.size := Nat.le_trans Z8 (Keep.of_wr W11).1
  have k11 : Go p.tables e below (T10.setTop (mkF m 31 #[.val (.long q0), .second, .val (.long q1), .second, .val (.int p2), .val (.ref b2), .unset, .unset, .unset, .unset, .unset, .unset] [(.int (f_ch q1)), (.int (2 : Int32)), (.ref b2)])) (T11.setTop (mkF m 32 #[.val (.long q0), .second, .val (.long q1), .second, .val (.int p2), .val (.ref b2), .unset, .unset, .unset, .unset, .unset, .unset] [])) := st11
  have N11 := Fr.snoc X11 N10 g_b2
  have k12 : Go p.tables e below (T11.setTop (mkF m 32 #[.val (.long q0), .second, .val (.long q1), .second, .val (.int p2), .val (.ref b2), .unset, .unset, .unset, .unset, .unset, .unset] [])) (T11.setTop (mkF m 39 #[.val (.long q0), .second, .val (.long q1), .second, .val (.int p2), .val (.ref b2), .unset, .unset, .unset, .unset, .unset, .unset] [(.long ((q1.toUInt64 >>> ((18 : Int32) &&& 0x3f).toInt64.toUInt64).toInt64)), (.int (3 : Int32)), (.ref b2)])) := by
    intro t ht
    refine XS.aload X11.here hx rfl (hb hby at_32) rfl rfl ?_
    show Steps p.tables e below (T11.setTop (mkF m 34 #[.val (.long q0), .second, .val (.long q1), .second, .val (.int p2), .val (.ref b2), .unset, .unset, .unset, .unset, .unset, .unset] [(.ref b2)])) _
    refine XS.iconst X11.here hx rfl (hb hby at_34) ?_
    show Steps p.tables e below (T11.setTop (mkF m 35 #[.val (.long q0), .second, .val (.long q1), .second, .val (.int p2), .val (.ref b2), .unset, .unset, .unset, .unset, .unset, .unset] [(.int (3 : Int32)), (.ref b2)])) _
    refine XS.lloadN X11.here hx rfl (hb hby at_35) rfl ?_
    show Steps p.tables e below (T11.setTop (mkF m 36 #[.val (.long q0), .second, .val (.long q1), .second, .val (.int p2), .val (.ref b2), .unset, .unset, .unset, .unset, .unset, .unset] [(.long q1), (.int (3 : Int32)), (.ref b2)])) _
    refine XS.bipush X11.here hx rfl (hb hby at_36) ?_
    show Steps p.tables e below (T11.setTop (mkF m 38 #[.val (.long q0), .second, .val (.long q1), .second, .val (.int p2), .val (.ref b2), .unset, .unset, .unset, .unset, .unset, .unset] [(.int (18 : Int32)), (.long q1), (.int (3 : Int32)), (.ref b2)])) _
    refine XS.lushr X11.here hx rfl (hb hby at_38) rfl ?_
    exact ht
  obtain ⟨_, _, ⟨T13, L13, kq13, n13⟩, -, X13, ⟨Lc13, hQ13, l13, y13, z13⟩, st13⟩ := Jvm.LawKit.callS X11 hx (y := (⟨"com/example/fieldveil/fieldveil/Utf8FirstUnpairedSurrogatePinLaw", "ch", "(J)C"⟩ : MethodName)) hown (mvT hZ (hw _ (List.mem_of_getElem? (i := 1) rfl))) (mvT hZ (hw _ (List.mem_of_getElem? (i := 2) rfl))) (mvT hZ (hw _ (List.mem_of_getElem? (i := 3) rfl))) (mvT hZ (hw _ (List.mem_of_getElem? (i := 4) rfl))) (by decide) (backOf (W := 2) (rm_ch l Z a0 hw [] ((q1.toUInt64 >>> ((18 : Int32) &&& 0x3f).toInt64.toUInt64).toInt64) h11 n0 Z11 ) hZ (hw _ (List.mem_of_getElem? (i := 4) rfl)) (hw _ (List.mem_of_getElem? (i := 3) rfl)) (by decide) (by decide)) (g := (mkF m 39 #[.val (.long q0), .second, .val (.long q1), .second, .val (.int p2), .val (.ref b2), .unset, .unset, .unset, .unset, .unset, .unset] [(.long ((q1.toUInt64 >>> ((18 : Int32) &&& 0x3f).toInt64.toUInt64).toInt64)), (.int (3 : Int32)), (.ref b2)])) rfl (by rw [hml]; rfl) (argsL := [(.long ((q1.toUInt64 >>> ((18 : Int32) &&& 0x3f).toInt64.toUInt64).toInt64))]) (rest := [(.int (3 : Int32)), (.ref b2)]) (lenOf pd_1 rfl) rfl (by show 2 * 0 + _ ≤ _; exact Nat.le_of_eq rfl) (hb hby at_39) (fun _ _ => ⟨rfl, e11, (by decide : 1 + 0 ≤ _), (by decide : 4 + 0 ≤ _)⟩)
  dsimp only [Pt.U, Pt.locs, Pt.cells, Pt.slots] at X13 l13 y13 z13 st13 hQ13
  subst l13 y13 z13
  obtain ⟨rfl, N13q, eq13⟩ := hQ13
  have N13 := Fr.app N11 N13q
  have k13 : Go p.tables e below (T11.setTop (mkF m 39 #[.val (.long q0), .second, .val (.long q1), .second, .val (.int p2), .val (.ref b2), .unset, .unset, .unset, .unset, .unset, .unset] [(.long ((q1.toUInt64 >>> ((18 : Int32) &&& 0x3f).toInt64.toUInt64).toInt64)), (.int (3 : Int32)), (.ref b2)])) (T13.setTop (mkF m 42 #[.val (.long q0), .second, .val (.long q1), .second, .val (.int p2), .val (.ref b2), .unset, .unset, .unset, .unset, .unset, .unset] [(.int (f_ch ((q1.toUInt64 >>> ((18 : Int32) &&& 0x3f).toInt64.toUInt64).toInt64))), (.int (3 : Int32)), (.ref b2)])) := st13
  obtain ⟨cl14, Ar14, q14, S14, M14, H14, G14⟩ := id V11_b2
  have hin14 : ¬ ((3 : Int32) < 0 ∨ cl14.slots.size ≤ ((3 : Int32)).toNatClampNeg) := inb_of S14 ⟨by decide, by decide⟩
  obtain ⟨T14, h14, X14, e14, W14, st14⟩ := stC X13 hx hZ eq13 Ar14 (j := (3 : Int32)) hin14 (g := (mkF m 42 #[.val (.long q0), .second, .val (.long q1), .second, .val (.int p2), .val (.ref b2), .unset, .unset, .unset, .unset, .unset, .unset] [(.int (f_ch ((q1.toUInt64 >>> ((18 : Int32) &&& 0x3f).toInt64.toUInt64).toInt64))), (.int (3 : Int32)), (.ref b2)])) rfl rfl (hb hby at_42)
  have V14_b2 : Arv Z h14 b2 kc2 .char (4 : Int32) [(.int (nar .char (f_ch q0))), (.int (nar .char (f_ch ((q0.toUInt64 >>> ((18 : Int32) &&& 0x3f).toInt64.toUInt64).toInt64)))), (.int (nar .char (f_ch q1))), (.int (nar .char (f_ch ((q1.toUInt64 >>> ((18 : Int32) &&& 0x3f).toInt64.toUInt64).toInt64))))] (.int (0 : Int32)) := Arv.set Ar14 q14 S14 M14 H14 G14 (fits_nar_char _) W14 3 rfl (Nat.le_of_ble_eq_true rfl)
  have Kp14 : Keep h0 h14 [] := Kp11.wr W14 (Or.inr sz_b2)
  have Z14 : n0 ≤ h14.size := Nat.le_trans Z11 (Keep.of_wr W14).1
  have k14 : Go p.tables e below (T13.setTop (mkF m 42 #[.val (.long q0), .second, .val (.long q1), .second, .val (.int p2), .val (.ref b2), .unset, .unset, .unset, .unset, .unset, .unset] [(.int (f_ch ((q1.toUInt64 >>> ((18 : Int32) &&& 0x3f).toInt64.toUInt64).toInt64))), (.int (3 : Int32)), (.ref b2)])) (T14.setTop (mkF m 43 #[.val (.long q0), .second, .val (.long q1), .second, .val (.int p2), .val (.ref b2), .unset, .unset, .unset, .unset, .unset, .unset] [])) := st14
  have N14 := Fr.snoc X14 N13 g_b2
  have k15 : Go p.tables e below (T14.setTop (mkF m 43 #[.val (.long q0), .second, .val (.long q1), .second, .val (.int p2), .val (.ref b2), .unset, .unset, .unset, .unset, .unset, .unset] [])) (T14.setTop (mkF m 67 #[.val (.long q0), .second, .val (.long q1), .second, .val (.int p2), .val (.ref b2), .val (.int ((p2 &&& (7 : Int32)) - (((p2 &&& (7 : Int32)) / (5 : Int32)) * (5 : Int32)))), .val (.int ((((p2.toUInt32 >>> ((3 : Int32) &&& 31).toUInt32).toInt32) &&& (7 : Int32)) - (((((p2.toUInt32 >>> ((3 : Int32) &&& 31).toUInt32).toInt32) &&& (7 : Int32)) / (5 : Int32)) * (5 : Int32)))), .unset, .unset, .unset, .unset] [(.int ((((p2.toUInt32 >>> ((3 : Int32) &&& 31).toUInt32).toInt32) &&& (7 : Int32)) - (((((p2.toUInt32 >>> ((3 : Int32) &&& 31).toUInt32).toInt32) &&& (7 : Int32)) / (5 : Int32)) * (5 : Int32)))), (.int ((p2 &&& (7 : Int32)) - (((p2 &&& (7 : Int32)) / (5 : Int32)) * (5 : Int32))))])) := by
    intro t ht
    refine XS.iload X14.here hx rfl (hb hby at_43) rfl ?_
    show Steps p.tables e below (T14.setTop (mkF m 45 #[.val (.long q0), .second, .val (.long q1), .second, .val (.int p2), .val (.ref b2), .unset, .unset, .unset, .unset, .unset, .unset] [(.int p2)])) _
    refine XS.bipush X14.here hx rfl (hb hby at_45) ?_
    show Steps p.tables e below (T14.setTop (mkF m 47 #[.val (.long q0), .second, .val (.long q1), .second, .val (.int p2), .val (.ref b2), .unset, .unset, .unset, .unset, .unset, .unset] [(.int (7 : Int32)), (.int p2)])) _
    refine XS.iand X14.here hx rfl (hb hby at_47) rfl ?_
    show Steps p.tables e below (T14.setTop (mkF m 48 #[.val (.long q0), .second, .val (.long q1), .second, .val (.int p2), .val (.ref b2), .unset, .unset, .unset, .unset, .unset, .unset] [(.int (p2 &&& (7 : Int32)))])) _
    refine XS.iconst X14.here hx rfl (hb hby at_48) ?_
    show Steps p.tables e below (T14.setTop (mkF m 49 #[.val (.long q0), .second, .val (.long q1), .second, .val (.int p2), .val (.ref b2), .unset, .unset, .unset, .unset, .unset, .unset] [(.int (5 : Int32)), (.int (p2 &&& (7 : Int32)))])) _
    refine XS.irem X14.here hx rfl (hb hby at_49) rfl (by decide : ¬ ((5 : Int32) = 0)) ?_
    show Steps p.tables e below (T14.setTop (mkF m 50 #[.val (.long q0), .second, .val (.long q1), .second, .val (.int p2), .val (.ref b2), .unset, .unset, .unset, .unset, .unset, .unset] [(.int ((p2 &&& (7 : Int32)) - (((p2 &&& (7 : Int32)) / (5 : Int32)) * (5 : Int32))))])) _
    refine XS.istore X14.here hx rfl (hb hby at_50) rfl (l' := #[.val (.long q0), .second, .val (.long q1), .second, .val (.int p2), .val (.ref b2), .val (.int ((p2 &&& (7 : Int32)) - (((p2 &&& (7 : Int32)) / (5 : Int32)) * (5 : Int32)))), .unset, .unset, .unset, .unset, .unset]) rfl ?_
    show Steps p.tables e below (T14.setTop (mkF m 52 #[.val (.long q0), .second, .val (.long q1), .second, .val (.int p2), .val (.ref b2), .val (.int ((p2 &&& (7 : Int32)) - (((p2 &&& (7 : Int32)) / (5 : Int32)) * (5 : Int32)))), .unset, .unset, .unset, .unset, .unset] [])) _
    refine XS.iload X14.here hx rfl (hb hby at_52) rfl ?_
    show Steps p.tables e below (T14.setTop (mkF m 54 #[.val (.long q0), .second, .val (.long q1), .second, .val (.int p2), .val (.ref b2), .val (.int ((p2 &&& (7 : Int32)) - (((p2 &&& (7 : Int32)) / (5 : Int32)) * (5 : Int32)))), .unset, .unset, .unset, .unset, .unset] [(.int p2)])) _
    refine XS.iconst X14.here hx rfl (hb hby at_54) ?_
    show Steps p.tables e below (T14.setTop (mkF m 55 #[.val (.long q0), .second, .val (.long q1), .second, .val (.int p2), .val (.ref b2), .val (.int ((p2 &&& (7 : Int32)) - (((p2 &&& (7 : Int32)) / (5 : Int32)) * (5 : Int32)))), .unset, .unset, .unset, .unset, .unset] [(.int (3 : Int32)), (.int p2)])) _
    refine XS.iushr X14.here hx rfl (hb hby at_55) rfl ?_
    show Steps p.tables e below (T14.setTop (mkF m 56 #[.val (.long q0), .second, .val (.long q1), .second, .val (.int p2), .val (.ref b2), .val (.int ((p2 &&& (7 : Int32)) - (((p2 &&& (7 : Int32)) / (5 : Int32)) * (5 : Int32)))), .unset, .unset, .unset, .unset, .unset] [(.int ((p2.toUInt32 >>> ((3 : Int32) &&& 31).toUInt32).toInt32))])) _
    refine XS.bipush X14.here hx rfl (hb hby at_56) ?_
    show Steps p.tables e below (T14.setTop (mkF m 58 #[.val (.long q0), .second, .val (.long q1), .second, .val (.int p2), .val (.ref b2), .val (.int ((p2 &&& (7 : Int32)) - (((p2 &&& (7 : Int32)) / (5 : Int32)) * (5 : Int32)))), .unset, .unset, .unset, .unset, .unset] [(.int (7 : Int32)), (.int ((p2.toUInt32 >>> ((3 : Int32) &&& 31).toUInt32).toInt32))])) _
    refine XS.iand X14.here hx rfl (hb hby at_58) rfl ?_
    show Steps p.tables e below (T14.setTop (mkF m 59 #[.val (.long q0), .second, .val (.long q1), .second, .val (.int p2), .val (.ref b2), .val (.int ((p2 &&& (7 : Int32)) - (((p2 &&& (7 : Int32)) / (5 : Int32)) * (5 : Int32)))), .unset, .unset, .unset, .unset, .unset] [(.int (((p2.toUInt32 >>> ((3 : Int32) &&& 31).toUInt32).toInt32) &&& (7 : Int32)))])) _
    refine XS.iconst X14.here hx rfl (hb hby at_59) ?_
    show Steps p.tables e below (T14.setTop (mkF m 60 #[.val (.long q0), .second, .val (.long q1), .second, .val (.int p2), .val (.ref b2), .val (.int ((p2 &&& (7 : Int32)) - (((p2 &&& (7 : Int32)) / (5 : Int32)) * (5 : Int32)))), .unset, .unset, .unset, .unset, .unset] [(.int (5 : Int32)), (.int (((p2.toUInt32 >>> ((3 : Int32) &&& 31).toUInt32).toInt32) &&& (7 : Int32)))])) _
    refine XS.irem X14.here hx rfl (hb hby at_60) rfl (by decide : ¬ ((5 : Int32) = 0)) ?_
    show Steps p.tables e below (T14.setTop (mkF m 61 #[.val (.long q0), .second, .val (.long q1), .second, .val (.int p2), .val (.ref b2), .val (.int ((p2 &&& (7 : Int32)) - (((p2 &&& (7 : Int32)) / (5 : Int32)) * (5 : Int32)))), .unset, .unset, .unset, .unset, .unset] [(.int ((((p2.toUInt32 >>> ((3 : Int32) &&& 31).toUInt32).toInt32) &&& (7 : Int32)) - (((((p2.toUInt32 >>> ((3 : Int32) &&& 31).toUInt32).toInt32) &&& (7 : Int32)) / (5 : Int32)) * (5 : Int32))))])) _
    refine XS.istore X14.here hx rfl (hb hby at_61) rfl (l' := #[.val (.long q0), .second, .val (.long q1), .second, .val (.int p2), .val (.ref b2), .val (.int ((p2 &&& (7 : Int32)) - (((p2 &&& (7 : Int32)) / (5 : Int32)) * (5 : Int32)))), .val (.int ((((p2.toUInt32 >>> ((3 : Int32) &&& 31).toUInt32).toInt32) &&& (7 : Int32)) - (((((p2.toUInt32 >>> ((3 : Int32) &&& 31).toUInt32).toInt32) &&& (7 : Int32)) / (5 : Int32)) * (5 : Int32)))), .unset, .unset, .unset, .unset]) rfl ?_
    show Steps p.tables e below (T14.setTop (mkF m 63 #[.val (.long q0), .second, .val (.long q1), .second, .val (.int p2), .val (.ref b2), .val (.int ((p2 &&& (7 : Int32)) - (((p2 &&& (7 : Int32)) / (5 : Int32)) * (5 : Int32)))), .val (.int ((((p2.toUInt32 >>> ((3 : Int32) &&& 31).toUInt32).toInt32) &&& (7 : Int32)) - (((((p2.toUInt32 >>> ((3 : Int32) &&& 31).toUInt32).toInt32) &&& (7 : Int32)) / (5 : Int32)) * (5 : Int32)))), .unset, .unset, .unset, .unset] [])) _
    refine XS.iload X14.here hx rfl (hb hby at_63) rfl ?_
    show Steps p.tables e below (T14.setTop (mkF m 65 #[.val (.long q0), .second, .val (.long q1), .second, .val (.int p2), .val (.ref b2), .val (.int ((p2 &&& (7 : Int32)) - (((p2 &&& (7 : Int32)) / (5 : Int32)) * (5 : Int32)))), .val (.int ((((p2.toUInt32 >>> ((3 : Int32) &&& 31).toUInt32).toInt32) &&& (7 : Int32)) - (((((p2.toUInt32 >>> ((3 : Int32) &&& 31).toUInt32).toInt32) &&& (7 : Int32)) / (5 : Int32)) * (5 : Int32)))), .unset, .unset, .unset, .unset] [(.int ((p2 &&& (7 : Int32)) - (((p2 &&& (7 : Int32)) / (5 : Int32)) * (5 : Int32))))])) _
    refine XS.iload X14.here hx rfl (hb hby at_65) rfl ?_
    exact ht
  obtain ⟨_, _, ⟨T16, L16, kq16, n16⟩, -, X16, ⟨Lc16, hQ16, l16, y16, z16⟩, st16⟩ := Jvm.LawKit.callS X14 hx (y := (⟨"java/lang/Math", "min", "(II)I"⟩ : MethodName)) hown (mvT hZ (hw _ (List.mem_of_getElem? (i := 9) rfl))) (mvT hZ (hw _ (List.mem_of_getElem? (i := 10) rfl))) (mvT hZ (hw _ (List.mem_of_getElem? (i := 11) rfl))) (mvT hZ (hw _ (List.mem_of_getElem? (i := 12) rfl))) (by decide) (backOf (W := 0) (rm_min l Z a0 hw [] ((p2 &&& (7 : Int32)) - (((p2 &&& (7 : Int32)) / (5 : Int32)) * (5 : Int32))) ((((p2.toUInt32 >>> ((3 : Int32) &&& 31).toUInt32).toInt32) &&& (7 : Int32)) - (((((p2.toUInt32 >>> ((3 : Int32) &&& 31).toUInt32).toInt32) &&& (7 : Int32)) / (5 : Int32)) * (5 : Int32))) h14 n0 Z14 ) hZ (hw _ (List.mem_of_getElem? (i := 12) rfl)) (hw _ (List.mem_of_getElem? (i := 11) rfl)) (by decide) (by decide)) (g := (mkF m 67 #[.val (.long q0), .second, .val (.long q1), .second, .val (.int p2), .val (.ref b2), .val (.int ((p2 &&& (7 : Int32)) - (((p2 &&& (7 : Int32)) / (5 : Int32)) * (5 : Int32)))), .val (.int ((((p2.toUInt32 >>> ((3 : Int32) &&& 31).toUInt32).toInt32) &&& (7 : Int32)) - (((((p2.toUInt32 >>> ((3 : Int32) &&& 31).toUInt32).toInt32) &&& (7 : Int32)) / (5 : Int32)) * (5 : Int32)))), .unset, .unset, .unset, .unset] [(.int ((((p2.toUInt32 >>> ((3 : Int32) &&& 31).toUInt32).toInt32) &&& (7 : Int32)) - (((((p2.toUInt32 >>> ((3 : Int32) &&& 31).toUInt32).toInt32) &&& (7 : Int32)) / (5 : Int32)) * (5 : Int32)))), (.int ((p2 &&& (7 : Int32)) - (((p2 &&& (7 : Int32)) / (5 : Int32)) * (5 : Int32))))])) rfl (by rw [hml]; rfl) (argsL := [(.int ((p2 &&& (7 : Int32)) - (((p2 &&& (7 : Int32)) / (5 : Int32)) * (5 : Int32)))), (.int ((((p2.toUInt32 >>> ((3 : Int32) &&& 31).toUInt32).toInt32) &&& (7 : Int32)) - (((((p2.toUInt32 >>> ((3 : Int32) &&& 31).toUInt32).toInt32) &&& (7 : Int32)) / (5 : Int32)) * (5 : Int32))))]) (rest := []) (lenOf pd_2 rfl) rfl (by show 2 * 0 + _ ≤ _; exact Nat.le_of_eq rfl) (hb hby at_67) (fun _ _ => ⟨rfl, e14, (by decide : 1 + 0 ≤ _), (by decide : 4 + 0 ≤ _)⟩)
  dsimp only [Pt.U, Pt.locs, Pt.cells, Pt.slots] at X16 l16 y16 z16 st16 hQ16
  subst l16 y16 z16
  obtain ⟨rfl, N16q, eq16⟩ := hQ16
  have N16 := Fr.app N14 N16q
  have k16 : Go p.tables e below (T14.setTop (mkF m 67 #[.val (.long q0), .second, .val (.long q1), .second, .val (.int p2), .val (.ref b2), .val (.int ((p2 &&& (7 : Int32)) - (((p2 &&& (7 : Int32)) / (5 : Int32)) * (5 : Int32)))), .val (.int ((((p2.toUInt32 >>> ((3 : Int32) &&& 31).toUInt32).toInt32) &&& (7 : Int32)) - (((((p2.toUInt32 >>> ((3 : Int32) &&& 31).toUInt32).toInt32) &&& (7 : Int32)) / (5 : Int32)) * (5 : Int32)))), .unset, .unset, .unset, .unset] [(.int ((((p2.toUInt32 >>> ((3 : Int32) &&& 31).toUInt32).toInt32) &&& (7 : Int32)) - (((((p2.toUInt32 >>> ((3 : Int32) &&& 31).toUInt32).toInt32) &&& (7 : Int32)) / (5 : Int32)) * (5 : Int32)))), (.int ((p2 &&& (7 : Int32)) - (((p2 &&& (7 : Int32)) / (5 : Int32)) * (5 : Int32))))])) (T16.setTop (mkF m 70 #[.val (.long q0), .second, .val (.long q1), .second, .val (.int p2), .val (.ref b2), .val (.int ((p2 &&& (7 : Int32)) - (((p2 &&& (7 : Int32)) / (5 : Int32)) * (5 : Int32)))), .val (.int ((((p2.toUInt32 >>> ((3 : Int32) &&& 31).toUInt32).toInt32) &&& (7 : Int32)) - (((((p2.toUInt32 >>> ((3 : Int32) &&& 31).toUInt32).toInt32) &&& (7 : Int32)) / (5 : Int32)) * (5 : Int32)))), .unset, .unset, .unset, .unset] [(.int (f_min ((p2 &&& (7 : Int32)) - (((p2 &&& (7 : Int32)) / (5 : Int32)) * (5 : Int32))) ((((p2.toUInt32 >>> ((3 : Int32) &&& 31).toUInt32).toInt32) &&& (7 : Int32)) - (((((p2.toUInt32 >>> ((3 : Int32) &&& 31).toUInt32).toInt32) &&& (7 : Int32)) / (5 : Int32)) * (5 : Int32)))))])) := st16
  have k17 : Go p.tables e below (T16.setTop (mkF m 70 #[.val (.long q0), .second, .val (.long q1), .second, .val (.int p2), .val (.ref b2), .val (.int ((p2 &&& (7 : Int32)) - (((p2 &&& (7 : Int32)) / (5 : Int32)) * (5 : Int32)))), .val (.int ((((p2.toUInt32 >>> ((3 : Int32) &&& 31).toUInt32).toInt32) &&& (7 : Int32)) - (((((p2.toUInt32 >>> ((3 : Int32) &&& 31).toUInt32).toInt32) &&& (7 : Int32)) / (5 : Int32)) * (5 : Int32)))), .unset, .unset, .unset, .unset] [(.int (f_min ((p2 &&& (7 : Int32)) - (((p2 &&& (7 : Int32)) / (5 : Int32)) * (5 : Int32))) ((((p2.toUInt32 >>> ((3 : Int32) &&& 31).toUInt32).toInt32) &&& (7 : Int32)) - (((((p2.toUInt32 >>> ((3 : Int32) &&& 31).toUInt32).toInt32) &&& (7 : Int32)) / (5 : Int32)) * (5 : Int32)))))])) (T16.setTop (mkF m 76 #[.val (.long q0), .second, .val (.long q1), .second, .val (.int p2), .val (.ref b2), .val (.int ((p2 &&& (7 : Int32)) - (((p2 &&& (7 : Int32)) / (5 : Int32)) * (5 : Int32)))), .val (.int ((((p2.toUInt32 >>> ((3 : Int32) &&& 31).toUInt32).toInt32) &&& (7 : Int32)) - (((((p2.toUInt32 >>> ((3 : Int32) &&& 31).toUInt32).toInt32) &&& (7 : Int32)) / (5 : Int32)) * (5 : Int32)))), .val (.int (f_min ((p2 &&& (7 : Int32)) - (((p2 &&& (7 : Int32)) / (5 : Int32)) * (5 : Int32))) ((((p2.toUInt32 >>> ((3 : Int32) &&& 31).toUInt32).toInt32) &&& (7 : Int32)) - (((((p2.toUInt32 >>> ((3 : Int32) &&& 31).toUInt32).toInt32) &&& (7 : Int32)) / (5 : Int32)) * (5 : Int32))))), .unset, .unset, .unset] [(.int ((((p2.toUInt32 >>> ((3 : Int32) &&& 31).toUInt32).toInt32) &&& (7 : Int32)) - (((((p2.toUInt32 >>> ((3 : Int32) &&& 31).toUInt32).toInt32) &&& (7 : Int32)) / (5 : Int32)) * (5 : Int32)))), (.int ((p2 &&& (7 : Int32)) - (((p2 &&& (7 : Int32)) / (5 : Int32)) * (5 : Int32))))])) := by
    intro t ht
    refine XS.istore X16.here hx rfl (hb hby at_70) rfl (l' := #[.val (.long q0), .second, .val (.long q1), .second, .val (.int p2), .val (.ref b2), .val (.int ((p2 &&& (7 : Int32)) - (((p2 &&& (7 : Int32)) / (5 : Int32)) * (5 : Int32)))), .val (.int ((((p2.toUInt32 >>> ((3 : Int32) &&& 31).toUInt32).toInt32) &&& (7 : Int32)) - (((((p2.toUInt32 >>> ((3 : Int32) &&& 31).toUInt32).toInt32) &&& (7 : Int32)) / (5 : Int32)) * (5 : Int32)))), .val (.int (f_min ((p2 &&& (7 : Int32)) - (((p2 &&& (7 : Int32)) / (5 : Int32)) * (5 : Int32))) ((((p2.toUInt32 >>> ((3 : Int32) &&& 31).toUInt32).toInt32) &&& (7 : Int32)) - (((((p2.toUInt32 >>> ((3 : Int32) &&& 31).toUInt32).toInt32) &&& (7 : Int32)) / (5 : Int32)) * (5 : Int32))))), .unset, .unset, .unset]) rfl ?_
    show Steps p.tables e below (T16.setTop (mkF m 72 #[.val (.long q0), .second, .val (.long q1), .second, .val (.int p2), .val (.ref b2), .val (.int ((p2 &&& (7 : Int32)) - (((p2 &&& (7 : Int32)) / (5 : Int32)) * (5 : Int32)))), .val (.int ((((p2.toUInt32 >>> ((3 : Int32) &&& 31).toUInt32).toInt32) &&& (7 : Int32)) - (((((p2.toUInt32 >>> ((3 : Int32) &&& 31).toUInt32).toInt32) &&& (7 : Int32)) / (5 : Int32)) * (5 : Int32)))), .val (.int (f_min ((p2 &&& (7 : Int32)) - (((p2 &&& (7 : Int32)) / (5 : Int32)) * (5 : Int32))) ((((p2.toUInt32 >>> ((3 : Int32) &&& 31).toUInt32).toInt32) &&& (7 : Int32)) - (((((p2.toUInt32 >>> ((3 : Int32) &&& 31).toUInt32).toInt32) &&& (7 : Int32)) / (5 : Int32)) * (5 : Int32))))), .unset, .unset, .unset] [])) _
    refine XS.iload X16.here hx rfl (hb hby at_72) rfl ?_
    show Steps p.tables e below (T16.setTop (mkF m 74 #[.val (.long q0), .second, .val (.long q1), .second, .val (.int p2), .val (.ref b2), .val (.int ((p2 &&& (7 : Int32)) - (((p2 &&& (7 : Int32)) / (5 : Int32)) * (5 : Int32)))), .val (.int ((((p2.toUInt32 >>> ((3 : Int32) &&& 31).toUInt32).toInt32) &&& (7 : Int32)) - (((((p2.toUInt32 >>> ((3 : Int32) &&& 31).toUInt32).toInt32) &&& (7 : Int32)) / (5 : Int32)) * (5 : Int32)))), .val (.int (f_min ((p2 &&& (7 : Int32)) - (((p2 &&& (7 : Int32)) / (5 : Int32)) * (5 : Int32))) ((((p2.toUInt32 >>> ((3 : Int32) &&& 31).toUInt32).toInt32) &&& (7 : Int32)) - (((((p2.toUInt32 >>> ((3 : Int32) &&& 31).toUInt32).toInt32) &&& (7 : Int32)) / (5 : Int32)) * (5 : Int32))))), .unset, .unset, .unset] [(.int ((p2 &&& (7 : Int32)) - (((p2 &&& (7 : Int32)) / (5 : Int32)) * (5 : Int32))))])) _
    refine XS.iload X16.here hx rfl (hb hby at_74) rfl ?_
    exact ht
  obtain ⟨_, _, ⟨T18, L18, kq18, n18⟩, -, X18, ⟨Lc18, hQ18, l18, y18, z18⟩, st18⟩ := Jvm.LawKit.callS X16 hx (y := (⟨"java/lang/Math", "max", "(II)I"⟩ : MethodName)) hown (mvT hZ (hw _ (List.mem_of_getElem? (i := 13) rfl))) (mvT hZ (hw _ (List.mem_of_getElem? (i := 14) rfl))) (mvT hZ (hw _ (List.mem_of_getElem? (i := 11) rfl))) (mvT hZ (hw _ (List.mem_of_getElem? (i := 15) rfl))) (by decide) (backOf (W := 0) (rm_max l Z a0 hw [] ((p2 &&& (7 : Int32)) - (((p2 &&& (7 : Int32)) / (5 : Int32)) * (5 : Int32))) ((((p2.toUInt32 >>> ((3 : Int32) &&& 31).toUInt32).toInt32) &&& (7 : Int32)) - (((((p2.toUInt32 >>> ((3 : Int32) &&& 31).toUInt32).toInt32) &&& (7 : Int32)) / (5 : Int32)) * (5 : Int32))) h14 n0 Z14 ) hZ (hw _ (List.mem_of_getElem? (i := 15) rfl)) (hw _ (List.mem_of_getElem? (i := 11) rfl)) (by decide) (by decide)) (g := (mkF m 76 #[.val (.long q0), .second, .val (.long q1), .second, .val (.int p2), .val (.ref b2), .val (.int ((p2 &&& (7 : Int32)) - (((p2 &&& (7 : Int32)) / (5 : Int32)) * (5 : Int32)))), .val (.int ((((p2.toUInt32 >>> ((3 : Int32) &&& 31).toUInt32).toInt32) &&& (7 : Int32)) - (((((p2.toUInt32 >>> ((3 : Int32) &&& 31).toUInt32).toInt32) &&& (7 : Int32)) / (5 : Int32)) * (5 : Int32)))), .val (.int (f_min ((p2 &&& (7 : Int32)) - (((p2 &&& (7 : Int32)) / (5 : Int32)) * (5 : Int32))) ((((p2.toUInt32 >>> ((3 : Int32) &&& 31).toUInt32).toInt32) &&& (7 : Int32)) - (((((p2.toUInt32 >>> ((3 : Int32) &&& 31).toUInt32).toInt32) &&& (7 : Int32)) / (5 : Int32)) * (5 : Int32))))), .unset, .unset, .unset] [(.int ((((p2.toUInt32 >>> ((3 : Int32) &&& 31).toUInt32).toInt32) &&& (7 : Int32)) - (((((p2.toUInt32 >>> ((3 : Int32) &&& 31).toUInt32).toInt32) &&& (7 : Int32)) / (5 : Int32)) * (5 : Int32)))), (.int ((p2 &&& (7 : Int32)) - (((p2 &&& (7 : Int32)) / (5 : Int32)) * (5 : Int32))))])) rfl (by rw [hml]; rfl) (argsL := [(.int ((p2 &&& (7 : Int32)) - (((p2 &&& (7 : Int32)) / (5 : Int32)) * (5 : Int32)))), (.int ((((p2.toUInt32 >>> ((3 : Int32) &&& 31).toUInt32).toInt32) &&& (7 : Int32)) - (((((p2.toUInt32 >>> ((3 : Int32) &&& 31).toUInt32).toInt32) &&& (7 : Int32)) / (5 : Int32)) * (5 : Int32))))]) (rest := []) (lenOf pd_2 rfl) rfl (by show 2 * 0 + _ ≤ _; exact Nat.le_of_eq rfl) (hb hby at_76) (fun _ _ => ⟨rfl, eq16, (by decide : 1 + 0 ≤ _), (by decide : 4 + 0 ≤ _)⟩)
  dsimp only [Pt.U, Pt.locs, Pt.cells, Pt.slots] at X18 l18 y18 z18 st18 hQ18
  subst l18 y18 z18
  obtain ⟨rfl, N18q, eq18⟩ := hQ18
  have N18 := Fr.app N16 N18q
  have k18 : Go p.tables e below (T16.setTop (mkF m 76 #[.val (.long q0), .second, .val (.long q1), .second, .val (.int p2), .val (.ref b2), .val (.int ((p2 &&& (7 : Int32)) - (((p2 &&& (7 : Int32)) / (5 : Int32)) * (5 : Int32)))), .val (.int ((((p2.toUInt32 >>> ((3 : Int32) &&& 31).toUInt32).toInt32) &&& (7 : Int32)) - (((((p2.toUInt32 >>> ((3 : Int32) &&& 31).toUInt32).toInt32) &&& (7 : Int32)) / (5 : Int32)) * (5 : Int32)))), .val (.int (f_min ((p2 &&& (7 : Int32)) - (((p2 &&& (7 : Int32)) / (5 : Int32)) * (5 : Int32))) ((((p2.toUInt32 >>> ((3 : Int32) &&& 31).toUInt32).toInt32) &&& (7 : Int32)) - (((((p2.toUInt32 >>> ((3 : Int32) &&& 31).toUInt32).toInt32) &&& (7 : Int32)) / (5 : Int32)) * (5 : Int32))))), .unset, .unset, .unset] [(.int ((((p2.toUInt32 >>> ((3 : Int32) &&& 31).toUInt32).toInt32) &&& (7 : Int32)) - (((((p2.toUInt32 >>> ((3 : Int32) &&& 31).toUInt32).toInt32) &&& (7 : Int32)) / (5 : Int32)) * (5 : Int32)))), (.int ((p2 &&& (7 : Int32)) - (((p2 &&& (7 : Int32)) / (5 : Int32)) * (5 : Int32))))])) (T18.setTop (mkF m 79 #[.val (.long q0), .second, .val (.long q1), .second, .val (.int p2), .val (.ref b2), .val (.int ((p2 &&& (7 : Int32)) - (((p2 &&& (7 : Int32)) / (5 : Int32)) * (5 : Int32)))), .val (.int ((((p2.toUInt32 >>> ((3 : Int32) &&& 31).toUInt32).toInt32) &&& (7 : Int32)) - (((((p2.toUInt32 >>> ((3 : Int32) &&& 31).toUInt32).toInt32) &&& (7 : Int32)) / (5 : Int32)) * (5 : Int32)))), .val (.int (f_min ((p2 &&& (7 : Int32)) - (((p2 &&& (7 : Int32)) / (5 : Int32)) * (5 : Int32))) ((((p2.toUInt32 >>> ((3 : Int32) &&& 31).toUInt32).toInt32) &&& (7 : Int32)) - (((((p2.toUInt32 >>> ((3 : Int32) &&& 31).toUInt32).toInt32) &&& (7 : Int32)) / (5 : Int32)) * (5 : Int32))))), .unset, .unset, .unset] [(.int (f_max ((p2 &&& (7 : Int32)) - (((p2 &&& (7 : Int32)) / (5 : Int32)) * (5 : Int32))) ((((p2.toUInt32 >>> ((3 : Int32) &&& 31).toUInt32).toInt32) &&& (7 : Int32)) - (((((p2.toUInt32 >>> ((3 : Int32) &&& 31).toUInt32).toInt32) &&& (7 : Int32)) / (5 : Int32)) * (5 : Int32)))))])) := st18
  have k19 : Go p.tables e below (T18.setTop (mkF m 79 #[.val (.long q0), .second, .val (.long q1), .second, .val (.int p2), .val (.ref b2), .val (.int ((p2 &&& (7 : Int32)) - (((p2 &&& (7 : Int32)) / (5 : Int32)) * (5 : Int32)))), .val (.int ((((p2.toUInt32 >>> ((3 : Int32) &&& 31).toUInt32).toInt32) &&& (7 : Int32)) - (((((p2.toUInt32 >>> ((3 : Int32) &&& 31).toUInt32).toInt32) &&& (7 : Int32)) / (5 : Int32)) * (5 : Int32)))), .val (.int (f_min ((p2 &&& (7 : Int32)) - (((p2 &&& (7 : Int32)) / (5 : Int32)) * (5 : Int32))) ((((p2.toUInt32 >>> ((3 : Int32) &&& 31).toUInt32).toInt32) &&& (7 : Int32)) - (((((p2.toUInt32 >>> ((3 : Int32) &&& 31).toUInt32).toInt32) &&& (7 : Int32)) / (5 : Int32)) * (5 : Int32))))), .unset, .unset, .unset] [(.int (f_max ((p2 &&& (7 : Int32)) - (((p2 &&& (7 : Int32)) / (5 : Int32)) * (5 : Int32))) ((((p2.toUInt32 >>> ((3 : Int32) &&& 31).toUInt32).toInt32) &&& (7 : Int32)) - (((((p2.toUInt32 >>> ((3 : Int32) &&& 31).toUInt32).toInt32) &&& (7 : Int32)) / (5 : Int32)) * (5 : Int32)))))])) (T18.setTop (mkF m 81 #[.val (.long q0), .second, .val (.long q1), .second, .val (.int p2), .val (.ref b2), .val (.int ((p2 &&& (7 : Int32)) - (((p2 &&& (7 : Int32)) / (5 : Int32)) * (5 : Int32)))), .val (.int ((((p2.toUInt32 >>> ((3 : Int32) &&& 31).toUInt32).toInt32) &&& (7 : Int32)) - (((((p2.toUInt32 >>> ((3 : Int32) &&& 31).toUInt32).toInt32) &&& (7 : Int32)) / (5 : Int32)) * (5 : Int32)))), .val (.int (f_min ((p2 &&& (7 : Int32)) - (((p2 &&& (7 : Int32)) / (5 : Int32)) * (5 : Int32))) ((((p2.toUInt32 >>> ((3 : Int32) &&& 31).toUInt32).toInt32) &&& (7 : Int32)) - (((((p2.toUInt32 >>> ((3 : Int32) &&& 31).toUInt32).toInt32) &&& (7 : Int32)) / (5 : Int32)) * (5 : Int32))))), .val (.int (f_max ((p2 &&& (7 : Int32)) - (((p2 &&& (7 : Int32)) / (5 : Int32)) * (5 : Int32))) ((((p2.toUInt32 >>> ((3 : Int32) &&& 31).toUInt32).toInt32) &&& (7 : Int32)) - (((((p2.toUInt32 >>> ((3 : Int32) &&& 31).toUInt32).toInt32) &&& (7 : Int32)) / (5 : Int32)) * (5 : Int32))))), .unset, .unset] [])) := by
    intro t ht
    refine XS.istore X18.here hx rfl (hb hby at_79) rfl (l' := #[.val (.long q0), .second, .val (.long q1), .second, .val (.int p2), .val (.ref b2), .val (.int ((p2 &&& (7 : Int32)) - (((p2 &&& (7 : Int32)) / (5 : Int32)) * (5 : Int32)))), .val (.int ((((p2.toUInt32 >>> ((3 : Int32) &&& 31).toUInt32).toInt32) &&& (7 : Int32)) - (((((p2.toUInt32 >>> ((3 : Int32) &&& 31).toUInt32).toInt32) &&& (7 : Int32)) / (5 : Int32)) * (5 : Int32)))), .val (.int (f_min ((p2 &&& (7 : Int32)) - (((p2 &&& (7 : Int32)) / (5 : Int32)) * (5 : Int32))) ((((p2.toUInt32 >>> ((3 : Int32) &&& 31).toUInt32).toInt32) &&& (7 : Int32)) - (((((p2.toUInt32 >>> ((3 : Int32) &&& 31).toUInt32).toInt32) &&& (7 : Int32)) / (5 : Int32)) * (5 : Int32))))), .val (.int (f_max ((p2 &&& (7 : Int32)) - (((p2 &&& (7 : Int32)) / (5 : Int32)) * (5 : Int32))) ((((p2.toUInt32 >>> ((3 : Int32) &&& 31).toUInt32).toInt32) &&& (7 : Int32)) - (((((p2.toUInt32 >>> ((3 : Int32) &&& 31).toUInt32).toInt32) &&& (7 : Int32)) / (5 : Int32)) * (5 : Int32))))), .unset, .unset]) rfl ?_
    exact ht
  obtain ⟨y20, ey20⟩ : ∃ z : Int32, z = (f_min ((p2 &&& (7 : Int32)) - (((p2 &&& (7 : Int32)) / (5 : Int32)) * (5 : Int32))) ((((p2.toUInt32 >>> ((3 : Int32) &&& 31).toUInt32).toInt32) &&& (7 : Int32)) - (((((p2.toUInt32 >>> ((3 : Int32) &&& 31).toUInt32).toInt32) &&& (7 : Int32)) / (5 : Int32)) * (5 : Int32)))) := ⟨_, rfl⟩
  obtain ⟨y21, ey21⟩ : ∃ z : Int32, z = (f_max ((p2 &&& (7 : Int32)) - (((p2 &&& (7 : Int32)) / (5 : Int32)) * (5 : Int32))) ((((p2.toUInt32 >>> ((3 : Int32) &&& 31).toUInt32).toInt32) &&& (7 : Int32)) - (((((p2.toUInt32 >>> ((3 : Int32) &&& 31).toUInt32).toInt32) &&& (7 : Int32)) / (5 : Int32)) * (5 : Int32)))) := ⟨_, rfl⟩
  have k22 : Go p.tables e below (T18.setTop (mkF m 81 #[.val (.long q0), .second, .val (.long q1), .second, .val (.int p2), .val (.ref b2), .val (.int ((p2 &&& (7 : Int32)) - (((p2 &&& (7 : Int32)) / (5 : Int32)) * (5 : Int32)))), .val (.int ((((p2.toUInt32 >>> ((3 : Int32) &&& 31).toUInt32).toInt32) &&& (7 : Int32)) - (((((p2.toUInt32 >>> ((3 : Int32) &&& 31).toUInt32).toInt32) &&& (7 : Int32)) / (5 : Int32)) * (5 : Int32)))), .val (.int (f_min ((p2 &&& (7 : Int32)) - (((p2 &&& (7 : Int32)) / (5 : Int32)) * (5 : Int32))) ((((p2.toUInt32 >>> ((3 : Int32) &&& 31).toUInt32).toInt32) &&& (7 : Int32)) - (((((p2.toUInt32 >>> ((3 : Int32) &&& 31).toUInt32).toInt32) &&& (7 : Int32)) / (5 : Int32)) * (5 : Int32))))), .val (.int (f_max ((p2 &&& (7 : Int32)) - (((p2 &&& (7 : Int32)) / (5 : Int32)) * (5 : Int32))) ((((p2.toUInt32 >>> ((3 : Int32) &&& 31).toUInt32).toInt32) &&& (7 : Int32)) - (((((p2.toUInt32 >>> ((3 : Int32) &&& 31).toUInt32).toInt32) &&& (7 : Int32)) / (5 : Int32)) * (5 : Int32))))), .unset, .unset] [])) (T18.setTop (mkF m 81 #[.val (.long q0), .second, .val (.long q1), .second, .val (.int p2), .val (.ref b2), .val (.int ((p2 &&& (7 : Int32)) - (((p2 &&& (7 : Int32)) / (5 : Int32)) * (5 : Int32)))), .val (.int ((((p2.toUInt32 >>> ((3 : Int32) &&& 31).toUInt32).toInt32) &&& (7 : Int32)) - (((((p2.toUInt32 >>> ((3 : Int32) &&& 31).toUInt32).toInt32) &&& (7 : Int32)) / (5 : Int32)) * (5 : Int32)))), .val (.int y20), .val (.int y21), .unset, .unset] [])) := by rw [ey20, ey21]; exact fun _ h => h
  have hrg := own_range p2
  rw [← ey20, ← ey21] at hrg
  obtain ⟨hlo, hmi, hle, hhi⟩ := hrg
  have k23 : Go p.tables e below (T18.setTop (mkF m 81 #[.val (.long q0), .second, .val (.long q1), .second, .val (.int p2), .val (.ref b2), .val (.int ((p2 &&& (7 : Int32)) - (((p2 &&& (7 : Int32)) / (5 : Int32)) * (5 : Int32)))), .val (.int ((((p2.toUInt32 >>> ((3 : Int32) &&& 31).toUInt32).toInt32) &&& (7 : Int32)) - (((((p2.toUInt32 >>> ((3 : Int32) &&& 31).toUInt32).toInt32) &&& (7 : Int32)) / (5 : Int32)) * (5 : Int32)))), .val (.int y20), .val (.int y21), .unset, .unset] [])) (T18.setTop (mkF m 91 #[.val (.long q0), .second, .val (.long q1), .second, .val (.int p2), .val (.ref b2), .val (.int ((p2 &&& (7 : Int32)) - (((p2 &&& (7 : Int32)) / (5 : Int32)) * (5 : Int32)))), .val (.int ((((p2.toUInt32 >>> ((3 : Int32) &&& 31).toUInt32).toInt32) &&& (7 : Int32)) - (((((p2.toUInt32 >>> ((3 : Int32) &&& 31).toUInt32).toInt32) &&& (7 : Int32)) / (5 : Int32)) * (5 : Int32)))), .val (.int y20), .val (.int y21), .val (.int (-1 : Int32)), .unset] [(.int y21), (.int y20), (.int (3 : Int32)), (.ref b2)])) := by
    intro t ht
    refine XS.iconst X18.here hx rfl (hb hby at_81) ?_
    show Steps p.tables e below (T18.setTop (mkF m 82 #[.val (.long q0), .second, .val (.long q1), .second, .val (.int p2), .val (.ref b2), .val (.int ((p2 &&& (7 : Int32)) - (((p2 &&& (7 : Int32)) / (5 : Int32)) * (5 : Int32)))), .val (.int ((((p2.toUInt32 >>> ((3 : Int32) &&& 31).toUInt32).toInt32) &&& (7 : Int32)) - (((((p2.toUInt32 >>> ((3 : Int32) &&& 31).toUInt32).toInt32) &&& (7 : Int32)) / (5 : Int32)) * (5 : Int32)))), .val (.int y20), .val (.int y21), .unset, .unset] [(.int (-1 : Int32))])) _
    refine XS.istore X18.here hx rfl (hb hby at_82) rfl (l' := #[.val (.long q0), .second, .val (.long q1), .second, .val (.int p2), .val (.ref b2), .val (.int ((p2 &&& (7 : Int32)) - (((p2 &&& (7 : Int32)) / (5 : Int32)) * (5 : Int32)))), .val (.int ((((p2.toUInt32 >>> ((3 : Int32) &&& 31).toUInt32).toInt32) &&& (7 : Int32)) - (((((p2.toUInt32 >>> ((3 : Int32) &&& 31).toUInt32).toInt32) &&& (7 : Int32)) / (5 : Int32)) * (5 : Int32)))), .val (.int y20), .val (.int y21), .val (.int (-1 : Int32)), .unset]) rfl ?_
    show Steps p.tables e below (T18.setTop (mkF m 84 #[.val (.long q0), .second, .val (.long q1), .second, .val (.int p2), .val (.ref b2), .val (.int ((p2 &&& (7 : Int32)) - (((p2 &&& (7 : Int32)) / (5 : Int32)) * (5 : Int32)))), .val (.int ((((p2.toUInt32 >>> ((3 : Int32) &&& 31).toUInt32).toInt32) &&& (7 : Int32)) - (((((p2.toUInt32 >>> ((3 : Int32) &&& 31).toUInt32).toInt32) &&& (7 : Int32)) / (5 : Int32)) * (5 : Int32)))), .val (.int y20), .val (.int y21), .val (.int (-1 : Int32)), .unset] [])) _
    refine XS.aload X18.here hx rfl (hb hby at_84) rfl rfl ?_
    show Steps p.tables e below (T18.setTop (mkF m 86 #[.val (.long q0), .second, .val (.long q1), .second, .val (.int p2), .val (.ref b2), .val (.int ((p2 &&& (7 : Int32)) - (((p2 &&& (7 : Int32)) / (5 : Int32)) * (5 : Int32)))), .val (.int ((((p2.toUInt32 >>> ((3 : Int32) &&& 31).toUInt32).toInt32) &&& (7 : Int32)) - (((((p2.toUInt32 >>> ((3 : Int32) &&& 31).toUInt32).toInt32) &&& (7 : Int32)) / (5 : Int32)) * (5 : Int32)))), .val (.int y20), .val (.int y21), .val (.int (-1 : Int32)), .unset] [(.ref b2)])) _
    refine XS.iconst X18.here hx rfl (hb hby at_86) ?_
    show Steps p.tables e below (T18.setTop (mkF m 87 #[.val (.long q0), .second, .val (.long q1), .second, .val (.int p2), .val (.ref b2), .val (.int ((p2 &&& (7 : Int32)) - (((p2 &&& (7 : Int32)) / (5 : Int32)) * (5 : Int32)))), .val (.int ((((p2.toUInt32 >>> ((3 : Int32) &&& 31).toUInt32).toInt32) &&& (7 : Int32)) - (((((p2.toUInt32 >>> ((3 : Int32) &&& 31).toUInt32).toInt32) &&& (7 : Int32)) / (5 : Int32)) * (5 : Int32)))), .val (.int y20), .val (.int y21), .val (.int (-1 : Int32)), .unset] [(.int (3 : Int32)), (.ref b2)])) _
    refine XS.iload X18.here hx rfl (hb hby at_87) rfl ?_
    show Steps p.tables e below (T18.setTop (mkF m 89 #[.val (.long q0), .second, .val (.long q1), .second, .val (.int p2), .val (.ref b2), .val (.int ((p2 &&& (7 : Int32)) - (((p2 &&& (7 : Int32)) / (5 : Int32)) * (5 : Int32)))), .val (.int ((((p2.toUInt32 >>> ((3 : Int32) &&& 31).toUInt32).toInt32) &&& (7 : Int32)) - (((((p2.toUInt32 >>> ((3 : Int32) &&& 31).toUInt32).toInt32) &&& (7 : Int32)) / (5 : Int32)) * (5 : Int32)))), .val (.int y20), .val (.int y21), .val (.int (-1 : Int32)), .unset] [(.int y20), (.int (3 : Int32)), (.ref b2)])) _
    refine XS.iload X18.here hx rfl (hb hby at_89) rfl ?_
    exact ht
  obtain ⟨_, _, ⟨T24, L24, kq24, n24⟩, -, X24, ⟨Lc24, hQ24, l24, y24, z24⟩, st24⟩ := Jvm.LawKit.callS X18 hx (y := (⟨"com/example/fieldveil/fieldveil/Utf8FirstUnpairedSurrogatePinLaw", "bad", "([CIII)Z"⟩ : MethodName)) hown (mvT hZ (hw _ (List.mem_of_getElem? (i := 16) rfl))) (mvT hZ (hw _ (List.mem_of_getElem? (i := 17) rfl))) (mvT hZ (hw _ (List.mem_of_getElem? (i := 3) rfl))) (mvT hZ (hw _ (List.mem_of_getElem? (i := 18) rfl))) (by decide) (backOf (W := 0) (rm_bad3 l Z a0 hw [] b2 y20 y21 kc2 (nar .char (f_ch q0)) (nar .char (f_ch ((q0.toUInt64 >>> ((18 : Int32) &&& 0x3f).toInt64.toUInt64).toInt64))) (nar .char (f_ch q1)) (nar .char (f_ch ((q1.toUInt64 >>> ((18 : Int32) &&& 0x3f).toInt64.toUInt64).toInt64))) h14 n0 Z14 V14_b2 (hlo : ¬ (y20 < (0 : Int32))) (hhi : ¬ ((4 : Int32) < y21))) hZ (hw _ (List.mem_of_getElem? (i := 18) rfl)) (hw _ (List.mem_of_getElem? (i := 3) rfl)) (by decide) (by decide)) (g := (mkF m 91 #[.val (.long q0), .second, .val (.long q1), .second, .val (.int p2), .val (.ref b2), .val (.int ((p2 &&& (7 : Int32)) - (((p2 &&& (7 : Int32)) / (5 : Int32)) * (5 : Int32)))), .val (.int ((((p2.toUInt32 >>> ((3 : Int32) &&& 31).toUInt32).toInt32) &&& (7 : Int32)) - (((((p2.toUInt32 >>> ((3 : Int32) &&& 31).toUInt32).toInt32) &&& (7 : Int32)) / (5 : Int32)) * (5 : Int32)))), .val (.int y20), .val (.int y21), .val (.int (-1 : Int32)), .unset] [(.int y21), (.int y20), (.int (3 : Int32)), (.ref b2)])) rfl (by rw [hml]; rfl) (argsL := [(.ref b2), (.int (3 : Int32)), (.int y20), (.int y21)]) (rest := []) (lenOf pd_3 rfl) rfl (by show 2 * 0 + _ ≤ _; exact Nat.le_of_eq rfl) (hb hby at_91) (fun _ _ => ⟨rfl, eq18, (by decide : 1 + 0 ≤ _), (by decide : 4 + 0 ≤ _)⟩)
  dsimp only [Pt.U, Pt.locs, Pt.cells, Pt.slots] at X24 l24 y24 z24 st24 hQ24
  subst l24 y24 z24
  obtain ⟨rfl, N24q, eq24⟩ := hQ24
  have N24 := Fr.app N18 N24q
  have k24 : Go p.tables e below (T18.setTop (mkF m 91 #[.val (.long q0), .second, .val (.long q1), .second, .val (.int p2), .val (.ref b2), .val (.int ((p2 &&& (7 : Int32)) - (((p2 &&& (7 : Int32)) / (5 : Int32)) * (5 : Int32)))), .val (.int ((((p2.toUInt32 >>> ((3 : Int32) &&& 31).toUInt32).toInt32) &&& (7 : Int32)) - (((((p2.toUInt32 >>> ((3 : Int32) &&& 31).toUInt32).toInt32) &&& (7 : Int32)) / (5 : Int32)) * (5 : Int32)))), .val (.int y20), .val (.int y21), .val (.int (-1 : Int32)), .unset] [(.int y21), (.int y20), (.int (3 : Int32)), (.ref b2)])) (T24.setTop (mkF m 94 #[.val (.long q0), .second, .val (.long q1), .second, .val (.int p2), .val (.ref b2), .val (.int ((p2 &&& (7 : Int32)) - (((p2 &&& (7 : Int32)) / (5 : Int32)) * (5 : Int32)))), .val (.int ((((p2.toUInt32 >>> ((3 : Int32) &&& 31).toUInt32).toInt32) &&& (7 : Int32)) - (((((p2.toUInt32 >>> ((3 : Int32) &&& 31).toUInt32).toInt32) &&& (7 : Int32)) / (5 : Int32)) * (5 : Int32)))), .val (.int y20), .val (.int y21), .val (.int (-1 : Int32)), .unset] [(.int (f_bad3 y20 y21 (nar .char (f_ch q1)) (nar .char (f_ch ((q1.toUInt64 >>> ((18 : Int32) &&& 0x3f).toInt64.toUInt64).toInt64)))))])) := st24
  have k25 : Go p.tables e below (T24.setTop (mkF m 94 #[.val (.long q0), .second, .val (.long q1), .second, .val (.int p2), .val (.ref b2), .val (.int ((p2 &&& (7 : Int32)) - (((p2 &&& (7 : Int32)) / (5 : Int32)) * (5 : Int32)))), .val (.int ((((p2.toUInt32 >>> ((3 : Int32) &&& 31).toUInt32).toInt32) &&& (7 : Int32)) - (((((p2.toUInt32 >>> ((3 : Int32) &&& 31).toUInt32).toInt32) &&& (7 : Int32)) / (5 : Int32)) * (5 : Int32)))), .val (.int y20), .val (.int y21), .val (.int (-1 : Int32)), .unset] [(.int (f_bad3 y20 y21 (nar .char (f_ch q1)) (nar .char (f_ch ((q1.toUInt64 >>> ((18 : Int32) &&& 0x3f).toInt64.toUInt64).toInt64)))))])) (T24.setTop (mkF m 100 #[.val (.long q0), .second, .val (.long q1), .second, .val (.int p2), .val (.ref b2), .val (.int ((p2 &&& (7 : Int32)) - (((p2 &&& (7 : Int32)) / (5 : Int32)) * (5 : Int32)))), .val (.int ((((p2.toUInt32 >>> ((3 : Int32) &&& 31).toUInt32).toInt32) &&& (7 : Int32)) - (((((p2.toUInt32 >>> ((3 : Int32) &&& 31).toUInt32).toInt32) &&& (7 : Int32)) / (5 : Int32)) * (5 : Int32)))), .val (.int y20), .val (.int y21), .val (.int (if (f_bad3 y20 y21 (nar .char (f_ch q1)) (nar .char (f_ch ((q1.toUInt64 >>> ((18 : Int32) &&& 0x3f).toInt64.toUInt64).toInt64)))) = (0 : Int32) then (-1 : Int32) else (3 : Int32))), .unset] [])) := by
    by_cases hc26 : (f_bad3 y20 y21 (nar .char (f_ch q1)) (nar .char (f_ch ((q1.toUInt64 >>> ((18 : Int32) &&& 0x3f).toInt64.toUInt64).toInt64)))) = (0 : Int32)
    · have k27 : Go p.tables e below (T24.setTop (mkF m 94 #[.val (.long q0), .second, .val (.long q1), .second, .val (.int p2), .val (.ref b2), .val (.int ((p2 &&& (7 : Int32)) - (((p2 &&& (7 : Int32)) / (5 : Int32)) * (5 : Int32)))), .val (.int ((((p2.toUInt32 >>> ((3 : Int32) &&& 31).toUInt32).toInt32) &&& (7 : Int32)) - (((((p2.toUInt32 >>> ((3 : Int32) &&& 31).toUInt32).toInt32) &&& (7 : Int32)) / (5 : Int32)) * (5 : Int32)))), .val (.int y20), .val (.int y21), .val (.int (-1 : Int32)), .unset] [(.int (f_bad3 y20 y21 (nar .char (f_ch q1)) (nar .char (f_ch ((q1.toUInt64 >>> ((18 : Int32) &&& 0x3f).toInt64.toUInt64).toInt64)))))])) (T24.setTop (mkF m 100 #[.val (.long q0), .second, .val (.long q1), .second, .val (.int p2), .val (.ref b2), .val (.int ((p2 &&& (7 : Int32)) - (((p2 &&& (7 : Int32)) / (5 : Int32)) * (5 : Int32)))), .val (.int ((((p2.toUInt32 >>> ((3 : Int32) &&& 31).toUInt32).toInt32) &&& (7 : Int32)) - (((((p2.toUInt32 >>> ((3 : Int32) &&& 31).toUInt32).toInt32) &&& (7 : Int32)) / (5 : Int32)) * (5 : Int32)))), .val (.int y20), .val (.int y21), .val (.int (-1 : Int32)), .unset] [])) := by
        intro t ht
        refine XS.ifYes X24.here hx rfl (pc0 := 94) (pc' := 100) rfl (hb hby at_94) rfl ((if0 _ _).trans (teq hc26).1) (by decide) (by decide) ?_
        exact ht
      have kk := k27
      simpa only [if_pos hc26] using kk
    · have k28 : Go p.tables e below (T24.setTop (mkF m 94 #[.val (.long q0), .second, .val (.long q1), .second, .val (.int p2), .val (.ref b2), .val (.int ((p2 &&& (7 : Int32)) - (((p2 &&& (7 : Int32)) / (5 : Int32)) * (5 : Int32)))), .val (.int ((((p2.toUInt32 >>> ((3 : Int32) &&& 31).toUInt32).toInt32) &&& (7 : Int32)) - (((((p2.toUInt32 >>> ((3 : Int32) &&& 31).toUInt32).toInt32) &&& (7 : Int32)) / (5 : Int32)) * (5 : Int32)))), .val (.int y20), .val (.int y21), .val (.int (-1 : Int32)), .unset] [(.int (f_bad3 y20 y21 (nar .char (f_ch q1)) (nar .char (f_ch ((q1.toUInt64 >>> ((18 : Int32) &&& 0x3f).toInt64.toUInt64).toInt64)))))])) (T24.setTop (mkF m 100 #[.val (.long q0), .second, .val (.long q1), .second, .val (.int p2), .val (.ref b2), .val (.int ((p2 &&& (7 : Int32)) - (((p2 &&& (7 : Int32)) / (5 : Int32)) * (5 : Int32)))), .val (.int ((((p2.toUInt32 >>> ((3 : Int32) &&& 31).toUInt32).toInt32) &&& (7 : Int32)) - (((((p2.toUInt32 >>> ((3 : Int32) &&& 31).toUInt32).toInt32) &&& (7 : Int32)) / (5 : Int32)) * (5 : Int32)))), .val (.int y20), .val (.int y21), .val (.int (3 : Int32)), .unset] [])) := by
        intro t ht
        refine XS.ifNo X24.here hx rfl (hb hby at_94) rfl ((if0 _ _).trans (feq hc26).1) ?_
        show Steps p.tables e below (T24.setTop (mkF m 97 #[.val (.long q0), .second, .val (.long q1), .second, .val (.int p2), .val (.ref b2), .val (.int ((p2 &&& (7 : Int32)) - (((p2 &&& (7 : Int32)) / (5 : Int32)) * (5 : Int32)))), .val (.int ((((p2.toUInt32 >>> ((3 : Int32) &&& 31).toUInt32).toInt32) &&& (7 : Int32)) - (((((p2.toUInt32 >>> ((3 : Int32) &&& 31).toUInt32).toInt32) &&& (7 : Int32)) / (5 : Int32)) * (5 : Int32)))), .val (.int y20), .val (.int y21), .val (.int (-1 : Int32)), .unset] [])) _
        refine XS.iconst X24.here hx rfl (hb hby at_97) ?_
        show Steps p.tables e below (T24.setTop (mkF m 98 #[.val (.long q0), .second, .val (.long q1), .second, .val (.int p2), .val (.ref b2), .val (.int ((p2 &&& (7 : Int32)) - (((p2 &&& (7 : Int32)) / (5 : Int32)) * (5 : Int32)))), .val (.int ((((p2.toUInt32 >>> ((3 : Int32) &&& 31).toUInt32).toInt32) &&& (7 : Int32)) - (((((p2.toUInt32 >>> ((3 : Int32) &&& 31).toUInt32).toInt32) &&& (7 : Int32)) / (5 : Int32)) * (5 : Int32)))), .val (.int y20), .val (.int y21), .val (.int (-1 : Int32)), .unset] [(.int (3 : Int32))])) _
        refine XS.istore X24.here hx rfl (hb hby at_98) rfl (l' := #[.val (.long q0), .second, .val (.long q1), .second, .val (.int p2), .val (.ref b2), .val (.int ((p2 &&& (7 : Int32)) - (((p2 &&& (7 : Int32)) / (5 : Int32)) * (5 : Int32)))), .val (.int ((((p2.toUInt32 >>> ((3 : Int32) &&& 31).toUInt32).toInt32) &&& (7 : Int32)) - (((((p2.toUInt32 >>> ((3 : Int32) &&& 31).toUInt32).toInt32) &&& (7 : Int32)) / (5 : Int32)) * (5 : Int32)))), .val (.int y20), .val (.int y21), .val (.int (3 : Int32)), .unset]) rfl ?_
        exact ht
      have kk := k28
      simpa only [if_neg hc26] using kk
  have k29 : Go p.tables e below (T24.setTop (mkF m 100 #[.val (.long q0), .second, .val (.long q1), .second, .val (.int p2), .val (.ref b2), .val (.int ((p2 &&& (7 : Int32)) - (((p2 &&& (7 : Int32)) / (5 : Int32)) * (5 : Int32)))), .val (.int ((((p2.toUInt32 >>> ((3 : Int32) &&& 31).toUInt32).toInt32) &&& (7 : Int32)) - (((((p2.toUInt32 >>> ((3 : Int32) &&& 31).toUInt32).toInt32) &&& (7 : Int32)) / (5 : Int32)) * (5 : Int32)))), .val (.int y20), .val (.int y21), .val (.int (if (f_bad3 y20 y21 (nar .char (f_ch q1)) (nar .char (f_ch ((q1.toUInt64 >>> ((18 : Int32) &&& 0x3f).toInt64.toUInt64).toInt64)))) = (0 : Int32) then (-1 : Int32) else (3 : Int32))), .unset] [])) (T24.setTop (mkF m 107 #[.val (.long q0), .second, .val (.long q1), .second, .val (.int p2), .val (.ref b2), .val (.int ((p2 &&& (7 : Int32)) - (((p2 &&& (7 : Int32)) / (5 : Int32)) * (5 : Int32)))), .val (.int ((((p2.toUInt32 >>> ((3 : Int32) &&& 31).toUInt32).toInt32) &&& (7 : Int32)) - (((((p2.toUInt32 >>> ((3 : Int32) &&& 31).toUInt32).toInt32) &&& (7 : Int32)) / (5 : Int32)) * (5 : Int32)))), .val (.int y20), .val (.int y21), .val (.int (if (f_bad3 y20 y21 (nar .char (f_ch q1)) (nar .char (f_ch ((q1.toUInt64 >>> ((18 : Int32) &&& 0x3f).toInt64.toUInt64).toInt64)))) = (0 : Int32) then (-1 : Int32) else (3 : Int32))), .unset] [(.int y21), (.int y20), (.int (2 : Int32)), (.ref b2)])) := by
    intro t ht
    refine XS.aload X24.here hx rfl (hb hby at_100) rfl rfl ?_
    show Steps p.tables e below (T24.setTop (mkF m 102 #[.val (.long q0), .second, .val (.long q1), .second, .val (.int p2), .val (.ref b2), .val (.int ((p2 &&& (7 : Int32)) - (((p2 &&& (7 : Int32)) / (5 : Int32)) * (5 : Int32)))), .val (.int ((((p2.toUInt32 >>> ((3 : Int32) &&& 31).toUInt32).toInt32) &&& (7 : Int32)) - (((((p2.toUInt32 >>> ((3 : Int32) &&& 31).toUInt32).toInt32) &&& (7 : Int32)) / (5 : Int32)) * (5 : Int32)))), .val (.int y20), .val (.int y21), .val (.int (if (f_bad3 y20 y21 (nar .char (f_ch q1)) (nar .char (f_ch ((q1.toUInt64 >>> ((18 : Int32) &&& 0x3f).toInt64.toUInt64).toInt64)))) = (0 : Int32) then (-1 : Int32) else (3 : Int32))), .unset] [(.ref b2)])) _
    refine XS.iconst X24.here hx rfl (hb hby at_102) ?_
    show Steps p.tables e below (T24.setTop (mkF m 103 #[.val (.long q0), .second, .val (.long q1), .second, .val (.int p2), .val (.ref b2), .val (.int ((p2 &&& (7 : Int32)) - (((p2 &&& (7 : Int32)) / (5 : Int32)) * (5 : Int32)))), .val (.int ((((p2.toUInt32 >>> ((3 : Int32) &&& 31).toUInt32).toInt32) &&& (7 : Int32)) - (((((p2.toUInt32 >>> ((3 : Int32) &&& 31).toUInt32).toInt32) &&& (7 : Int32)) / (5 : Int32)) * (5 : Int32)))), .val (.int y20), .val (.int y21), .val (.int (if (f_bad3 y20 y21 (nar .char (f_ch q1)) (nar .char (f_ch ((q1.toUInt64 >>> ((18 : Int32) &&& 0x3f).toInt64.toUInt64).toInt64)))) = (0 : Int32) then (-1 : Int32) else (3 : Int32))), .unset] [(.int (2 : Int32)), (.ref b2)])) _
    refine XS.iload X24.here hx rfl (hb hby at_103) rfl ?_
    show Steps p.tables e below (T24.setTop (mkF m 105 #[.val (.long q0), .second, .val (.long q1), .second, .val (.int p2), .val (.ref b2), .val (.int ((p2 &&& (7 : Int32)) - (((p2 &&& (7 : Int32)) / (5 : Int32)) * (5 : Int32)))), .val (.int ((((p2.toUInt32 >>> ((3 : Int32) &&& 31).toUInt32).toInt32) &&& (7 : Int32)) - (((((p2.toUInt32 >>> ((3 : Int32) &&& 31).toUInt32).toInt32) &&& (7 : Int32)) / (5 : Int32)) * (5 : Int32)))), .val (.int y20), .val (.int y21), .val (.int (if (f_bad3 y20 y21 (nar .char (f_ch q1)) (nar .char (f_ch ((q1.toUInt64 >>> ((18 : Int32) &&& 0x3f).toInt64.toUInt64).toInt64)))) = (0 : Int32) then (-1 : Int32) else (3 : Int32))), .unset] [(.int y20), (.int (2 : Int32)), (.ref b2)])) _
    refine XS.iload X24.here hx rfl (hb hby at_105) rfl ?_
    exact ht
  obtain ⟨_, _, ⟨T30, L30, kq30, n30⟩, -, X30, ⟨Lc30, hQ30, l30, y30, z30⟩, st30⟩ := Jvm.LawKit.callS X24 hx (y := (⟨"com/example/fieldveil/fieldveil/Utf8FirstUnpairedSurrogatePinLaw", "bad", "([CIII)Z"⟩ : MethodName)) hown (mvT hZ (hw _ (List.mem_of_getElem? (i := 16) rfl))) (mvT hZ (hw _ (List.mem_of_getElem? (i := 17) rfl))) (mvT hZ (hw _ (List.mem_of_getElem? (i := 3) rfl))) (mvT hZ (hw _ (List.mem_of_getElem? (i := 18) rfl))) (by decide) (backOf (W := 0) (rm_bad2 l Z a0 hw [] b2 y20 y21 kc2 (nar .char (f_ch q0)) (nar .char (f_ch ((q0.toUInt64 >>> ((18 : Int32) &&& 0x3f).toInt64.toUInt64).toInt64))) (nar .char (f_ch q1)) (nar .char (f_ch ((q1.toUInt64 >>> ((18 : Int32) &&& 0x3f).toInt64.toUInt64).toInt64))) h14 n0 Z14 V14_b2 (hlo : ¬ (y20 < (0 : Int32))) (hhi : ¬ ((4 : Int32) < y21))) hZ (hw _ (List.mem_of_getElem? (i := 18) rfl)) (hw _ (List.mem_of_getElem? (i := 3) rfl)) (by decide) (by decide)) (g := (mkF m 107 #[.val (.long q0), .second, .val (.long q1), .second, .val (.int p2), .val (.ref b2), .val (.int ((p2 &&& (7 : Int32)) - (((p2 &&& (7 : Int32)) / (5 : Int32)) * (5 : Int32)))), .val (.int ((((p2.toUInt32 >>> ((3 : Int32) &&& 31).toUInt32).toInt32) &&& (7 : Int32)) - (((((p2.toUInt32 >>> ((3 : Int32) &&& 31).toUInt32).toInt32) &&& (7 : Int32)) / (5 : Int32)) * (5 : Int32)))), .val (.int y20), .val (.int y21), .val (.int (if (f_bad3 y20 y21 (nar .char (f_ch q1)) (nar .char (f_ch ((q1.toUInt64 >>> ((18 : Int32) &&& 0x3f).toInt64.toUInt64).toInt64)))) = (0 : Int32) then (-1 : Int32) else (3 : Int32))), .unset] [(.int y21), (.int y20), (.int (2 : Int32)), (.ref b2)])) rfl (by rw [hml]; rfl) (argsL := [(.ref b2), (.int (2 : Int32)), (.int y20), (.int y21)]) (rest := []) (lenOf pd_3 rfl) rfl (by show 2 * 0 + _ ≤ _; exact Nat.le_of_eq rfl) (hb hby at_107) (fun _ _ => ⟨rfl, eq24, (by decide : 1 + 0 ≤ _), (by decide : 4 + 0 ≤ _)⟩)
  dsimp only [Pt.U, Pt.locs, Pt.cells, Pt.slots] at X30 l30 y30 z30 st30 hQ30
  subst l30 y30 z30
  obtain ⟨rfl, N30q, eq30⟩ := hQ30
  have N30 := Fr.app N24 N30q
  have k30 : Go p.tables e below (T24.setTop (mkF m 107 #[.val (.long q0), .second, .val (.long q1), .second, .val (.int p2), .val (.ref b2), .val (.int ((p2 &&& (7 : Int32)) - (((p2 &&& (7 : Int32)) / (5 : Int32)) * (5 : Int32)))), .val (.int ((((p2.toUInt32 >>> ((3 : Int32) &&& 31).toUInt32).toInt32) &&& (7 : Int32)) - (((((p2.toUInt32 >>> ((3 : Int32) &&& 31).toUInt32).toInt32) &&& (7 : Int32)) / (5 : Int32)) * (5 : Int32)))), .val (.int y20), .val (.int y21), .val (.int (if (f_bad3 y20 y21 (nar .char (f_ch q1)) (nar .char (f_ch ((q1.toUInt64 >>> ((18 : Int32) &&& 0x3f).toInt64.toUInt64).toInt64)))) = (0 : Int32) then (-1 : Int32) else (3 : Int32))), .unset] [(.int y21), (.int y20), (.int (2 : Int32)), (.ref b2)])) (T30.setTop (mkF m 110 #[.val (.long q0), .second, .val (.long q1), .second, .val (.int p2), .val (.ref b2), .val (.int ((p2 &&& (7 : Int32)) - (((p2 &&& (7 : Int32)) / (5 : Int32)) * (5 : Int32)))), .val (.int ((((p2.toUInt32 >>> ((3 : Int32) &&& 31).toUInt32).toInt32) &&& (7 : Int32)) - (((((p2.toUInt32 >>> ((3 : Int32) &&& 31).toUInt32).toInt32) &&& (7 : Int32)) / (5 : Int32)) * (5 : Int32)))), .val (.int y20), .val (.int y21), .val (.int (if (f_bad3 y20 y21 (nar .char (f_ch q1)) (nar .char (f_ch ((q1.toUInt64 >>> ((18 : Int32) &&& 0x3f).toInt64.toUInt64).toInt64)))) = (0 : Int32) then (-1 : Int32) else (3 : Int32))), .unset] [(.int (f_bad2 y20 y21 (nar .char (f_ch ((q0.toUInt64 >>> ((18 : Int32) &&& 0x3f).toInt64.toUInt64).toInt64))) (nar .char (f_ch q1)) (nar .char (f_ch ((q1.toUInt64 >>> ((18 : Int32) &&& 0x3f).toInt64.toUInt64).toInt64)))))])) := st30
  have k31 : Go p.tables e below (T30.setTop (mkF m 110 #[.val (.long q0), .second, .val (.long q1), .second, .val (.int p2), .val (.ref b2), .val (.int ((p2 &&& (7 : Int32)) - (((p2 &&& (7 : Int32)) / (5 : Int32)) * (5 : Int32)))), .val (.int ((((p2.toUInt32 >>> ((3 : Int32) &&& 31).toUInt32).toInt32) &&& (7 : Int32)) - (((((p2.toUInt32 >>> ((3 : Int32) &&& 31).toUInt32).toInt32) &&& (7 : Int32)) / (5 : Int32)) * (5 : Int32)))), .val (.int y20), .val (.int y21), .val (.int (if (f_bad3 y20 y21 (nar .char (f_ch q1)) (nar .char (f_ch ((q1.toUInt64 >>> ((18 : Int32) &&& 0x3f).toInt64.toUInt64).toInt64)))) = (0 : Int32) then (-1 : Int32) else (3 : Int32))), .unset] [(.int (f_bad2 y20 y21 (nar .char (f_ch ((q0.toUInt64 >>> ((18 : Int32) &&& 0x3f).toInt64.toUInt64).toInt64))) (nar .char (f_ch q1)) (nar .char (f_ch ((q1.toUInt64 >>> ((18 : Int32) &&& 0x3f).toInt64.toUInt64).toInt64)))))])) (T30.setTop (mkF m 116 #[.val (.long q0), .second, .val (.long q1), .second, .val (.int p2), .val (.ref b2), .val (.int ((p2 &&& (7 : Int32)) - (((p2 &&& (7 : Int32)) / (5 : Int32)) * (5 : Int32)))), .val (.int ((((p2.toUInt32 >>> ((3 : Int32) &&& 31).toUInt32).toInt32) &&& (7 : Int32)) - (((((p2.toUInt32 >>> ((3 : Int32) &&& 31).toUInt32).toInt32) &&& (7 : Int32)) / (5 : Int32)) * (5 : Int32)))), .val (.int y20), .val (.int y21), .val (.int (if (f_bad2 y20 y21 (nar .char (f_ch ((q0.toUInt64 >>> ((18 : Int32) &&& 0x3f).toInt64.toUInt64).toInt64))) (nar .char (f_ch q1)) (nar .char (f_ch ((q1.toUInt64 >>> ((18 : Int32) &&& 0x3f).toInt64.toUInt64).toInt64)))) = (0 : Int32) then (if (f_bad3 y20 y21 (nar .char (f_ch q1)) (nar .char (f_ch ((q1.toUInt64 >>> ((18 : Int32) &&& 0x3f).toInt64.toUInt64).toInt64)))) = (0 : Int32) then (-1 : Int32) else (3 : Int32)) else (2 : Int32))), .unset] [])) := by
    by_cases hc32 : (f_bad2 y20 y21 (nar .char (f_ch ((q0.toUInt64 >>> ((18 : Int32) &&& 0x3f).toInt64.toUInt64).toInt64))) (nar .char (f_ch q1)) (nar .char (f_ch ((q1.toUInt64 >>> ((18 : Int32) &&& 0x3f).toInt64.toUInt64).toInt64)))) = (0 : Int32)
    · have k33 : Go p.tables e below (T30.setTop (mkF m 110 #[.val (.long q0), .second, .val (.long q1), .second, .val (.int p2), .val (.ref b2), .val (.int ((p2 &&& (7 : Int32)) - (((p2 &&& (7 : Int32)) / (5 : Int32)) * (5 : Int32)))), .val (.int ((((p2.toUInt32 >>> ((3 : Int32) &&& 31).toUInt32).toInt32) &&& (7 : Int32)) - (((((p2.toUInt32 >>> ((3 : Int32) &&& 31).toUInt32).toInt32) &&& (7 : Int32)) / (5 : Int32)) * (5 : Int32)))), .val (.int y20), .val (.int y21), .val (.int (if (f_bad3 y20 y21 (nar .char (f_ch q1)) (nar .char (f_ch ((q1.toUInt64 >>> ((18 : Int32) &&& 0x3f).toInt64.toUInt64).toInt64)))) = (0 : Int32) then (-1 : Int32) else (3 : Int32))), .unset] [(.int (f_bad2 y20 y21 (nar .char (f_ch ((q0.toUInt64 >>> ((18 : Int32) &&& 0x3f).toInt64.toUInt64).toInt64))) (nar .char (f_ch q1)) (nar .char (f_ch ((q1.toUInt64 >>> ((18 : Int32) &&& 0x3f).toInt64.toUInt64).toInt64)))))])) (T30.setTop (mkF m 116 #[.val (.long q0), .second, .val (.long q1), .second, .val (.int p2), .val (.ref b2), .val (.int ((p2 &&& (7 : Int32)) - (((p2 &&& (7 : Int32)) / (5 : Int32)) * (5 : Int32)))), .val (.int ((((p2.toUInt32 >>> ((3 : Int32) &&& 31).toUInt32).toInt32) &&& (7 : Int32)) - (((((p2.toUInt32 >>> ((3 : Int32) &&& 31).toUInt32).toInt32) &&& (7 : Int32)) / (5 : Int32)) * (5 : Int32)))), .val (.int y20), .val (.int y21), .val (.int (if (f_bad3 y20 y21 (nar .char (f_ch q1)) (nar .char (f_ch ((q1.toUInt64 >>> ((18 : Int32) &&& 0x3f).toInt64.toUInt64).toInt64)))) = (0 : Int32) then (-1 : Int32) else (3 : Int32))), .unset] [])) := by
        intro t ht
        refine XS.ifYes X30.here hx rfl (pc0 := 110) (pc' := 116) rfl (hb hby at_110) rfl ((if0 _ _).trans (teq hc32).1) (by decide) (by decide) ?_
        exact ht
      have kk := k33
      simpa only [if_pos hc32] using kk
    · have k34 : Go p.tables e below (T30.setTop (mkF m 110 #[.val (.long q0), .second, .val (.long q1), .second, .val (.int p2), .val (.ref b2), .val (.int ((p2 &&& (7 : Int32)) - (((p2 &&& (7 : Int32)) / (5 : Int32)) * (5 : Int32)))), .val (.int ((((p2.toUInt32 >>> ((3 : Int32) &&& 31).toUInt32).toInt32) &&& (7 : Int32)) - (((((p2.toUInt32 >>> ((3 : Int32) &&& 31).toUInt32).toInt32) &&& (7 : Int32)) / (5 : Int32)) * (5 : Int32)))), .val (.int y20), .val (.int y21), .val (.int (if (f_bad3 y20 y21 (nar .char (f_ch q1)) (nar .char (f_ch ((q1.toUInt64 >>> ((18 : Int32) &&& 0x3f).toInt64.toUInt64).toInt64)))) = (0 : Int32) then (-1 : Int32) else (3 : Int32))), .unset] [(.int (f_bad2 y20 y21 (nar .char (f_ch ((q0.toUInt64 >>> ((18 : Int32) &&& 0x3f).toInt64.toUInt64).toInt64))) (nar .char (f_ch q1)) (nar .char (f_ch ((q1.toUInt64 >>> ((18 : Int32) &&& 0x3f).toInt64.toUInt64).toInt64)))))])) (T30.setTop (mkF m 116 #[.val (.long q0), .second, .val (.long q1), .second, .val (.int p2), .val (.ref b2), .val (.int ((p2 &&& (7 : Int32)) - (((p2 &&& (7 : Int32)) / (5 : Int32)) * (5 : Int32)))), .val (.int ((((p2.toUInt32 >>> ((3 : Int32) &&& 31).toUInt32).toInt32) &&& (7 : Int32)) - (((((p2.toUInt32 >>> ((3 : Int32) &&& 31).toUInt32).toInt32) &&& (7 : Int32)) / (5 : Int32)) * (5 : Int32)))), .val (.int y20), .val (.int y21), .val (.int (2 : Int32)), .unset] [])) := by
        intro t ht
        refine XS.ifNo X30.here hx rfl (hb hby at_110) rfl ((if0 _ _).trans (feq hc32).1) ?_
        show Steps p.tables e below (T30.setTop (mkF m 113 #[.val (.long q0), .second, .val (.long q1), .second, .val (.int p2), .val (.ref b2), .val (.int ((p2 &&& (7 : Int32)) - (((p2 &&& (7 : Int32)) / (5 : Int32)) * (5 : Int32)))), .val (.int ((((p2.toUInt32 >>> ((3 : Int32) &&& 31).toUInt32).toInt32) &&& (7 : Int32)) - (((((p2.toUInt32 >>> ((3 : Int32) &&& 31).toUInt32).toInt32) &&& (7 : Int32)) / (5 : Int32)) * (5 : Int32)))), .val (.int y20), .val (.int y21), .val (.int (if (f_bad3 y20 y21 (nar .char (f_ch q1)) (nar .char (f_ch ((q1.toUInt64 >>> ((18 : Int32) &&& 0x3f).toInt64.toUInt64).toInt64)))) = (0 : Int32) then (-1 : Int32) else (3 : Int32))), .unset] [])) _
        refine XS.iconst X30.here hx rfl (hb hby at_113) ?_
        show Steps p.tables e below (T30.setTop (mkF m 114 #[.val (.long q0), .second, .val (.long q1), .second, .val (.int p2), .val (.ref b2), .val (.int ((p2 &&& (7 : Int32)) - (((p2 &&& (7 : Int32)) / (5 : Int32)) * (5 : Int32)))), .val (.int ((((p2.toUInt32 >>> ((3 : Int32) &&& 31).toUInt32).toInt32) &&& (7 : Int32)) - (((((p2.toUInt32 >>> ((3 : Int32) &&& 31).toUInt32).toInt32) &&& (7 : Int32)) / (5 : Int32)) * (5 : Int32)))), .val (.int y20), .val (.int y21), .val (.int (if (f_bad3 y20 y21 (nar .char (f_ch q1)) (nar .char (f_ch ((q1.toUInt64 >>> ((18 : Int32) &&& 0x3f).toInt64.toUInt64).toInt64)))) = (0 : Int32) then (-1 : Int32) else (3 : Int32))), .unset] [(.int (2 : Int32))])) _
        refine XS.istore X30.here hx rfl (hb hby at_114) rfl (l' := #[.val (.long q0), .second, .val (.long q1), .second, .val (.int p2), .val (.ref b2), .val (.int ((p2 &&& (7 : Int32)) - (((p2 &&& (7 : Int32)) / (5 : Int32)) * (5 : Int32)))), .val (.int ((((p2.toUInt32 >>> ((3 : Int32) &&& 31).toUInt32).toInt32) &&& (7 : Int32)) - (((((p2.toUInt32 >>> ((3 : Int32) &&& 31).toUInt32).toInt32) &&& (7 : Int32)) / (5 : Int32)) * (5 : Int32)))), .val (.int y20), .val (.int y21), .val (.int (2 : Int32)), .unset]) rfl ?_
        exact ht
      have kk := k34
      simpa only [if_neg hc32] using kk
  have k35 : Go p.tables e below (T30.setTop (mkF m 116 #[.val (.long q0), .second, .val (.long q1), .second, .val (.int p2), .val (.ref b2), .val (.int ((p2 &&& (7 : Int32)) - (((p2 &&& (7 : Int32)) / (5 : Int32)) * (5 : Int32)))), .val (.int ((((p2.toUInt32 >>> ((3 : Int32) &&& 31).toUInt32).toInt32) &&& (7 : Int32)) - (((((p2.toUInt32 >>> ((3 : Int32) &&& 31).toUInt32).toInt32) &&& (7 : Int32)) / (5 : Int32)) * (5 : Int32)))), .val (.int y20), .val (.int y21), .val (.int (if (f_bad2 y20 y21 (nar .char (f_ch ((q0.toUInt64 >>> ((18 : Int32) &&& 0x3f).toInt64.toUInt64).toInt64))) (nar .char (f_ch q1)) (nar .char (f_ch ((q1.toUInt64 >>> ((18 : Int32) &&& 0x3f).toInt64.toUInt64).toInt64)))) = (0 : Int32) then (if (f_bad3 y20 y21 (nar .char (f_ch q1)) (nar .char (f_ch ((q1.toUInt64 >>> ((18 : Int32) &&& 0x3f).toInt64.toUInt64).toInt64)))) = (0 : Int32) then (-1 : Int32) else (3 : Int32)) else (2 : Int32))), .unset] [])) (T30.setTop (mkF m 123 #[.val (.long q0), .second, .val (.long q1), .second, .val (.int p2), .val (.ref b2), .val (.int ((p2 &&& (7 : Int32)) - (((p2 &&& (7 : Int32)) / (5 : Int32)) * (5 : Int32)))), .val (.int ((((p2.toUInt32 >>> ((3 : Int32) &&& 31).toUInt32).toInt32) &&& (7 : Int32)) - (((((p2.toUInt32 >>> ((3 : Int32) &&& 31).toUInt32).toInt32) &&& (7 : Int32)) / (5 : Int32)) * (5 : Int32)))), .val (.int y20), .val (.int y21), .val (.int (if (f_bad2 y20 y21 (nar .char (f_ch ((q0.toUInt64 >>> ((18 : Int32) &&& 0x3f).toInt64.toUInt64).toInt64))) (nar .char (f_ch q1)) (nar .char (f_ch ((q1.toUInt64 >>> ((18 : Int32) &&& 0x3f).toInt64.toUInt64).toInt64)))) = (0 : Int32) then (if (f_bad3 y20 y21 (nar .char (f_ch q1)) (nar .char (f_ch ((q1.toUInt64 >>> ((18 : Int32) &&& 0x3f).toInt64.toUInt64).toInt64)))) = (0 : Int32) then (-1 : Int32) else (3 : Int32)) else (2 : Int32))), .unset] [(.int y21), (.int y20), (.int (1 : Int32)), (.ref b2)])) := by
    intro t ht
    refine XS.aload X30.here hx rfl (hb hby at_116) rfl rfl ?_
    show Steps p.tables e below (T30.setTop (mkF m 118 #[.val (.long q0), .second, .val (.long q1), .second, .val (.int p2), .val (.ref b2), .val (.int ((p2 &&& (7 : Int32)) - (((p2 &&& (7 : Int32)) / (5 : Int32)) * (5 : Int32)))), .val (.int ((((p2.toUInt32 >>> ((3 : Int32) &&& 31).toUInt32).toInt32) &&& (7 : Int32)) - (((((p2.toUInt32 >>> ((3 : Int32) &&& 31).toUInt32).toInt32) &&& (7 : Int32)) / (5 : Int32)) * (5 : Int32)))), .val (.int y20), .val (.int y21), .val (.int (if (f_bad2 y20 y21 (nar .char (f_ch ((q0.toUInt64 >>> ((18 : Int32) &&& 0x3f).toInt64.toUInt64).toInt64))) (nar .char (f_ch q1)) (nar .char (f_ch ((q1.toUInt64 >>> ((18 : Int32) &&& 0x3f).toInt64.toUInt64).toInt64)))) = (0 : Int32) then (if (f_bad3 y20 y21 (nar .char (f_ch q1)) (nar .char (f_ch ((q1.toUInt64 >>> ((18 : Int32) &&& 0x3f).toInt64.toUInt64).toInt64)))) = (0 : Int32) then (-1 : Int32) else (3 : Int32)) else (2 : Int32))), .unset] [(.ref b2)])) _
    refine XS.iconst X30.here hx rfl (hb hby at_118) ?_
    show Steps p.tables e below (T30.setTop (mkF m 119 #[.val (.long q0), .second, .val (.long q1), .second, .val (.int p2), .val (.ref b2), .val (.int ((p2 &&& (7 : Int32)) - (((p2 &&& (7 : Int32)) / (5 : Int32)) * (5 : Int32)))), .val (.int ((((p2.toUInt32 >>> ((3 : Int32) &&& 31).toUInt32).toInt32) &&& (7 : Int32)) - (((((p2.toUInt32 >>> ((3 : Int32) &&& 31).toUInt32).toInt32) &&& (7 : Int32)) / (5 : Int32)) * (5 : Int32)))), .val (.int y20), .val (.int y21), .val (.int (if (f_bad2 y20 y21 (nar .char (f_ch ((q0.toUInt64 >>> ((18 : Int32) &&& 0x3f).toInt64.toUInt64).toInt64))) (nar .char (f_ch q1)) (nar .char (f_ch ((q1.toUInt64 >>> ((18 : Int32) &&& 0x3f).toInt64.toUInt64).toInt64)))) = (0 : Int32) then (if (f_bad3 y20 y21 (nar .char (f_ch q1)) (nar .char (f_ch ((q1.toUInt64 >>> ((18 : Int32) &&& 0x3f).toInt64.toUInt64).toInt64)))) = (0 : Int32) then (-1 : Int32) else (3 : Int32)) else (2 : Int32))), .unset] [(.int (1 : Int32)), (.ref b2)])) _
    refine XS.iload X30.here hx rfl (hb hby at_119) rfl ?_
    show Steps p.tables e below (T30.setTop (mkF m 121 #[.val (.long q0), .second, .val (.long q1), .second, .val (.int p2), .val (.ref b2), .val (.int ((p2 &&& (7 : Int32)) - (((p2 &&& (7 : Int32)) / (5 : Int32)) * (5 : Int32)))), .val (.int ((((p2.toUInt32 >>> ((3 : Int32) &&& 31).toUInt32).toInt32) &&& (7 : Int32)) - (((((p2.toUInt32 >>> ((3 : Int32) &&& 31).toUInt32).toInt32) &&& (7 : Int32)) / (5 : Int32)) * (5 : Int32)))), .val (.int y20), .val (.int y21), .val (.int (if (f_bad2 y20 y21 (nar .char (f_ch ((q0.toUInt64 >>> ((18 : Int32) &&& 0x3f).toInt64.toUInt64).toInt64))) (nar .char (f_ch q1)) (nar .char (f_ch ((q1.toUInt64 >>> ((18 : Int32) &&& 0x3f).toInt64.toUInt64).toInt64)))) = (0 : Int32) then (if (f_bad3 y20 y21 (nar .char (f_ch q1)) (nar .char (f_ch ((q1.toUInt64 >>> ((18 : Int32) &&& 0x3f).toInt64.toUInt64).toInt64)))) = (0 : Int32) then (-1 : Int32) else (3 : Int32)) else (2 : Int32))), .unset] [(.int y20), (.int (1 : Int32)), (.ref b2)])) _
    refine XS.iload X30.here hx rfl (hb hby at_121) rfl ?_
    exact ht
  obtain ⟨_, _, ⟨T36, L36, kq36, n36⟩, -, X36, ⟨Lc36, hQ36, l36, y36, z36⟩, st36⟩ := Jvm.LawKit.callS X30 hx (y := (⟨"com/example/fieldveil/fieldveil/Utf8FirstUnpairedSurrogatePinLaw", "bad", "([CIII)Z"⟩ : MethodName)) hown (mvT hZ (hw _ (List.mem_of_getElem? (i := 16) rfl))) (mvT hZ (hw _ (List.mem_of_getElem? (i := 17) rfl))) (mvT hZ (hw _ (List.mem_of_getElem? (i := 3) rfl))) (mvT hZ (hw _ (List.mem_of_getElem? (i := 18) rfl))) (by decide) (backOf (W := 0) (rm_bad1 l Z a0 hw [] b2 y20 y21 kc2 (nar .char (f_ch q0)) (nar .char (f_ch ((q0.toUInt64 >>> ((18 : Int32) &&& 0x3f).toInt64.toUInt64).toInt64))) (nar .char (f_ch q1)) (nar .char (f_ch ((q1.toUInt64 >>> ((18 : Int32) &&& 0x3f).toInt64.toUInt64).toInt64))) h14 n0 Z14 V14_b2 (hlo : ¬ (y20 < (0 : Int32))) (hhi : ¬ ((4 : Int32) < y21))) hZ (hw _ (List.mem_of_getElem? (i := 18) rfl)) (hw _ (List.mem_of_getElem? (i := 3) rfl)) (by decide) (by decide)) (g := (mkF m 123 #[.val (.long q0), .second, .val (.long q1), .second, .val (.int p2), .val (.ref b2), .val (.int ((p2 &&& (7 : Int32)) - (((p2 &&& (7 : Int32)) / (5 : Int32)) * (5 : Int32)))), .val (.int ((((p2.toUInt32 >>> ((3 : Int32) &&& 31).toUInt32).toInt32) &&& (7 : Int32)) - (((((p2.toUInt32 >>> ((3 : Int32) &&& 31).toUInt32).toInt32) &&& (7 : Int32)) / (5 : Int32)) * (5 : Int32)))), .val (.int y20), .val (.int y21), .val (.int (if (f_bad2 y20 y21 (nar .char (f_ch ((q0.toUInt64 >>> ((18 : Int32) &&& 0x3f).toInt64.toUInt64).toInt64))) (nar .char (f_ch q1)) (nar .char (f_ch ((q1.toUInt64 >>> ((18 : Int32) &&& 0x3f).toInt64.toUInt64).toInt64)))) = (0 : Int32) then (if (f_bad3 y20 y21 (nar .char (f_ch q1)) (nar .char (f_ch ((q1.toUInt64 >>> ((18 : Int32) &&& 0x3f).toInt64.toUInt64).toInt64)))) = (0 : Int32) then (-1 : Int32) else (3 : Int32)) else (2 : Int32))), .unset] [(.int y21), (.int y20), (.int (1 : Int32)), (.ref b2)])) rfl (by rw [hml]; rfl) (argsL := [(.ref b2), (.int (1 : Int32)), (.int y20), (.int y21)]) (rest := []) (lenOf pd_3 rfl) rfl (by show 2 * 0 + _ ≤ _; exact Nat.le_of_eq rfl) (hb hby at_123) (fun _ _ => ⟨rfl, eq30, (by decide : 1 + 0 ≤ _), (by decide : 4 + 0 ≤ _)⟩)
  dsimp only [Pt.U, Pt.locs, Pt.cells, Pt.slots] at X36 l36 y36 z36 st36 hQ36
  subst l36 y36 z36
  obtain ⟨rfl, N36q, eq36⟩ := hQ36
  have N36 := Fr.app N30 N36q
  have k36 : Go p.tables e below (T30.setTop (mkF m 123 #[.val (.long q0), .second, .val (.long q1), .second, .val (.int p2), .val (.ref b2), .val (.int ((p2 &&& (7 : Int32)) - (((p2 &&& (7 : Int32)) / (5 : Int32)) * (5 : Int32)))), .val (.int ((((p2.toUInt32 >>> ((3 : Int32) &&& 31).toUInt32).toInt32) &&& (7 : Int32)) - (((((p2.toUInt32 >>> ((3 : Int32) &&& 31).toUInt32).toInt32) &&& (7 : Int32)) / (5 : Int32)) * (5 : Int32)))), .val (.int y20), .val (.int y21), .val (.int (if (f_bad2 y20 y21 (nar .char (f_ch ((q0.toUInt64 >>> ((18 : Int32) &&& 0x3f).toInt64.toUInt64).toInt64))) (nar .char (f_ch q1)) (nar .char (f_ch ((q1.toUInt64 >>> ((18 : Int32) &&& 0x3f).toInt64.toUInt64).toInt64)))) = (0 : Int32) then (if (f_bad3 y20 y21 (nar .char (f_ch q1)) (nar .char (f_ch ((q1.toUInt64 >>> ((18 : Int32) &&& 0x3f).toInt64.toUInt64).toInt64)))) = (0 : Int32) then (-1 : Int32) else (3 : Int32)) else (2 : Int32))), .unset] [(.int y21), (.int y20), (.int (1 : Int32)), (.ref b2)])) (T36.setTop (mkF m 126 #[.val (.long q0), .second, .val (.long q1), .second, .val (.int p2), .val (.ref b2), .val (.int ((p2 &&& (7 : Int32)) - (((p2 &&& (7 : Int32)) / (5 : Int32)) * (5 : Int32)))), .val (.int ((((p2.toUInt32 >>> ((3 : Int32) &&& 31).toUInt32).toInt32) &&& (7 : Int32)) - (((((p2.toUInt32 >>> ((3 : Int32) &&& 31).toUInt32).toInt32) &&& (7 : Int32)) / (5 : Int32)) * (5 : Int32)))), .val (.int y20), .val (.int y21), .val (.int (if (f_bad2 y20 y21 (nar .char (f_ch ((q0.toUInt64 >>> ((18 : Int32) &&& 0x3f).toInt64.toUInt64).toInt64))) (nar .char (f_ch q1)) (nar .char (f_ch ((q1.toUInt64 >>> ((18 : Int32) &&& 0x3f).toInt64.toUInt64).toInt64)))) = (0 : Int32) then (if (f_bad3 y20 y21 (nar .char (f_ch q1)) (nar .char (f_ch ((q1.toUInt64 >>> ((18 : Int32) &&& 0x3f).toInt64.toUInt64).toInt64)))) = (0 : Int32) then (-1 : Int32) else (3 : Int32)) else (2 : Int32))), .unset] [(.int (f_bad1 y20 y21 (nar .char (f_ch q0)) (nar .char (f_ch ((q0.toUInt64 >>> ((18 : Int32) &&& 0x3f).toInt64.toUInt64).toInt64))) (nar .char (f_ch q1))))])) := st36
  have k37 : Go p.tables e below (T36.setTop (mkF m 126 #[.val (.long q0), .second, .val (.long q1), .second, .val (.int p2), .val (.ref b2), .val (.int ((p2 &&& (7 : Int32)) - (((p2 &&& (7 : Int32)) / (5 : Int32)) * (5 : Int32)))), .val (.int ((((p2.toUInt32 >>> ((3 : Int32) &&& 31).toUInt32).toInt32) &&& (7 : Int32)) - (((((p2.toUInt32 >>> ((3 : Int32) &&& 31).toUInt32).toInt32) &&& (7 : Int32)) / (5 : Int32)) * (5 : Int32)))), .val (.int y20), .val (.int y21), .val (.int (if (f_bad2 y20 y21 (nar .char (f_ch ((q0.toUInt64 >>> ((18 : Int32) &&& 0x3f).toInt64.toUInt64).toInt64))) (nar .char (f_ch q1)) (nar .char (f_ch ((q1.toUInt64 >>> ((18 : Int32) &&& 0x3f).toInt64.toUInt64).toInt64)))) = (0 : Int32) then (if (f_bad3 y20 y21 (nar .char (f_ch q1)) (nar .char (f_ch ((q1.toUInt64 >>> ((18 : Int32) &&& 0x3f).toInt64.toUInt64).toInt64)))) = (0 : Int32) then (-1 : Int32) else (3 : Int32)) else (2 : Int32))), .unset] [(.int (f_bad1 y20 y21 (nar .char (f_ch q0)) (nar .char (f_ch ((q0.toUInt64 >>> ((18 : Int32) &&& 0x3f).toInt64.toUInt64).toInt64))) (nar .char (f_ch q1))))])) (T36.setTop (mkF m 132 #[.val (.long q0), .second, .val (.long q1), .second, .val (.int p2), .val (.ref b2), .val (.int ((p2 &&& (7 : Int32)) - (((p2 &&& (7 : Int32)) / (5 : Int32)) * (5 : Int32)))), .val (.int ((((p2.toUInt32 >>> ((3 : Int32) &&& 31).toUInt32).toInt32) &&& (7 : Int32)) - (((((p2.toUInt32 >>> ((3 : Int32) &&& 31).toUInt32).toInt32) &&& (7 : Int32)) / (5 : Int32)) * (5 : Int32)))), .val (.int y20), .val (.int y21), .val (.int (if (f_bad1 y20 y21 (nar .char (f_ch q0)) (nar .char (f_ch ((q0.toUInt64 >>> ((18 : Int32) &&& 0x3f).toInt64.toUInt64).toInt64))) (nar .char (f_ch q1))) = (0 : Int32) then (if (f_bad2 y20 y21 (nar .char (f_ch ((q0.toUInt64 >>> ((18 : Int32) &&& 0x3f).toInt64.toUInt64).toInt64))) (nar .char (f_ch q1)) (nar .char (f_ch ((q1.toUInt64 >>> ((18 : Int32) &&& 0x3f).toInt64.toUInt64).toInt64)))) = (0 : Int32) then (if (f_bad3 y20 y21 (nar .char (f_ch q1)) (nar .char (f_ch ((q1.toUInt64 >>> ((18 : Int32) &&& 0x3f).toInt64.toUInt64).toInt64)))) = (0 : Int32) then (-1 : Int32) else (3 : Int32)) else (2 : Int32)) else (1 : Int32))), .unset] [])) := by
    by_cases hc38 : (f_bad1 y20 y21 (nar .char (f_ch q0)) (nar .char (f_ch ((q0.toUInt64 >>> ((18 : Int32) &&& 0x3f).toInt64.toUInt64).toInt64))) (nar .char (f_ch q1))) = (0 : Int32)
    · have k39 : Go p.tables e below (T36.setTop (mkF m 126 #[.val (.long q0), .second, .val (.long q1), .second, .val (.int p2), .val (.ref b2), .val (.int ((p2 &&& (7 : Int32)) - (((p2 &&& (7 : Int32)) / (5 : Int32)) * (5 : Int32)))), .val (.int ((((p2.toUInt32 >>> ((3 : Int32) &&& 31).toUInt32).toInt32) &&& (7 : Int32)) - (((((p2.toUInt32 >>> ((3 : Int32) &&& 31).toUInt32).toInt32) &&& (7 : Int32)) / (5 : Int32)) * (5 : Int32)))), .val (.int y20), .val (.int y21), .val (.int (if (f_bad2 y20 y21 (nar .char (f_ch ((q0.toUInt64 >>> ((18 : Int32) &&& 0x3f).toInt64.toUInt64).toInt64))) (nar .char (f_ch q1)) (nar .char (f_ch ((q1.toUInt64 >>> ((18 : Int32) &&& 0x3f).toInt64.toUInt64).toInt64)))) = (0 : Int32) then (if (f_bad3 y20 y21 (nar .char (f_ch q1)) (nar .char (f_ch ((q1.toUInt64 >>> ((18 : Int32) &&& 0x3f).toInt64.toUInt64).toInt64)))) = (0 : Int32) then (-1 : Int32) else (3 : Int32)) else (2 : Int32))), .unset] [(.int (f_bad1 y20 y21 (nar .char (f_ch q0)) (nar .char (f_ch ((q0.toUInt64 >>> ((18 : Int32) &&& 0x3f).toInt64.toUInt64).toInt64))) (nar .char (f_ch q1))))])) (T36.setTop (mkF m 132 #[.val (.long q0), .second, .val (.long q1), .second, .val (.int p2), .val (.ref b2), .val (.int ((p2 &&& (7 : Int32)) - (((p2 &&& (7 : Int32)) / (5 : Int32)) * (5 : Int32)))), .val (.int ((((p2.toUInt32 >>> ((3 : Int32) &&& 31).toUInt32).toInt32) &&& (7 : Int32)) - (((((p2.toUInt32 >>> ((3 : Int32) &&& 31).toUInt32).toInt32) &&& (7 : Int32)) / (5 : Int32)) * (5 : Int32)))), .val (.int y20), .val (.int y21), .val (.int (if (f_bad2 y20 y21 (nar .char (f_ch ((q0.toUInt64 >>> ((18 : Int32) &&& 0x3f).toInt64.toUInt64).toInt64))) (nar .char (f_ch q1)) (nar .char (f_ch ((q1.toUInt64 >>> ((18 : Int32) &&& 0x3f).toInt64.toUInt64).toInt64)))) = (0 : Int32) then (if (f_bad3 y20 y21 (nar .char (f_ch q1)) (nar .char (f_ch ((q1.toUInt64 >>> ((18 : Int32) &&& 0x3f).toInt64.toUInt64).toInt64)))) = (0 : Int32) then (-1 : Int32) else (3 : Int32)) else (2 : Int32))), .unset] [])) := by
        intro t ht
        refine XS.ifYes X36.here hx rfl (pc0 := 126) (pc' := 132) rfl (hb hby at_126) rfl ((if0 _ _).trans (teq hc38).1) (by decide) (by decide) ?_
        exact ht
      have kk := k39
      simpa only [if_pos hc38] using kk
    · have k40 : Go p.tables e below (T36.setTop (mkF m 126 #[.val (.long q0), .second, .val (.long q1), .second, .val (.int p2), .val (.ref b2), .val (.int ((p2 &&& (7 : Int32)) - (((p2 &&& (7 : Int32)) / (5 : Int32)) * (5 : Int32)))), .val (.int ((((p2.toUInt32 >>> ((3 : Int32) &&& 31).toUInt32).toInt32) &&& (7 : Int32)) - (((((p2.toUInt32 >>> ((3 : Int32) &&& 31).toUInt32).toInt32) &&& (7 : Int32)) / (5 : Int32)) * (5 : Int32)))), .val (.int y20), .val (.int y21), .val (.int (if (f_bad2 y20 y21 (nar .char (f_ch ((q0.toUInt64 >>> ((18 : Int32) &&& 0x3f).toInt64.toUInt64).toInt64))) (nar .char (f_ch q1)) (nar .char (f_ch ((q1.toUInt64 >>> ((18 : Int32) &&& 0x3f).toInt64.toUInt64).toInt64)))) = (0 : Int32) then (if (f_bad3 y20 y21 (nar .char (f_ch q1)) (nar .char (f_ch ((q1.toUInt64 >>> ((18 : Int32) &&& 0x3f).toInt64.toUInt64).toInt64)))) = (0 : Int32) then (-1 : Int32) else (3 : Int32)) else (2 : Int32))), .unset] [(.int (f_bad1 y20 y21 (nar .char (f_ch q0)) (nar .char (f_ch ((q0.toUInt64 >>> ((18 : Int32) &&& 0x3f).toInt64.toUInt64).toInt64))) (nar .char (f_ch q1))))])) (T36.setTop (mkF m 132 #[.val (.long q0), .second, .val (.long q1), .second, .val (.int p2), .val (.ref b2), .val (.int ((p2 &&& (7 : Int32)) - (((p2 &&& (7 : Int32)) / (5 : Int32)) * (5 : Int32)))), .val (.int ((((p2.toUInt32 >>> ((3 : Int32) &&& 31).toUInt32).toInt32) &&& (7 : Int32)) - (((((p2.toUInt32 >>> ((3 : Int32) &&& 31).toUInt32).toInt32) &&& (7 : Int32)) / (5 : Int32)) * (5 : Int32)))), .val (.int y20), .val (.int y21), .val (.int (1 : Int32)), .unset] [])) := by
        intro t ht
        refine XS.ifNo X36.here hx rfl (hb hby at_126) rfl ((if0 _ _).trans (feq hc38).1) ?_
        show Steps p.tables e below (T36.setTop (mkF m 129 #[.val (.long q0), .second, .val (.long q1), .second, .val (.int p2), .val (.ref b2), .val (.int ((p2 &&& (7 : Int32)) - (((p2 &&& (7 : Int32)) / (5 : Int32)) * (5 : Int32)))), .val (.int ((((p2.toUInt32 >>> ((3 : Int32) &&& 31).toUInt32).toInt32) &&& (7 : Int32)) - (((((p2.toUInt32 >>> ((3 : Int32) &&& 31).toUInt32).toInt32) &&& (7 : Int32)) / (5 : Int32)) * (5 : Int32)))), .val (.int y20), .val (.int y21), .val (.int (if (f_bad2 y20 y21 (nar .char (f_ch ((q0.toUInt64 >>> ((18 : Int32) &&& 0x3f).toInt64.toUInt64).toInt64))) (nar .char (f_ch q1)) (nar .char (f_ch ((q1.toUInt64 >>> ((18 : Int32) &&& 0x3f).toInt64.toUInt64).toInt64)))) = (0 : Int32) then (if (f_bad3 y20 y21 (nar .char (f_ch q1)) (nar .char (f_ch ((q1.toUInt64 >>> ((18 : Int32) &&& 0x3f).toInt64.toUInt64).toInt64)))) = (0 : Int32) then (-1 : Int32) else (3 : Int32)) else (2 : Int32))), .unset] [])) _
        refine XS.iconst X36.here hx rfl (hb hby at_129) ?_
        show Steps p.tables e below (T36.setTop (mkF m 130 #[.val (.long q0), .second, .val (.long q1), .second, .val (.int p2), .val (.ref b2), .val (.int ((p2 &&& (7 : Int32)) - (((p2 &&& (7 : Int32)) / (5 : Int32)) * (5 : Int32)))), .val (.int ((((p2.toUInt32 >>> ((3 : Int32) &&& 31).toUInt32).toInt32) &&& (7 : Int32)) - (((((p2.toUInt32 >>> ((3 : Int32) &&& 31).toUInt32).toInt32) &&& (7 : Int32)) / (5 : Int32)) * (5 : Int32)))), .val (.int y20), .val (.int y21), .val (.int (if (f_bad2 y20 y21 (nar .char (f_ch ((q0.toUInt64 >>> ((18 : Int32) &&& 0x3f).toInt64.toUInt64).toInt64))) (nar .char (f_ch q1)) (nar .char (f_ch ((q1.toUInt64 >>> ((18 : Int32) &&& 0x3f).toInt64.toUInt64).toInt64)))) = (0 : Int32) then (if (f_bad3 y20 y21 (nar .char (f_ch q1)) (nar .char (f_ch ((q1.toUInt64 >>> ((18 : Int32) &&& 0x3f).toInt64.toUInt64).toInt64)))) = (0 : Int32) then (-1 : Int32) else (3 : Int32)) else (2 : Int32))), .unset] [(.int (1 : Int32))])) _
        refine XS.istore X36.here hx rfl (hb hby at_130) rfl (l' := #[.val (.long q0), .second, .val (.long q1), .second, .val (.int p2), .val (.ref b2), .val (.int ((p2 &&& (7 : Int32)) - (((p2 &&& (7 : Int32)) / (5 : Int32)) * (5 : Int32)))), .val (.int ((((p2.toUInt32 >>> ((3 : Int32) &&& 31).toUInt32).toInt32) &&& (7 : Int32)) - (((((p2.toUInt32 >>> ((3 : Int32) &&& 31).toUInt32).toInt32) &&& (7 : Int32)) / (5 : Int32)) * (5 : Int32)))), .val (.int y20), .val (.int y21), .val (.int (1 : Int32)), .unset]) rfl ?_
        exact ht
      have kk := k40
      simpa only [if_neg hc38] using kk
  have k41 : Go p.tables e below (T36.setTop (mkF m 132 #[.val (.long q0), .second, .val (.long q1), .second, .val (.int p2), .val (.ref b2), .val (.int ((p2 &&& (7 : Int32)) - (((p2 &&& (7 : Int32)) / (5 : Int32)) * (5 : Int32)))), .val (.int ((((p2.toUInt32 >>> ((3 : Int32) &&& 31).toUInt32).toInt32) &&& (7 : Int32)) - (((((p2.toUInt32 >>> ((3 : Int32) &&& 31).toUInt32).toInt32) &&& (7 : Int32)) / (5 : Int32)) * (5 : Int32)))), .val (.int y20), .val (.int y21), .val (.int (if (f_bad1 y20 y21 (nar .char (f_ch q0)) (nar .char (f_ch ((q0.toUInt64 >>> ((18 : Int32) &&& 0x3f).toInt64.toUInt64).toInt64))) (nar .char (f_ch q1))) = (0 : Int32) then (if (f_bad2 y20 y21 (nar .char (f_ch ((q0.toUInt64 >>> ((18 : Int32) &&& 0x3f).toInt64.toUInt64).toInt64))) (nar .char (f_ch q1)) (nar .char (f_ch ((q1.toUInt64 >>> ((18 : Int32) &&& 0x3f).toInt64.toUInt64).toInt64)))) = (0 : Int32) then (if (f_bad3 y20 y21 (nar .char (f_ch q1)) (nar .char (f_ch ((q1.toUInt64 >>> ((18 : Int32) &&& 0x3f).toInt64.toUInt64).toInt64)))) = (0 : Int32) then (-1 : Int32) else (3 : Int32)) else (2 : Int32)) else (1 : Int32))), .unset] [])) (T36.setTop (mkF m 139 #[.val (.long q0), .second, .val (.long q1), .second, .val (.int p2), .val (.ref b2), .val (.int ((p2 &&& (7 : Int32)) - (((p2 &&& (7 : Int32)) / (5 : Int32)) * (5 : Int32)))), .val (.int ((((p2.toUInt32 >>> ((3 : Int32) &&& 31).toUInt32).toInt32) &&& (7 : Int32)) - (((((p2.toUInt32 >>> ((3 : Int32) &&& 31).toUInt32).toInt32) &&& (7 : Int32)) / (5 : Int32)) * (5 : Int32)))), .val (.int y20), .val (.int y21), .val (.int (if (f_bad1 y20 y21 (nar .char (f_ch q0)) (nar .char (f_ch ((q0.toUInt64 >>> ((18 : Int32) &&& 0x3f).toInt64.toUInt64).toInt64))) (nar .char (f_ch q1))) = (0 : Int32) then (if (f_bad2 y20 y21 (nar .char (f_ch ((q0.toUInt64 >>> ((18 : Int32) &&& 0x3f).toInt64.toUInt64).toInt64))) (nar .char (f_ch q1)) (nar .char (f_ch ((q1.toUInt64 >>> ((18 : Int32) &&& 0x3f).toInt64.toUInt64).toInt64)))) = (0 : Int32) then (if (f_bad3 y20 y21 (nar .char (f_ch q1)) (nar .char (f_ch ((q1.toUInt64 >>> ((18 : Int32) &&& 0x3f).toInt64.toUInt64).toInt64)))) = (0 : Int32) then (-1 : Int32) else (3 : Int32)) else (2 : Int32)) else (1 : Int32))), .unset] [(.int y21), (.int y20), (.int (0 : Int32)), (.ref b2)])) := by
    intro t ht
    refine XS.aload X36.here hx rfl (hb hby at_132) rfl rfl ?_
    show Steps p.tables e below (T36.setTop (mkF m 134 #[.val (.long q0), .second, .val (.long q1), .second, .val (.int p2), .val (.ref b2), .val (.int ((p2 &&& (7 : Int32)) - (((p2 &&& (7 : Int32)) / (5 : Int32)) * (5 : Int32)))), .val (.int ((((p2.toUInt32 >>> ((3 : Int32) &&& 31).toUInt32).toInt32) &&& (7 : Int32)) - (((((p2.toUInt32 >>> ((3 : Int32) &&& 31).toUInt32).toInt32) &&& (7 : Int32)) / (5 : Int32)) * (5 : Int32)))), .val (.int y20), .val (.int y21), .val (.int (if (f_bad1 y20 y21 (nar .char (f_ch q0)) (nar .char (f_ch ((q0.toUInt64 >>> ((18 : Int32) &&& 0x3f).toInt64.toUInt64).toInt64))) (nar .char (f_ch q1))) = (0 : Int32) then (if (f_bad2 y20 y21 (nar .char (f_ch ((q0.toUInt64 >>> ((18 : Int32) &&& 0x3f).toInt64.toUInt64).toInt64))) (nar .char (f_ch q1)) (nar .char (f_ch ((q1.toUInt64 >>> ((18 : Int32) &&& 0x3f).toInt64.toUInt64).toInt64)))) = (0 : Int32) then (if (f_bad3 y20 y21 (nar .char (f_ch q1)) (nar .char (f_ch ((q1.toUInt64 >>> ((18 : Int32) &&& 0x3f).toInt64.toUInt64).toInt64)))) = (0 : Int32) then (-1 : Int32) else (3 : Int32)) else (2 : Int32)) else (1 : Int32))), .unset] [(.ref b2)])) _
    refine XS.iconst X36.here hx rfl (hb hby at_134) ?_
    show Steps p.tables e below (T36.setTop (mkF m 135 #[.val (.long q0), .second, .val (.long q1), .second, .val (.int p2), .val (.ref b2), .val (.int ((p2 &&& (7 : Int32)) - (((p2 &&& (7 : Int32)) / (5 : Int32)) * (5 : Int32)))), .val (.int ((((p2.toUInt32 >>> ((3 : Int32) &&& 31).toUInt32).toInt32) &&& (7 : Int32)) - (((((p2.toUInt32 >>> ((3 : Int32) &&& 31).toUInt32).toInt32) &&& (7 : Int32)) / (5 : Int32)) * (5 : Int32)))), .val (.int y20), .val (.int y21), .val (.int (if (f_bad1 y20 y21 (nar .char (f_ch q0)) (nar .char (f_ch ((q0.toUInt64 >>> ((18 : Int32) &&& 0x3f).toInt64.toUInt64).toInt64))) (nar .char (f_ch q1))) = (0 : Int32) then (if (f_bad2 y20 y21 (nar .char (f_ch ((q0.toUInt64 >>> ((18 : Int32) &&& 0x3f).toInt64.toUInt64).toInt64))) (nar .char (f_ch q1)) (nar .char (f_ch ((q1.toUInt64 >>> ((18 : Int32) &&& 0x3f).toInt64.toUInt64).toInt64)))) = (0 : Int32) then (if (f_bad3 y20 y21 (nar .char (f_ch q1)) (nar .char (f_ch ((q1.toUInt64 >>> ((18 : Int32) &&& 0x3f).toInt64.toUInt64).toInt64)))) = (0 : Int32) then (-1 : Int32) else (3 : Int32)) else (2 : Int32)) else (1 : Int32))), .unset] [(.int (0 : Int32)), (.ref b2)])) _
    refine XS.iload X36.here hx rfl (hb hby at_135) rfl ?_
    show Steps p.tables e below (T36.setTop (mkF m 137 #[.val (.long q0), .second, .val (.long q1), .second, .val (.int p2), .val (.ref b2), .val (.int ((p2 &&& (7 : Int32)) - (((p2 &&& (7 : Int32)) / (5 : Int32)) * (5 : Int32)))), .val (.int ((((p2.toUInt32 >>> ((3 : Int32) &&& 31).toUInt32).toInt32) &&& (7 : Int32)) - (((((p2.toUInt32 >>> ((3 : Int32) &&& 31).toUInt32).toInt32) &&& (7 : Int32)) / (5 : Int32)) * (5 : Int32)))), .val (.int y20), .val (.int y21), .val (.int (if (f_bad1 y20 y21 (nar .char (f_ch q0)) (nar .char (f_ch ((q0.toUInt64 >>> ((18 : Int32) &&& 0x3f).toInt64.toUInt64).toInt64))) (nar .char (f_ch q1))) = (0 : Int32) then (if (f_bad2 y20 y21 (nar .char (f_ch ((q0.toUInt64 >>> ((18 : Int32) &&& 0x3f).toInt64.toUInt64).toInt64))) (nar .char (f_ch q1)) (nar .char (f_ch ((q1.toUInt64 >>> ((18 : Int32) &&& 0x3f).toInt64.toUInt64).toInt64)))) = (0 : Int32) then (if (f_bad3 y20 y21 (nar .char (f_ch q1)) (nar .char (f_ch ((q1.toUInt64 >>> ((18 : Int32) &&& 0x3f).toInt64.toUInt64).toInt64)))) = (0 : Int32) then (-1 : Int32) else (3 : Int32)) else (2 : Int32)) else (1 : Int32))), .unset] [(.int y20), (.int (0 : Int32)), (.ref b2)])) _
    refine XS.iload X36.here hx rfl (hb hby at_137) rfl ?_
    exact ht
  obtain ⟨_, _, ⟨T42, L42, kq42, n42⟩, -, X42, ⟨Lc42, hQ42, l42, y42, z42⟩, st42⟩ := Jvm.LawKit.callS X36 hx (y := (⟨"com/example/fieldveil/fieldveil/Utf8FirstUnpairedSurrogatePinLaw", "bad", "([CIII)Z"⟩ : MethodName)) hown (mvT hZ (hw _ (List.mem_of_getElem? (i := 16) rfl))) (mvT hZ (hw _ (List.mem_of_getElem? (i := 17) rfl))) (mvT hZ (hw _ (List.mem_of_getElem? (i := 3) rfl))) (mvT hZ (hw _ (List.mem_of_getElem? (i := 18) rfl))) (by decide) (backOf (W := 0) (rm_bad0 l Z a0 hw [] b2 y20 y21 kc2 (nar .char (f_ch q0)) (nar .char (f_ch ((q0.toUInt64 >>> ((18 : Int32) &&& 0x3f).toInt64.toUInt64).toInt64))) (nar .char (f_ch q1)) (nar .char (f_ch ((q1.toUInt64 >>> ((18 : Int32) &&& 0x3f).toInt64.toUInt64).toInt64))) h14 n0 Z14 V14_b2 (hlo : ¬ (y20 < (0 : Int32))) (hhi : ¬ ((4 : Int32) < y21))) hZ (hw _ (List.mem_of_getElem? (i := 18) rfl)) (hw _ (List.mem_of_getElem? (i := 3) rfl)) (by decide) (by decide)) (g := (mkF m 139 #[.val (.long q0), .second, .val (.long q1), .second, .val (.int p2), .val (.ref b2), .val (.int ((p2 &&& (7 : Int32)) - (((p2 &&& (7 : Int32)) / (5 : Int32)) * (5 : Int32)))), .val (.int ((((p2.toUInt32 >>> ((3 : Int32) &&& 31).toUInt32).toInt32) &&& (7 : Int32)) - (((((p2.toUInt32 >>> ((3 : Int32) &&& 31).toUInt32).toInt32) &&& (7 : Int32)) / (5 : Int32)) * (5 : Int32)))), .val (.int y20), .val (.int y21), .val (.int (if (f_bad1 y20 y21 (nar .char (f_ch q0)) (nar .char (f_ch ((q0.toUInt64 >>> ((18 : Int32) &&& 0x3f).toInt64.toUInt64).toInt64))) (nar .char (f_ch q1))) = (0 : Int32) then (if (f_bad2 y20 y21 (nar .char (f_ch ((q0.toUInt64 >>> ((18 : Int32) &&& 0x3f).toInt64.toUInt64).toInt64))) (nar .char (f_ch q1)) (nar .char (f_ch ((q1.toUInt64 >>> ((18 : Int32) &&& 0x3f).toInt64.toUInt64).toInt64)))) = (0 : Int32) then (if (f_bad3 y20 y21 (nar .char (f_ch q1)) (nar .char (f_ch ((q1.toUInt64 >>> ((18 : Int32) &&& 0x3f).toInt64.toUInt64).toInt64)))) = (0 : Int32) then (-1 : Int32) else (3 : Int32)) else (2 : Int32)) else (1 : Int32))), .unset] [(.int y21), (.int y20), (.int (0 : Int32)), (.ref b2)])) rfl (by rw [hml]; rfl) (argsL := [(.ref b2), (.int (0 : Int32)), (.int y20), (.int y21)]) (rest := []) (lenOf pd_3 rfl) rfl (by show 2 * 0 + _ ≤ _; exact Nat.le_of_eq rfl) (hb hby at_139) (fun _ _ => ⟨rfl, eq36, (by decide : 1 + 0 ≤ _), (by decide : 4 + 0 ≤ _)⟩)
  dsimp only [Pt.U, Pt.locs, Pt.cells, Pt.slots] at X42 l42 y42 z42 st42 hQ42
  subst l42 y42 z42
  obtain ⟨rfl, N42q, eq42⟩ := hQ42
  have N42 := Fr.app N36 N42q
  have k42 : Go p.tables e below (T36.setTop (mkF m 139 #[.val (.long q0), .second, .val (.long q1), .second, .val (.int p2), .val (.ref b2), .val (.int ((p2 &&& (7 : Int32)) - (((p2 &&& (7 : Int32)) / (5 : Int32)) * (5 : Int32)))), .val (.int ((((p2.toUInt32 >>> ((3 : Int32) &&& 31).toUInt32).toInt32) &&& (7 : Int32)) - (((((p2.toUInt32 >>> ((3 : Int32) &&& 31).toUInt32).toInt32) &&& (7 : Int32)) / (5 : Int32)) * (5 : Int32)))), .val (.int y20), .val (.int y21), .val (.int (if (f_bad1 y20 y21 (nar .char (f_ch q0)) (nar .char (f_ch ((q0.toUInt64 >>> ((18 : Int32) &&& 0x3f).toInt64.toUInt64).toInt64))) (nar .char (f_ch q1))) = (0 : Int32) then (if (f_bad2 y20 y21 (nar .char (f_ch ((q0.toUInt64 >>> ((18 : Int32) &&& 0x3f).toInt64.toUInt64).toInt64))) (nar .char (f_ch q1)) (nar .char (f_ch ((q1.toUInt64 >>> ((18 : Int32) &&& 0x3f).toInt64.toUInt64).toInt64)))) = (0 : Int32) then (if (f_bad3 y20 y21 (nar .char (f_ch q1)) (nar .char (f_ch ((q1.toUInt64 >>> ((18 : Int32) &&& 0x3f).toInt64.toUInt64).toInt64)))) = (0 : Int32) then (-1 : Int32) else (3 : Int32)) else (2 : Int32)) else (1 : Int32))), .unset] [(.int y21), (.int y20), (.int (0 : Int32)), (.ref b2)])) (T42.setTop (mkF m 142 #[.val (.long q0), .second, .val (.long q1), .second, .val (.int p2), .val (.ref b2), .val (.int ((p2 &&& (7 : Int32)) - (((p2 &&& (7 : Int32)) / (5 : Int32)) * (5 : Int32)))), .val (.int ((((p2.toUInt32 >>> ((3 : Int32) &&& 31).toUInt32).toInt32) &&& (7 : Int32)) - (((((p2.toUInt32 >>> ((3 : Int32) &&& 31).toUInt32).toInt32) &&& (7 : Int32)) / (5 : Int32)) * (5 : Int32)))), .val (.int y20), .val (.int y21), .val (.int (if (f_bad1 y20 y21 (nar .char (f_ch q0)) (nar .char (f_ch ((q0.toUInt64 >>> ((18 : Int32) &&& 0x3f).toInt64.toUInt64).toInt64))) (nar .char (f_ch q1))) = (0 : Int32) then (if (f_bad2 y20 y21 (nar .char (f_ch ((q0.toUInt64 >>> ((18 : Int32) &&& 0x3f).toInt64.toUInt64).toInt64))) (nar .char (f_ch q1)) (nar .char (f_ch ((q1.toUInt64 >>> ((18 : Int32) &&& 0x3f).toInt64.toUInt64).toInt64)))) = (0 : Int32) then (if (f_bad3 y20 y21 (nar .char (f_ch q1)) (nar .char (f_ch ((q1.toUInt64 >>> ((18 : Int32) &&& 0x3f).toInt64.toUInt64).toInt64)))) = (0 : Int32) then (-1 : Int32) else (3 : Int32)) else (2 : Int32)) else (1 : Int32))), .unset] [(.int (f_bad0 y20 y21 (nar .char (f_ch q0)) (nar .char (f_ch ((q0.toUInt64 >>> ((18 : Int32) &&& 0x3f).toInt64.toUInt64).toInt64)))))])) := st42
  have k43 : Go p.tables e below (T42.setTop (mkF m 142 #[.val (.long q0), .second, .val (.long q1), .second, .val (.int p2), .val (.ref b2), .val (.int ((p2 &&& (7 : Int32)) - (((p2 &&& (7 : Int32)) / (5 : Int32)) * (5 : Int32)))), .val (.int ((((p2.toUInt32 >>> ((3 : Int32) &&& 31).toUInt32).toInt32) &&& (7 : Int32)) - (((((p2.toUInt32 >>> ((3 : Int32) &&& 31).toUInt32).toInt32) &&& (7 : Int32)) / (5 : Int32)) * (5 : Int32)))), .val (.int y20), .val (.int y21), .val (.int (if (f_bad1 y20 y21 (nar .char (f_ch q0)) (nar .char (f_ch ((q0.toUInt64 >>> ((18 : Int32) &&& 0x3f).toInt64.toUInt64).toInt64))) (nar .char (f_ch q1))) = (0 : Int32) then (if (f_bad2 y20 y21 (nar .char (f_ch ((q0.toUInt64 >>> ((18 : Int32) &&& 0x3f).toInt64.toUInt64).toInt64))) (nar .char (f_ch q1)) (nar .char (f_ch ((q1.toUInt64 >>> ((18 : Int32) &&& 0x3f).toInt64.toUInt64).toInt64)))) = (0 : Int32) then (if (f_bad3 y20 y21 (nar .char (f_ch q1)) (nar .char (f_ch ((q1.toUInt64 >>> ((18 : Int32) &&& 0x3f).toInt64.toUInt64).toInt64)))) = (0 : Int32) then (-1 : Int32) else (3 : Int32)) else (2 : Int32)) else (1 : Int32))), .unset] [(.int (f_bad0 y20 y21 (nar .char (f_ch q0)) (nar .char (f_ch ((q0.toUInt64 >>> ((18 : Int32) &&& 0x3f).toInt64.toUInt64).toInt64)))))])) (T42.setTop (mkF m 148 #[.val (.long q0), .second, .val (.long q1), .second, .val (.int p2), .val (.ref b2), .val (.int ((p2 &&& (7 : Int32)) - (((p2 &&& (7 : Int32)) / (5 : Int32)) * (5 : Int32)))), .val (.int ((((p2.toUInt32 >>> ((3 : Int32) &&& 31).toUInt32).toInt32) &&& (7 : Int32)) - (((((p2.toUInt32 >>> ((3 : Int32) &&& 31).toUInt32).toInt32) &&& (7 : Int32)) / (5 : Int32)) * (5 : Int32)))), .val (.int y20), .val (.int y21), .val (.int (if (f_bad0 y20 y21 (nar .char (f_ch q0)) (nar .char (f_ch ((q0.toUInt64 >>> ((18 : Int32) &&& 0x3f).toInt64.toUInt64).toInt64)))) = (0 : Int32) then (if (f_bad1 y20 y21 (nar .char (f_ch q0)) (nar .char (f_ch ((q0.toUInt64 >>> ((18 : Int32) &&& 0x3f).toInt64.toUInt64).toInt64))) (nar .char (f_ch q1))) = (0 : Int32) then (if (f_bad2 y20 y21 (nar .char (f_ch ((q0.toUInt64 >>> ((18 : Int32) &&& 0x3f).toInt64.toUInt64).toInt64))) (nar .char (f_ch q1)) (nar .char (f_ch ((q1.toUInt64 >>> ((18 : Int32) &&& 0x3f).toInt64.toUInt64).toInt64)))) = (0 : Int32) then (if (f_bad3 y20 y21 (nar .char (f_ch q1)) (nar .char (f_ch ((q1.toUInt64 >>> ((18 : Int32) &&& 0x3f).toInt64.toUInt64).toInt64)))) = (0 : Int32) then (-1 : Int32) else (3 : Int32)) else (2 : Int32)) else (1 : Int32)) else (0 : Int32))), .unset] [])) := by
    by_cases hc44 : (f_bad0 y20 y21 (nar .char (f_ch q0)) (nar .char (f_ch ((q0.toUInt64 >>> ((18 : Int32) &&& 0x3f).toInt64.toUInt64).toInt64)))) = (0 : Int32)
    · have k45 : Go p.tables e below (T42.setTop (mkF m 142 #[.val (.long q0), .second, .val (.long q1), .second, .val (.int p2), .val (.ref b2), .val (.int ((p2 &&& (7 : Int32)) - (((p2 &&& (7 : Int32)) / (5 : Int32)) * (5 : Int32)))), .val (.int ((((p2.toUInt32 >>> ((3 : Int32) &&& 31).toUInt32).toInt32) &&& (7 : Int32)) - (((((p2.toUInt32 >>> ((3 : Int32) &&& 31).toUInt32).toInt32) &&& (7 : Int32)) / (5 : Int32)) * (5 : Int32)))), .val (.int y20), .val (.int y21), .val (.int (if (f_bad1 y20 y21 (nar .char (f_ch q0)) (nar .char (f_ch ((q0.toUInt64 >>> ((18 : Int32) &&& 0x3f).toInt64.toUInt64).toInt64))) (nar .char (f_ch q1))) = (0 : Int32) then (if (f_bad2 y20 y21 (nar .char (f_ch ((q0.toUInt64 >>> ((18 : Int32) &&& 0x3f).toInt64.toUInt64).toInt64))) (nar .char (f_ch q1)) (nar .char (f_ch ((q1.toUInt64 >>> ((18 : Int32) &&& 0x3f).toInt64.toUInt64).toInt64)))) = (0 : Int32) then (if (f_bad3 y20 y21 (nar .char (f_ch q1)) (nar .char (f_ch ((q1.toUInt64 >>> ((18 : Int32) &&& 0x3f).toInt64.toUInt64).toInt64)))) = (0 : Int32) then (-1 : Int32) else (3 : Int32)) else (2 : Int32)) else (1 : Int32))), .unset] [(.int (f_bad0 y20 y21 (nar .char (f_ch q0)) (nar .char (f_ch ((q0.toUInt64 >>> ((18 : Int32) &&& 0x3f).toInt64.toUInt64).toInt64)))))])) (T42.setTop (mkF m 148 #[.val (.long q0), .second, .val (.long q1), .second, .val (.int p2), .val (.ref b2), .val (.int ((p2 &&& (7 : Int32)) - (((p2 &&& (7 : Int32)) / (5 : Int32)) * (5 : Int32)))), .val (.int ((((p2.toUInt32 >>> ((3 : Int32) &&& 31).toUInt32).toInt32) &&& (7 : Int32)) - (((((p2.toUInt32 >>> ((3 : Int32) &&& 31).toUInt32).toInt32) &&& (7 : Int32)) / (5 : Int32)) * (5 : Int32)))), .val (.int y20), .val (.int y21), .val (.int (if (f_bad1 y20 y21 (nar .char (f_ch q0)) (nar .char (f_ch ((q0.toUInt64 >>> ((18 : Int32) &&& 0x3f).toInt64.toUInt64).toInt64))) (nar .char (f_ch q1))) = (0 : Int32) then (if (f_bad2 y20 y21 (nar .char (f_ch ((q0.toUInt64 >>> ((18 : Int32) &&& 0x3f).toInt64.toUInt64).toInt64))) (nar .char (f_ch q1)) (nar .char (f_ch ((q1.toUInt64 >>> ((18 : Int32) &&& 0x3f).toInt64.toUInt64).toInt64)))) = (0 : Int32) then (if (f_bad3 y20 y21 (nar .char (f_ch q1)) (nar .char (f_ch ((q1.toUInt64 >>> ((18 : Int32) &&& 0x3f).toInt64.toUInt64).toInt64)))) = (0 : Int32) then (-1 : Int32) else (3 : Int32)) else (2 : Int32)) else (1 : Int32))), .unset] [])) := by
        intro t ht
        refine XS.ifYes X42.here hx rfl (pc0 := 142) (pc' := 148) rfl (hb hby at_142) rfl ((if0 _ _).trans (teq hc44).1) (by decide) (by decide) ?_
        exact ht
      have kk := k45
      simpa only [if_pos hc44] using kk
    · have k46 : Go p.tables e below (T42.setTop (mkF m 142 #[.val (.long q0), .second, .val (.long q1), .second, .val (.int p2), .val (.ref b2), .val (.int ((p2 &&& (7 : Int32)) - (((p2 &&& (7 : Int32)) / (5 : Int32)) * (5 : Int32)))), .val (.int ((((p2.toUInt32 >>> ((3 : Int32) &&& 31).toUInt32).toInt32) &&& (7 : Int32)) - (((((p2.toUInt32 >>> ((3 : Int32) &&& 31).toUInt32).toInt32) &&& (7 : Int32)) / (5 : Int32)) * (5 : Int32)))), .val (.int y20), .val (.int y21), .val (.int (if (f_bad1 y20 y21 (nar .char (f_ch q0)) (nar .char (f_ch ((q0.toUInt64 >>> ((18 : Int32) &&& 0x3f).toInt64.toUInt64).toInt64))) (nar .char (f_ch q1))) = (0 : Int32) then (if (f_bad2 y20 y21 (nar .char (f_ch ((q0.toUInt64 >>> ((18 : Int32) &&& 0x3f).toInt64.toUInt64).toInt64))) (nar .char (f_ch q1)) (nar .char (f_ch ((q1.toUInt64 >>> ((18 : Int32) &&& 0x3f).toInt64.toUInt64).toInt64)))) = (0 : Int32) then (if (f_bad3 y20 y21 (nar .char (f_ch q1)) (nar .char (f_ch ((q1.toUInt64 >>> ((18 : Int32) &&& 0x3f).toInt64.toUInt64).toInt64)))) = (0 : Int32) then (-1 : Int32) else (3 : Int32)) else (2 : Int32)) else (1 : Int32))), .unset] [(.int (f_bad0 y20 y21 (nar .char (f_ch q0)) (nar .char (f_ch ((q0.toUInt64 >>> ((18 : Int32) &&& 0x3f).toInt64.toUInt64).toInt64)))))])) (T42.setTop (mkF m 148 #[.val (.long q0), .second, .val (.long q1), .second, .val (.int p2), .val (.ref b2), .val (.int ((p2 &&& (7 : Int32)) - (((p2 &&& (7 : Int32)) / (5 : Int32)) * (5 : Int32)))), .val (.int ((((p2.toUInt32 >>> ((3 : Int32) &&& 31).toUInt32).toInt32) &&& (7 : Int32)) - (((((p2.toUInt32 >>> ((3 : Int32) &&& 31).toUInt32).toInt32) &&& (7 : Int32)) / (5 : Int32)) * (5 : Int32)))), .val (.int y20), .val (.int y21), .val (.int (0 : Int32)), .unset] [])) := by
        intro t ht
        refine XS.ifNo X42.here hx rfl (hb hby at_142) rfl ((if0 _ _).trans (feq hc44).1) ?_
        show Steps p.tables e below (T42.setTop (mkF m 145 #[.val (.long q0), .second, .val (.long q1), .second, .val (.int p2), .val (.ref b2), .val (.int ((p2 &&& (7 : Int32)) - (((p2 &&& (7 : Int32)) / (5 : Int32)) * (5 : Int32)))), .val (.int ((((p2.toUInt32 >>> ((3 : Int32) &&& 31).toUInt32).toInt32) &&& (7 : Int32)) - (((((p2.toUInt32 >>> ((3 : Int32) &&& 31).toUInt32).toInt32) &&& (7 : Int32)) / (5 : Int32)) * (5 : Int32)))), .val (.int y20), .val (.int y21), .val (.int (if (f_bad1 y20 y21 (nar .char (f_ch q0)) (nar .char (f_ch ((q0.toUInt64 >>> ((18 : Int32) &&& 0x3f).toInt64.toUInt64).toInt64))) (nar .char (f_ch q1))) = (0 : Int32) then (if (f_bad2 y20 y21 (nar .char (f_ch ((q0.toUInt64 >>> ((18 : Int32) &&& 0x3f).toInt64.toUInt64).toInt64))) (nar .char (f_ch q1)) (nar .char (f_ch ((q1.toUInt64 >>> ((18 : Int32) &&& 0x3f).toInt64.toUInt64).toInt64)))) = (0 : Int32) then (if (f_bad3 y20 y21 (nar .char (f_ch q1)) (nar .char (f_ch ((q1.toUInt64 >>> ((18 : Int32) &&& 0x3f).toInt64.toUInt64).toInt64)))) = (0 : Int32) then (-1 : Int32) else (3 : Int32)) else (2 : Int32)) else (1 : Int32))), .unset] [])) _
        refine XS.iconst X42.here hx rfl (hb hby at_145) ?_
        show Steps p.tables e below (T42.setTop (mkF m 146 #[.val (.long q0), .second, .val (.long q1), .second, .val (.int p2), .val (.ref b2), .val (.int ((p2 &&& (7 : Int32)) - (((p2 &&& (7 : Int32)) / (5 : Int32)) * (5 : Int32)))), .val (.int ((((p2.toUInt32 >>> ((3 : Int32) &&& 31).toUInt32).toInt32) &&& (7 : Int32)) - (((((p2.toUInt32 >>> ((3 : Int32) &&& 31).toUInt32).toInt32) &&& (7 : Int32)) / (5 : Int32)) * (5 : Int32)))), .val (.int y20), .val (.int y21), .val (.int (if (f_bad1 y20 y21 (nar .char (f_ch q0)) (nar .char (f_ch ((q0.toUInt64 >>> ((18 : Int32) &&& 0x3f).toInt64.toUInt64).toInt64))) (nar .char (f_ch q1))) = (0 : Int32) then (if (f_bad2 y20 y21 (nar .char (f_ch ((q0.toUInt64 >>> ((18 : Int32) &&& 0x3f).toInt64.toUInt64).toInt64))) (nar .char (f_ch q1)) (nar .char (f_ch ((q1.toUInt64 >>> ((18 : Int32) &&& 0x3f).toInt64.toUInt64).toInt64)))) = (0 : Int32) then (if (f_bad3 y20 y21 (nar .char (f_ch q1)) (nar .char (f_ch ((q1.toUInt64 >>> ((18 : Int32) &&& 0x3f).toInt64.toUInt64).toInt64)))) = (0 : Int32) then (-1 : Int32) else (3 : Int32)) else (2 : Int32)) else (1 : Int32))), .unset] [(.int (0 : Int32))])) _
        refine XS.istore X42.here hx rfl (hb hby at_146) rfl (l' := #[.val (.long q0), .second, .val (.long q1), .second, .val (.int p2), .val (.ref b2), .val (.int ((p2 &&& (7 : Int32)) - (((p2 &&& (7 : Int32)) / (5 : Int32)) * (5 : Int32)))), .val (.int ((((p2.toUInt32 >>> ((3 : Int32) &&& 31).toUInt32).toInt32) &&& (7 : Int32)) - (((((p2.toUInt32 >>> ((3 : Int32) &&& 31).toUInt32).toInt32) &&& (7 : Int32)) / (5 : Int32)) * (5 : Int32)))), .val (.int y20), .val (.int y21), .val (.int (0 : Int32)), .unset]) rfl ?_
        exact ht
      have kk := k46
      simpa only [if_neg hc44] using kk
  have k47 : Go p.tables e below (T42.setTop (mkF m 148 #[.val (.long q0), .second, .val (.long q1), .second, .val (.int p2), .val (.ref b2), .val (.int ((p2 &&& (7 : Int32)) - (((p2 &&& (7 : Int32)) / (5 : Int32)) * (5 : Int32)))), .val (.int ((((p2.toUInt32 >>> ((3 : Int32) &&& 31).toUInt32).toInt32) &&& (7 : Int32)) - (((((p2.toUInt32 >>> ((3 : Int32) &&& 31).toUInt32).toInt32) &&& (7 : Int32)) / (5 : Int32)) * (5 : Int32)))), .val (.int y20), .val (.int y21), .val (.int (if (f_bad0 y20 y21 (nar .char (f_ch q0)) (nar .char (f_ch ((q0.toUInt64 >>> ((18 : Int32) &&& 0x3f).toInt64.toUInt64).toInt64)))) = (0 : Int32) then (if (f_bad1 y20 y21 (nar .char (f_ch q0)) (nar .char (f_ch ((q0.toUInt64 >>> ((18 : Int32) &&& 0x3f).toInt64.toUInt64).toInt64))) (nar .char (f_ch q1))) = (0 : Int32) then (if (f_bad2 y20 y21 (nar .char (f_ch ((q0.toUInt64 >>> ((18 : Int32) &&& 0x3f).toInt64.toUInt64).toInt64))) (nar .char (f_ch q1)) (nar .char (f_ch ((q1.toUInt64 >>> ((18 : Int32) &&& 0x3f).toInt64.toUInt64).toInt64)))) = (0 : Int32) then (if (f_bad3 y20 y21 (nar .char (f_ch q1)) (nar .char (f_ch ((q1.toUInt64 >>> ((18 : Int32) &&& 0x3f).toInt64.toUInt64).toInt64)))) = (0 : Int32) then (-1 : Int32) else (3 : Int32)) else (2 : Int32)) else (1 : Int32)) else (0 : Int32))), .unset] [])) (T42.setTop (mkF m 154 #[.val (.long q0), .second, .val (.long q1), .second, .val (.int p2), .val (.ref b2), .val (.int ((p2 &&& (7 : Int32)) - (((p2 &&& (7 : Int32)) / (5 : Int32)) * (5 : Int32)))), .val (.int ((((p2.toUInt32 >>> ((3 : Int32) &&& 31).toUInt32).toInt32) &&& (7 : Int32)) - (((((p2.toUInt32 >>> ((3 : Int32) &&& 31).toUInt32).toInt32) &&& (7 : Int32)) / (5 : Int32)) * (5 : Int32)))), .val (.int y20), .val (.int y21), .val (.int (if (f_bad0 y20 y21 (nar .char (f_ch q0)) (nar .char (f_ch ((q0.toUInt64 >>> ((18 : Int32) &&& 0x3f).toInt64.toUInt64).toInt64)))) = (0 : Int32) then (if (f_bad1 y20 y21 (nar .char (f_ch q0)) (nar .char (f_ch ((q0.toUInt64 >>> ((18 : Int32) &&& 0x3f).toInt64.toUInt64).toInt64))) (nar .char (f_ch q1))) = (0 : Int32) then (if (f_bad2 y20 y21 (nar .char (f_ch ((q0.toUInt64 >>> ((18 : Int32) &&& 0x3f).toInt64.toUInt64).toInt64))) (nar .char (f_ch q1)) (nar .char (f_ch ((q1.toUInt64 >>> ((18 : Int32) &&& 0x3f).toInt64.toUInt64).toInt64)))) = (0 : Int32) then (if (f_bad3 y20 y21 (nar .char (f_ch q1)) (nar .char (f_ch ((q1.toUInt64 >>> ((18 : Int32) &&& 0x3f).toInt64.toUInt64).toInt64)))) = (0 : Int32) then (-1 : Int32) else (3 : Int32)) else (2 : Int32)) else (1 : Int32)) else (0 : Int32))), .unset] [(.int y21), (.int y20), (.ref b2)])) := by
    intro t ht
    refine XS.aload X42.here hx rfl (hb hby at_148) rfl rfl ?_
    show Steps p.tables e below (T42.setTop (mkF m 150 #[.val (.long q0), .second, .val (.long q1), .second, .val (.int p2), .val (.ref b2), .val (.int ((p2 &&& (7 : Int32)) - (((p2 &&& (7 : Int32)) / (5 : Int32)) * (5 : Int32)))), .val (.int ((((p2.toUInt32 >>> ((3 : Int32) &&& 31).toUInt32).toInt32) &&& (7 : Int32)) - (((((p2.toUInt32 >>> ((3 : Int32) &&& 31).toUInt32).toInt32) &&& (7 : Int32)) / (5 : Int32)) * (5 : Int32)))), .val (.int y20), .val (.int y21), .val (.int (if (f_bad0 y20 y21 (nar .char (f_ch q0)) (nar .char (f_ch ((q0.toUInt64 >>> ((18 : Int32) &&& 0x3f).toInt64.toUInt64).toInt64)))) = (0 : Int32) then (if (f_bad1 y20 y21 (nar .char (f_ch q0)) (nar .char (f_ch ((q0.toUInt64 >>> ((18 : Int32) &&& 0x3f).toInt64.toUInt64).toInt64))) (nar .char (f_ch q1))) = (0 : Int32) then (if (f_bad2 y20 y21 (nar .char (f_ch ((q0.toUInt64 >>> ((18 : Int32) &&& 0x3f).toInt64.toUInt64).toInt64))) (nar .char (f_ch q1)) (nar .char (f_ch ((q1.toUInt64 >>> ((18 : Int32) &&& 0x3f).toInt64.toUInt64).toInt64)))) = (0 : Int32) then (if (f_bad3 y20 y21 (nar .char (f_ch q1)) (nar .char (f_ch ((q1.toUInt64 >>> ((18 : Int32) &&& 0x3f).toInt64.toUInt64).toInt64)))) = (0 : Int32) then (-1 : Int32) else (3 : Int32)) else (2 : Int32)) else (1 : Int32)) else (0 : Int32))), .unset] [(.ref b2)])) _
    refine XS.iload X42.here hx rfl (hb hby at_150) rfl ?_
    show Steps p.tables e below (T42.setTop (mkF m 152 #[.val (.long q0), .second, .val (.long q1), .second, .val (.int p2), .val (.ref b2), .val (.int ((p2 &&& (7 : Int32)) - (((p2 &&& (7 : Int32)) / (5 : Int32)) * (5 : Int32)))), .val (.int ((((p2.toUInt32 >>> ((3 : Int32) &&& 31).toUInt32).toInt32) &&& (7 : Int32)) - (((((p2.toUInt32 >>> ((3 : Int32) &&& 31).toUInt32).toInt32) &&& (7 : Int32)) / (5 : Int32)) * (5 : Int32)))), .val (.int y20), .val (.int y21), .val (.int (if (f_bad0 y20 y21 (nar .char (f_ch q0)) (nar .char (f_ch ((q0.toUInt64 >>> ((18 : Int32) &&& 0x3f).toInt64.toUInt64).toInt64)))) = (0 : Int32) then (if (f_bad1 y20 y21 (nar .char (f_ch q0)) (nar .char (f_ch ((q0.toUInt64 >>> ((18 : Int32) &&& 0x3f).toInt64.toUInt64).toInt64))) (nar .char (f_ch q1))) = (0 : Int32) then (if (f_bad2 y20 y21 (nar .char (f_ch ((q0.toUInt64 >>> ((18 : Int32) &&& 0x3f).toInt64.toUInt64).toInt64))) (nar .char (f_ch q1)) (nar .char (f_ch ((q1.toUInt64 >>> ((18 : Int32) &&& 0x3f).toInt64.toUInt64).toInt64)))) = (0 : Int32) then (if (f_bad3 y20 y21 (nar .char (f_ch q1)) (nar .char (f_ch ((q1.toUInt64 >>> ((18 : Int32) &&& 0x3f).toInt64.toUInt64).toInt64)))) = (0 : Int32) then (-1 : Int32) else (3 : Int32)) else (2 : Int32)) else (1 : Int32)) else (0 : Int32))), .unset] [(.int y20), (.ref b2)])) _
    refine XS.iload X42.here hx rfl (hb hby at_152) rfl ?_
    exact ht
  obtain ⟨_, _, ⟨T48, L48, kq48, n48⟩, -, X48, ⟨Lc48, hQ48, l48, y48, z48⟩, st48⟩ := Jvm.LawKit.callS X42 hx (y := (⟨"com/example/fieldveil/fieldveil/Utf8", "firstUnpairedSurrogate", "([CII)I"⟩ : MethodName)) hown (mvT hZ (hw _ (List.mem_of_getElem? (i := 19) rfl))) (mvT hZ (hw _ (List.mem_of_getElem? (i := 20) rfl))) (mvT hZ (hw _ (List.mem_of_getElem? (i := 21) rfl))) (mvT hZ (hw _ (List.mem_of_getElem? (i := 22) rfl))) (by decide) (backOf (W := 0) (rm_first l Z a0 hw [] b2 y20 y21 kc2 (nar .char (f_ch q0)) (nar .char (f_ch ((q0.toUInt64 >>> ((18 : Int32) &&& 0x3f).toInt64.toUInt64).toInt64))) (nar .char (f_ch q1)) (nar .char (f_ch ((q1.toUInt64 >>> ((18 : Int32) &&& 0x3f).toInt64.toUInt64).toInt64))) h14 n0 Z14 V14_b2 (hlo : ¬ (y20 < (0 : Int32))) (hmi : ¬ ((4 : Int32) < y20)) (hhi : ¬ ((4 : Int32) < y21))) hZ (hw _ (List.mem_of_getElem? (i := 22) rfl)) (hw _ (List.mem_of_getElem? (i := 21) rfl)) (by decide) (by decide)) (g := (mkF m 154 #[.val (.long q0), .second, .val (.long q1), .second, .val (.int p2), .val (.ref b2), .val (.int ((p2 &&& (7 : Int32)) - (((p2 &&& (7 : Int32)) / (5 : Int32)) * (5 : Int32)))), .val (.int ((((p2.toUInt32 >>> ((3 : Int32) &&& 31).toUInt32).toInt32) &&& (7 : Int32)) - (((((p2.toUInt32 >>> ((3 : Int32) &&& 31).toUInt32).toInt32) &&& (7 : Int32)) / (5 : Int32)) * (5 : Int32)))), .val (.int y20), .val (.int y21), .val (.int (if (f_bad0 y20 y21 (nar .char (f_ch q0)) (nar .char (f_ch ((q0.toUInt64 >>> ((18 : Int32) &&& 0x3f).toInt64.toUInt64).toInt64)))) = (0 : Int32) then (if (f_bad1 y20 y21 (nar .char (f_ch q0)) (nar .char (f_ch ((q0.toUInt64 >>> ((18 : Int32) &&& 0x3f).toInt64.toUInt64).toInt64))) (nar .char (f_ch q1))) = (0 : Int32) then (if (f_bad2 y20 y21 (nar .char (f_ch ((q0.toUInt64 >>> ((18 : Int32) &&& 0x3f).toInt64.toUInt64).toInt64))) (nar .char (f_ch q1)) (nar .char (f_ch ((q1.toUInt64 >>> ((18 : Int32) &&& 0x3f).toInt64.toUInt64).toInt64)))) = (0 : Int32) then (if (f_bad3 y20 y21 (nar .char (f_ch q1)) (nar .char (f_ch ((q1.toUInt64 >>> ((18 : Int32) &&& 0x3f).toInt64.toUInt64).toInt64)))) = (0 : Int32) then (-1 : Int32) else (3 : Int32)) else (2 : Int32)) else (1 : Int32)) else (0 : Int32))), .unset] [(.int y21), (.int y20), (.ref b2)])) rfl (by rw [hml]; rfl) (argsL := [(.ref b2), (.int y20), (.int y21)]) (rest := []) (lenOf pd_4 rfl) rfl (by show 2 * 0 + _ ≤ _; exact Nat.le_of_eq rfl) (hb hby at_154) (fun _ _ => ⟨rfl, eq42, (by decide : 1 + 0 ≤ _), (by decide : 4 + 0 ≤ _)⟩)
  dsimp only [Pt.U, Pt.locs, Pt.cells, Pt.slots] at X48 l48 y48 z48 st48 hQ48
  subst l48 y48 z48
  obtain ⟨rfl, N48q, eq48⟩ := hQ48
  have N48 := Fr.app N42 N48q
  have k48 : Go p.tables e below (T42.setTop (mkF m 154 #[.val (.long q0), .second, .val (.long q1), .second, .val (.int p2), .val (.ref b2), .val (.int ((p2 &&& (7 : Int32)) - (((p2 &&& (7 : Int32)) / (5 : Int32)) * (5 : Int32)))), .val (.int ((((p2.toUInt32 >>> ((3 : Int32) &&& 31).toUInt32).toInt32) &&& (7 : Int32)) - (((((p2.toUInt32 >>> ((3 : Int32) &&& 31).toUInt32).toInt32) &&& (7 : Int32)) / (5 : Int32)) * (5 : Int32)))), .val (.int y20), .val (.int y21), .val (.int (if (f_bad0 y20 y21 (nar .char (f_ch q0)) (nar .char (f_ch ((q0.toUInt64 >>> ((18 : Int32) &&& 0x3f).toInt64.toUInt64).toInt64)))) = (0 : Int32) then (if (f_bad1 y20 y21 (nar .char (f_ch q0)) (nar .char (f_ch ((q0.toUInt64 >>> ((18 : Int32) &&& 0x3f).toInt64.toUInt64).toInt64))) (nar .char (f_ch q1))) = (0 : Int32) then (if (f_bad2 y20 y21 (nar .char (f_ch ((q0.toUInt64 >>> ((18 : Int32) &&& 0x3f).toInt64.toUInt64).toInt64))) (nar .char (f_ch q1)) (nar .char (f_ch ((q1.toUInt64 >>> ((18 : Int32) &&& 0x3f).toInt64.toUInt64).toInt64)))) = (0 : Int32) then (if (f_bad3 y20 y21 (nar .char (f_ch q1)) (nar .char (f_ch ((q1.toUInt64 >>> ((18 : Int32) &&& 0x3f).toInt64.toUInt64).toInt64)))) = (0 : Int32) then (-1 : Int32) else (3 : Int32)) else (2 : Int32)) else (1 : Int32)) else (0 : Int32))), .unset] [(.int y21), (.int y20), (.ref b2)])) (T48.setTop (mkF m 157 #[.val (.long q0), .second, .val (.long q1), .second, .val (.int p2), .val (.ref b2), .val (.int ((p2 &&& (7 : Int32)) - (((p2 &&& (7 : Int32)) / (5 : Int32)) * (5 : Int32)))), .val (.int ((((p2.toUInt32 >>> ((3 : Int32) &&& 31).toUInt32).toInt32) &&& (7 : Int32)) - (((((p2.toUInt32 >>> ((3 : Int32) &&& 31).toUInt32).toInt32) &&& (7 : Int32)) / (5 : Int32)) * (5 : Int32)))), .val (.int y20), .val (.int y21), .val (.int (if (f_bad0 y20 y21 (nar .char (f_ch q0)) (nar .char (f_ch ((q0.toUInt64 >>> ((18 : Int32) &&& 0x3f).toInt64.toUInt64).toInt64)))) = (0 : Int32) then (if (f_bad1 y20 y21 (nar .char (f_ch q0)) (nar .char (f_ch ((q0.toUInt64 >>> ((18 : Int32) &&& 0x3f).toInt64.toUInt64).toInt64))) (nar .char (f_ch q1))) = (0 : Int32) then (if (f_bad2 y20 y21 (nar .char (f_ch ((q0.toUInt64 >>> ((18 : Int32) &&& 0x3f).toInt64.toUInt64).toInt64))) (nar .char (f_ch q1)) (nar .char (f_ch ((q1.toUInt64 >>> ((18 : Int32) &&& 0x3f).toInt64.toUInt64).toInt64)))) = (0 : Int32) then (if (f_bad3 y20 y21 (nar .char (f_ch q1)) (nar .char (f_ch ((q1.toUInt64 >>> ((18 : Int32) &&& 0x3f).toInt64.toUInt64).toInt64)))) = (0 : Int32) then (-1 : Int32) else (3 : Int32)) else (2 : Int32)) else (1 : Int32)) else (0 : Int32))), .unset] [(.int (f_first (nar .char (f_ch q0)) (nar .char (f_ch ((q0.toUInt64 >>> ((18 : Int32) &&& 0x3f).toInt64.toUInt64).toInt64))) (nar .char (f_ch q1)) (nar .char (f_ch ((q1.toUInt64 >>> ((18 : Int32) &&& 0x3f).toInt64.toUInt64).toInt64))) y20 y21))])) := st48
  have k49 : Go p.tables e below (T48.setTop (mkF m 157 #[.val (.long q0), .second, .val (.long q1), .second, .val (.int p2), .val (.ref b2), .val (.int ((p2 &&& (7 : Int32)) - (((p2 &&& (7 : Int32)) / (5 : Int32)) * (5 : Int32)))), .val (.int ((((p2.toUInt32 >>> ((3 : Int32) &&& 31).toUInt32).toInt32) &&& (7 : Int32)) - (((((p2.toUInt32 >>> ((3 : Int32) &&& 31).toUInt32).toInt32) &&& (7 : Int32)) / (5 : Int32)) * (5 : Int32)))), .val (.int y20), .val (.int y21), .val (.int (if (f_bad0 y20 y21 (nar .char (f_ch q0)) (nar .char (f_ch ((q0.toUInt64 >>> ((18 : Int32) &&& 0x3f).toInt64.toUInt64).toInt64)))) = (0 : Int32) then (if (f_bad1 y20 y21 (nar .char (f_ch q0)) (nar .char (f_ch ((q0.toUInt64 >>> ((18 : Int32) &&& 0x3f).toInt64.toUInt64).toInt64))) (nar .char (f_ch q1))) = (0 : Int32) then (if (f_bad2 y20 y21 (nar .char (f_ch ((q0.toUInt64 >>> ((18 : Int32) &&& 0x3f).toInt64.toUInt64).toInt64))) (nar .char (f_ch q1)) (nar .char (f_ch ((q1.toUInt64 >>> ((18 : Int32) &&& 0x3f).toInt64.toUInt64).toInt64)))) = (0 : Int32) then (if (f_bad3 y20 y21 (nar .char (f_ch q1)) (nar .char (f_ch ((q1.toUInt64 >>> ((18 : Int32) &&& 0x3f).toInt64.toUInt64).toInt64)))) = (0 : Int32) then (-1 : Int32) else (3 : Int32)) else (2 : Int32)) else (1 : Int32)) else (0 : Int32))), .unset] [(.int (f_first (nar .char (f_ch q0)) (nar .char (f_ch ((q0.toUInt64 >>> ((18 : Int32) &&& 0x3f).toInt64.toUInt64).toInt64))) (nar .char (f_ch q1)) (nar .char (f_ch ((q1.toUInt64 >>> ((18 : Int32) &&& 0x3f).toInt64.toUInt64).toInt64))) y20 y21))])) (T48.setTop (mkF m 171 #[.val (.long q0), .second, .val (.long q1), .second, .val (.int p2), .val (.ref b2), .val (.int ((p2 &&& (7 : Int32)) - (((p2 &&& (7 : Int32)) / (5 : Int32)) * (5 : Int32)))), .val (.int ((((p2.toUInt32 >>> ((3 : Int32) &&& 31).toUInt32).toInt32) &&& (7 : Int32)) - (((((p2.toUInt32 >>> ((3 : Int32) &&& 31).toUInt32).toInt32) &&& (7 : Int32)) / (5 : Int32)) * (5 : Int32)))), .val (.int y20), .val (.int y21), .val (.int (if (f_bad0 y20 y21 (nar .char (f_ch q0)) (nar .char (f_ch ((q0.toUInt64 >>> ((18 : Int32) &&& 0x3f).toInt64.toUInt64).toInt64)))) = (0 : Int32) then (if (f_bad1 y20 y21 (nar .char (f_ch q0)) (nar .char (f_ch ((q0.toUInt64 >>> ((18 : Int32) &&& 0x3f).toInt64.toUInt64).toInt64))) (nar .char (f_ch q1))) = (0 : Int32) then (if (f_bad2 y20 y21 (nar .char (f_ch ((q0.toUInt64 >>> ((18 : Int32) &&& 0x3f).toInt64.toUInt64).toInt64))) (nar .char (f_ch q1)) (nar .char (f_ch ((q1.toUInt64 >>> ((18 : Int32) &&& 0x3f).toInt64.toUInt64).toInt64)))) = (0 : Int32) then (if (f_bad3 y20 y21 (nar .char (f_ch q1)) (nar .char (f_ch ((q1.toUInt64 >>> ((18 : Int32) &&& 0x3f).toInt64.toUInt64).toInt64)))) = (0 : Int32) then (-1 : Int32) else (3 : Int32)) else (2 : Int32)) else (1 : Int32)) else (0 : Int32))), .val (.int (f_first (nar .char (f_ch q0)) (nar .char (f_ch ((q0.toUInt64 >>> ((18 : Int32) &&& 0x3f).toInt64.toUInt64).toInt64))) (nar .char (f_ch q1)) (nar .char (f_ch ((q1.toUInt64 >>> ((18 : Int32) &&& 0x3f).toInt64.toUInt64).toInt64))) y20 y21))] [(.int (1 : Int32))])) := by
    intro t ht
    refine XS.istore X48.here hx rfl (hb hby at_157) rfl (l' := #[.val (.long q0), .second, .val (.long q1), .second, .val (.int p2), .val (.ref b2), .val (.int ((p2 &&& (7 : Int32)) - (((p2 &&& (7 : Int32)) / (5 : Int32)) * (5 : Int32)))), .val (.int ((((p2.toUInt32 >>> ((3 : Int32) &&& 31).toUInt32).toInt32) &&& (7 : Int32)) - (((((p2.toUInt32 >>> ((3 : Int32) &&& 31).toUInt32).toInt32) &&& (7 : Int32)) / (5 : Int32)) * (5 : Int32)))), .val (.int y20), .val (.int y21), .val (.int (if (f_bad0 y20 y21 (nar .char (f_ch q0)) (nar .char (f_ch ((q0.toUInt64 >>> ((18 : Int32) &&& 0x3f).toInt64.toUInt64).toInt64)))) = (0 : Int32) then (if (f_bad1 y20 y21 (nar .char (f_ch q0)) (nar .char (f_ch ((q0.toUInt64 >>> ((18 : Int32) &&& 0x3f).toInt64.toUInt64).toInt64))) (nar .char (f_ch q1))) = (0 : Int32) then (if (f_bad2 y20 y21 (nar .char (f_ch ((q0.toUInt64 >>> ((18 : Int32) &&& 0x3f).toInt64.toUInt64).toInt64))) (nar .char (f_ch q1)) (nar .char (f_ch ((q1.toUInt64 >>> ((18 : Int32) &&& 0x3f).toInt64.toUInt64).toInt64)))) = (0 : Int32) then (if (f_bad3 y20 y21 (nar .char (f_ch q1)) (nar .char (f_ch ((q1.toUInt64 >>> ((18 : Int32) &&& 0x3f).toInt64.toUInt64).toInt64)))) = (0 : Int32) then (-1 : Int32) else (3 : Int32)) else (2 : Int32)) else (1 : Int32)) else (0 : Int32))), .val (.int (f_first (nar .char (f_ch q0)) (nar .char (f_ch ((q0.toUInt64 >>> ((18 : Int32) &&& 0x3f).toInt64.toUInt64).toInt64))) (nar .char (f_ch q1)) (nar .char (f_ch ((q1.toUInt64 >>> ((18 : Int32) &&& 0x3f).toInt64.toUInt64).toInt64))) y20 y21))]) rfl ?_
    show Steps p.tables e below (T48.setTop (mkF m 159 #[.val (.long q0), .second, .val (.long q1), .second, .val (.int p2), .val (.ref b2), .val (.int ((p2 &&& (7 : Int32)) - (((p2 &&& (7 : Int32)) / (5 : Int32)) * (5 : Int32)))), .val (.int ((((p2.toUInt32 >>> ((3 : Int32) &&& 31).toUInt32).toInt32) &&& (7 : Int32)) - (((((p2.toUInt32 >>> ((3 : Int32) &&& 31).toUInt32).toInt32) &&& (7 : Int32)) / (5 : Int32)) * (5 : Int32)))), .val (.int y20), .val (.int y21), .val (.int (if (f_bad0 y20 y21 (nar .char (f_ch q0)) (nar .char (f_ch ((q0.toUInt64 >>> ((18 : Int32) &&& 0x3f).toInt64.toUInt64).toInt64)))) = (0 : Int32) then (if (f_bad1 y20 y21 (nar .char (f_ch q0)) (nar .char (f_ch ((q0.toUInt64 >>> ((18 : Int32) &&& 0x3f).toInt64.toUInt64).toInt64))) (nar .char (f_ch q1))) = (0 : Int32) then (if (f_bad2 y20 y21 (nar .char (f_ch ((q0.toUInt64 >>> ((18 : Int32) &&& 0x3f).toInt64.toUInt64).toInt64))) (nar .char (f_ch q1)) (nar .char (f_ch ((q1.toUInt64 >>> ((18 : Int32) &&& 0x3f).toInt64.toUInt64).toInt64)))) = (0 : Int32) then (if (f_bad3 y20 y21 (nar .char (f_ch q1)) (nar .char (f_ch ((q1.toUInt64 >>> ((18 : Int32) &&& 0x3f).toInt64.toUInt64).toInt64)))) = (0 : Int32) then (-1 : Int32) else (3 : Int32)) else (2 : Int32)) else (1 : Int32)) else (0 : Int32))), .val (.int (f_first (nar .char (f_ch q0)) (nar .char (f_ch ((q0.toUInt64 >>> ((18 : Int32) &&& 0x3f).toInt64.toUInt64).toInt64))) (nar .char (f_ch q1)) (nar .char (f_ch ((q1.toUInt64 >>> ((18 : Int32) &&& 0x3f).toInt64.toUInt64).toInt64))) y20 y21))] [])) _
    refine XS.iload X48.here hx rfl (hb hby at_159) rfl ?_
    show Steps p.tables e below (T48.setTop (mkF m 161 #[.val (.long q0), .second, .val (.long q1), .second, .val (.int p2), .val (.ref b2), .val (.int ((p2 &&& (7 : Int32)) - (((p2 &&& (7 : Int32)) / (5 : Int32)) * (5 : Int32)))), .val (.int ((((p2.toUInt32 >>> ((3 : Int32) &&& 31).toUInt32).toInt32) &&& (7 : Int32)) - (((((p2.toUInt32 >>> ((3 : Int32) &&& 31).toUInt32).toInt32) &&& (7 : Int32)) / (5 : Int32)) * (5 : Int32)))), .val (.int y20), .val (.int y21), .val (.int (if (f_bad0 y20 y21 (nar .char (f_ch q0)) (nar .char (f_ch ((q0.toUInt64 >>> ((18 : Int32) &&& 0x3f).toInt64.toUInt64).toInt64)))) = (0 : Int32) then (if (f_bad1 y20 y21 (nar .char (f_ch q0)) (nar .char (f_ch ((q0.toUInt64 >>> ((18 : Int32) &&& 0x3f).toInt64.toUInt64).toInt64))) (nar .char (f_ch q1))) = (0 : Int32) then (if (f_bad2 y20 y21 (nar .char (f_ch ((q0.toUInt64 >>> ((18 : Int32) &&& 0x3f).toInt64.toUInt64).toInt64))) (nar .char (f_ch q1)) (nar .char (f_ch ((q1.toUInt64 >>> ((18 : Int32) &&& 0x3f).toInt64.toUInt64).toInt64)))) = (0 : Int32) then (if (f_bad3 y20 y21 (nar .char (f_ch q1)) (nar .char (f_ch ((q1.toUInt64 >>> ((18 : Int32) &&& 0x3f).toInt64.toUInt64).toInt64)))) = (0 : Int32) then (-1 : Int32) else (3 : Int32)) else (2 : Int32)) else (1 : Int32)) else (0 : Int32))), .val (.int (f_first (nar .char (f_ch q0)) (nar .char (f_ch ((q0.toUInt64 >>> ((18 : Int32) &&& 0x3f).toInt64.toUInt64).toInt64))) (nar .char (f_ch q1)) (nar .char (f_ch ((q1.toUInt64 >>> ((18 : Int32) &&& 0x3f).toInt64.toUInt64).toInt64))) y20 y21))] [(.int (f_first (nar .char (f_ch q0)) (nar .char (f_ch ((q0.toUInt64 >>> ((18 : Int32) &&& 0x3f).toInt64.toUInt64).toInt64))) (nar .char (f_ch q1)) (nar .char (f_ch ((q1.toUInt64 >>> ((18 : Int32) &&& 0x3f).toInt64.toUInt64).toInt64))) y20 y21))])) _
    refine XS.iload X48.here hx rfl (hb hby at_161) rfl ?_
    show Steps p.tables e below (T48.setTop (mkF m 163 #[.val (.long q0), .second, .val (.long q1), .second, .val (.int p2), .val (.ref b2), .val (.int ((p2 &&& (7 : Int32)) - (((p2 &&& (7 : Int32)) / (5 : Int32)) * (5 : Int32)))), .val (.int ((((p2.toUInt32 >>> ((3 : Int32) &&& 31).toUInt32).toInt32) &&& (7 : Int32)) - (((((p2.toUInt32 >>> ((3 : Int32) &&& 31).toUInt32).toInt32) &&& (7 : Int32)) / (5 : Int32)) * (5 : Int32)))), .val (.int y20), .val (.int y21), .val (.int (if (f_bad0 y20 y21 (nar .char (f_ch q0)) (nar .char (f_ch ((q0.toUInt64 >>> ((18 : Int32) &&& 0x3f).toInt64.toUInt64).toInt64)))) = (0 : Int32) then (if (f_bad1 y20 y21 (nar .char (f_ch q0)) (nar .char (f_ch ((q0.toUInt64 >>> ((18 : Int32) &&& 0x3f).toInt64.toUInt64).toInt64))) (nar .char (f_ch q1))) = (0 : Int32) then (if (f_bad2 y20 y21 (nar .char (f_ch ((q0.toUInt64 >>> ((18 : Int32) &&& 0x3f).toInt64.toUInt64).toInt64))) (nar .char (f_ch q1)) (nar .char (f_ch ((q1.toUInt64 >>> ((18 : Int32) &&& 0x3f).toInt64.toUInt64).toInt64)))) = (0 : Int32) then (if (f_bad3 y20 y21 (nar .char (f_ch q1)) (nar .char (f_ch ((q1.toUInt64 >>> ((18 : Int32) &&& 0x3f).toInt64.toUInt64).toInt64)))) = (0 : Int32) then (-1 : Int32) else (3 : Int32)) else (2 : Int32)) else (1 : Int32)) else (0 : Int32))), .val (.int (f_first (nar .char (f_ch q0)) (nar .char (f_ch ((q0.toUInt64 >>> ((18 : Int32) &&& 0x3f).toInt64.toUInt64).toInt64))) (nar .char (f_ch q1)) (nar .char (f_ch ((q1.toUInt64 >>> ((18 : Int32) &&& 0x3f).toInt64.toUInt64).toInt64))) y20 y21))] [(.int (if (f_bad0 y20 y21 (nar .char (f_ch q0)) (nar .char (f_ch ((q0.toUInt64 >>> ((18 : Int32) &&& 0x3f).toInt64.toUInt64).toInt64)))) = (0 : Int32) then (if (f_bad1 y20 y21 (nar .char (f_ch q0)) (nar .char (f_ch ((q0.toUInt64 >>> ((18 : Int32) &&& 0x3f).toInt64.toUInt64).toInt64))) (nar .char (f_ch q1))) = (0 : Int32) then (if (f_bad2 y20 y21 (nar .char (f_ch ((q0.toUInt64 >>> ((18 : Int32) &&& 0x3f).toInt64.toUInt64).toInt64))) (nar .char (f_ch q1)) (nar .char (f_ch ((q1.toUInt64 >>> ((18 : Int32) &&& 0x3f).toInt64.toUInt64).toInt64)))) = (0 : Int32) then (if (f_bad3 y20 y21 (nar .char (f_ch q1)) (nar .char (f_ch ((q1.toUInt64 >>> ((18 : Int32) &&& 0x3f).toInt64.toUInt64).toInt64)))) = (0 : Int32) then (-1 : Int32) else (3 : Int32)) else (2 : Int32)) else (1 : Int32)) else (0 : Int32))), (.int (f_first (nar .char (f_ch q0)) (nar .char (f_ch ((q0.toUInt64 >>> ((18 : Int32) &&& 0x3f).toInt64.toUInt64).toInt64))) (nar .char (f_ch q1)) (nar .char (f_ch ((q1.toUInt64 >>> ((18 : Int32) &&& 0x3f).toInt64.toUInt64).toInt64))) y20 y21))])) _
    refine XS.icmpNo X48.here hx rfl (hb hby at_163) rfl (teq (own_law _ _ _ _ _ _ hlo hle hhi : (f_first (nar .char (f_ch q0)) (nar .char (f_ch ((q0.toUInt64 >>> ((18 : Int32) &&& 0x3f).toInt64.toUInt64).toInt64))) (nar .char (f_ch q1)) (nar .char (f_ch ((q1.toUInt64 >>> ((18 : Int32) &&& 0x3f).toInt64.toUInt64).toInt64))) y20 y21) = (if (f_bad0 y20 y21 (nar .char (f_ch q0)) (nar .char (f_ch ((q0.toUInt64 >>> ((18 : Int32) &&& 0x3f).toInt64.toUInt64).toInt64)))) = (0 : Int32) then (if (f_bad1 y20 y21 (nar .char (f_ch q0)) (nar .char (f_ch ((q0.toUInt64 >>> ((18 : Int32) &&& 0x3f).toInt64.toUInt64).toInt64))) (nar .char (f_ch q1))) = (0 : Int32) then (if (f_bad2 y20 y21 (nar .char (f_ch ((q0.toUInt64 >>> ((18 : Int32) &&& 0x3f).toInt64.toUInt64).toInt64))) (nar .char (f_ch q1)) (nar .char (f_ch ((q1.toUInt64 >>> ((18 : Int32) &&& 0x3f).toInt64.toUInt64).toInt64)))) = (0 : Int32) then (if (f_bad3 y20 y21 (nar .char (f_ch q1)) (nar .char (f_ch ((q1.toUInt64 >>> ((18 : Int32) &&& 0x3f).toInt64.toUInt64).toInt64)))) = (0 : Int32) then (-1 : Int32) else (3 : Int32)) else (2 : Int32)) else (1 : Int32)) else (0 : Int32)))).2 ?_
    show Steps p.tables e below (T48.setTop (mkF m 166 #[.val (.long q0), .second, .val (.long q1), .second, .val (.int p2), .val (.ref b2), .val (.int ((p2 &&& (7 : Int32)) - (((p2 &&& (7 : Int32)) / (5 : Int32)) * (5 : Int32)))), .val (.int ((((p2.toUInt32 >>> ((3 : Int32) &&& 31).toUInt32).toInt32) &&& (7 : Int32)) - (((((p2.toUInt32 >>> ((3 : Int32) &&& 31).toUInt32).toInt32) &&& (7 : Int32)) / (5 : Int32)) * (5 : Int32)))), .val (.int y20), .val (.int y21), .val (.int (if (f_bad0 y20 y21 (nar .char (f_ch q0)) (nar .char (f_ch ((q0.toUInt64 >>> ((18 : Int32) &&& 0x3f).toInt64.toUInt64).toInt64)))) = (0 : Int32) then (if (f_bad1 y20 y21 (nar .char (f_ch q0)) (nar .char (f_ch ((q0.toUInt64 >>> ((18 : Int32) &&& 0x3f).toInt64.toUInt64).toInt64))) (nar .char (f_ch q1))) = (0 : Int32) then (if (f_bad2 y20 y21 (nar .char (f_ch ((q0.toUInt64 >>> ((18 : Int32) &&& 0x3f).toInt64.toUInt64).toInt64))) (nar .char (f_ch q1)) (nar .char (f_ch ((q1.toUInt64 >>> ((18 : Int32) &&& 0x3f).toInt64.toUInt64).toInt64)))) = (0 : Int32) then (if (f_bad3 y20 y21 (nar .char (f_ch q1)) (nar .char (f_ch ((q1.toUInt64 >>> ((18 : Int32) &&& 0x3f).toInt64.toUInt64).toInt64)))) = (0 : Int32) then (-1 : Int32) else (3 : Int32)) else (2 : Int32)) else (1 : Int32)) else (0 : Int32))), .val (.int (f_first (nar .char (f_ch q0)) (nar .char (f_ch ((q0.toUInt64 >>> ((18 : Int32) &&& 0x3f).toInt64.toUInt64).toInt64))) (nar .char (f_ch q1)) (nar .char (f_ch ((q1.toUInt64 >>> ((18 : Int32) &&& 0x3f).toInt64.toUInt64).toInt64))) y20 y21))] [])) _
    refine XS.iconst X48.here hx rfl (hb hby at_166) ?_
    show Steps p.tables e below (T48.setTop (mkF m 167 #[.val (.long q0), .second, .val (.long q1), .second, .val (.int p2), .val (.ref b2), .val (.int ((p2 &&& (7 : Int32)) - (((p2 &&& (7 : Int32)) / (5 : Int32)) * (5 : Int32)))), .val (.int ((((p2.toUInt32 >>> ((3 : Int32) &&& 31).toUInt32).toInt32) &&& (7 : Int32)) - (((((p2.toUInt32 >>> ((3 : Int32) &&& 31).toUInt32).toInt32) &&& (7 : Int32)) / (5 : Int32)) * (5 : Int32)))), .val (.int y20), .val (.int y21), .val (.int (if (f_bad0 y20 y21 (nar .char (f_ch q0)) (nar .char (f_ch ((q0.toUInt64 >>> ((18 : Int32) &&& 0x3f).toInt64.toUInt64).toInt64)))) = (0 : Int32) then (if (f_bad1 y20 y21 (nar .char (f_ch q0)) (nar .char (f_ch ((q0.toUInt64 >>> ((18 : Int32) &&& 0x3f).toInt64.toUInt64).toInt64))) (nar .char (f_ch q1))) = (0 : Int32) then (if (f_bad2 y20 y21 (nar .char (f_ch ((q0.toUInt64 >>> ((18 : Int32) &&& 0x3f).toInt64.toUInt64).toInt64))) (nar .char (f_ch q1)) (nar .char (f_ch ((q1.toUInt64 >>> ((18 : Int32) &&& 0x3f).toInt64.toUInt64).toInt64)))) = (0 : Int32) then (if (f_bad3 y20 y21 (nar .char (f_ch q1)) (nar .char (f_ch ((q1.toUInt64 >>> ((18 : Int32) &&& 0x3f).toInt64.toUInt64).toInt64)))) = (0 : Int32) then (-1 : Int32) else (3 : Int32)) else (2 : Int32)) else (1 : Int32)) else (0 : Int32))), .val (.int (f_first (nar .char (f_ch q0)) (nar .char (f_ch ((q0.toUInt64 >>> ((18 : Int32) &&& 0x3f).toInt64.toUInt64).toInt64))) (nar .char (f_ch q1)) (nar .char (f_ch ((q1.toUInt64 >>> ((18 : Int32) &&& 0x3f).toInt64.toUInt64).toInt64))) y20 y21))] [(.int (1 : Int32))])) _
    refine XS.goto X48.here hx rfl (pc0 := 167) (pc' := 171) rfl (hb hby at_167) (by decide) (by decide) ?_
    exact ht
  obtain ⟨fs, hr, hrun, hended, hW, hsame⟩ := X48.leave (v := some (.int (1 : Int32))) (fun h => by rw [Bd.returns] at h; cases h)
  refine ⟨_, _, pre0 _ ((goT k1 (goT k2 (goT k3 (goT k4 (goT k5 (goT k6 (goT k7 (goT k8 (goT k9 (goT k10 (goT k11 (goT k12 (goT k13 (goT k14 (goT k15 (goT k16 (goT k17 (goT k18 (goT k19 (goT k22 (goT k23 (goT k24 (goT k25 (goT k29 (goT k30 (goT k31 (goT k35 (goT k36 (goT k37 (goT k41 (goT k42 (goT k43 (goT k47 (goT k48 k49)))))))))))))))))))))))))))))))))) _ (retN X48 hx (t := .boolean) Bd.returns (by simp) (hb hby at_171) hr)), hrun, hended, _, _, rfl, ?_, ⟨_, rfl⟩, hW, hsame.mono (by decide) (by decide)⟩
  show Q_law Z q0 q1 p2 h0 n0 _ T48.heap _
  rw [eq48]
  exact ⟨rfl, N48⟩
set_option maxRecDepth 65536 in
set_option maxHeartbeats 40000000 in
theorem comes_1 {Post : Tables → Env → Array Value → State → Outcome → State → Prop} (hpost : ∀ tb e args s v u, (limb_1_1.after args s (.returned v) u = true ∧ limb_1_2.after args s (.returned v) u = true ∧ True) → FrameEnd s (.returned v) u (Jvm.fieldLocs frame_1_writes args s ++ Jvm.arrayLocs frame_1_arrays args s ++ Jvm.staticLocs frame_1_statics s) 16 128 → Post tb e args s (.returned v) u) :
    ArmFor flags0 classFile x code maxLocals ret World_1 tables_1 room_1 Calls_1 rest_1 Pre_1 Post := by
  intro l hfl _ _ p e ha hc hk s m args below hf hA hF happ hP
  obtain ⟨hcalls, hrest, hpre⟩ := hP
  obtain ⟨-, -, -, hnamed, -, -, -, hat⟩ := (Spec.applies_iff hf).mp happ
  obtain ⟨hg, hn⟩ := and_e (Cond.before_iff.mp (show (Jvm.Cond.and given_1 narrow_1).before args s = true from hpre))
  obtain ⟨hcnt, hg⟩ := and_e hg
  obtain ⟨ha0, hg⟩ := and_e hg
  obtain ⟨ha1, hg⟩ := and_e hg
  have ha2 := hg
  obtain ⟨w0, w1, w2, rfl⟩ : ∃ w0 w1 w2 : Value, args = #[w0, w1, w2] := by
    have hs : args.size = 3 := by simpa [Cond.value, given_1] using hcnt
    obtain ⟨L⟩ := args
    match L, hs with
    | [w0, w1, w2], _ => exact ⟨w0, w1, w2, rfl⟩
  have hw := fun d (hd : d ∈ tables_1) => atoms_spec (ws := Jvm.Cond.code x code maxLocals ret :: tables_1) hat d (List.mem_cons_of_mem _ hd)
  have hfit : Fit s := fun {y c} hc i hi => by
    obtain ⟨ha, rfl⟩ := Array.getElem?_eq_some_iff.mp hc
    have q := List.all_eq_true.mp ((Array.all_eq_true_iff_forall_mem.mp hF) _ (Array.getElem_mem ha)) i (List.mem_range.mpr hi)
    simpa [Array.getElem?_eq_getElem hi] using q
  obtain ⟨i0, ei0⟩ := isL_v ha0
  obtain rfl : w0 = (.long i0) := Option.some.inj ei0
  obtain ⟨i1, ei1⟩ := isL_v ha1
  obtain rfl : w1 = (.long i1) := Option.some.inj ei1
  obtain ⟨i2, ei2⟩ := is_v ha2
  obtain rfl : w2 = (.int i2) := Option.some.inj ei2
  obtain ⟨n, o, h1, h2, h3, _, L, rfl, ⟨rfl, N⟩, hq⟩ := rm_law l s _ hw tables_1 i0 i1 i2 s.heap s.heap.size (Nat.le_refl _)  p e ha hc hk s m _ below hf ((Spec.applies_iff_loose hf).mp happ).1 ⟨rfl, State.Warmed39.refl s, rfl⟩ trivial
  refine ⟨n, _, h1, h2, h3, hpost _ _ _ _ _ _ ⟨Cond.after_iff.mpr rfl, Cond.after_iff.mpr (eq_i res_at (Term.int_eval (1)) rfl), trivial⟩ ⟨hq.1, hq.2.1, (hq.2.2.sift fun y hy => Or.inr (N y hy)).mono (by decide) (by decide)⟩⟩
theorem main_1_1 : Claimed_1_1 := comes_1 fun _ _ _ _ _ _ h hF => ⟨h.1, hF⟩
theorem main_1_2 : Claimed_1_2 := comes_1 fun _ _ _ _ _ _ h hF => ⟨h.2.1, hF⟩
end Jvm.Pilot.@@N@@
namespace Jvm.Pilot.@@N@@
open Jvm Jvm.ClassFile Sem Op Lib Jvm.Free Jvm.Stand Jvm.Pilot.@@N@@.Jvm.D
/-! MADE BY PROGRAM (witnessworld.py) out of the Statement's table words and the real class files: 15 classes; the members and pool entries that the words name. The judged class is class 1, her method 5. -/
namespace start1
open Jvm.ClassFile
def u (s : String) : CpInfo := .utf8 (stringToUtf16 s)
/-- a pool by its gaps: so many unusable entries, then the entry; so many at the end -/
def gap : Nat → List CpInfo → List CpInfo
  | 0, r => r
  | n + 1, r => .unusable :: gap n r
def poolList (es : List (Nat × CpInfo)) (last : Nat) : List CpInfo := es.foldr (fun e r => gap e.1 (e.2 :: r)) (gap last [])
def pool (es : List (Nat × CpInfo)) (last : Nat) : Array CpInfo := ⟨poolList es last⟩
def fileOf (pool : Array CpInfo) (this : Nat) (attrs : Array Attribute := #[]) (ms : Array MethodInfo := #[]) (fl : Nat := 33) (sup : Nat := 0) (ifs : Array Nat := #[]) (fds : Array FieldInfo := #[]) : ClassFile where
  minorVersion := 0
  majorVersion := 65
  constantPool := pool
  accessFlags := fl
  thisClass := this
  superClass := sup
  interfaces := ifs
  fields := fds
  methods := ms
  attributes := attrs
def plain (name : String) (sup : Option ClassId) : Class where
  name := name
  kind := .ordinary
  loader := none
  accessFlags := 33
  super := sup
  interfaces := #[]
  cf := none
  fields := #[]
  methods := #[]
  instanceTypes := #[]
  staticTypes := #[]
  resolved := #[]
  callSites := []
  init := .initialized
  statics := none
  mirror := none

def pool0 : Array CpInfo := pool [(5, u "<init>"), (0, u "()V"), (1, .class_ 10), (1, u "java/lang/Object")] 113

def k0m0 : Method := { name := "<init>", desc := "()V", sig := { parameters := [], returnType := none }, accessFlags := 1, code := none }
/-- java/lang/Object -/
def k0 : Class := { plain "java/lang/Object" none with
  accessFlags := 33
  interfaces := #[]
  cf := some (fileOf pool0 8 #[] #[{ accessFlags := 1, nameIndex := 5, descriptorIndex := 6, attributes := #[] }] 33 0 #[] #[])
  fields := #[]
  methods := #[k0m0]
  instanceTypes := #[]
  staticTypes := #[]
  resolved := Array.replicate 124 none
  statics := none }

def pool1 : Array CpInfo := pool [(2, .class_ 4), (1, u "java/lang/Object"), (0, u "<init>"), (0, u "()V"), (0, .long 3), (1, .long 65535), (1, .integer 55296), (0, .integer 56320), (0, .integer 56319), (0, .integer 57343), (0, .methodref 16 17), (0, .class_ 18), (0, .nameAndType 19 20), (0, u "com/example/fieldveil/fieldveil/Utf8FirstUnpairedSurrogatePinLaw"), (0, u "isHigh"), (0, u "(C)Z"), (0, .methodref 16 22), (0, .nameAndType 23 20), (0, u "isLow"), (0, .methodref 16 25), (0, .nameAndType 26 27), (0, u "ch"), (0, u "(J)C"), (0, .methodref 29 30), (0, .class_ 31), (0, .nameAndType 32 33), (0, u "java/lang/Math"), (0, u "min"), (0, u "(II)I"), (0, .methodref 29 35), (0, .nameAndType 36 33), (0, u "max"), (0, .methodref 16 38), (0, .nameAndType 39 40), (0, u "bad"), (0, u "([CIII)Z"), (0, .methodref 42 43), (0, .class_ 44), (0, .nameAndType 45 46), (0, u "com/example/fieldveil/fieldveil/Utf8"), (0, u "firstUnpairedSurrogate"), (0, u "([CII)I"), (3, u "law"), (0, u "(JJI)Z")] 4

def k1m0 : Method := { name := "<init>", desc := "()V", sig := { parameters := [], returnType := none }, accessFlags := 1, code := none }
def k1c1 : Code := { maxStack := 4, maxLocals := 4, code := method_2_code, exceptionTable := #[], attributes := #[] }
def k1m1 : Method := { name := "ch", desc := "(J)C", sig := { parameters := [.long], returnType := some .char }, accessFlags := 10, code := some k1c1 }
def k1c2 : Code := { maxStack := 2, maxLocals := 1, code := method_3_code, exceptionTable := #[], attributes := #[] }
def k1m2 : Method := { name := "isHigh", desc := "(C)Z", sig := { parameters := [.char], returnType := some .boolean }, accessFlags := 10, code := some k1c2 }
def k1c3 : Code := { maxStack := 2, maxLocals := 1, code := method_4_code, exceptionTable := #[], attributes := #[] }
def k1m3 : Method := { name := "isLow", desc := "(C)Z", sig := { parameters := [.char], returnType := some .boolean }, accessFlags := 10, code := some k1c3 }
def k1c4 : Code := { maxStack := 3, maxLocals := 5, code := method_5_code, exceptionTable := #[], attributes := #[] }
def k1m4 : Method := { name := "bad", desc := "([CIII)Z", sig := { parameters := [(.array .char), .int, .int, .int], returnType := some .boolean }, accessFlags := 10, code := some k1c4 }
def k1c5 : Code := { maxStack := 5, maxLocals := 12, code := code, exceptionTable := #[], attributes := #[] }
def k1m5 : Method := { name := "law", desc := "(JJI)Z", sig := { parameters := [.long, .long, .int], returnType := some .boolean }, accessFlags := 9, code := some k1c5 }
/-- com/example/fieldveil/fieldveil/Utf8FirstUnpairedSurrogatePinLaw -/
def k1 : Class := { plain "com/example/fieldveil/fieldveil/Utf8FirstUnpairedSurrogatePinLaw" (some 0) with
  accessFlags := 49
  interfaces := #[]
  cf := some (fileOf pool1 16 #[] #[{ accessFlags := 1, nameIndex := 5, descriptorIndex := 6, attributes := #[] }, { accessFlags := 10, nameIndex := 26, descriptorIndex := 27, attributes := #[] }, { accessFlags := 10, nameIndex := 19, descriptorIndex := 20, attributes := #[] }, { accessFlags := 10, nameIndex := 23, descriptorIndex := 20, attributes := #[] }, { accessFlags := 10, nameIndex := 39, descriptorIndex := 40, attributes := #[] }, { accessFlags := 9, nameIndex := 50, descriptorIndex := 51, attributes := #[] }] 49 2 #[] #[])
  fields := #[]
  methods := #[k1m0, k1m1, k1m2, k1m3, k1m4, k1m5]
  instanceTypes := #[]
  staticTypes := #[]
  resolved := Array.replicate 56 none
  statics := none }

def pool2 : Array CpInfo := pool [(1, .class_ 2), (0, u "java/lang/Math"), (1, .class_ 6), (1, u "java/lang/Object"), (0, u "<init>"), (0, u "()V"), (89, .class_ 100), (1, u "java/lang/Math$RandomNumberGeneratorHolder"), (71, u "negativeZeroFloatBits"), (0, u "J"), (2, u "negativeZeroDoubleBits"), (21, u "max"), (2, u "min"), (43, u "$assertionsDisabled"), (0, u "Z"), (88, u "(II)I"), (2, u "twoToTheDoubleScaleDown"), (0, u "D"), (4, u "twoToTheDoubleScaleUp"), (9, u "E"), (3, u "PI"), (2, u "TAU"), (2, u "DEGREES_TO_RADIANS"), (0, u "RADIANS_TO_DEGREES")] 94

def k2m0 : Method := { name := "<init>", desc := "()V", sig := { parameters := [], returnType := none }, accessFlags := 2, code := none }
def k2c1 : Code := { maxStack := 2, maxLocals := 2, code := jdk_29_method_65_code, exceptionTable := #[], attributes := #[] }
def k2m1 : Method := { name := "max", desc := "(II)I", sig := { parameters := [.int, .int], returnType := some .int }, accessFlags := 9, code := some k2c1 }
def k2c2 : Code := { maxStack := 2, maxLocals := 2, code := jdk_29_method_69_code, exceptionTable := #[], attributes := #[] }
def k2m2 : Method := { name := "min", desc := "(II)I", sig := { parameters := [.int, .int], returnType := some .int }, accessFlags := 9, code := some k2c2 }
/-- java/lang/Math -/
def k2 : Class := { plain "java/lang/Math" (some 0) with
  accessFlags := 49
  interfaces := #[]
  cf := some (fileOf pool2 1 #[.nestMembers #[98]] #[{ accessFlags := 2, nameIndex := 7, descriptorIndex := 8, attributes := #[] }, { accessFlags := 9, nameIndex := 198, descriptorIndex := 335, attributes := #[] }, { accessFlags := 9, nameIndex := 201, descriptorIndex := 335, attributes := #[] }] 49 4 #[] #[{ accessFlags := 25, nameIndex := 354, descriptorIndex := 339, attributes := #[] }, { accessFlags := 25, nameIndex := 358, descriptorIndex := 339, attributes := #[] }, { accessFlags := 25, nameIndex := 361, descriptorIndex := 339, attributes := #[] }, { accessFlags := 26, nameIndex := 364, descriptorIndex := 339, attributes := #[] }, { accessFlags := 26, nameIndex := 365, descriptorIndex := 339, attributes := #[] }, { accessFlags := 26, nameIndex := 172, descriptorIndex := 173, attributes := #[] }, { accessFlags := 26, nameIndex := 176, descriptorIndex := 173, attributes := #[] }, { accessFlags := 8, nameIndex := 344, descriptorIndex := 339, attributes := #[] }, { accessFlags := 8, nameIndex := 338, descriptorIndex := 339, attributes := #[] }, { accessFlags := 4120, nameIndex := 245, descriptorIndex := 246, attributes := #[] }])
  fields := #[{ name := "E", type := .double, accessFlags := 25, slot := 0, constantValue := 0 }, { name := "PI", type := .double, accessFlags := 25, slot := 1, constantValue := 0 }, { name := "TAU", type := .double, accessFlags := 25, slot := 2, constantValue := 0 }, { name := "DEGREES_TO_RADIANS", type := .double, accessFlags := 26, slot := 3, constantValue := 0 }, { name := "RADIANS_TO_DEGREES", type := .double, accessFlags := 26, slot := 4, constantValue := 0 }, { name := "negativeZeroFloatBits", type := .long, accessFlags := 26, slot := 5, constantValue := 0 }, { name := "negativeZeroDoubleBits", type := .long, accessFlags := 26, slot := 6, constantValue := 0 }, { name := "twoToTheDoubleScaleUp", type := .double, accessFlags := 8, slot := 7, constantValue := 0 }, { name := "twoToTheDoubleScaleDown", type := .double, accessFlags := 8, slot := 8, constantValue := 0 }, { name := "$assertionsDisabled", type := .boolean, accessFlags := 4120, slot := 9, constantValue := 0 }]
  methods := #[k2m0, k2m1, k2m2]
  instanceTypes := #[]
  staticTypes := #[.double, .double, .double, .double, .double, .long, .long, .double, .double, .boolean]
  resolved := Array.replicate 460 none
  statics := none }

def pool3 : Array CpInfo := pool [(2, .class_ 4), (1, u "java/lang/Object"), (0, u "<init>"), (0, u "()V"), (3, .class_ 12), (1, u "com/example/fieldveil/fieldveil/Utf8"), (0, u "EIGHT_BYTES"), (0, u "Ljava/lang/invoke/VarHandle;"), (12, .methodref 28 29), (0, .class_ 30), (0, .nameAndType 31 32), (0, u "java/lang/Character"), (0, u "isHighSurrogate"), (0, u "(C)Z"), (0, .methodref 28 34), (0, .nameAndType 35 32), (0, u "isLowSurrogate"), (0, .methodref 28 37), (0, .nameAndType 38 32), (0, u "isSurrogate"), (14, u "HIGH_BITS"), (0, u "J"), (6, u "firstUnpairedSurrogate"), (0, u "([CII)I")] 5

def k3m0 : Method := { name := "<init>", desc := "()V", sig := { parameters := [], returnType := none }, accessFlags := 2, code := none }
def k3c1 : Code := { maxStack := 3, maxLocals := 5, code := prog_9_method_3_code, exceptionTable := #[], attributes := #[] }
def k3m1 : Method := { name := "firstUnpairedSurrogate", desc := "([CII)I", sig := { parameters := [(.array .char), .int, .int], returnType := some .int }, accessFlags := 8, code := some k3c1 }
/-- com/example/fieldveil/fieldveil/Utf8 -/
def k3 : Class := { plain "com/example/fieldveil/fieldveil/Utf8" (some 0) with
  accessFlags := 48
  interfaces := #[]
  cf := some (fileOf pool3 10 #[] #[{ accessFlags := 2, nameIndex := 5, descriptorIndex := 6, attributes := #[] }, { accessFlags := 8, nameIndex := 61, descriptorIndex := 62, attributes := #[] }] 48 2 #[] #[{ accessFlags := 26, nameIndex := 13, descriptorIndex := 14, attributes := #[] }, { accessFlags := 26, nameIndex := 53, descriptorIndex := 54, attributes := #[] }])
  fields := #[{ name := "EIGHT_BYTES", type := (.object "java/lang/invoke/VarHandle"), accessFlags := 26, slot := 0, constantValue := 0 }, { name := "HIGH_BITS", type := .long, accessFlags := 26, slot := 1, constantValue := 0 }]
  methods := #[k3m0, k3m1]
  instanceTypes := #[]
  staticTypes := #[(.object "java/lang/invoke/VarHandle"), .long]
  resolved := Array.replicate 68 none
  statics := none }

def pool4 : Array CpInfo := pool [(1, .class_ 2), (0, u "java/io/Serializable"), (0, .class_ 4), (0, u "java/lang/Object")] 2

/-- java/io/Serializable -/
def k4 : Class := { plain "java/io/Serializable" (some 0) with
  accessFlags := 1537
  interfaces := #[]
  cf := some (fileOf pool4 1 #[] #[] 1537 3 #[] #[])
  fields := #[]
  methods := #[]
  instanceTypes := #[]
  staticTypes := #[]
  resolved := Array.replicate 7 none
  statics := none }

def pool5 : Array CpInfo := pool [(1, .class_ 2), (0, u "java/lang/Comparable"), (0, .class_ 4), (0, u "java/lang/Object")] 7

/-- java/lang/Comparable -/
def k5 : Class := { plain "java/lang/Comparable" (some 0) with
  accessFlags := 1537
  interfaces := #[]
  cf := some (fileOf pool5 1 #[] #[] 1537 3 #[] #[])
  fields := #[]
  methods := #[]
  instanceTypes := #[]
  staticTypes := #[]
  resolved := Array.replicate 12 none
  statics := none }

def pool6 : Array CpInfo := pool [(1, .class_ 2), (0, u "java/lang/constant/Constable"), (0, .class_ 4), (0, u "java/lang/Object")] 6

/-- java/lang/constant/Constable -/
def k6 : Class := { plain "java/lang/constant/Constable" (some 0) with
  accessFlags := 1537
  interfaces := #[]
  cf := some (fileOf pool6 1 #[] #[] 1537 3 #[] #[])
  fields := #[]
  methods := #[]
  instanceTypes := #[]
  staticTypes := #[]
  resolved := Array.replicate 11 none
  statics := none }

def pool7 : Array CpInfo := pool [(1, .class_ 2), (0, u "java/lang/Character"), (18, u "value"), (0, u "C"), (19, .class_ 44), (1, u "java/lang/Object"), (3, .class_ 50), (1, u "java/lang/Character$CharacterCache"), (24, .integer 55296), (0, .integer 56320), (0, .integer 57344), (2, u "isHighSurrogate"), (0, u "(C)Z"), (2, u "isLowSurrogate"), (199, u "$assertionsDisabled"), (0, u "Z"), (21, .class_ 309), (1, u "java/lang/Character$UnicodeBlock"), (73, u "TYPE"), (0, u "Ljava/lang/Class;"), (0, .class_ 386), (0, u "java/io/Serializable"), (0, .class_ 388), (0, u "java/lang/Comparable"), (0, .class_ 390), (0, u "java/lang/constant/Constable"), (0, u "MIN_RADIX"), (0, u "I"), (2, u "MAX_RADIX"), (1, u "MIN_VALUE"), (1, u "MAX_VALUE"), (3, u "UNASSIGNED"), (0, u "B"), (0, u "UPPERCASE_LETTER"), (1, u "LOWERCASE_LETTER"), (0, u "TITLECASE_LETTER"), (1, u "MODIFIER_LETTER"), (1, u "OTHER_LETTER"), (1, u "NON_SPACING_MARK"), (1, u "ENCLOSING_MARK"), (1, u "COMBINING_SPACING_MARK"), (1, u "DECIMAL_DIGIT_NUMBER"), (1, u "LETTER_NUMBER"), (1, u "OTHER_NUMBER"), (1, u "SPACE_SEPARATOR"), (1, u "LINE_SEPARATOR"), (1, u "PARAGRAPH_SEPARATOR"), (1, u "CONTROL"), (1, u "FORMAT"), (1, u "PRIVATE_USE"), (1, u "SURROGATE"), (1, u "DASH_PUNCTUATION"), (1, u "START_PUNCTUATION"), (1, u "END_PUNCTUATION"), (1, u "CONNECTOR_PUNCTUATION"), (1, u "OTHER_PUNCTUATION"), (1, u "MATH_SYMBOL"), (1, u "CURRENCY_SYMBOL"), (1, u "MODIFIER_SYMBOL"), (1, u "OTHER_SYMBOL"), (1, u "INITIAL_QUOTE_PUNCTUATION"), (1, u "FINAL_QUOTE_PUNCTUATION"), (1, u "ERROR"), (1, u "DIRECTIONALITY_UNDEFINED"), (0, u "DIRECTIONALITY_LEFT_TO_RIGHT"), (0, u "DIRECTIONALITY_RIGHT_TO_LEFT"), (0, u "DIRECTIONALITY_RIGHT_TO_LEFT_ARABIC"), (0, u "DIRECTIONALITY_EUROPEAN_NUMBER"), (0, u "DIRECTIONALITY_EUROPEAN_NUMBER_SEPARATOR"), (0, u "DIRECTIONALITY_EUROPEAN_NUMBER_TERMINATOR"), (0, u "DIRECTIONALITY_ARABIC_NUMBER"), (0, u "DIRECTIONALITY_COMMON_NUMBER_SEPARATOR"), (0, u "DIRECTIONALITY_NONSPACING_MARK"), (0, u "DIRECTIONALITY_BOUNDARY_NEUTRAL"), (0, u "DIRECTIONALITY_PARAGRAPH_SEPARATOR"), (0, u "DIRECTIONALITY_SEGMENT_SEPARATOR"), (0, u "DIRECTIONALITY_WHITESPACE"), (0, u "DIRECTIONALITY_OTHER_NEUTRALS"), (0, u "DIRECTIONALITY_LEFT_TO_RIGHT_EMBEDDING"), (0, u "DIRECTIONALITY_LEFT_TO_RIGHT_OVERRIDE"), (0, u "DIRECTIONALITY_RIGHT_TO_LEFT_EMBEDDING"), (0, u "DIRECTIONALITY_RIGHT_TO_LEFT_OVERRIDE"), (1, u "DIRECTIONALITY_POP_DIRECTIONAL_FORMAT"), (0, u "DIRECTIONALITY_LEFT_TO_RIGHT_ISOLATE"), (0, u "DIRECTIONALITY_RIGHT_TO_LEFT_ISOLATE"), (0, u "DIRECTIONALITY_FIRST_STRONG_ISOLATE"), (0, u "DIRECTIONALITY_POP_DIRECTIONAL_ISOLATE"), (0, u "MIN_HIGH_SURROGATE"), (0, u "MAX_HIGH_SURROGATE"), (1, u "MIN_LOW_SURROGATE"), (0, u "MAX_LOW_SURROGATE"), (1, u "MIN_SURROGATE"), (0, u "MAX_SURROGATE"), (0, u "MIN_SUPPLEMENTARY_CODE_POINT"), (0, u "MIN_CODE_POINT"), (0, u "MAX_CODE_POINT"), (1, u "serialVersionUID"), (0, u "J"), (2, u "SIZE"), (0, u "BYTES"), (24, u "isSurrogate"), (63, .class_ 596), (0, u "java/lang/Character$UnicodeScript"), (0, .class_ 598), (0, u "java/lang/Character$Subset")] 5

def k7c0 : Code := { maxStack := 2, maxLocals := 1, code := jdk_89_method_14_code, exceptionTable := #[], attributes := #[] }
def k7m0 : Method := { name := "isHighSurrogate", desc := "(C)Z", sig := { parameters := [.char], returnType := some .boolean }, accessFlags := 9, code := some k7c0 }
def k7c1 : Code := { maxStack := 2, maxLocals := 1, code := jdk_89_method_15_code, exceptionTable := #[], attributes := #[] }
def k7m1 : Method := { name := "isLowSurrogate", desc := "(C)Z", sig := { parameters := [.char], returnType := some .boolean }, accessFlags := 9, code := some k7c1 }
def k7c2 : Code := { maxStack := 2, maxLocals := 1, code := jdk_89_method_16_code, exceptionTable := #[], attributes := #[] }
def k7m2 : Method := { name := "isSurrogate", desc := "(C)Z", sig := { parameters := [.char], returnType := some .boolean }, accessFlags := 9, code := some k7c2 }
/-- java/lang/Character -/
def k7 : Class := { plain "java/lang/Character" (some 0) with
  accessFlags := 49
  interfaces := #[4, 5, 6]
  cf := some (fileOf pool7 1 #[.nestMembers #[48, 595, 307, 597]] #[{ accessFlags := 9, nameIndex := 80, descriptorIndex := 81, attributes := #[] }, { accessFlags := 9, nameIndex := 84, descriptorIndex := 81, attributes := #[] }, { accessFlags := 9, nameIndex := 531, descriptorIndex := 81, attributes := #[] }] 49 42 #[385, 387, 389] #[{ accessFlags := 25, nameIndex := 391, descriptorIndex := 392, attributes := #[] }, { accessFlags := 25, nameIndex := 395, descriptorIndex := 392, attributes := #[] }, { accessFlags := 25, nameIndex := 397, descriptorIndex := 22, attributes := #[] }, { accessFlags := 25, nameIndex := 399, descriptorIndex := 22, attributes := #[] }, { accessFlags := 25, nameIndex := 383, descriptorIndex := 384, attributes := #[] }, { accessFlags := 25, nameIndex := 403, descriptorIndex := 404, attributes := #[] }, { accessFlags := 25, nameIndex := 405, descriptorIndex := 404, attributes := #[] }, { accessFlags := 25, nameIndex := 407, descriptorIndex := 404, attributes := #[] }, { accessFlags := 25, nameIndex := 408, descriptorIndex := 404, attributes := #[] }, { accessFlags := 25, nameIndex := 410, descriptorIndex := 404, attributes := #[] }, { accessFlags := 25, nameIndex := 412, descriptorIndex := 404, attributes := #[] }, { accessFlags := 25, nameIndex := 414, descriptorIndex := 404, attributes := #[] }, { accessFlags := 25, nameIndex := 416, descriptorIndex := 404, attributes := #[] }, { accessFlags := 25, nameIndex := 418, descriptorIndex := 404, attributes := #[] }, { accessFlags := 25, nameIndex := 420, descriptorIndex := 404, attributes := #[] }, { accessFlags := 25, nameIndex := 422, descriptorIndex := 404, attributes := #[] }, { accessFlags := 25, nameIndex := 424, descriptorIndex := 404, attributes := #[] }, { accessFlags := 25, nameIndex := 426, descriptorIndex := 404, attributes := #[] }, { accessFlags := 25, nameIndex := 428, descriptorIndex := 404, attributes := #[] }, { accessFlags := 25, nameIndex := 430, descriptorIndex := 404, attributes := #[] }, { accessFlags := 25, nameIndex := 432, descriptorIndex := 404, attributes := #[] }, { accessFlags := 25, nameIndex := 434, descriptorIndex := 404, attributes := #[] }, { accessFlags := 25, nameIndex := 436, descriptorIndex := 404, attributes := #[] }, { accessFlags := 25, nameIndex := 438, descriptorIndex := 404, attributes := #[] }, { accessFlags := 25, nameIndex := 440, descriptorIndex := 404, attributes := #[] }, { accessFlags := 25, nameIndex := 442, descriptorIndex := 404, attributes := #[] }, { accessFlags := 25, nameIndex := 444, descriptorIndex := 404, attributes := #[] }, { accessFlags := 25, nameIndex := 446, descriptorIndex := 404, attributes := #[] }, { accessFlags := 25, nameIndex := 448, descriptorIndex := 404, attributes := #[] }, { accessFlags := 25, nameIndex := 450, descriptorIndex := 404, attributes := #[] }, { accessFlags := 25, nameIndex := 452, descriptorIndex := 404, attributes := #[] }, { accessFlags := 25, nameIndex := 454, descriptorIndex := 404, attributes := #[] }, { accessFlags := 25, nameIndex := 456, descriptorIndex := 404, attributes := #[] }, { accessFlags := 25, nameIndex := 458, descriptorIndex := 404, attributes := #[] }, { accessFlags := 25, nameIndex := 460, descriptorIndex := 404, attributes := #[] }, { accessFlags := 24, nameIndex := 462, descriptorIndex := 392, attributes := #[] }, { accessFlags := 25, nameIndex := 464, descriptorIndex := 404, attributes := #[] }, { accessFlags := 25, nameIndex := 465, descriptorIndex := 404, attributes := #[] }, { accessFlags := 25, nameIndex := 466, descriptorIndex := 404, attributes := #[] }, { accessFlags := 25, nameIndex := 467, descriptorIndex := 404, attributes := #[] }, { accessFlags := 25, nameIndex := 468, descriptorIndex := 404, attributes := #[] }, { accessFlags := 25, nameIndex := 469, descriptorIndex := 404, attributes := #[] }, { accessFlags := 25, nameIndex := 470, descriptorIndex := 404, attributes := #[] }, { accessFlags := 25, nameIndex := 471, descriptorIndex := 404, attributes := #[] }, { accessFlags := 25, nameIndex := 472, descriptorIndex := 404, attributes := #[] }, { accessFlags := 25, nameIndex := 473, descriptorIndex := 404, attributes := #[] }, { accessFlags := 25, nameIndex := 474, descriptorIndex := 404, attributes := #[] }, { accessFlags := 25, nameIndex := 475, descriptorIndex := 404, attributes := #[] }, { accessFlags := 25, nameIndex := 476, descriptorIndex := 404, attributes := #[] }, { accessFlags := 25, nameIndex := 477, descriptorIndex := 404, attributes := #[] }, { accessFlags := 25, nameIndex := 478, descriptorIndex := 404, attributes := #[] }, { accessFlags := 25, nameIndex := 479, descriptorIndex := 404, attributes := #[] }, { accessFlags := 25, nameIndex := 480, descriptorIndex := 404, attributes := #[] }, { accessFlags := 25, nameIndex := 481, descriptorIndex := 404, attributes := #[] }, { accessFlags := 25, nameIndex := 482, descriptorIndex := 404, attributes := #[] }, { accessFlags := 25, nameIndex := 484, descriptorIndex := 404, attributes := #[] }, { accessFlags := 25, nameIndex := 485, descriptorIndex := 404, attributes := #[] }, { accessFlags := 25, nameIndex := 486, descriptorIndex := 404, attributes := #[] }, { accessFlags := 25, nameIndex := 487, descriptorIndex := 404, attributes := #[] }, { accessFlags := 25, nameIndex := 488, descriptorIndex := 404, attributes := #[] }, { accessFlags := 25, nameIndex := 489, descriptorIndex := 22, attributes := #[] }, { accessFlags := 25, nameIndex := 490, descriptorIndex := 22, attributes := #[] }, { accessFlags := 25, nameIndex := 492, descriptorIndex := 22, attributes := #[] }, { accessFlags := 25, nameIndex := 493, descriptorIndex := 22, attributes := #[] }, { accessFlags := 25, nameIndex := 495, descriptorIndex := 22, attributes := #[] }, { accessFlags := 25, nameIndex := 496, descriptorIndex := 22, attributes := #[] }, { accessFlags := 25, nameIndex := 497, descriptorIndex := 392, attributes := #[] }, { accessFlags := 25, nameIndex := 498, descriptorIndex := 392, attributes := #[] }, { accessFlags := 25, nameIndex := 499, descriptorIndex := 392, attributes := #[] }, { accessFlags := 18, nameIndex := 21, descriptorIndex := 22, attributes := #[] }, { accessFlags := 26, nameIndex := 501, descriptorIndex := 502, attributes := #[] }, { accessFlags := 25, nameIndex := 505, descriptorIndex := 392, attributes := #[] }, { accessFlags := 25, nameIndex := 506, descriptorIndex := 392, attributes := #[] }, { accessFlags := 4120, nameIndex := 284, descriptorIndex := 285, attributes := #[] }])
  fields := #[{ name := "MIN_RADIX", type := .int, accessFlags := 25, slot := 0, constantValue := 0 }, { name := "MAX_RADIX", type := .int, accessFlags := 25, slot := 1, constantValue := 0 }, { name := "MIN_VALUE", type := .char, accessFlags := 25, slot := 2, constantValue := 0 }, { name := "MAX_VALUE", type := .char, accessFlags := 25, slot := 3, constantValue := 0 }, { name := "TYPE", type := (.object "java/lang/Class"), accessFlags := 25, slot := 4, constantValue := 0 }, { name := "UNASSIGNED", type := .byte, accessFlags := 25, slot := 5, constantValue := 0 }, { name := "UPPERCASE_LETTER", type := .byte, accessFlags := 25, slot := 6, constantValue := 0 }, { name := "LOWERCASE_LETTER", type := .byte, accessFlags := 25, slot := 7, constantValue := 0 }, { name := "TITLECASE_LETTER", type := .byte, accessFlags := 25, slot := 8, constantValue := 0 }, { name := "MODIFIER_LETTER", type := .byte, accessFlags := 25, slot := 9, constantValue := 0 }, { name := "OTHER_LETTER", type := .byte, accessFlags := 25, slot := 10, constantValue := 0 }, { name := "NON_SPACING_MARK", type := .byte, accessFlags := 25, slot := 11, constantValue := 0 }, { name := "ENCLOSING_MARK", type := .byte, accessFlags := 25, slot := 12, constantValue := 0 }, { name := "COMBINING_SPACING_MARK", type := .byte, accessFlags := 25, slot := 13, constantValue := 0 }, { name := "DECIMAL_DIGIT_NUMBER", type := .byte, accessFlags := 25, slot := 14, constantValue := 0 }, { name := "LETTER_NUMBER", type := .byte, accessFlags := 25, slot := 15, constantValue := 0 }, { name := "OTHER_NUMBER", type := .byte, accessFlags := 25, slot := 16, constantValue := 0 }, { name := "SPACE_SEPARATOR", type := .byte, accessFlags := 25, slot := 17, constantValue := 0 }, { name := "LINE_SEPARATOR", type := .byte, accessFlags := 25, slot := 18, constantValue := 0 }, { name := "PARAGRAPH_SEPARATOR", type := .byte, accessFlags := 25, slot := 19, constantValue := 0 }, { name := "CONTROL", type := .byte, accessFlags := 25, slot := 20, constantValue := 0 }, { name := "FORMAT", type := .byte, accessFlags := 25, slot := 21, constantValue := 0 }, { name := "PRIVATE_USE", type := .byte, accessFlags := 25, slot := 22, constantValue := 0 }, { name := "SURROGATE", type := .byte, accessFlags := 25, slot := 23, constantValue := 0 }, { name := "DASH_PUNCTUATION", type := .byte, accessFlags := 25, slot := 24, constantValue := 0 }, { name := "START_PUNCTUATION", type := .byte, accessFlags := 25, slot := 25, constantValue := 0 }, { name := "END_PUNCTUATION", type := .byte, accessFlags := 25, slot := 26, constantValue := 0 }, { name := "CONNECTOR_PUNCTUATION", type := .byte, accessFlags := 25, slot := 27, constantValue := 0 }, { name := "OTHER_PUNCTUATION", type := .byte, accessFlags := 25, slot := 28, constantValue := 0 }, { name := "MATH_SYMBOL", type := .byte, accessFlags := 25, slot := 29, constantValue := 0 }, { name := "CURRENCY_SYMBOL", type := .byte, accessFlags := 25, slot := 30, constantValue := 0 }, { name := "MODIFIER_SYMBOL", type := .byte, accessFlags := 25, slot := 31, constantValue := 0 }, { name := "OTHER_SYMBOL", type := .byte, accessFlags := 25, slot := 32, constantValue := 0 }, { name := "INITIAL_QUOTE_PUNCTUATION", type := .byte, accessFlags := 25, slot := 33, constantValue := 0 }, { name := "FINAL_QUOTE_PUNCTUATION", type := .byte, accessFlags := 25, slot := 34, constantValue := 0 }, { name := "ERROR", type := .int, accessFlags := 24, slot := 35, constantValue := 0 }, { name := "DIRECTIONALITY_UNDEFINED", type := .byte, accessFlags := 25, slot := 36, constantValue := 0 }, { name := "DIRECTIONALITY_LEFT_TO_RIGHT", type := .byte, accessFlags := 25, slot := 37, constantValue := 0 }, { name := "DIRECTIONALITY_RIGHT_TO_LEFT", type := .byte, accessFlags := 25, slot := 38, constantValue := 0 }, { name := "DIRECTIONALITY_RIGHT_TO_LEFT_ARABIC", type := .byte, accessFlags := 25, slot := 39, constantValue := 0 }, { name := "DIRECTIONALITY_EUROPEAN_NUMBER", type := .byte, accessFlags := 25, slot := 40, constantValue := 0 }, { name := "DIRECTIONALITY_EUROPEAN_NUMBER_SEPARATOR", type := .byte, accessFlags := 25, slot := 41, constantValue := 0 }, { name := "DIRECTIONALITY_EUROPEAN_NUMBER_TERMINATOR", type := .byte, accessFlags := 25, slot := 42, constantValue := 0 }, { name := "DIRECTIONALITY_ARABIC_NUMBER", type := .byte, accessFlags := 25, slot := 43, constantValue := 0 }, { name := "DIRECTIONALITY_COMMON_NUMBER_SEPARATOR", type := .byte, accessFlags := 25, slot := 44, constantValue := 0 }, { name := "DIRECTIONALITY_NONSPACING_MARK", type := .byte, accessFlags := 25, slot := 45, constantValue := 0 }, { name := "DIRECTIONALITY_BOUNDARY_NEUTRAL", type := .byte, accessFlags := 25, slot := 46, constantValue := 0 }, { name := "DIRECTIONALITY_PARAGRAPH_SEPARATOR", type := .byte, accessFlags := 25, slot := 47, constantValue := 0 }, { name := "DIRECTIONALITY_SEGMENT_SEPARATOR", type := .byte, accessFlags := 25, slot := 48, constantValue := 0 }, { name := "DIRECTIONALITY_WHITESPACE", type := .byte, accessFlags := 25, slot := 49, constantValue := 0 }, { name := "DIRECTIONALITY_OTHER_NEUTRALS", type := .byte, accessFlags := 25, slot := 50, constantValue := 0 }, { name := "DIRECTIONALITY_LEFT_TO_RIGHT_EMBEDDING", type := .byte, accessFlags := 25, slot := 51, constantValue := 0 }, { name := "DIRECTIONALITY_LEFT_TO_RIGHT_OVERRIDE", type := .byte, accessFlags := 25, slot := 52, constantValue := 0 }, { name := "DIRECTIONALITY_RIGHT_TO_LEFT_EMBEDDING", type := .byte, accessFlags := 25, slot := 53, constantValue := 0 }, { name := "DIRECTIONALITY_RIGHT_TO_LEFT_OVERRIDE", type := .byte, accessFlags := 25, slot := 54, constantValue := 0 }, { name := "DIRECTIONALITY_POP_DIRECTIONAL_FORMAT", type := .byte, accessFlags := 25, slot := 55, constantValue := 0 }, { name := "DIRECTIONALITY_LEFT_TO_RIGHT_ISOLATE", type := .byte, accessFlags := 25, slot := 56, constantValue := 0 }, { name := "DIRECTIONALITY_RIGHT_TO_LEFT_ISOLATE", type := .byte, accessFlags := 25, slot := 57, constantValue := 0 }, { name := "DIRECTIONALITY_FIRST_STRONG_ISOLATE", type := .byte, accessFlags := 25, slot := 58, constantValue := 0 }, { name := "DIRECTIONALITY_POP_DIRECTIONAL_ISOLATE", type := .byte, accessFlags := 25, slot := 59, constantValue := 0 }, { name := "MIN_HIGH_SURROGATE", type := .char, accessFlags := 25, slot := 60, constantValue := 0 }, { name := "MAX_HIGH_SURROGATE", type := .char, accessFlags := 25, slot := 61, constantValue := 0 }, { name := "MIN_LOW_SURROGATE", type := .char, accessFlags := 25, slot := 62, constantValue := 0 }, { name := "MAX_LOW_SURROGATE", type := .char, accessFlags := 25, slot := 63, constantValue := 0 }, { name := "MIN_SURROGATE", type := .char, accessFlags := 25, slot := 64, constantValue := 0 }, { name := "MAX_SURROGATE", type := .char, accessFlags := 25, slot := 65, constantValue := 0 }, { name := "MIN_SUPPLEMENTARY_CODE_POINT", type := .int, accessFlags := 25, slot := 66, constantValue := 0 }, { name := "MIN_CODE_POINT", type := .int, accessFlags := 25, slot := 67, constantValue := 0 }, { name := "MAX_CODE_POINT", type := .int, accessFlags := 25, slot := 68, constantValue := 0 }, { name := "value", type := .char, accessFlags := 18, slot := 0, constantValue := 0 }, { name := "serialVersionUID", type := .long, accessFlags := 26, slot := 69, constantValue := 0 }, { name := "SIZE", type := .int, accessFlags := 25, slot := 70, constantValue := 0 }, { name := "BYTES", type := .int, accessFlags := 25, slot := 71, constantValue := 0 }, { name := "$assertionsDisabled", type := .boolean, accessFlags := 4120, slot := 72, constantValue := 0 }]
  methods := #[k7m0, k7m1, k7m2]
  instanceTypes := #[.char]
  staticTypes := #[.int, .int, .char, .char, (.object "java/lang/Class"), .byte, .byte, .byte, .byte, .byte, .byte, .byte, .byte, .byte, .byte, .byte, .byte, .byte, .byte, .byte, .byte, .byte, .byte, .byte, .byte, .byte, .byte, .byte, .byte, .byte, .byte, .byte, .byte, .byte, .byte, .int, .byte, .byte, .byte, .byte, .byte, .byte, .byte, .byte, .byte, .byte, .byte, .byte, .byte, .byte, .byte, .byte, .byte, .byte, .byte, .byte, .byte, .byte, .byte, .byte, .char, .char, .char, .char, .char, .char, .int, .int, .int, .long, .int, .int, .boolean]
  resolved := Array.replicate 604 none
  statics := none }

def pool8 : Array CpInfo := pool [(1, u "java/lang/Cloneable"), (0, .class_ 1), (0, u "java/lang/Object"), (0, .class_ 3)] 3

/-- java/lang/Cloneable -/
def k8 : Class := { plain "java/lang/Cloneable" (some 0) with
  accessFlags := 1537
  interfaces := #[]
  cf := some (fileOf pool8 2 #[] #[] 1537 4 #[] #[])
  fields := #[]
  methods := #[]
  instanceTypes := #[]
  staticTypes := #[]
  resolved := Array.replicate 8 none
  statics := none }

/-- the primitive byte -/
def k9 : Class := { plain "byte" none with kind := .primitive 'B', accessFlags := 0x411 }
/-- [B -/
def k10 : Class := { plain "[B" (some 0) with kind := .array 9 .byte, interfaces := #[8, 4], accessFlags := 1041 }

/-- the primitive char -/
def k11 : Class := { plain "char" none with kind := .primitive 'C', accessFlags := 0x411 }
/-- [C -/
def k12 : Class := { plain "[C" (some 0) with kind := .array 11 .char, interfaces := #[8, 4], accessFlags := 1041 }

/-- the primitive int -/
def k13 : Class := { plain "int" none with kind := .primitive 'I', accessFlags := 0x411 }
/-- [I -/
def k14 : Class := { plain "[I" (some 0) with kind := .array 13 .int, interfaces := #[8, 4], accessFlags := 1041 }

def heap : Heap := #[]
def classes : Array Class := #[k0, k1, k2, k3, k4, k5, k6, k7, k8, k9, k10, k11, k12, k13, k14]
def interned : List (Array UInt16 × Addr) := []
def slotsUsed : Nat := 0
def theMethod : MethodId := ⟨1, 5⟩
def args0 : Array Value := #[.long 5, .long 7, .int 32]
def aboutOver (below : List Frame) : State where
  vm := { classes := classes, interned := interned.toArray }
  heap := heap
  slotsUsed := slotsUsed
  threads := #[{ frames := .invoking theMethod args0 :: below }]
def below0 : List Frame := [.native { method := ⟨0, 0⟩, args := #[] }]
def about1 : State := aboutOver below0
def p0 : Program := .bare "" "" ""
def e0 : Env := launch0.env 0 0 0
theorem w_frames : about1.frames = Frame.invoking theMethod args0 :: below0 := rfl
set_option maxRecDepth 65536 in
theorem w_args : argsFit about1.vm theMethod args0 = true := by decide +kernel
set_option maxRecDepth 65536 in
theorem w_heap : heapFits about1 = true := by decide +kernel
set_option maxRecDepth 65536 in
theorem w_runnable : about1.curStatus? = some .runnable := by decide +kernel
set_option maxRecDepth 65536 in
theorem w_alone : about1.alone = true := by decide +kernel
set_option maxRecDepth 65536 in
theorem w_named : about1.methodNamed? x = some theMethod := by decide +kernel
set_option maxRecDepth 65536 in
theorem w_hears : about1.hears theMethod below0 = true := by decide +kernel
set_option maxRecDepth 65536 in
theorem w_ripe : about1.ripe theMethod args0 below0 = true := by decide +kernel
theorem w_running : about1.status = .running := rfl
set_option maxRecDepth 65536 in
theorem w_room : about1.hasRoom e0.platform room_1 = true :=
  launch0.hasRoom_least _ room_1 (by decide +kernel) (by decide +kernel) (by decide +kernel) (by decide +kernel) (by decide +kernel) (by decide +kernel)
theorem allAtoms_all (ts : List Jvm.Cond) (a : Array Jvm.Value) (st : Jvm.State) : (allAtoms ts).before a st = ts.all (fun c => c.before a st) := by
  induction ts with
  | nil => rfl
  | cons c t ih =>
    show (Jvm.Cond.and c (allAtoms t)).before a st = _
    rw [Jvm.Cond.before_and, ih, List.all_cons]
def words1 : List Jvm.Cond := Jvm.Cond.code x code maxLocals ret :: tables_1
/-- a 'code' word, met by the world's own term for the bytes: nothing is compared byte by byte -/
theorem code_word {y : MethodName} {bytes : ByteArray} {mx : Nat} {rt : Option FieldType} {a : Array Value} {s : State} {m : MethodId} {meth : Method} {c : Code} (h1 : s.methodNamed? y = some m) (h2 : s.vm.method? m = some meth) (h3 : meth.code = some c) (h4 : c.code = bytes)
    (h5 : (c.maxLocals == mx && c.exceptionTable.isEmpty && decide (c.maxStack ≤ mostOperands) && decide (meth.sig.returnType = rt) && !meth.locks && decide (parseMethodDescriptor y.desc = some meth.sig)) = true) : (Jvm.Cond.code y bytes mx rt).before a s = true := by
  simp only [Bool.and_eq_true, beq_iff_eq, Bool.not_eq_true', decide_eq_true_eq] at h5
  obtain ⟨⟨⟨⟨⟨g1, g2⟩, g3⟩, g4⟩, g5⟩, g6⟩ := h5
  simp [Cond.before, Cond.holds, Cond.value, h1, h2, h3, h4, g1, g2, g3, g4, g5, g6]
def isCode : Jvm.Cond → Bool
  | .code _ _ _ _ => true
  | _ => false
theorem all_split {L : List Jvm.Cond} {P : Jvm.Cond → Bool} (h1 : L.all (fun c => isCode c || P c) = true) (h2 : ∀ c ∈ L.filter isCode, P c = true) : L.all P = true := by
  refine List.all_eq_true.mpr fun c hc => ?_
  have h := List.all_eq_true.mp h1 c hc
  rcases Bool.eq_false_or_eq_true (isCode c) with hi | hi
  · exact h2 c (List.mem_filter.mpr ⟨hc, hi⟩)
  · simpa [hi] using h
set_option maxRecDepth 65536 in
theorem w_c0 : (Jvm.Cond.code x code maxLocals ret).before args0 about1 = true := code_word (m := ⟨1, 5⟩) (meth := k1m5) (c := k1c5) (by decide +kernel) rfl rfl rfl (by decide +kernel)
set_option maxRecDepth 65536 in
theorem w_c1 : (Jvm.Cond.code ({ cls := "com/example/fieldveil/fieldveil/Utf8FirstUnpairedSurrogatePinLaw", name := "ch", desc := "(J)C" } : Jvm.MethodName) method_2_code (4 : Nat) (Option.some Jvm.ClassFile.FieldType.char)).before args0 about1 = true := code_word (m := ⟨1, 1⟩) (meth := k1m1) (c := k1c1) (by decide +kernel) rfl rfl rfl (by decide +kernel)
set_option maxRecDepth 65536 in
theorem w_c2 : (Jvm.Cond.code ({ cls := "java/lang/Math", name := "min", desc := "(II)I" } : Jvm.MethodName) jdk_29_method_69_code (2 : Nat) (Option.some Jvm.ClassFile.FieldType.int)).before args0 about1 = true := code_word (m := ⟨2, 2⟩) (meth := k2m2) (c := k2c2) (by decide +kernel) rfl rfl rfl (by decide +kernel)
set_option maxRecDepth 65536 in
theorem w_c3 : (Jvm.Cond.code ({ cls := "java/lang/Math", name := "max", desc := "(II)I" } : Jvm.MethodName) jdk_29_method_65_code (2 : Nat) (Option.some Jvm.ClassFile.FieldType.int)).before args0 about1 = true := code_word (m := ⟨2, 1⟩) (meth := k2m1) (c := k2c1) (by decide +kernel) rfl rfl rfl (by decide +kernel)
set_option maxRecDepth 65536 in
theorem w_c4 : (Jvm.Cond.code ({ cls := "com/example/fieldveil/fieldveil/Utf8FirstUnpairedSurrogatePinLaw", name := "bad", desc := "([CIII)Z" } : Jvm.MethodName) method_5_code (5 : Nat) (Option.some Jvm.ClassFile.FieldType.boolean)).before args0 about1 = true := code_word (m := ⟨1, 4⟩) (meth := k1m4) (c := k1c4) (by decide +kernel) rfl rfl rfl (by decide +kernel)
set_option maxRecDepth 65536 in
theorem w_c5 : (Jvm.Cond.code ({ cls := "com/example/fieldveil/fieldveil/Utf8", name := "firstUnpairedSurrogate", desc := "([CII)I" } : Jvm.MethodName) prog_9_method_3_code (5 : Nat) (Option.some Jvm.ClassFile.FieldType.int)).before args0 about1 = true := code_word (m := ⟨3, 1⟩) (meth := k3m1) (c := k3c1) (by decide +kernel) rfl rfl rfl (by decide +kernel)
set_option maxRecDepth 65536 in
theorem w_c6 : (Jvm.Cond.code ({ cls := "com/example/fieldveil/fieldveil/Utf8FirstUnpairedSurrogatePinLaw", name := "isHigh", desc := "(C)Z" } : Jvm.MethodName) method_3_code (1 : Nat) (Option.some Jvm.ClassFile.FieldType.boolean)).before args0 about1 = true := code_word (m := ⟨1, 2⟩) (meth := k1m2) (c := k1c2) (by decide +kernel) rfl rfl rfl (by decide +kernel)
set_option maxRecDepth 65536 in
theorem w_c7 : (Jvm.Cond.code ({ cls := "com/example/fieldveil/fieldveil/Utf8FirstUnpairedSurrogatePinLaw", name := "isLow", desc := "(C)Z" } : Jvm.MethodName) method_4_code (1 : Nat) (Option.some Jvm.ClassFile.FieldType.boolean)).before args0 about1 = true := code_word (m := ⟨1, 3⟩) (meth := k1m3) (c := k1c3) (by decide +kernel) rfl rfl rfl (by decide +kernel)
set_option maxRecDepth 65536 in
theorem w_c8 : (Jvm.Cond.code ({ cls := "java/lang/Character", name := "isHighSurrogate", desc := "(C)Z" } : Jvm.MethodName) jdk_89_method_14_code (1 : Nat) (Option.some Jvm.ClassFile.FieldType.boolean)).before args0 about1 = true := code_word (m := ⟨7, 0⟩) (meth := k7m0) (c := k7c0) (by decide +kernel) rfl rfl rfl (by decide +kernel)
set_option maxRecDepth 65536 in
theorem w_c9 : (Jvm.Cond.code ({ cls := "java/lang/Character", name := "isLowSurrogate", desc := "(C)Z" } : Jvm.MethodName) jdk_89_method_15_code (1 : Nat) (Option.some Jvm.ClassFile.FieldType.boolean)).before args0 about1 = true := code_word (m := ⟨7, 1⟩) (meth := k7m1) (c := k7c1) (by decide +kernel) rfl rfl rfl (by decide +kernel)
set_option maxRecDepth 65536 in
theorem w_c10 : (Jvm.Cond.code ({ cls := "java/lang/Character", name := "isSurrogate", desc := "(C)Z" } : Jvm.MethodName) jdk_89_method_16_code (1 : Nat) (Option.some Jvm.ClassFile.FieldType.boolean)).before args0 about1 = true := code_word (m := ⟨7, 2⟩) (meth := k7m2) (c := k7c2) (by decide +kernel) rfl rfl rfl (by decide +kernel)
def codes1 : List Jvm.Cond := [Jvm.Cond.code x code maxLocals ret, Jvm.Cond.code ({ cls := "com/example/fieldveil/fieldveil/Utf8FirstUnpairedSurrogatePinLaw", name := "ch", desc := "(J)C" } : Jvm.MethodName) method_2_code (4 : Nat) (Option.some Jvm.ClassFile.FieldType.char), Jvm.Cond.code ({ cls := "java/lang/Math", name := "min", desc := "(II)I" } : Jvm.MethodName) jdk_29_method_69_code (2 : Nat) (Option.some Jvm.ClassFile.FieldType.int), Jvm.Cond.code ({ cls := "java/lang/Math", name := "max", desc := "(II)I" } : Jvm.MethodName) jdk_29_method_65_code (2 : Nat) (Option.some Jvm.ClassFile.FieldType.int), Jvm.Cond.code ({ cls := "com/example/fieldveil/fieldveil/Utf8FirstUnpairedSurrogatePinLaw", name := "bad", desc := "([CIII)Z" } : Jvm.MethodName) method_5_code (5 : Nat) (Option.some Jvm.ClassFile.FieldType.boolean), Jvm.Cond.code ({ cls := "com/example/fieldveil/fieldveil/Utf8", name := "firstUnpairedSurrogate", desc := "([CII)I" } : Jvm.MethodName) prog_9_method_3_code (5 : Nat) (Option.some Jvm.ClassFile.FieldType.int), Jvm.Cond.code ({ cls := "com/example/fieldveil/fieldveil/Utf8FirstUnpairedSurrogatePinLaw", name := "isHigh", desc := "(C)Z" } : Jvm.MethodName) method_3_code (1 : Nat) (Option.some Jvm.ClassFile.FieldType.boolean), Jvm.Cond.code ({ cls := "com/example/fieldveil/fieldveil/Utf8FirstUnpairedSurrogatePinLaw", name := "isLow", desc := "(C)Z" } : Jvm.MethodName) method_4_code (1 : Nat) (Option.some Jvm.ClassFile.FieldType.boolean), Jvm.Cond.code ({ cls := "java/lang/Character", name := "isHighSurrogate", desc := "(C)Z" } : Jvm.MethodName) jdk_89_method_14_code (1 : Nat) (Option.some Jvm.ClassFile.FieldType.boolean), Jvm.Cond.code ({ cls := "java/lang/Character", name := "isLowSurrogate", desc := "(C)Z" } : Jvm.MethodName) jdk_89_method_15_code (1 : Nat) (Option.some Jvm.ClassFile.FieldType.boolean), Jvm.Cond.code ({ cls := "java/lang/Character", name := "isSurrogate", desc := "(C)Z" } : Jvm.MethodName) jdk_89_method_16_code (1 : Nat) (Option.some Jvm.ClassFile.FieldType.boolean)]
set_option maxRecDepth 65536 in
theorem codes_eq : words1.filter isCode = codes1 := rfl
theorem w_codes : ∀ c ∈ words1.filter isCode, c.before args0 about1 = true := by
  rw [codes_eq]
  intro c hc
  simp only [codes1, List.mem_cons, List.not_mem_nil, or_false] at hc
  rcases hc with rfl | rfl | rfl | rfl | rfl | rfl | rfl | rfl | rfl | rfl | rfl
  · exact w_c0
  · exact w_c1
  · exact w_c2
  · exact w_c3
  · exact w_c4
  · exact w_c5
  · exact w_c6
  · exact w_c7
  · exact w_c8
  · exact w_c9
  · exact w_c10
set_option maxRecDepth 65536 in
theorem w_t1 : (words1.take 24).all (fun c => isCode c || c.before args0 about1) = true := by decide +kernel
set_option maxRecDepth 65536 in
theorem w_t2 : (words1.drop 24).all (fun c => isCode c || c.before args0 about1) = true := by decide +kernel
theorem w_tables : (allAtoms (Jvm.Cond.code x code maxLocals ret :: tables_1)).before args0 about1 = true := by
  rw [allAtoms_all]
  show words1.all (fun c => c.before args0 about1) = true
  refine all_split ?_ w_codes
  rw [← List.take_append_drop 24 words1, List.all_append, w_t1, w_t2]
  rfl
set_option maxRecDepth 65536 in
theorem w_case : (Jvm.Cond.and given_1 narrow_1).before args0 about1 = true := by decide +kernel
theorem w_applies : (headSpec (Jvm.Cond.code x code maxLocals ret :: tables_1) room_1).applies x e0.platform about1 = true :=
  (Spec.applies_iff w_frames).mpr ⟨w_running, w_runnable, w_alone, w_named, w_hears, w_ripe, w_room, w_tables⟩
theorem atStart : AtStart classFile x code maxLocals ret World_1 tables_1 room_1 Calls_1 rest_1 Pre_1 launch0 p0 e0 about1 theMethod args0 below0 :=
  ⟨lists_1, trivial, launch0.admits_env _ _ _, launch0.least_env, fairChoices_fair.cas, fairChoices_fair.clock, w_frames, w_args, w_heap, w_applies, trivial, trivial, w_case⟩
end start1
theorem witness_1 : WitnessClaimed_1 := ⟨start1.p0, start1.e0, start1.about1, start1.theMethod, start1.args0, start1.below0, start1.atStart⟩
end Jvm.Pilot.@@N@@
